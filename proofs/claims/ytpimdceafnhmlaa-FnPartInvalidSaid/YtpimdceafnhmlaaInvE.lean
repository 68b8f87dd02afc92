/-
  THE WALK of FnPartInvalid.
-/
import Derived.Test.YtpimdceafnhmlaaInvD
namespace Go.Proofs.Ytpimdceafnhmlaa.Inv
open Go.RowKit Go.Proofs.YtpimdceafnhmlaaW.PrintWords Go.Proofs.YtpimdceafnhmlaaW.PrintLast Go.Proofs.YtpimdceafnhmlaaW.PrintMore
open Go.Proofs.Ytpimdceafnhmlaa.Str Go.Proofs.Ytpimdceafnhmlaa.PFnPartInvalid
attribute [local go_sem] max2_int min2_int max_two min_two max_three min_three max_four min_four

theorem info33 : (Try.prog.info? 33).map (fun i => (i.zero, i.size, i.bytes)) = some (some (.agg #[.int .i64 0, .int .i64 0, .int .i64 0, .string ⟨#[]⟩, .string ⟨#[]⟩, .string ⟨#[]⟩, .int .i64 0, .int .i64 0, .int .i64 0, .int .i64 0, .int .i64 0, .int .i64 0, .int .i64 0]), 13, 128) := by kernel_rfl

/-- The tokens' cells, from number j on. -/
def toksF (s : ByteArray) : Nat → List Int → List Value
  | _, [] => []
  | j, k :: t => tokC s k ((j : Int) + 1) ++ toksF s (j + 1) t
theorem toksF_snoc (s : ByteArray) (k : Int) : ∀ (ks : List Int) (j : Nat), toksF s j (ks ++ [k]) = toksF s j ks ++ tokC s k (((j + ks.length : Nat) : Int) + 1)
  | [], j => by simp [toksF]
  | q :: t, j => by
    rw [List.cons_append, toksF, toksF, toksF_snoc s k t (j + 1), List.append_assoc, List.length_cons, show j + 1 + t.length = j + (t.length + 1) from by omega]
theorem toksF_get (s : ByteArray) : ∀ (ks : List Int) (i j : Nat) (k : Int) (f : Nat) (u : Value), ks[j]? = some k → (tokC s k (((i + j : Nat) : Int) + 1))[f]? = some u → (toksF s i ks)[j * 13 + f]? = some u
  | [], _, _, _, _, _, h, _ => by simp at h
  | q :: t, i, j, k, f, u, h, hu => by
    have hl : (tokC s q ((i : Int) + 1)).length = 13 := rfl
    have hf : f < 13 := by
      have := (List.getElem?_eq_some_iff.1 hu).1
      exact this
    cases j with
    | zero =>
      simp at h
      subst h
      rw [toksF, List.getElem?_append_left (by rw [hl]; omega)]
      simpa using hu
    | succ j =>
      rw [toksF, List.getElem?_append_right (by rw [hl]; omega), hl, show (j + 1) * 13 + f - 13 = j * 13 + f from by omega]
      exact toksF_get s t (i + 1) j k f u (by simpa using h) (by rw [show i + 1 + j = i + (j + 1) from by omega]; exact hu)

theorem lx_any (k c : Int) (s : ByteArray) (w : World) : Calls Try.prog 12 #[.int .i64 k, .string s, .int .i64 c] w fun e w' => e = .returned (.agg #[.int .i64 k, .int .i64 0, .int .i64 0, .string s, .string s, .string ⟨#[]⟩, .int .i64 1, .int .i64 c, .int .i64 0, .int .i64 0, .int .i64 0, .int .i64 (-1), .int .i64 (-1)]) ∧ Below w.heap.size w w' :=
  laws_lxToken.calls k s c _ _ _ _ _ _ _ _ _ _ _ _ _ w rfl
abbrev sA : ByteArray := ⟨#[97]⟩
def kinds (qs : List Int) : List Int := qs.map (· % 34)
theorem kinds_length (qs : List Int) : (kinds qs).length = qs.length := by simp [kinds]
def Q1 (w : World) (qs : List Int) (v t i : Value) (wr : World) : Prop :=
  ∃ (k : Nat) (fb : Int), k ≤ qs.length ∧ i = .int .i64 k ∧ t = .int .i64 fb ∧ fb = firstBad (kinds (qs.take k)) ∧ wr.ownsRow w.heap.size 33 13 v k (toksF sA 0 (kinds (qs.take k))) ∧ Below w.heap.size w wr

theorem step_kinds {qs : List Int} {k : Nat} {q : Int} (h : qs[k]? = some q) : kinds (qs.take (k + 1)) = kinds (qs.take k) ++ [q % 34] := by
  unfold kinds
  rw [List.take_add_one, h]
  simp
theorem step_own {w2 : World} {qs : List Int} {k : Nat} {q : Int} {v : Value} {base : Nat} (h : qs[k]? = some q) (ho : w2.ownsRow base 33 13 v (k + 1) (toksF sA 0 (kinds (qs.take k)) ++ tokC sA (q % 34) ((k : Int) + 1))) :
    w2.ownsRow base 33 13 v (k + 1) (toksF sA 0 (kinds (qs.take (k + 1)))) := by
  have hl : (kinds (qs.take k)).length = k := by
    rw [kinds_length, List.length_take]
    have := (List.getElem?_eq_some_iff.1 h).1
    omega
  rw [step_kinds h, toksF_snoc, hl, Nat.zero_add]
  exact ho
theorem step_bad {qs : List Int} {k : Nat} {q fb : Int} (h : qs[k]? = some q) (hf : fb = firstBad (kinds (qs.take k))) : firstBad (kinds (qs.take (k + 1))) = if fb < 0 then (if q % 34 = 33 then (k : Int) else -1) else fb := by
  have hl : (kinds (qs.take k)).length = k := by
    rw [kinds_length, List.length_take]
    have := (List.getElem?_eq_some_iff.1 h).1
    omega
  rw [step_kinds h, firstBad_snoc, hl, hf]

set_option maxRecDepth 100000 in
set_option maxHeartbeats 4000000 in
theorem law_any (A : Option Addr) (b off c : Nat) (qs : List Int) (w : World) (hq : ∀ q ∈ qs, 0 ≤ q ∧ q ≤ 255) (hlen : qs.length ≤ 9223372036854775807)
    (hA : 0 < qs.length → A = some ⟨b, off, none⟩ ∧ b < w.heap.size ∧ ∀ (i : Nat) (q : Int), qs[i]? = some q → w.cell? ⟨b, off + i, none⟩ = some (.int .u8 q)) :
    Calls Try.prog 5 #[.slice A qs.length c] w fun e w' => e = .returned (.bool true) ∧ Below w.heap.size w w' := by
  have HQ := Lib.hid hq
  have HA := Lib.hid hA
  clear hq hA
  by_cases hbig : 2147483647 < (qs.length : Int)
  · go_enter Try.func5, Try.ntmps5
    go_wp2_with fail
    go_ret
    exact ⟨rfl, Below.refl _ _⟩
  by_cases hbig2 : 1000 < (qs.length : Int)
  · go_enter Try.func5, Try.ntmps5
    go_wp2_with fail
    go_ret
    exact ⟨rfl, Below.refl _ _⟩
  go_enter Try.func5, Try.ntmps5
  go_wp2_with fail
  go_loopw [3, 4, 15] (fun v t i wr => Q1 w qs v t i wr) (fun _ _ i _ => qs.length - (intOf i).toNat)
  case atStart =>
    exact ⟨0, -1, Nat.zero_le _, rfl, rfl, rfl, own_nil _ _ _ _, Below.refl _ _⟩
  case round =>
    obtain ⟨k, fb, hk, rfl, rfl, hfb, ho, hb⟩ := hrel
    have HF := Lib.hid hfb
    clear hfb
    have hz := hb.size
    by_cases hlt : k < qs.length
    · obtain ⟨ha, hbl, hc⟩ := HA.out (by omega)
      subst ha
      have hc0 := hc k qs[k] (List.getElem?_eq_getElem hlt)
      have hq0 := HQ.out qs[k] (List.getElem_mem hlt)
      have hc1 : wr.cell? ⟨b, off + k, none⟩ = some (.int .u8 qs[k]) := (hb.cell (p := ⟨b, off + k, none⟩) hbl).trans hc0
      clear hc hc0
      generalize hqk : qs[k] = q at hq0 hc1
      have HQK := Lib.hid hqk
      clear hqk
      obtain ⟨q0, q1⟩ := hq0
      go_wp2_with fail
      refine (lx_any _ _ _ _).mono ?_
      rintro e w1 ⟨rfl, hb1⟩
      have hz1 := hb1.size
      have hbb : Below w.heap.size w w1 := hb.trans (hb1.mono hz)
      have ho1 := pw_own_below ho hb1
      have hqk2 : qs[k]? = some q := by rw [List.getElem?_eq_getElem hlt, HQK.out]
      have hsb := step_bad hqk2 HF.out
      have HQ2 := Lib.hid hqk2
      clear hqk2
      by_cases hf : fb < 0
      · rw [if_pos hf] at hsb
        by_cases hq33 : q % 34 = 33
        · rw [if_pos hq33] at hsb
          have HS := Lib.hid hsb
          have hq34 : (q % 34 == 33) = true := by simp [hq33]
          clear hsb hq33
          go_wp2_with (at_builtin; refine print_append_cells w.heap.size rfl (.tmp 20) (.tmp 27) 29 33 _ 13 128 rfl Try.underlying29 info33 rfl (by decide) (by decide) u3 k _ [.int .i64 (q % 34), .int .i64 0, .int .i64 0, .string ⟨#[97]⟩, .string ⟨#[97]⟩, .string ⟨#[]⟩, .int .i64 1, .int .i64 ((k : Int) + 1), .int .i64 0, .int .i64 0, .int .i64 0, .int .i64 (-1), .int .i64 (-1)] rfl rfl rfl (by simp [Value.oneCell']) ho1 hbb (by omega) (by omega) ?_; intro v1 w2 hown2 hb2 _ _)
          go_roundw
          case rel => exact ⟨k + 1, (k : Int), by omega, by go_num, rfl, HS.out.symm, step_own HQ2.out hown2, hb2⟩
          case measure => simp [intOf]; omega
        · rw [if_neg hq33] at hsb
          have HS := Lib.hid hsb
          have hq34 : (q % 34 == 33) = false := by simp [hq33]
          have hf1 : fb = -1 := by
            have := firstBad_range (kinds (qs.take k))
            have := HF.out
            omega
          have HF1 := Lib.hid hf1
          clear hsb hq33 hf1
          go_wp2_with (at_builtin; refine print_append_cells w.heap.size rfl (.tmp 20) (.tmp 27) 29 33 _ 13 128 rfl Try.underlying29 info33 rfl (by decide) (by decide) u3 k _ [.int .i64 (q % 34), .int .i64 0, .int .i64 0, .string ⟨#[97]⟩, .string ⟨#[97]⟩, .string ⟨#[]⟩, .int .i64 1, .int .i64 ((k : Int) + 1), .int .i64 0, .int .i64 0, .int .i64 0, .int .i64 (-1), .int .i64 (-1)] rfl rfl rfl (by simp [Value.oneCell']) ho1 hbb (by omega) (by omega) ?_; intro v1 w2 hown2 hb2 _ _)
          go_roundw
          case rel => exact ⟨k + 1, fb, by omega, by go_num, rfl, HF1.out.trans HS.out.symm, step_own HQ2.out hown2, hb2⟩
          case measure => simp [intOf]; omega
      · rw [if_neg hf] at hsb
        have HS := Lib.hid hsb
        clear hsb
        go_wp2_with (at_builtin; refine print_append_cells w.heap.size rfl (.tmp 20) (.tmp 27) 29 33 _ 13 128 rfl Try.underlying29 info33 rfl (by decide) (by decide) u3 k _ [.int .i64 (q % 34), .int .i64 0, .int .i64 0, .string ⟨#[97]⟩, .string ⟨#[97]⟩, .string ⟨#[]⟩, .int .i64 1, .int .i64 ((k : Int) + 1), .int .i64 0, .int .i64 0, .int .i64 0, .int .i64 (-1), .int .i64 (-1)] rfl rfl rfl (by simp [Value.oneCell']) ho1 hbb (by omega) (by omega) ?_; intro v1 w2 hown2 hb2 _ _)
        go_roundw
        case rel => exact ⟨k + 1, fb, by omega, by go_num, rfl, HS.out.symm, step_own HQ2.out hown2, hb2⟩
        case measure => simp [intOf]; omega
    · obtain rfl : k = qs.length := by omega
      have hfb := HF.out
      rw [List.take_length] at ho hfb
      have HF2 := Lib.hid hfb
      clear hfb HF
      have hkl := kinds_length qs
      have HKL := Lib.hid hkl
      clear hkl
      obtain ⟨A3, c3, hv⟩ := own_slice ho
      subst hv
      have key : ∀ W, wr = W → Calls Try.prog 13 #[.slice A3 qs.length c3] W fun e w' => e = .returned (.int .i64 (firstBad (kinds qs))) ∧ Below W.heap.size W w' := by
        rintro W rfl
        rw [← HKL.out]
        have hz2 := hb.size
        rcases Nat.eq_zero_or_pos qs.length with h0 | h0
        · refine Invalid_any sA A3 0 c3 (kinds qs) wr (by rw [HKL.out]; omega) (fun h => by rw [HKL.out] at h; omega) ?_
          intro j k hj
          have := (List.getElem?_eq_some_iff.1 hj).1
          rw [HKL.out] at this
          omega
        · obtain ⟨g, cap, hv, hg1, hg2⟩ := ho.form h0
          injection hv with hv1 hv2 hv3
          subst hv1
          refine Invalid_any sA (some ⟨g, 0, none⟩) g c3 (kinds qs) wr (by rw [HKL.out]; omega) (fun _ => ⟨rfl, hg2⟩) ?_
          intro j k hj f u hu
          have h1 := ho.cells (g := g) rfl _ _ (toksF_get sA (kinds qs) 0 j k f u hj (by rw [Nat.zero_add]; exact hu))
          rw [add_plain] at h1
          exact h1
      have HK := Lib.hid key
      clear key
      go_wp2_with fail
      refine (HK.out _ rfl).mono ?_
      rintro e w3 ⟨rfl, hb3⟩
      have hfin : (firstBad (kinds qs) == fb) = true := by rw [HF2.out]; simp
      go_wp2_with fail
      go_ret
      exact ⟨rfl, hb.trans (hb3.mono hb.size)⟩

end Go.Proofs.Ytpimdceafnhmlaa.Inv
