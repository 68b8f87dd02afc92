/-
  THE WALKS of addIndentSpace, of its doors and of FnIndentLines.
-/
import Derived.Test.YtpimdceafnhmlaaIndC
import Derived.Test.YtpimdceafnhmlaaShelf
import Derived.Outline
import Derived.Lib.Hide
import Derived.OwnWalk
namespace Go.Proofs.Ytpimdceafnhmlaa.Ind
open Go.RowKit Go.Proofs.Ytpimdceafnhmlaa.PFnIndentLines Go.Proofs.YtpimdceafnhmlaaW.PrintWords Go.Proofs.YtpimdceafnhmlaaW.PrintLast Go.Proofs.YtpimdceafnhmlaaW.PrintMore
open Go.Proofs.Ytpimdceafnhmlaa.Str

/-- The strings as they come out of the loop: the lines with n spaces ahead, but empty ones, and the first one if it stays. -/
def outs (n : Nat) (first : Bool) (ls : List (List UInt8)) : List ByteArray := (pres (spc n) (!first) ls).map B
theorem pres_length (sp : List UInt8) (b : Bool) (ls : List (List UInt8)) : (pres sp b ls).length = ls.length := by
  cases ls <;> simp [pres]
theorem outs_length (n : Nat) (first : Bool) (ls : List (List UInt8)) : (outs n first ls).length = ls.length := by simp [outs, pres_length]
theorem pres_snoc (sp : List UInt8) (b : Bool) (ls : List (List UInt8)) (x : List UInt8) : pres sp b (ls ++ [x]) = pres sp b ls ++ [pre sp (if ls.length = 0 then b else true) x] := by
  cases ls with
  | nil => simp [pres]
  | cons h r => simp [pres]
theorem outs_snoc (n : Nat) (first : Bool) {ls : List (List UInt8)} {k : Nat} {x : List UInt8} (h : ls[k]? = some x) :
    outs n first (ls.take (k + 1)) = outs n first (ls.take k) ++ [B (pre (spc n) (if k = 0 then !first else true) x)] := by
  have hl : (ls.take k).length = k := by
    rw [List.length_take]
    have := (List.getElem?_eq_some_iff.1 h).1
    omega
  rw [List.take_add_one, h]
  simp only [Option.toList_some]
  unfold outs
  rw [pres_snoc, hl]
  simp

theorem repeat_one (n : Nat) : Lib.repeatL [32] n = spc n := by
  induction n with
  | zero => rfl
  | succ n ih =>
    rw [Lib.repeatL, ih]
    rfl
theorem rep_any (n : Nat) (w : World) (hn : n ≤ 200) : Calls Try.prog 40 #[.string ⟨#[32]⟩, .int .i64 n] w fun e w' => e = .returned (.string (B (spc n))) ∧ Below w.heap.size w w' := by
  have h := Try.strings_Repeat ⟨#[32]⟩ n w (by omega) (by rw [show (⟨#[32]⟩ : ByteArray).size = 1 from rfl]; omega)
  have e : (⟨#[32]⟩ : ByteArray).data.toList = [32] := rfl
  rw [e, repeat_one] at h
  exact h
theorem norm_any (l : List UInt8) (w : World) (hl : l.length ≤ 2147483647) (h13 : (13 : UInt8) ∉ l) : Calls Try.prog 30 #[.string (B l)] w fun e w' => e = .returned (.string (B l)) ∧ Below w.heap.size w w' := by
  have h := normal_eq l (2 * l.length + 3) (by omega) (by omega)
  rw [nm_id h13] at h
  exact format_normalizeNewLineChars.calls _ _ _ w h
def SplitEnd (w : World) (ls : List (List UInt8)) (e : Ending) (w' : World) : Prop :=
  ∃ g c : Nat, e = .returned (.slice (some ⟨g, 0, none⟩) ls.length c) ∧ g < w'.heap.size ∧ (∀ (j : Nat) (x : List UInt8), ls[j]? = some x → w'.cell? ⟨g, j, none⟩ = some (.string (B x))) ∧ Below w.heap.size w w'
theorem split_any (l : List UInt8) (w : World) (hl : l.length ≤ 2147483647) : Calls Try.prog 41 #[.string (B l), .string ⟨#[10]⟩] w (SplitEnd w (lines l)) := by
  have h := zzSplit_eq l (2 * l.length + 3) (by omega) hl
  refine (format_zzSplit.calls _ _ _ _ w h).mono ?_
  rintro e w' ⟨v, rfl, hR, hb⟩
  have ho := Kd.own_of_R hR
  have hpos : 0 < (lines l).length := List.length_pos_iff.2 (lines_ne l)
  rw [List.length_map] at ho
  obtain ⟨g, cap, hv, hg1, hg2⟩ := ho.form hpos
  subst hv
  refine ⟨g, cap, rfl, hg2, fun j x hx => ?_, hb⟩
  have hc := ho.cells (g := g) rfl j (.string (B x)) (by simp [encs, hx])
  rwa [add_plain] at hc

theorem lines_le : ∀ (l : List UInt8), ∀ x ∈ lines l, x.length ≤ l.length
  | [], x, h => by simp [lines] at h; simp [h]
  | c :: t, x, h => by
    have ih := lines_le t
    rw [lines] at h
    by_cases hc : c = 10
    · rw [if_pos hc] at h
      rcases List.mem_cons.1 h with h | h
      · simp [h]
      · have := ih x h
        simp; omega
    · rw [if_neg hc] at h
      cases hl : lines t with
      | nil => exact absurd hl (lines_ne t)
      | cons a r =>
        rw [hl] at h ih
        rcases List.mem_cons.1 h with h | h
        · have := ih a (by simp)
          simp [h]; omega
        · have := ih x (by simp [h])
          simp; omega

theorem B_append (a b : List UInt8) : B a ++ B b = B (a ++ b) := B_ext (by rw [ByteArray.data_append]; simp [B])
theorem step_own {w : World} {n : Nat} {first : Bool} {ls : List (List UInt8)} {k base : Nat} {x : List UInt8} {y : ByteArray} {v : Value} (h : ls[k]? = some x) (hy : y = B (pre (spc n) (if k = 0 then !first else true) x))
    (ho : w.ownsRow base 9 1 v (outs n first (ls.take k) ++ [y]).length (encs Value.string (outs n first (ls.take k) ++ [y]))) : w.ownsRow base 9 1 v (outs n first (ls.take (k + 1))).length (encs Value.string (outs n first (ls.take (k + 1)))) := by
  rw [outs_snoc n first h, ← hy]
  exact ho

theorem join_any (base : Nat) (v : Value) (ls : List (List UInt8)) (w : World) (ho : w.ownsRow base 9 1 v (ls.map B).length (encs Value.string (ls.map B))) (hpos : 0 < ls.length) (hN : ls.length ≤ 140737488355328) (hlen : (Lib.join ls [10]).length ≤ 140737488355328) :
    Calls Try.prog 42 #[v, .string ⟨#[10]⟩] w fun e w' => e = .returned (.string (B (Lib.join ls [10]))) ∧ Below w.heap.size w w' := by
  have hl : (ls.map B).length = ls.length := by simp
  rcases ho.2 with ⟨rfl, h0⟩ | ⟨g, cap, cur, rfl, _, hh, hcap, _, _, _⟩
  · omega
  · have hm : (ls.map B).map (·.data.toList) = ls := by
      rw [List.map_map, show ((fun s : ByteArray => s.data.toList) ∘ B) = id from by funext x; exact B_data x]
      simp
    have h := Try.strings_Join g 0 cap (ls.map B) ⟨#[10]⟩ w (fun j x hx => by
      have hc := ho.cells (g := g) rfl j (.string x) (by unfold encs; rw [List.getElem?_map, hx]; rfl)
      rw [add_plain] at hc
      rw [Nat.zero_add]
      exact hc) (blk_lt hh) (by omega) hcap (by rw [hm]; exact hlen)
    rw [hm] at h
    exact h

def J1 (w : World) (ls : List (List UInt8)) (n : Nat) (first : Bool) (v i : Value) (wr : World) : Prop :=
  ∃ k : Nat, k ≤ ls.length ∧ i = .int .i64 k ∧ wr.ownsRow w.heap.size 9 1 v ((outs n first (ls.take k)).length) (encs Value.string (outs n first (ls.take k))) ∧ Below w.heap.size w wr

set_option maxRecDepth 100000 in
set_option maxHeartbeats 4000000 in
theorem add_any (p : Value) (n : Nat) (l : List UInt8) (first : Bool) (w : World) (h0 : 1 ≤ n) (hn : n ≤ 200) (hl : l.length ≤ 2147483647) (h13 : (13 : UInt8) ∉ l) (hh : hollow true l = false) :
    Calls Try.prog 34 #[p, .int .i64 n, .string (B l), .bool first] w fun e w' => e = .returned (.string (B (shift (spc n) (!first) l))) ∧ Below w.heap.size w w' := by
  have hz : ((n : Int) == 0) = false := by simp; omega
  have hll := lines_length l
  have HR := Lib.hid (fun w => rep_any n w hn)
  have HN := Lib.hid (fun w => norm_any l w hl h13)
  have HS := Lib.hid (fun w => split_any l w hl)
  have HJ := Lib.hid (shift_lines (spc n) l (!first) true (fun _ => rfl) hh)
  have HL := Lib.hid (shift_length (spc n) (!first) l)
  have HB := Lib.hid (B_size (spc n))
  have HX := lines_le l
  have HXX := Lib.hid HX
  clear h13 hh HX
  generalize hls : lines l = ls at *
  have HLS := Lib.hid hls
  clear hls
  generalize hlb : B l = lb at *
  have HLB := Lib.hid hlb
  clear hlb
  obtain ⟨i0, hi0, hz0, hz1, hz2⟩ := info_parts info9
  have hz2' : i0.bytes ≤ 16 := by omega
  go_enter Try.func34, Try.ntmps34
  go_wp2_with fail
  refine (HR.out _).mono ?_
  rintro e w1 ⟨rfl, hb1⟩
  have hsp : (B (spc n)).size ≤ 200 := by rw [HB.out, spc_length]; exact hn
  generalize hspq : B (spc n) = sp at hsp
  have HSP := Lib.hid hspq
  clear hspq
  go_wp2_with fail
  refine (HN.out _).mono ?_
  rintro e w2 ⟨rfl, hb2⟩
  go_wp2_with fail
  refine (HS.out _).mono ?_
  rintro e w3 ⟨g, c, rfl, hg, hcell, hb3⟩
  have HC := Lib.hid hcell
  have hb03 : Below w.heap.size w w3 := hb1.trans ((hb2.mono hb1.size).trans (hb3.mono (Nat.le_trans hb1.size hb2.size)))
  have hz3 := hb03.size
  clear hcell hb1 hb2 hb3
  go_wp2_with (at_make; refine wpList_make_own _ rfl _ _ 71 rfl w3.heap.size 9 i0 _ 1 Try.underlying71 hi0 hz0 hz1 _ _ _ ls.length rfl rfl (by omega) (by rw [hz2]; omega) (by unfold maxLen; omega) (Nat.le_refl _) ?_; intro w4 hown4 hg4)
  have hg5 : Below w3.heap.size w3 w4 := (Below.refl _ _).grown hg4 (Nat.le_refl _) (fun _ h => by cases h)
  obtain ⟨wo, hwo⟩ : ∃ wo : World, wo = w4 := ⟨_, rfl⟩
  subst hwo
  go_loopw [11, 27] (fun v i wr => J1 w3 ls n first v i wr) (fun _ i _ => ls.length - (intOf i).toNat)
  case atStart => exact ⟨0, Nat.zero_le _, rfl, hown4, hg5⟩
  case round =>
    obtain ⟨k, hk, rfl, hown, hb⟩ := hrel
    have hzr := hb.size
    have hol : (outs n first (ls.take k)).length = k := by rw [outs_length, List.length_take]; omega
    have hol1 : (outs n first (ls.take k)).length ≤ l.length + 1 := by omega
    by_cases hlt : k < ls.length
    · obtain ⟨line, hline⟩ : ∃ line, ls[k]? = some line := ⟨_, List.getElem?_eq_getElem hlt⟩
      have hlen : line.length ≤ l.length := HXX.out line (List.mem_of_getElem? hline)
      have hc1 : wr.cell? ⟨g, k, none⟩ = some (.string (B line)) := (hb.cell (p := ⟨g, k, none⟩) hg).trans (HC.out k line hline)
      have HLK := Lib.hid hline
      have hsz : (B line).size ≤ 2147483647 := by rw [B_size]; omega
      have hem : (B line).toList.isEmpty = decide (line = []) := by rw [B_toList]; cases line <;> rfl
      generalize hsb : B line = sb at hc1 hsz hem
      have HSB := Lib.hid hsb
      clear hsb hline hol
      by_cases he : line = []
      · have hem1 : sb.toList.isEmpty = true := by rw [hem]; exact decide_eq_true he
        have HE : Hid (sb = B (pre (spc n) (if k = 0 then !first else true) line)) := Lib.hid (by rw [← HSB.out, pre, if_pos (.inl he)])
        clear hem he
        go_wp2_with (at_builtin; refine print_append_of Value.string w3.heap.size rfl (.tmp 41) (.tmp 43) 71 9 _ 16 rfl Try.underlying71 info9 rfl (by decide) u11 (outs n first (ls.take k)) (sb) rfl rfl rfl hown hb (by omega) (by omega) ?_; intro v1 w5 hown5 hb5 _ _)
        go_roundw
        case rel => exact ⟨k + 1, by omega, by go_num, step_own HLK.out HE.out hown5, hb5⟩
        case measure => simp [intOf]; omega
      · have hem1 : sb.toList.isEmpty = false := by rw [hem]; exact decide_eq_false he
        cases first with
        | false =>
          have HE : Hid (sp ++ sb = B (pre (spc n) (if k = 0 then !false else true) line)) := Lib.hid (by rw [← HSB.out, ← HSP.out, pre, if_neg (by simp [he]), B_append])
          clear hem he
          go_wp2_with (at_builtin; refine print_append_of Value.string w3.heap.size rfl (.tmp 45) (.tmp 49) 71 9 _ 16 rfl Try.underlying71 info9 rfl (by decide) u11 (outs n false (ls.take k)) (sp ++ sb) rfl rfl rfl hown hb (by omega) (by omega) ?_; intro v1 w5 hown5 hb5 _ _)
          go_roundw
          case rel => exact ⟨k + 1, by omega, by go_num, step_own HLK.out HE.out hown5, hb5⟩
          case measure => simp [intOf]; omega
        | true =>
          by_cases hk0 : k = 0
          · have hk1 : ((k : Int) == 0) = true := by simp [hk0]
            have HE : Hid (sb = B (pre (spc n) (if k = 0 then !true else true) line)) := Lib.hid (by rw [← HSB.out, pre, if_pos (.inr (by simp [hk0]))])
            clear hem he hk0
            go_wp2_with (at_builtin; refine print_append_of Value.string w3.heap.size rfl (.tmp 41) (.tmp 43) 71 9 _ 16 rfl Try.underlying71 info9 rfl (by decide) u11 (outs n true (ls.take k)) (sb) rfl rfl rfl hown hb (by omega) (by omega) ?_; intro v1 w5 hown5 hb5 _ _)
            go_roundw
            case rel => exact ⟨k + 1, by omega, by go_num, step_own HLK.out HE.out hown5, hb5⟩
            case measure => simp [intOf]; omega
          · have hk1 : ((k : Int) == 0) = false := by simp [hk0]
            have HE : Hid (sp ++ sb = B (pre (spc n) (if k = 0 then !true else true) line)) := Lib.hid (by rw [← HSB.out, ← HSP.out, pre, if_neg (by simp [he, hk0]), B_append])
            clear hem he hk0
            go_wp2_with (at_builtin; refine print_append_of Value.string w3.heap.size rfl (.tmp 45) (.tmp 49) 71 9 _ 16 rfl Try.underlying71 info9 rfl (by decide) u11 (outs n true (ls.take k)) (sp ++ sb) rfl rfl rfl hown hb (by omega) (by omega) ?_; intro v1 w5 hown5 hb5 _ _)
            go_roundw
            case rel => exact ⟨k + 1, by omega, by go_num, step_own HLK.out HE.out hown5, hb5⟩
            case measure => simp [intOf]; omega
    · have hke : k = ls.length := by omega
      have hpos : 0 < ls.length := by rw [← HLS.out]; exact List.length_pos_iff.2 (lines_ne l)
      rw [hke, List.take_length] at hown
      have hpl := pres_length (spc n) (!first) ls
      have hjl : (Lib.join (pres (spc n) (!first) ls) [10]).length ≤ 140737488355328 := by
        rw [HJ.out]
        refine Nat.le_trans HL.out ?_
        rw [spc_length]
        exact Nat.le_trans (Nat.mul_le_mul hl (show n + 1 ≤ 201 by omega)) (by decide)
      have key := join_any w3.heap.size u11 (pres (spc n) (!first) ls) wr hown (by omega) (by omega) hjl
      rw [HJ.out] at key
      have HK := Lib.hid key
      have hfin : Below w.heap.size w wr := hb03.trans (hb.mono hz3)
      clear key hjl hpl hown hke
      go_wp2_with fail
      refine HK.out.mono ?_
      rintro e w6 ⟨rfl, hb6⟩
      go_wp2_with fail
      go_ret
      exact ⟨rfl, hfin.trans (hb6.mono hfin.size)⟩

set_option maxRecDepth 100000 in
theorem add_zero (p : Value) (s : ByteArray) (first : Bool) (w : World) :
    Calls Try.prog 34 #[p, .int .i64 0, .string s, .bool first] w fun e w' => e = .returned (.string s) ∧ Below w.heap.size w w' := by
  go_enter Try.func34, Try.ntmps34
  go_wp2_with fail
  go_ret
  exact ⟨rfl, Below.refl _ _⟩

theorem shift_zero (l : List UInt8) : ∀ b : Bool, shift [] b l = l := by
  induction l with
  | nil => intro b; rfl
  | cons c t ih => intro b; rw [shift, ih]; cases b <;> rfl

theorem add_all (p : Value) (n : Nat) (l : List UInt8) (first : Bool) (w : World) (hn : n ≤ 200) (hl : l.length ≤ 2147483647) (h13 : (13 : UInt8) ∉ l) (hh : hollow true l = false) :
    Calls Try.prog 34 #[p, .int .i64 n, .string (B l), .bool first] w fun e w' => e = .returned (.string (B (shift (spc n) (!first) l))) ∧ Below w.heap.size w w' := by
  rcases Nat.eq_zero_or_pos n with h0 | h0
  · subst h0
    have e : shift (spc 0) (!first) l = l := shift_zero l _
    rw [e]
    exact add_zero p (B l) first w
  · exact add_any p n l first w h0 hn hl h13 hh

theorem small_n (n : Nat) (w : World) (hn : n ≤ 200) : Calls Try.prog 28 #[.int .i64 n] w fun e w' => e = .returned (.int .i64 n) ∧ w = w' := by
  have h0 : ¬ (n : Int) < 0 := by omega
  have h1 : ¬ 200 < (n : Int) := by omega
  go_enter Try.func28, Try.ntmps28
  go_wp2_with fail
  go_ret
  exact ⟨rfl, rfl⟩

theorem Indented_any (n : Nat) (l : List UInt8) (first : Bool) (w : World) (hn : n ≤ 200) (hl : l.length ≤ 2147483647) (h13 : (13 : UInt8) ∉ l) (hh : hollow true l = false) :
    Calls Try.prog 18 #[.string (B l), .int .i64 n, .bool first] w fun e w' => e = .returned (.string (B (shift (spc n) (!first) l))) ∧ Below w.heap.size w w' := by
  have H := Lib.hid (fun p w => add_all p n l first w hn hl h13 hh)
  clear h13 hh
  have h27 : ∀ w, Calls Try.prog 27 #[.int .i64 n, .string (B l), .bool first] w fun e w' => e = .returned (.string (B (shift (spc n) (!first) l))) ∧ Below w.heap.size w w' := by
    intro w
    go_enter Try.func27, Try.ntmps27
    go_wp2_with fail
    refine (H.out _ _).mono ?_
    rintro e w1 ⟨rfl, hb⟩
    go_wp2_with fail
    go_ret
    exact ⟨rfl, ((Below.refl _ _).alloc (Nat.le_refl _) _).trans (hb.mono (by simp))⟩
  have H2 := Lib.hid h27
  clear h27 H
  go_enter Try.func18, Try.ntmps18
  go_wp2_with fail
  refine (small_n n _ hn).mono ?_
  rintro e w1 ⟨rfl, rfl⟩
  go_wp2_with fail
  refine (H2.out _).mono ?_
  rintro e w1 ⟨rfl, hb⟩
  go_wp2_with fail
  go_ret
  exact ⟨rfl, hb⟩

set_option maxRecDepth 100000 in
set_option maxHeartbeats 1000000 in
theorem law_any (s : ByteArray) (n : Int) (first : Bool) (w : World) (hs : s.size ≤ 140737488351232) :
    Calls Try.prog 7 #[.string s, .int .i64 n, .bool first] w fun e w' => e = .returned (.bool true) ∧ Below w.heap.size w w' := by
  by_cases hbig : 2147483647 < (s.size : Int)
  · go_enter Try.func7, Try.ntmps7
    go_wp2_with fail
    go_ret
    exact ⟨rfl, Below.refl _ _⟩
  by_cases h0 : n < 0
  · go_enter Try.func7, Try.ntmps7
    go_wp2_with fail
    go_ret
    exact ⟨rfl, Below.refl _ _⟩
  by_cases h1 : 200 < n
  · go_enter Try.func7, Try.ntmps7
    go_wp2_with fail
    go_ret
    exact ⟨rfl, Below.refl _ _⟩
  obtain ⟨l, rfl⟩ : ∃ l, s = B l := ⟨_, eq_B s⟩
  obtain ⟨m, rfl⟩ : ∃ m : Nat, n = m := ⟨n.toNat, by omega⟩
  have hl : l.length ≤ 2147483647 := by rw [B_size] at hbig; omega
  have hhas := has_eq l 13 (3 * l.length + 1) (by omega) (by omega)
  have hhol := hollow_eq l (l.length + 1) (by omega) (by omega)
  have hsh := shifted_eq l m first (by omega) hl (l.length + 1001) (by omega)
  by_cases h13 : (13 : UInt8) ∈ l
  · rw [decide_eq_true h13] at hhas
    have H1 := Lib.hid hhas
    clear hhas hhol hsh h13
    generalize B l = lb at *
    go_enter Try.func7, Try.ntmps7
    go_wp2_with fail
    refine (spec_Has.calls _ _ _ _ _ H1.out).mono ?_
    rintro e w1 ⟨rfl, hb⟩
    go_wp2_with fail
    go_ret
    exact ⟨rfl, hb.below⟩
  rw [decide_eq_false h13] at hhas
  cases hh : hollow true l with
  | true =>
    rw [hh] at hhol
    have H1 := Lib.hid hhas
    have H2 := Lib.hid hhol
    clear hhas hhol hsh h13 hh
    generalize B l = lb at *
    go_enter Try.func7, Try.ntmps7
    go_wp2_with fail
    refine (spec_Has.calls _ _ _ _ _ H1.out).mono ?_
    rintro e w1 ⟨rfl, hb⟩
    go_wp2_with fail
    refine (spec_Hollow.calls _ _ _ _ H2.out).mono ?_
    rintro e w2 ⟨rfl, hb2⟩
    go_wp2_with fail
    go_ret
    exact ⟨rfl, hb.below.trans (hb2.below.mono hb.below.size)⟩
  | false =>
    rw [hh] at hhol
    have H1 := Lib.hid hhas
    have H2 := Lib.hid hhol
    have H3 := Lib.hid hsh
    have H4 := Lib.hid (fun w => Indented_any m l first w (by omega) hl h13 hh)
    clear hhas hhol hsh h13 hh
    generalize B (shift (spc m) (!first) l) = r at *
    generalize B l = lb at *
    go_enter Try.func7, Try.ntmps7
    go_wp2_with fail
    refine (spec_Has.calls _ _ _ _ _ H1.out).mono ?_
    rintro e w1 ⟨rfl, hb⟩
    go_wp2_with fail
    refine (spec_Hollow.calls _ _ _ _ H2.out).mono ?_
    rintro e w2 ⟨rfl, hb2⟩
    have hx := hb.below.trans (hb2.below.mono hb.below.size)
    clear hb hb2
    go_wp2_with fail
    refine (H4.out _).mono ?_
    rintro e w3 ⟨rfl, hb3⟩
    have hx3 := hx.trans (hb3.mono hx.size)
    clear hx hb3
    go_wp2_with fail
    refine (spec_Shifted.calls _ _ _ _ _ _ H3.out).mono ?_
    rintro e w4 ⟨rfl, hb4⟩
    have hx4 := hx3.trans (hb4.mono hx3.size)
    clear hx3 hb4
    go_wp2_with fail
    go_ret
    exact ⟨rfl, hx4⟩

end Go.Proofs.Ytpimdceafnhmlaa.Ind
