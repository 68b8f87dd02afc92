/-
  THE WALK of PathString: the text is read step by step.
-/
import Derived.Test.YtppgnpnkcilmeaaGreatDoorPrsB
import Derived.Test.YtppgnpnkcilmeaaGreatDoorPrsC
import Derived.Test.YtppgnpnkcilmeaaGreatDoorBldRoot
namespace Go.Proofs.YtppgnpnkcilmeaaGreatDoor.Pth
open Go.RowKit Go.Proofs.YtppgnpnkcilmeaaGreatDoorW.PrintWords Go.Proofs.YtppgnpnkcilmeaaGreatDoorW.PrintLast Go.Proofs.YtppgnpnkcilmeaaGreatDoorW.PrintMore
open Go.Proofs.YtppgnpnkcilmeaaGreatDoor.Str
set_option maxRecDepth 100000
set_option linter.unusedVariables false

/-- The step s stands in the text from c to b. -/
inductive StepAt (l : List UInt8) (c : Nat) : Stp → Nat → Prop
  | key (n : List UInt8) (b : Nat) : ch l c = 46 → NameAt l (c + 1) b → (l.drop (c + 1)).take (b - (c + 1)) = n → StepAt l c (.key n) b
  | deep (n : List UInt8) (b : Nat) : ch l c = 46 → ch l (c + 1) = 46 → NameAt l (c + 2) b → (l.drop (c + 2)).take (b - (c + 2)) = n → StepAt l c (.deep n) b
  | idx (i b : Nat) : ch l c = 91 → NumAt l (c + 2) b → i < 1000000 → dig (ch l (c + 1)) → Lib.parseIntB 64 ((l.drop (c + 1)).take (b - (c + 1))) = .ok (i : Int) → ((l.drop (c + 1)).take (b - (c + 1)) == [42]) = false → StepAt l c (.idx i) (b + 1)
  | all : ch l c = 91 → ch l (c + 1) = 42 → NumAt l (c + 2) (c + 2) → (l.drop (c + 1)).take 1 = [42] → StepAt l c .all (c + 3)

/-- The steps stand one behind the other from 1 to the end; '$' ahead. -/
structure PathAt (l : List UInt8) (ss : List Stp) (pos : Nat → Nat) : Prop where
  dollar : ch l 0 = 36
  p0 : pos 0 = 1
  pn : pos ss.length = l.length
  mono : ∀ k, k < ss.length → pos k < pos (k + 1) ∧ pos (k + 1) ≤ l.length
  step : ∀ k (h : k < ss.length), StepAt l (pos k) ss[k] (pos (k + 1))

def Ready (w : World) (n0 : Nat) (ss : List Stp) (l : List UInt8) (pos : Nat → Nat) (i6 i7 : Value) (wr : World) : Prop :=
  (i6 = .int .i64 0 ∧ ∃ p, i7 = .pointer p ∧ Below n0 w wr) ∨
  ∃ k pb rn rb e T nn, k ≤ ss.length ∧ i6 = .int .i64 (pos k : Int) ∧ i7 = .pointer (some ⟨pb, 0, none⟩) ∧ St wr pb (ss.take k) rn rb e T nn ∧ n0 ≤ pb ∧ n0 ≤ e ∧ Below n0 w wr

def PathEnd (w : World) (ss : List Stp) (e : Ending) (w' : World) : Prop :=
  ∃ pa rn rb pb e1, e = .returned (.tuple #[.pointer (some ⟨pa, 0, none⟩), .nilIface]) ∧ w'.cell? ⟨pa, 0, none⟩ = some (.iface 48 (.pointer (some ⟨rn, 0, none⟩))) ∧ w'.cell? ⟨rn, 0, none⟩ = some (.pointer (some ⟨rb, 0, none⟩)) ∧ Seg w' pb e1 rb ss ∧ Below w.heap.size w w'

set_option maxHeartbeats 8000000 in
theorem pathString_any (l : List UInt8) (ss : List Stp) (pos : Nat → Nat) (hP : PathAt l ss pos) (ha : ∀ c ∈ l, c.toNat < 128) (hl : l.length ≤ 1000) (w : World) :
    Calls Tryz.prog 12 #[.string (B l)] w (PathEnd w ss) := by
  have hre := Asc.runes_eq l ha
  have hrl : (Conv.runesFrom (B l) (B l).size 0 #[]).size = l.length := by rw [hre]; simp [nums, ints]
  have hsz : (B l).size ≤ 1000 := by rw [B_size]; exact hl
  have hcv := run_runes_of_string (P := Tryz.prog) w 9 46 21 (B l) Tryz.underlying9 Tryz.underlying46 Tryz.underlying21 (by omega)
  rw [hrl, hre] at hcv
  have hge := grownCap_ge w l.length 0 21
  have hb2 : Below w.heap.size w (w.drew.alloc (.cells ((nums .i32 (ints l)).toArray ++ Array.replicate (grownCap w l.length 0 21 - l.length) (.int .i32 0)) 21)) := ((Below.refl _ _).drew).alloc (Nat.le_refl _) _
  have hrd : Runes (w.drew.alloc (.cells ((nums .i32 (ints l)).toArray ++ Array.replicate (grownCap w l.length 0 21 - l.length) (.int .i32 0)) 21)) w.heap.size l := by
    intro i hi
    have h1 := blk_cell (heap_alloc_new w.drew (.cells ((nums .i32 (ints l)).toArray ++ Array.replicate (grownCap w l.length 0 21 - l.length) (.int .i32 0)) 21)) i
    refine h1.trans ?_
    rw [Array.getElem?_append_left (by simp [nums, ints]; omega)]
    simp [nums, ints, hi, ch]
  generalize hW : w.drew.alloc (.cells ((nums .i32 (ints l)).toArray ++ Array.replicate (grownCap w l.length 0 21 - l.length) (.int .i32 0)) 21) = W2 at *
  generalize grownCap w l.length 0 21 = cc at *
  have HRE := Lib.hid hre
  have HR := Lib.hid hrd
  have HA := Lib.hid ha
  have HP := Lib.hid hP
  have HB2 := Lib.hid hb2
  clear hW hre hrl hrd ha hP hb2
  generalize B l = lb at *
  go_enter Tryz.func12, Tryz.ntmps12
  go_wp2_with fail
  go_loopw [5, 6, 7] (fun i5 i6 i7 wr => i5 = .int .i64 (l.length : Int) ∧ Ready W2 W2.heap.size ss l pos i6 i7 wr) (fun _ i6 _ _ => l.length - (intOf i6).toNat)
  case atStart => exact ⟨rfl, .inl ⟨rfl, _, rfl, (Below.refl _ _).alloc (Nat.le_refl _) _⟩⟩
  case round =>
    obtain ⟨rfl, hready⟩ := hrel
    have hp0 := HP.out.p0
    have hl1 : 1 ≤ l.length := by
      rcases Nat.eq_zero_or_pos ss.length with h0 | h0
      · have := HP.out.pn; rw [h0, hp0] at this; omega
      · have := HP.out.mono 0 h0; omega
    rcases hready with ⟨rfl, p, rfl, hb⟩ | ⟨k, pb, rn, rb, e, T, nn, hk, rfl, rfl, hSt, hpb, hee, hb⟩
    · have r0 := (HR.out.below hb) 0 (by omega)
      rw [HP.out.dollar] at r0
      have t0 : decide (0 < (l.length : Int)) = true := decide_eq_true (by omega)
      have t0n : decide (0 < l.length) = true := decide_eq_true (by omega)
      have t1 : (0 : Int) < (l.length : Int) := by omega
      go_wp2_with fail
      refine (root_any _ _).mono ?_
      rintro e3 w3 ⟨pb, rn, rb, rfl, hst, h1, h2, hb1⟩
      have hz := hb.size
      have hb3 : Below W2.heap.size W2 w3 := hb.trans (hb1.mono hz)
      go_wp2_with fail
      go_roundw
      case measure => simp [intOf]; omega
      case rel => exact ⟨rfl, .inr ⟨0, pb, rn, rb, rb, 48, rn, by omega, by rw [hp0]; rfl, rfl, by rw [List.take_zero]; exact hst, by omega, by omega, hb3⟩⟩
    · by_cases hkn : k < ss.length
      · have hmo := HP.out.mono k hkn
        have hstep := HP.out.step k hkn
        have htk : ss.take (k + 1) = ss.take k ++ [ss[k]] := List.take_succ_eq_append_getElem hkn
        have hrw := HR.out.below hb
        have r0 := hrw (pos k) (by omega)
        have t0 : decide (((pos k : Nat) : Int) < (l.length : Int)) = true := decide_eq_true (by omega)
        have t0n : decide (pos k < l.length) = true := decide_eq_true (by omega)
        have hcap : l.length ≤ cc := hge
        generalize hq : pos (k + 1) = q at *
        generalize hpk : pos k = c at *
        generalize hs : ss[k] = s at *
        cases hstep with
        | key n b h1 h2 h3 =>
          subst h3
          rw [h1] at r0
          have hC := Lib.hid (dot_key hSt hrw HA.out hl hcap h2)
          clear hSt hrw
          go_wp2_with fail
          refine (hC.out).mono ?_
          rintro e3 w3 ⟨rfl, ⟨e', T', nn', he', hst'⟩, hbe⟩
          have hb3 : Below W2.heap.size W2 w3 := hb.trans (hbe _ hpb hee hb.size)
          have hz3 := hb.size
          go_wp2_with fail
          go_roundw
          case measure => simp [intOf]; omega
          case rel => exact ⟨rfl, .inr ⟨k + 1, pb, rn, rb, e', T', nn', by omega, by first | (rw [hq]; done) | (rw [hq]; push_cast; rfl) | (rw [hq]; congr 1), rfl, by rw [htk]; exact hst', hpb, by omega, hb3⟩⟩
        | deep n b h1 h4 h2 h3 =>
          subst h3
          rw [h1] at r0
          have hC := Lib.hid (dot_deep hSt hrw HA.out hl hcap h2 h4)
          clear hSt hrw
          go_wp2_with fail
          refine (hC.out).mono ?_
          rintro e3 w3 ⟨rfl, ⟨e', T', nn', he', hst'⟩, hbe⟩
          have hb3 : Below W2.heap.size W2 w3 := hb.trans (hbe _ hpb hee hb.size)
          have hz3 := hb.size
          go_wp2_with fail
          go_roundw
          case measure => simp [intOf]; omega
          case rel => exact ⟨rfl, .inr ⟨k + 1, pb, rn, rb, e', T', nn', by omega, by first | (rw [hq]; done) | (rw [hq]; push_cast; rfl) | (rw [hq]; congr 1), rfl, by rw [htk]; exact hst', hpb, by omega, hb3⟩⟩
        | idx i b h1 h2 h3 h4 h5 h6 =>
          rw [h1] at r0
          have hC := Lib.hid (index_num hSt hrw HA.out hl hcap h2 h3 h4 h5 h6)
          clear hSt hrw
          go_wp2_with fail
          refine (hC.out).mono ?_
          rintro e3 w3 ⟨rfl, ⟨e', T', nn', he', hst'⟩, hbe⟩
          have hb3 : Below W2.heap.size W2 w3 := hb.trans (hbe _ hpb hee hb.size)
          have hz3 := hb.size
          go_wp2_with fail
          go_roundw
          case measure => simp [intOf]; omega
          case rel => exact ⟨rfl, .inr ⟨k + 1, pb, rn, rb, e', T', nn', by omega, by first | (rw [hq]; done) | (rw [hq]; push_cast; rfl) | (rw [hq]; congr 1), rfl, by rw [htk]; exact hst', hpb, by omega, hb3⟩⟩
        | all h1 h2 h3 h4 =>
          rw [h1] at r0
          have hC := Lib.hid (index_all hSt hrw HA.out hl hcap h3 h2 (by rw [show c + 2 - (c + 1) = 1 by omega]; exact h4))
          clear hSt hrw
          go_wp2_with fail
          refine (hC.out).mono ?_
          rintro e3 w3 ⟨rfl, ⟨e', T', nn', he', hst'⟩, hbe⟩
          have hb3 : Below W2.heap.size W2 w3 := hb.trans (hbe _ hpb hee hb.size)
          have hz3 := hb.size
          go_wp2_with fail
          go_roundw
          case measure => simp [intOf]; omega
          case rel => exact ⟨rfl, .inr ⟨k + 1, pb, rn, rb, e', T', nn', by omega, by first | (rw [hq]; done) | (rw [hq]; push_cast; rfl) | (rw [hq]; congr 1), rfl, by rw [htk]; exact hst', hpb, by omega, hb3⟩⟩
      · have hke : k = ss.length := by omega
        subst hke
        have t0 : decide (((pos ss.length : Nat) : Int) < (l.length : Int)) = false := decide_eq_false (by rw [HP.out.pn]; omega)
        have t0n : decide (pos ss.length < l.length) = false := decide_eq_false (by rw [HP.out.pn]; omega)
        have hbd := Lib.hid (build_any hSt)
        go_wp2_with fail
        refine hbd.out.mono ?_
        rintro e3 w3 ⟨pa, rfl, hpa, hb1⟩
        go_wp2_with fail
        go_ret2
        rw [List.take_length] at hSt
        exact ⟨pa, rn, rb, pb, e, rfl, hpa, cell_below hb1 hSt.cr, hSt.seg.below hb1, (HB2.out.trans (hb.mono HB2.out.size)).trans (hb1.mono (Nat.le_trans HB2.out.size hb.size))⟩
end Go.Proofs.YtppgnpnkcilmeaaGreatDoor.Pth
