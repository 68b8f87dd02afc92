/-
  THE WALKS of the path's parser: '..name' (parsePathRecursive).
-/
import Derived.Test.YtppgnpnkcilmeaaGreatDoorBldKey
import Derived.Test.YtppgnpnkcilmeaaGreatDoorBldDeep
import Derived.Test.YtppgnpnkcilmeaaGreatDoorBldIdx
import Derived.Test.YtppgnpnkcilmeaaGreatDoorBldAll
import Derived.Test.YtppgnpnkcilmeaaGreatDoorAsc
import Derived.Deep.QuietTactic
import Derived.Deep.LoopGhost
import Derived.WalkMore
import Derived.ScopeJumps
import Derived.Lib.ItoaMem
import Derived.Laws.Cover4
namespace Go.Proofs.YtppgnpnkcilmeaaGreatDoor.Pth
open Go.RowKit Go.Proofs.YtppgnpnkcilmeaaGreatDoorW.PrintWords Go.Proofs.YtppgnpnkcilmeaaGreatDoorW.PrintLast Go.Proofs.YtppgnpnkcilmeaaGreatDoorW.PrintMore
open Go.Proofs.YtppgnpnkcilmeaaGreatDoor.Str
set_option maxRecDepth 100000

/-- The character at a place. -/
def ch (l : List UInt8) (i : Nat) : Int := ((l.getD i 0).toNat : Int)
/-- The text as a row of runes. -/
def Runes (w : World) (g : Nat) (l : List UInt8) : Prop := ∀ i, i < l.length → w.cell? ⟨g, i, none⟩ = some (.int .i32 (ch l i))
theorem Runes.below {w w' : World} {g : Nat} {l : List UInt8} (h : Runes w g l) (hb : Below w.heap.size w w') : Runes w' g l := fun i hi => cell_below hb (h i hi)

theorem cut_str {w : World} {g : Nat} {l : List UInt8} (hR : Runes w g l) (ha : ∀ c ∈ l, c.toNat < 128) (cap a b : Nat) (hab : a ≤ b) (hb : b ≤ l.length) :
    (convert 46 9 (.slice (some ⟨g, a, none⟩) (b - a) cap)).run Tryz.prog w = .ok (.string (B ((l.drop a).take (b - a)))) w := by
  have hlen : ((l.drop a).take (b - a)).length = b - a := by rw [List.length_take, List.length_drop]; omega
  have h := run_convert_runes (P := Tryz.prog) w 46 9 21 ⟨g, a, none⟩ (b - a) cap (ints ((l.drop a).take (b - a))) (by rw [ints_length, hlen]; exact Nat.le_refl _) Tryz.underlying46 Tryz.underlying21 Tryz.underlying9 (fun j hj => by
    rw [ints_length, hlen] at hj
    rw [Lib.add_plain, hR (a + j) (by omega)]
    unfold ch ints
    rw [List.getD_eq_getElem?_getD, List.getD_eq_getElem?_getD, List.getElem?_map, List.getElem?_take_of_lt hj, List.getElem?_drop, List.getElem?_eq_getElem (by omega)]
    rfl)
  rw [List.take_of_length_le (by rw [ints_length, hlen]; exact Nat.le_refl _), Asc.runesBytes_eq _ (fun c hc => ha c (List.mem_of_mem_drop (List.mem_of_mem_take hc)))] at h
  exact h
theorem cut_sl {l : List UInt8} (g cap a b : Nat) (hab : a < b) (hb : b ≤ l.length) (hc : l.length ≤ cap) :
    ∀ W, (Instr.slice 46 (.slice (some ⟨g, 0, none⟩) l.length cap) (some (.int .i64 (a : Int))) (some (.int .i64 (b : Int))) none).run Tryz.prog W = .ok (.slice (some ⟨g, a, none⟩) (b - a) (cap - a)) W := by
  intro W
  have hel : Tryz.prog.elem 46 = 21 := by simp [Program.elem, Tryz.underlying46]
  have hu : Tryz.prog.underlying 46 = some (.slice (Tryz.prog.elem 46)) := by rw [hel]; exact Tryz.underlying46
  obtain ⟨i, hi, hi1⟩ := Option.map_eq_some_iff.1 (by kernel_rfl : (Tryz.prog.info? 21).map (·.size) = some 1)
  rw [run_slice_lh W 46 (some ⟨g, 0, none⟩) l.length cap hu .i64 .i64 a b (by omega) (by omega) (by omega), hel]
  have hne : ¬ cap = a := by omega
  simp [sizeOf, typeInfo, hi, hi1, sliced, Result.andThen, hne, add_plain]

def ParseEnd (w : World) (pb : Nat) (ss : List Stp) (rn rb e0 : Nat) (s : Stp) (buf : Value) (stop : Nat) (e : Ending) (w' : World) : Prop :=
  e = .returned (.tuple #[.pointer (some ⟨pb, 0, none⟩), buf, .int .i64 (stop : Int), .nilIface]) ∧ (∃ e' T' nn', w.heap.size ≤ e' ∧ St w' pb (ss ++ [s]) rn rb e' T' nn') ∧ ∀ B, B ≤ pb → B ≤ e0 → B ≤ w.heap.size → Below B w w'

/-- A name from a to b, and behind it the end, a point or a bracket. -/
structure NameAt (l : List UInt8) (a b : Nat) : Prop where
  lt : a < b
  le : b ≤ l.length
  plain : ∀ j, a ≤ j → j < b → ch l j ≠ 36 ∧ ch l j ≠ 42 ∧ ch l j ≠ 46 ∧ ch l j ≠ 91 ∧ ch l j ≠ 93 ∧ ch l j ≠ 39
  stop : b < l.length → ch l b = 46 ∨ ch l b = 91

theorem results_tmp4 {fn : Func} {t u v x : Tmp} (h : fn.results = #[.tmp t, .tmp u, .tmp v, .tmp x]) (tmps : Array Value) (P : Program) (w : World) :
    (results fn tmps).run P w = .ok (.tuple #[tmps.getD t undef, tmps.getD u undef, tmps.getD v undef, tmps.getD x undef]) w := by
  simp [results, h]

set_option maxHeartbeats 2000000 in
theorem recursive_any {w : World} {pb rn rb e T nn g cap c b : Nat} {ss : List Stp} {l : List UInt8} (h : St w pb ss rn rb e T nn) (hR : Runes w g l) (ha : ∀ c ∈ l, c.toNat < 128) (hl : l.length ≤ 1000) (hcap : l.length ≤ cap)
    (hN : NameAt l (c + 2) b) :
    Calls Tryz.prog 21 #[.pointer (some ⟨pb, 0, none⟩), .slice (some ⟨g, 0, none⟩) l.length cap, .int .i64 (c : Int)] w
      (ParseEnd w pb ss rn rb e (.deep ((l.drop (c + 2)).take (b - (c + 2)))) (.slice (some ⟨g, 0, none⟩) l.length cap) b) := by
  have hlt := hN.lt
  have hle := hN.le
  have HC := Lib.hid (recur_any h ((l.drop (c + 2)).take (b - (c + 2))))
  have hcs := cut_str hR ha (cap - (c + 2)) (c + 2) b (by omega) hle
  have hsl := cut_sl g cap (c + 2) b hlt hle hcap
  rw [show ((c + 2 : Nat) : Int) = (c : Int) + 2 by omega] at hsl
  have hqe : (((c : Int) + 2) == (b : Int)) = false := beq_eq_false_iff_ne.2 (by omega)
  have HR := Lib.hid hR
  have HN := Lib.hid hN
  clear h hR hN ha
  generalize B ((l.drop (c + 2)).take (b - (c + 2))) = nb at *
  go_enter Tryz.func21, Tryz.ntmps21
  go_wp2_with fail
  refine wp_scope_jumps 0 (fun a' w' => w' = w ∧ ∃ u3 u4 u5 u6 u7 u8 u9 u10 u12 u13 u14 u15 u16 u17 u18 u19 u20 u21 u22 u23 u24 u25 u26 u27 u28 u29 u30 u31 u32 u33 u34 u35 u36 u37 u38 u39 u40 u41 u42 u43 u44 u45 u46 u47 u48 u49 u50 u51 u52 : Value, a' = { tmps := #[.pointer (some ⟨pb, 0, none⟩), .slice (some ⟨g, 0, none⟩) l.length cap, .int .i64 (b : Int), u3, u4, u5, u6, u7, u8, u9, u10, .int .i64 ((c : Int) + 2), u12, u13, u14, u15, u16, u17, u18, u19, u20, u21, u22, u23, u24, u25, u26, u27, u28, u29, u30, u31, u32, u33, u34, u35, u36, u37, u38, u39, u40, u41, u42, u43, u44, u45, u46, u47, u48, u49, u50, u51, u52], defers := [] }) (fun _ _ => 0) rfl ?_ ?_
  · go_wp2_with fail
    go_loopw [2] (fun i wr => ∃ k : Nat, c + 2 ≤ k ∧ k ≤ b ∧ i = .int .i64 k ∧ wr = w) (fun i _ => b - (intOf i).toNat)
    case atStart => exact ⟨c + 2, by omega, by omega, by go_num, by first | rfl | trivial⟩
    case round =>
      obtain ⟨k, hk1, hk2, rfl, rfl⟩ := hrel
      by_cases hkb : k < b
      · have hlk : k < l.length := by omega
        have hc := HR.out k hlk
        obtain ⟨q1, q2, q3, q4, q5, _⟩ := HN.out.plain k hk1 hkb
        have t0 : decide ((k : Int) < (l.length : Int)) = true := decide_eq_true (by omega)
        have t0n : decide (k < l.length) = true := decide_eq_true hlk
        have t1 : (ch l k == 36) = false := beq_eq_false_iff_ne.2 q1
        have t2 : (ch l k == 42) = false := beq_eq_false_iff_ne.2 q2
        have t3 : (ch l k == 46) = false := beq_eq_false_iff_ne.2 q3
        have t4 : (ch l k == 91) = false := beq_eq_false_iff_ne.2 q4
        have t5 : (ch l k == 93) = false := beq_eq_false_iff_ne.2 q5
        generalize ch l k = x at *
        go_wp2_with fail
        go_roundw
        case measure => simp [intOf]; omega
        case rel => exact ⟨k + 1, by omega, by omega, by go_num, by first | rfl | trivial⟩
      · have hke : k = b := by omega
        subst hke
        by_cases hlk : k < l.length
        · have hc := HR.out k hlk
          have t0 : decide ((k : Int) < (l.length : Int)) = true := decide_eq_true (by omega)
          have t0n : decide (k < l.length) = true := decide_eq_true hlk
          rcases HN.out.stop hlk with q | q
          all_goals
            rw [q] at hc
            go_wp2_with fail
            go_step3
            exact ⟨rfl, rfl, _, _, _, _, _, _, _, _, _, _, _, _, _, _, _, _, _, _, _, _, _, _, _, _, _, _, _, _, _, _, _, _, _, _, _, _, _, _, _, _, _, _, _, _, _, _, _, _, _, rfl⟩
        · have t0 : decide ((k : Int) < (l.length : Int)) = false := decide_eq_false (by omega)
          have t0n : decide (k < l.length) = false := decide_eq_false hlk
          go_wp2_with fail
          go_step3
          go_wp2_with fail
          refine HC.out.mono ?_
          rintro e2 w2 ⟨rfl, hst, hbe⟩
          go_wp2_with fail
          simp only [Exit.jump]
          refine bodyPost_ret (results_tmp4 rfl _ _ _) rfl ?_
          exact ⟨rfl, hst, hbe⟩
  · rintro a' w' ⟨rfl, u3, u4, u5, u6, u7, u8, u9, u10, u12, u13, u14, u15, u16, u17, u18, u19, u20, u21, u22, u23, u24, u25, u26, u27, u28, u29, u30, u31, u32, u33, u34, u35, u36, u37, u38, u39, u40, u41, u42, u43, u44, u45, u46, u47, u48, u49, u50, u51, u52, rfl⟩
    go_wp2_with fail
    refine HC.out.mono ?_
    rintro e2 w2 ⟨rfl, hst, hbe⟩
    go_wp2_with fail
    simp only [Exit.jump]
    refine bodyPost_ret (results_tmp4 rfl _ _ _) rfl ?_
    exact ⟨rfl, hst, hbe⟩
end Go.Proofs.YtppgnpnkcilmeaaGreatDoor.Pth
