/-
  THE WALKS of a selector's name: zzIndex where the character is not there, and normalizeSelectorName at a name without quote, point and star.
-/
import Derived.Test.YtppgnpnkcilmeaaGreatDoorShelfB
import Derived.Test.YtppgnpnkcilmeaaGreatDoorWMore
import Derived.Test.YtppgnpnkcilmeaaGreatDoorStr
import Derived.Lib.Hide
namespace Go.Proofs.YtppgnpnkcilmeaaGreatDoor.Pth
open Go.RowKit Go.Proofs.YtppgnpnkcilmeaaGreatDoorW.PrintWords Go.Proofs.YtppgnpnkcilmeaaGreatDoorW.PrintLast Go.Proofs.YtppgnpnkcilmeaaGreatDoorW.PrintMore
open Go.Proofs.YtppgnpnkcilmeaaGreatDoor.Str
set_option maxRecDepth 100000

theorem one_ne (l : List UInt8) (c : UInt8) (hc : c ∉ l) (i : Nat) : (((B l).extract i (i + 1)).toList == [c]) = false := by
  rw [B_extract, B_toList]
  refine beq_eq_false_iff_ne.2 fun h => ?_
  have : c ∈ (l.drop i).take (i + 1 - i) := by rw [h]; simp
  exact hc (List.mem_of_mem_drop (List.mem_of_mem_take this))

set_option maxHeartbeats 1000000 in
theorem index_none (l : List UInt8) (c : UInt8) (hc : c ∉ l) (hl : l.length ≤ 1000) (w : World) :
    Calls Tryz.prog 90 #[.string (B l), .string ⟨#[c]⟩] w fun e w' => e = .returned (.int .i64 (-1)) ∧ Below w.heap.size w w' := by
  have H := Lib.hid (one_ne l c hc)
  have hs : (B l).size = l.length := B_size l
  have hp1 : (⟨#[c]⟩ : ByteArray).size = 1 := rfl
  have hp2 : (⟨#[c]⟩ : ByteArray).toList = [c] := by rw [Lib.toList_data]
  generalize B l = lb at *
  generalize (⟨#[c]⟩ : ByteArray) = cb at *
  go_enter Tryz.func90, Tryz.ntmps90
  go_wp2_with fail
  go_loopw [5] (fun i wr => ∃ k : Nat, k ≤ l.length ∧ i = .int .i64 k ∧ Below w.heap.size w wr) (fun i _ => l.length - (intOf i).toNat)
  case atStart => exact ⟨0, Nat.zero_le _, rfl, Below.refl _ _⟩
  case round =>
    obtain ⟨k, hk, rfl, hb⟩ := hrel
    by_cases hlt : k < l.length
    · have hne := H.out k
      have t1 : decide ((k : Int) + 1 ≤ (l.length : Int)) = true := decide_eq_true (by omega)
      have hsl : ∀ W, (Instr.slice 9 (.string lb) (some (.int .i64 (k : Int))) (some (.int .i64 ((k : Int) + 1))) none).run Tryz.prog W = .ok (.string (lb.extract k (k + 1))) W := fun W => by
        have h := run_slice_string (P := Tryz.prog) W 9 lb .i64 .i64 (k : Int) ((k : Int) + 1) Tryz.underlying9 (by omega) (by omega) (by omega)
        rw [show ((k : Int) + 1).toNat = k + 1 by omega, show (k : Int).toNat = k by omega] at h
        exact h
      go_wp2_with fail
      go_roundw
      case measure => simp [intOf]; omega
      case rel => exact ⟨k + 1, by omega, by go_num, hb⟩
    · have t1 : decide ((k : Int) + 1 ≤ (l.length : Int)) = false := decide_eq_false (by omega)
      go_wp2_with fail
      go_ret
      exact ⟨rfl, hb⟩
theorem contains_none (l : List UInt8) (c : UInt8) (hc : c ∉ l) (hl : l.length ≤ 1000) (w : World) :
    Calls Tryz.prog 87 #[.string (B l), .string ⟨#[c]⟩] w fun e w' => e = .returned (.bool false) ∧ Below w.heap.size w w' := by
  have H := Lib.hid (index_none l c hc hl w)
  clear hc hl
  go_enter Tryz.func87, Tryz.ntmps87
  go_wp2_with fail
  refine H.out.mono ?_
  rintro e w1 ⟨rfl, hb⟩
  go_wp2_with fail
  go_ret
  exact ⟨rfl, hb⟩

theorem reserved_none (l : List UInt8) (h1 : 46 ∉ l) (h2 : 42 ∉ l) (hl : l.length ≤ 1000) (v : Value) (w : World) :
    Calls Tryz.prog 72 #[v, .string (B l)] w fun e w' => e = .returned (.bool false) ∧ Below w.heap.size w w' := by
  have H1 := Lib.hid (contains_none l 46 h1 hl)
  have H2 := Lib.hid (contains_none l 42 h2 hl)
  clear h1 h2 hl
  go_enter Tryz.func72, Tryz.ntmps72
  go_wp2_with fail
  refine (H1.out _).mono ?_
  rintro e w1 ⟨rfl, hb1⟩
  go_wp2_with fail
  refine (H2.out _).mono ?_
  rintro e w2 ⟨rfl, hb2⟩
  have x2 := hb1.trans (hb2.mono hb1.size)
  go_wp2_with fail
  go_ret
  exact ⟨rfl, x2⟩

theorem unquoted (l : List UInt8) (h : Lib.hasPrefix l [39] = false) (v : Value) (w : World) :
    Calls Tryz.prog 85 #[v, .string (B l)] w fun e w' => e = .returned (.bool false) ∧ Below w.heap.size w w' := by
  have hp := Tryz.strings_HasPrefix (B l) ⟨#[39]⟩ w
  rw [B_data, show ((⟨#[39]⟩ : ByteArray).data.toList) = [39] from rfl, h] at hp
  have H := Lib.hid hp
  clear hp h
  go_enter Tryz.func85, Tryz.ntmps85
  go_wp2_with fail
  refine H.out.mono ?_
  rintro e w1 ⟨rfl, rfl⟩
  go_wp2_with fail
  go_ret
  exact ⟨rfl, Below.refl _ _⟩

/-- A name that is written as it is. -/
structure Plain (l : List UInt8) : Prop where
  dot : 46 ∉ l
  star : 42 ∉ l
  quote : Lib.hasPrefix l [39] = false
  len : l.length ≤ 1000

theorem normal_any (l : List UInt8) (h : Plain l) (v : Value) (w : World) :
    Calls Tryz.prog 84 #[v, .string (B l)] w fun e w' => e = .returned (.string (B l)) ∧ Below w.heap.size w w' := by
  have H1 := Lib.hid (unquoted l h.quote)
  have H2 := Lib.hid (reserved_none l h.dot h.star h.len)
  clear h
  go_enter Tryz.func84, Tryz.ntmps84
  go_wp2_with fail
  refine (H1.out _ _).mono ?_
  rintro e w1 ⟨rfl, hb1⟩
  go_wp2_with fail
  refine (H2.out _ _).mono ?_
  rintro e w2 ⟨rfl, hb2⟩
  have x2 := hb1.trans (hb2.mono hb1.size)
  go_wp2_with fail
  go_ret
  exact ⟨rfl, x2⟩
end Go.Proofs.YtppgnpnkcilmeaaGreatDoor.Pth
