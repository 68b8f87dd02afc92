/-
  strconv.FormatUint at base 10: the decimal digits. (After the library's own proof of FormatInt: Derived/Shelf/Strconv/Itoa3.lean.)
-/
import Derived.Test.YtppgnpnkcilmeaaGreatDoorShelf
import Derived.Test.YtppgnpnkcilmeaaGreatDoorWMore
import Derived.Lib.ItoaMem
import Derived.Lib.Hide
namespace Go.Proofs.YtppgnpnkcilmeaaGreatDoor.Pth
open Go.RowKit Go.Proofs.YtppgnpnkcilmeaaGreatDoorW.PrintWords Go.Proofs.YtppgnpnkcilmeaaGreatDoorW.PrintLast Go.Proofs.YtppgnpnkcilmeaaGreatDoorW.PrintMore
open Go.Shelf Go.Sort Go.Lib

theorem below_grow (w : World) (k : Nat) (os : Array Obj) : Below w.heap.size w (grow (w.drewN k) os) :=
  ⟨rfl, rfl, rfl, by simp [grow, World.drewN], fun j hj => by simp only [grow, World.drewN]; rw [Array.getElem?_append_left hj]⟩
theorem below_put (w : World) (o : Obj) (dk : Array UInt8) (k : Nat) : Below w.heap.size w ((putRow (fun (b : UInt8) => Value.int .u8 (b.toNat : Int)) (w.alloc o) w.heap.size 0 dk).drewN k) := by
  rw [alloc_eq_grow]
  obtain ⟨os', _, e⟩ := putRow_grow_new (fun (b : UInt8) => Value.int .u8 (b.toNat : Int)) w #[o] w.heap.size 0 dk (Nat.le_refl _)
  rw [e]
  exact below_grow w k os'

theorem hsl0 (b u : Nat) (hu : u ≤ 24) : ∀ W, (Instr.sliceAt 116 (.pointer (some ⟨b, 0, none⟩)) none (some (.int .i64 (u : Int))) none).run Tryz.prog W = .ok (.slice (some ⟨b, 0, none⟩) u 24) W := fun W => by
  have hal : Tryz.prog.arrayLen 116 = 24 := by simp [Program.arrayLen, Tryz.underlying116]
  rw [run_sliceAt_array_h W 116 ⟨b, 0, none⟩ (by simp [Program.arrayLen, Program.elem, Tryz.underlying116]) .i64 (u : Int) (by omega) (by rw [hal]; omega)]
  go_simp

theorem holds_zero0 (w : World) (T : TypeId) (nd : Nat) (hs : nd ≤ 24) : Holds (fun (b : UInt8) => Value.int .u8 (b.toNat : Int)) (w.alloc (.cells zeros24 T)) w.heap.size 0 (Array.replicate nd (0 : UInt8)) := fun j hj => by
  have hj' : j < nd := by simpa using hj
  refine ⟨?_, World.frozen?_alloc_new _ _ _ _⟩
  rw [World.cell?_alloc_new, zeros24_at _ (by omega), getElem!_pos _ j hj]
  simp

set_option maxHeartbeats 6400000 in
set_option maxRecDepth 100000 in
theorem fmt100_any (u : Nat) (hu64 : u < 1000000) (w : World) (htab : Lib.TabIs Tryz.prog w "internal/strconv.uint64pow10" .u64 Lib.pow10Tab) :
    Calls Tryz.prog 100 #[.int .u64 u, .int .i64 10] w fun e w' => e = .returned (.string ⟨(Lib.decDigits u).toArray⟩) ∧ Below w.heap.size w w' := by
  by_cases hs : u < 100
  · have hi : ((u : Int) < 100) = True := eq_true (by omega)
    have hd : decide ((u : Int) < 100) = true := decide_eq_true (by omega)
    have hw : IntKind.i64.wrap (u : Int) = u := by rw [IntKind.wrap_i64]; omega
    go_enter Tryz.func100, Tryz.ntmps100
    go_wp2_with fail
    refine (Tryz.internal_strconv_small u hs _).mono ?_
    rintro e w' ⟨rfl, rfl⟩
    go_wp2_with fail
    go_ret
    exact ⟨rfl, Below.refl _ _⟩
  · have hu1 : 1 ≤ u := by omega
    have hu64' : u < 18446744073709551616 := by omega
    have hd : decide ((u : Int) < 100) = false := decide_eq_false (by omega)
    have hnd20 : Lib.nDigits u ≤ 20 := by have := Lib.numDigits_eq u hu1 hu64'; split at this <;> omega
    have hsl := hsl0 w.heap.size (Lib.nDigits u) (by omega)
    have hH0 := holds_zero0 w 116 (Lib.nDigits u) (by omega)
    have hfmt := Tryz.internal_strconv_formatBase10 w.heap.size 0 24 u (Array.replicate (Lib.nDigits u) 0) (w.alloc (.cells Lib.zeros24 116)) hH0 (by rw [Array.size_replicate]; exact Lib.lt_pow_nDigits u) hu64' (by rw [Array.size_replicate]; omega)
    rw [Array.size_replicate] at hfmt
    have HH0 := Lib.hid hH0
    have HF := Lib.hid hfmt
    clear hH0 hfmt
    go_enter Tryz.func100, Tryz.ntmps100
    go_wp2_with fail
    refine (Tryz.internal_strconv_numDigits u hu1 hu64' _ (Lib.tabIs_alloc htab _)).mono ?_
    rintro e w' ⟨rfl, rfl⟩
    go_wp2_with fail
    refine HF.out.mono ?_
    rintro e w' ⟨rfl, k, v', dk, rfl, hF⟩
    have hcv : (convert 45 9 (.slice (some ⟨w.heap.size, 0, none⟩) (Lib.nDigits u) 24)).run Tryz.prog ((putRow (fun (b : UInt8) => Value.int .u8 (b.toNat : Int)) (w.alloc (.cells Lib.zeros24 116)) w.heap.size 0 dk).drewN k) = .ok (.string ⟨(Lib.decDigits u).toArray⟩) ((putRow (fun (b : UInt8) => Value.int .u8 (b.toNat : Int)) (w.alloc (.cells Lib.zeros24 116)) w.heap.size 0 dk).drewN k) := by
      have h := run_convert_bytes_back (P := Tryz.prog) ((putRow (fun (b : UInt8) => Value.int .u8 (b.toNat : Int)) (w.alloc (.cells Lib.zeros24 116)) w.heap.size 0 dk).drewN k) 45 9 5 ⟨w.heap.size, 0, none⟩ 24 (Lib.decDigits u) Tryz.underlying45 Tryz.underlying5 Tryz.underlying9 (fun j hj => by
        rw [Lib.row_is_numeral hF j hj, Lib.add_plain, World.cell?_drewN]
        exact cell?_putRow (fun (b : UInt8) => Value.int .u8 (b.toNat : Int)) _ w.heap.size 0 _ dk HH0.out (by rw [hF.size, Array.size_replicate]) j (by rw [hF.size]; rw [Lib.decDigits_length] at hj; exact hj))
      rw [Lib.decDigits_length] at h
      exact h
    go_wp2_with fail
    go_ret
    exact ⟨rfl, below_put w _ dk k⟩

theorem fmt_any (u : Nat) (hu64 : u < 1000000) (w : World) (htab : Lib.TabIs Tryz.prog w "internal/strconv.uint64pow10" .u64 Lib.pow10Tab) :
    Calls Tryz.prog 99 #[.int .u64 u, .int .i64 10] w fun e w' => e = .returned (.string ⟨(Lib.decDigits u).toArray⟩) ∧ Below w.heap.size w w' := by
  have H := Lib.hid (fmt100_any u hu64 w htab)
  clear htab
  go_enter Tryz.func99, Tryz.ntmps99
  go_wp2_with fail
  refine H.out.mono ?_
  rintro e w1 ⟨rfl, hb⟩
  go_wp2_with fail
  go_ret
  exact ⟨rfl, hb⟩
end Go.Proofs.YtppgnpnkcilmeaaGreatDoor.Pth
