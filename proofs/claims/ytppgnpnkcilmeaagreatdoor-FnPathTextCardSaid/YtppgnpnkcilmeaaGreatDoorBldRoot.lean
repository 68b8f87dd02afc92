/-
  THE WALKS of the path builder's first call (Root) and last one (Build).
-/
import Derived.Test.YtppgnpnkcilmeaaGreatDoorBldB
namespace Go.Proofs.YtppgnpnkcilmeaaGreatDoor.Pth
open Go.RowKit Go.Proofs.YtppgnpnkcilmeaaGreatDoorW.PrintWords Go.Proofs.YtppgnpnkcilmeaaGreatDoorW.PrintLast Go.Proofs.YtppgnpnkcilmeaaGreatDoorW.PrintMore
open Go.Proofs.YtppgnpnkcilmeaaGreatDoor.Str
set_option maxRecDepth 100000

theorem newRoot_any (w : World) : Calls Tryz.prog 20 #[] w fun e w' => e = .returned (.pointer (some ⟨w.heap.size + 1, 0, none⟩)) ∧ w' = (w.alloc (.cells #[.nilIface] 80)).alloc (.cells #[.pointer (some ⟨w.heap.size, 0, none⟩)] 82) := by
  go_enter Tryz.func20, Tryz.ntmps20
  go_wp2_with fail
  go_ret
  exact ⟨by simp, by simp⟩

def RootEnd (w : World) (e : Ending) (w' : World) : Prop :=
  ∃ pb rn rb, e = .returned (.pointer (some ⟨pb, 0, none⟩)) ∧ St w' pb [] rn rb rb 48 rn ∧ w.heap.size ≤ rb ∧ w.heap.size ≤ pb ∧ Below w.heap.size w w'

theorem root_st (w : World) : St (((w.alloc (.cells #[.nilIface] 80)).alloc (.cells #[.pointer (some ⟨w.heap.size, 0, none⟩)] 82)).alloc (.cells #[.pointer (some ⟨w.heap.size + 1, 0, none⟩), .iface 48 (.pointer (some ⟨w.heap.size + 1, 0, none⟩))] 52)) (w.heap.size + 2) [] (w.heap.size + 1) w.heap.size w.heap.size 48 (w.heap.size + 1) := by
  have z1 : (w.alloc (.cells #[.nilIface] 80)).heap.size = w.heap.size + 1 := by simp
  have z2 : ((w.alloc (.cells #[.nilIface] 80)).alloc (.cells #[.pointer (some ⟨w.heap.size, 0, none⟩)] 82)).heap.size = w.heap.size + 2 := by simp
  generalize hw2 : (w.alloc (.cells #[.nilIface] 80)).alloc (.cells #[.pointer (some ⟨w.heap.size, 0, none⟩)] 82) = w2 at *
  have k0 : w2.heap[w.heap.size]? = some (.cells #[.nilIface] 80 (0, 0)) := by
    rw [← hw2, Below.heap_alloc _ _ _ (by rw [z1]; omega)]; exact heap_alloc_new _ _
  have k1 : w2.heap[w.heap.size + 1]? = some (.cells #[.pointer (some ⟨w.heap.size, 0, none⟩)] 82 (0, 0)) := by
    rw [← hw2, ← z1]; exact heap_alloc_new _ _
  have e0 : (w2.alloc (.cells #[.pointer (some ⟨w.heap.size + 1, 0, none⟩), .iface 48 (.pointer (some ⟨w.heap.size + 1, 0, none⟩))] 52)).heap[w.heap.size]? = some (.cells #[.nilIface] 80 (0, 0)) := by
    rw [Below.heap_alloc _ _ _ (by omega)]; exact k0
  have e1 : (w2.alloc (.cells #[.pointer (some ⟨w.heap.size + 1, 0, none⟩), .iface 48 (.pointer (some ⟨w.heap.size + 1, 0, none⟩))] 52)).heap[w.heap.size + 1]? = some (.cells #[.pointer (some ⟨w.heap.size, 0, none⟩)] 82 (0, 0)) := by
    rw [Below.heap_alloc _ _ _ (by omega)]; exact k1
  have e2 : (w2.alloc (.cells #[.pointer (some ⟨w.heap.size + 1, 0, none⟩), .iface 48 (.pointer (some ⟨w.heap.size + 1, 0, none⟩))] 52)).heap[w.heap.size + 2]? = some (.cells #[.pointer (some ⟨w.heap.size + 1, 0, none⟩), .iface 48 (.pointer (some ⟨w.heap.size + 1, 0, none⟩))] 52 (0, 0)) := by
    rw [← z2]; exact heap_alloc_new _ _
  exact { c0 := (blk_cell e2 0).trans rfl, c1 := (blk_cell e2 1).trans rfl, f1 := blk_frozen e2 1, cr := (blk_cell e1 0).trans rfl, rpb := by omega, re := by omega, hT := .inl rfl, cn := (blk_cell e1 0).trans rfl, npb := by omega, ne := by omega, epb := by omega, fe := blk_frozen e0 0, ce := (blk_cell e0 0).trans rfl, seg := ⟨rfl, (blk_cell e0 0).trans rfl⟩ }

theorem root_any (v : Value) (w : World) : Calls Tryz.prog 15 #[v] w (RootEnd w) := by
  go_enter Tryz.func15, Tryz.ntmps15
  go_wp2_with fail
  refine (newRoot_any _).mono ?_
  rintro e w1 ⟨rfl, rfl⟩
  go_wp2_with fail
  go_ret
  refine ⟨w.heap.size + 2, w.heap.size + 1, w.heap.size, by simp, ?_, Nat.le_refl _, by omega, (((Below.refl _ _).alloc (Nat.le_refl _) _).alloc (by simp) _).alloc (by simp; omega) _⟩
  exact root_st w

/-- The path: its block holds the root. -/
def BuildEnd (w : World) (rn : Nat) (e : Ending) (w' : World) : Prop :=
  ∃ pa, e = .returned (.pointer (some ⟨pa, 0, none⟩)) ∧ w'.cell? ⟨pa, 0, none⟩ = some (.iface 48 (.pointer (some ⟨rn, 0, none⟩))) ∧ Below w.heap.size w w'
theorem build_any {w : World} {pb rn rb e T nn : Nat} {ss : List Stp} (h : St w pb ss rn rb e T nn) : Calls Tryz.prog 18 #[.pointer (some ⟨pb, 0, none⟩)] w (BuildEnd w rn) := by
  have c0 := h.c0
  clear h
  go_enter Tryz.func18, Tryz.ntmps18
  go_wp2_with fail
  go_ret
  exact ⟨w.heap.size, by simp, (blk_cell (heap_alloc_new w _) 0).trans rfl, (Below.refl _ _).alloc (Nat.le_refl _) _⟩
end Go.Proofs.YtppgnpnkcilmeaaGreatDoor.Pth
