/-
  THE WALK of impl.PathText: the text of a path that is read from its text; no fault.
-/
import Derived.Test.YtppgnpnkcilmeaaGreatDoorPsg
import Derived.Test.YtppgnpnkcilmeaaGreatDoorTxtB
import Derived.Defers
import Derived.Recover
import Derived.Laws.Pointers
namespace Go.Proofs.YtppgnpnkcilmeaaGreatDoor.Pth
open Go.RowKit Go.Proofs.YtppgnpnkcilmeaaGreatDoorW.PrintWords Go.Proofs.YtppgnpnkcilmeaaGreatDoorW.PrintLast Go.Proofs.YtppgnpnkcilmeaaGreatDoorW.PrintMore
open Go.Proofs.YtppgnpnkcilmeaaGreatDoor.Str
set_option maxRecDepth 100000
set_option linter.unusedVariables false

theorem catch_idle (p q : Addr) (w : World) :
    CallsD Tryz.prog 11 #[.pointer (some p), .pointer (some q)] .returning w fun e u' w' => e = .returned (.tuple #[]) ∧ u' = .returning ∧ w' = w := by
  refine callsD_of_wpS Tryz.func11 rfl fun c₀ cs hu => ?_
  apply wpS_seq
  apply wpS_region
  simp [wpOpsS, go_sem, recoverD, hu, Tryz.ntmps11, Exit.thenS]
  refine wpS_cond (t := false) (by simp [Act.eval, Array.replicate]) ?_
  simp only [Bool.false_eq_true, if_false]
  refine wpS_of_wp (wp_skip ?_)
  cases c₀
  simp_all [bodyPostS, results, Tryz.results11]

def noFault : Value := .agg #[.int .i64 0, .int .i64 0, .int .i64 0, .int .i64 0, .int .i64 0, .int .i64 0]

set_option maxHeartbeats 4000000 in
theorem pathText_any (ss : List Stp) (pos : Nat → Nat) (hP : PathAt (36 :: ptx ss) ss pos) (ha : ∀ c ∈ 36 :: ptx ss, c.toNat < 128) (hl : (36 :: ptx ss).length ≤ 1000) (ho : ∀ s ∈ ss, s.ok) (w : World) (ht : Tab w) :
    Calls Tryz.prog 7 #[.string (B (36 :: ptx ss))] w fun e w' => e = .returned (.tuple #[.string (B (36 :: ptx ss)), noFault]) ∧ Below w.heap.size w w' := by
  have hmf : ∀ (fn : Fn) (first cap : Array Value) (w : World), (Instr.makeFunc fn first cap).run Tryz.prog w = .ok (.func fn first cap) w := fun _ _ _ _ => rfl
  have HS := Lib.hid (fun w => pathString_any (36 :: ptx ss) ss pos hP ha hl w)
  have hl2 : (ptx ss).length ≤ 100000 := by simp at hl; omega
  clear hP ha
  go_enter_defers Tryz.func7, Tryz.ntmps7
  go_wp2_with fail
  refine (HS.out _).mono ?_
  rintro e1 w1 ⟨pa, rn, rb, pb, e2, rfl, hpa, hrn, hseg, hb1⟩
  have hbA : Below w.heap.size w w1 := (((Below.refl _ _).alloc (Nat.le_refl _) _).alloc (by simp) _).trans (hb1.mono (by simp; omega))
  have hk := seg_child ss rb w1 hseg ho hl2 (tab_below hbA ht)
  have HPS := Lib.hid (path_str pa rn (ptx ss) w1 hpa rb hrn hk hl2)
  go_wp2_with fail
  refine HPS.out.mono ?_
  rintro e3 w2 ⟨rfl, hb2⟩
  have hbB : Below (w.heap.size + 2) (((w.alloc (.cells #[.string ⟨#[]⟩] 9)).alloc (.cells #[.int .i64 0, .int .i64 0, .int .i64 0, .int .i64 0, .int .i64 0, .int .i64 0] 29))) w2 := (hb1.mono (by simp)).trans (hb2.mono (by have := hb1.size; simp at this; omega))
  have z1 : (w.alloc (.cells #[.string ⟨#[]⟩] 9)).heap.size = w.heap.size + 1 := by simp
  have K1 : w2.heap[w.heap.size + 1]? = some (.cells #[.int .i64 0, .int .i64 0, .int .i64 0, .int .i64 0, .int .i64 0, .int .i64 0] 29 (0, 0)) := by
    rw [hbB.block _ (by omega), ← z1]; exact heap_alloc_new _ _
  have K0 : w2.heap[w.heap.size]? = some (.cells #[.string ⟨#[]⟩] 9 (0, 0)) := by
    rw [hbB.block _ (by omega), Below.heap_alloc _ _ _ (by rw [z1]; omega)]; exact heap_alloc_new _ _
  have q0 : w2.cell? ⟨w.heap.size, 0, none⟩ = some (.string ⟨#[]⟩) := (blk_cell K0 0).trans rfl
  have f0 : w2.frozen? ⟨w.heap.size, 0, none⟩ = false := blk_frozen K0 0
  have c0 : w2.cell? ⟨w.heap.size + 1, 0, none⟩ = some (.int .i64 0) := (blk_cell K1 0).trans rfl
  have c1 : w2.cell? ⟨w.heap.size + 1, 1, none⟩ = some (.int .i64 0) := (blk_cell K1 1).trans rfl
  have c2 : w2.cell? ⟨w.heap.size + 1, 2, none⟩ = some (.int .i64 0) := (blk_cell K1 2).trans rfl
  have c3 : w2.cell? ⟨w.heap.size + 1, 3, none⟩ = some (.int .i64 0) := (blk_cell K1 3).trans rfl
  have c4 : w2.cell? ⟨w.heap.size + 1, 4, none⟩ = some (.int .i64 0) := (blk_cell K1 4).trans rfl
  have c5 : w2.cell? ⟨w.heap.size + 1, 5, none⟩ = some (.int .i64 0) := (blk_cell K1 5).trans rfl
  have g0 := blk_frozen K1 0
  have g1 := blk_frozen K1 1
  have g2 := blk_frozen K1 2
  have g3 := blk_frozen K1 3
  have g4 := blk_frozen K1 4
  have g5 := blk_frozen K1 5
  go_wp2_with fail
  have hbe : ∀ (W : World) (v : Value) (b o : Nat), w.heap.size ≤ b → Below w.heap.size w W → Below w.heap.size w (W.setCell ⟨b, o, none⟩ v) := fun W v b o h1 h2 => h2.setCell h1 v
  have hB2 : Below w.heap.size w w2 := hbA.trans (hb2.mono hbA.size)
  have hbz := hbe _ (.int .i64 0) (w.heap.size + 1) 5 (by omega) (hbe _ (.int .i64 0) (w.heap.size + 1) 4 (by omega) (hbe _ (.int .i64 0) (w.heap.size + 1) 3 (by omega) (hbe _ (.int .i64 0) (w.heap.size + 1) 2 (by omega) (hbe _ (.int .i64 0) (w.heap.size + 1) 1 (by omega) (hbe _ (.int .i64 0) (w.heap.size + 1) 0 (by omega) (hbe _ (.string (B (36 :: ptx ss))) w.heap.size 0 (by omega) hB2))))))
  refine leaves_cons (f := 11) (args := #[.pointer (some ⟨w.heap.size, 0, none⟩), .pointer (some ⟨w.heap.size + 1, 0, none⟩)]) (by simp) (by simp [go_sem]) ?_
  refine (catch_idle _ _ _).mono ?_
  rintro e u' w'' ⟨rfl, rfl, rfl⟩
  simp [Leaves, settle, results, Tryz.results7, go_sem, q0, c0, c1, c2, c3, c4, c5]
  exact ⟨rfl, hbz⟩
end Go.Proofs.YtppgnpnkcilmeaaGreatDoor.Pth
