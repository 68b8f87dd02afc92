/-
  THE WALKS of the path builder: new nodes, chain, child, Index, IndexAll, Recursive, Root, Build.
-/
import Derived.Test.YtppgnpnkcilmeaaGreatDoorBldA
import Derived.Deep.RegionWith
namespace Go.Proofs.YtppgnpnkcilmeaaGreatDoor.Pth
open Go.RowKit Go.Proofs.YtppgnpnkcilmeaaGreatDoorW.PrintWords Go.Proofs.YtppgnpnkcilmeaaGreatDoorW.PrintLast Go.Proofs.YtppgnpnkcilmeaaGreatDoorW.PrintMore
open Go.Proofs.YtppgnpnkcilmeaaGreatDoor.Str
set_option maxRecDepth 100000

/-- Two blocks laid one behind the other: the block of a node, and the node. -/
theorem new_of (w : World) (s : Stp) (t1 t2 : TypeId) (cs : Array Value) (h0 : cs[0]? = some (.pointer (some ⟨w.heap.size, 0, none⟩))) (h1 : ∀ v, s.pl = some v → cs[1]? = some v) :
    New w ((w.alloc (.cells #[.nilIface] t1)).alloc (.cells cs t2)) w.heap.size (w.heap.size + 1) s := by
  have hz : (w.alloc (.cells #[.nilIface] t1)).heap.size = w.heap.size + 1 := by simp
  have hN : ((w.alloc (.cells #[.nilIface] t1)).alloc (.cells cs t2)).heap[w.heap.size + 1]? = some (.cells cs t2 (0, 0)) := by
    rw [← hz]; exact heap_alloc_new _ _
  have hB : ((w.alloc (.cells #[.nilIface] t1)).alloc (.cells cs t2)).heap[w.heap.size]? = some (.cells #[.nilIface] t1 (0, 0)) := by
    rw [Below.heap_alloc _ _ _ (by rw [hz]; omega)]; exact heap_alloc_new _ _
  refine { hb := Nat.le_refl _, hbn := by omega, hn := by simp, bel := ((Below.refl _ _).alloc (Nat.le_refl _) _).alloc (by simp) _, cb := (blk_cell hB 0).trans rfl, fb := blk_frozen hB 0, nc := ⟨(blk_cell hN 0).trans h0, fun v hv => (blk_cell hN 1).trans (h1 v hv)⟩ }

def NewEnd (w : World) (s : Stp) (e : Ending) (w' : World) : Prop := ∃ b n, e = .returned (.pointer (some ⟨n, 0, none⟩)) ∧ New w w' b n s
theorem newKey (l : List UInt8) (w : World) : Calls Tryz.prog 28 #[.string (B l)] w (NewEnd w (.key l)) := by
  go_enter Tryz.func28, Tryz.ntmps28
  go_wp2_with fail
  go_ret
  exact ⟨_, _, rfl, by simpa using new_of w (.key l) 80 94 #[.pointer (some ⟨w.heap.size, 0, none⟩), .string (B l)] rfl (fun v hv => hv)⟩
theorem newDeep (l : List UInt8) (w : World) : Calls Tryz.prog 33 #[.string (B l)] w (NewEnd w (.deep l)) := by
  go_enter Tryz.func33, Tryz.ntmps33
  go_wp2_with fail
  go_ret
  exact ⟨_, _, rfl, by simpa using new_of w (.deep l) 80 105 #[.pointer (some ⟨w.heap.size, 0, none⟩), .string (B l)] rfl (fun v hv => hv)⟩
theorem newIdx (i : Nat) (w : World) : Calls Tryz.prog 32 #[.int .u64 i] w (NewEnd w (.idx i)) := by
  go_enter Tryz.func32, Tryz.ntmps32
  go_wp2_with fail
  go_ret
  exact ⟨_, _, rfl, by simpa using new_of w (.idx i) 80 104 #[.pointer (some ⟨w.heap.size, 0, none⟩), .int .u64 i] rfl (fun v hv => hv)⟩
theorem newAll (w : World) : Calls Tryz.prog 29 #[] w (NewEnd w .all) := by
  go_enter Tryz.func29, Tryz.ntmps29
  go_wp2_with fail
  go_ret
  exact ⟨_, _, rfl, by simpa using new_of w .all 80 95 #[.pointer (some ⟨w.heap.size, 0, none⟩)] rfl (fun v hv => by cases hv)⟩

theorem chain_any (b : Nat) (T : TypeId) (v : Value) (w : World) (hc : w.cell? ⟨b, 0, none⟩ = some .nilIface) (hf : w.frozen? ⟨b, 0, none⟩ = false) :
    Calls Tryz.prog 74 #[.pointer (some ⟨b, 0, none⟩), .iface T v] w fun e w' => e = .returned (.iface T v) ∧ w' = w.setCell ⟨b, 0, none⟩ (.iface T v) := by
  go_enter Tryz.func74, Tryz.ntmps74
  go_wp2_with fail
  go_ret
  exact ⟨rfl, rfl⟩

/-- The method's fact, at whatever node. -/
theorem meth_any {T : TypeId} (hT : T = 48 ∨ T = 84 ∨ T = 86 ∨ T = 89 ∨ T = 91) (n : Nat) (p : Option Addr) (w : World) (hc : w.cell? ⟨n, 0, none⟩ = some (.pointer p)) :
    (method 283 T (.pointer (some ⟨n, 0, none⟩)) cn).run Tryz.prog w = .ok (74, .pointer p) w := by
  rcases hT with rfl | rfl | rfl | rfl | rfl
  · exact m48 n p w hc
  · exact m84 n p w hc
  · exact m86 n p w hc
  · exact m89 n p w hc
  · exact m91 n p w hc

theorem New.undrew {w w1 : World} {b n : Nat} {s : Stp} (h : New w.drew w1 b n s) : New w w1 b n s :=
  { h with bel := ((Below.refl _ _).drew).trans h.bel }

/-- A builder's step: its own pointer back, the chain longer by the step, nothing else of what was there is turned but the builder and the last block. -/
def PushEnd (w : World) (pb : Nat) (ss : List Stp) (rn rb e0 : Nat) (s : Stp) (e : Ending) (w' : World) : Prop :=
  e = .returned (.pointer (some ⟨pb, 0, none⟩)) ∧ (∃ e' T' nn', w.heap.size ≤ e' ∧ St w' pb (ss ++ [s]) rn rb e' T' nn') ∧ ∀ B, B ≤ pb → B ≤ e0 → B ≤ w.heap.size → Below B w w'
theorem push_end {w w1 : World} {pb rn rb e T nn b n : Nat} {ss : List Stp} {s : Stp} (h : St w pb ss rn rb e T nn) (hN : New w.drew w1 b n s) :
    PushEnd w pb ss rn rb e s (.returned (.pointer (some ⟨pb, 0, none⟩))) ((w1.setCell ⟨e, 0, none⟩ (.iface s.ty (.pointer (some ⟨n, 0, none⟩)))).setCell ⟨pb, 1, none⟩ (.iface s.ty (.pointer (some ⟨n, 0, none⟩)))) :=
  ⟨rfl, ⟨_, _, _, hN.hb, h.push hN.undrew⟩, fun _ h1 h2 h3 => ((hN.undrew.bel.mono h3).setCell h2 _).setCell h1 _⟩

end Go.Proofs.YtppgnpnkcilmeaaGreatDoor.Pth
