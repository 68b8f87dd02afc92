/-
  THE WALK of the path builder's step 'index': behind whatever kind of node.
-/
import Derived.Test.YtppgnpnkcilmeaaGreatDoorBldB
import Derived.Deep.RegionWith
namespace Go.Proofs.YtppgnpnkcilmeaaGreatDoor.Pth
open Go.RowKit Go.Proofs.YtppgnpnkcilmeaaGreatDoorW.PrintWords Go.Proofs.YtppgnpnkcilmeaaGreatDoorW.PrintLast Go.Proofs.YtppgnpnkcilmeaaGreatDoorW.PrintMore
open Go.Proofs.YtppgnpnkcilmeaaGreatDoor.Str
set_option maxRecDepth 100000

set_option maxHeartbeats 2000000 in
theorem index_any {w : World} {pb rn rb e T nn : Nat} {ss : List Stp} (h : St w pb ss rn rb e T nn) (i : Nat) :
    Calls Tryz.prog 26 #[.pointer (some ⟨pb, 0, none⟩), .int .u64 i] w (PushEnd w pb ss rn rb e (.idx i)) := by
  have HS := Lib.hid h
  have c1 := h.c1
  have f1 := h.f1
  have hn := h.cn
  have hcE := h.ce
  have hfE := h.fe
  have hepb := h.epb
  have hT := h.hT
  have ub := lt_of_cell h.c1
  have ue := lt_of_cell h.ce
  simp only at ub ue
  clear h
  rcases hT with rfl | rfl | rfl | rfl | rfl
  all_goals
    go_enter Tryz.func26, Tryz.ntmps26
    go_wp2_with fail
    go_region_with (first | (go_at_call 32; refine (newIdx _ _).mono ?_; rintro ee w1 ⟨b, n, rfl, hN⟩; have q1 : w1.cell? ⟨pb, 1, none⟩ = some (.iface _ (.pointer (some ⟨nn, 0, none⟩))) := cell_below hN.bel c1; have q2 : w1.cell? ⟨nn, 0, none⟩ = some (.pointer (some ⟨e, 0, none⟩)) := cell_below hN.bel hn; have q3 := meth_any HS.out.hT nn _ w1 q2; have q4 : w1.cell? ⟨e, 0, none⟩ = some .nilIface := cell_below hN.bel hcE; have q5 : w1.frozen? ⟨e, 0, none⟩ = false := (hN.bel.frozen ue).trans hfE; have q6 : w1.frozen? ⟨pb, 1, none⟩ = false := (hN.bel.frozen ub).trans f1) | (go_at_call 74; refine (chain_any e _ _ _ (by assumption) (by assumption)).mono ?_; rintro ee2 w2 ⟨rfl, rfl⟩; have q7 : (w1.setCell ⟨e, 0, none⟩ (.iface 89 (.pointer (some ⟨n, 0, none⟩)))).cell? ⟨pb, 1, none⟩ = some (.iface _ (.pointer (some ⟨nn, 0, none⟩))) := (World.cell?_setCell_other _ _ _ _ (by intro hh; injection hh with h1; exact hepb h1)).trans q1))
    all_goals (go_wp2_with fail; go_ret; exact push_end HS.out hN)

end Go.Proofs.YtppgnpnkcilmeaaGreatDoor.Pth
