/-
  THE PATH BUILDER's heap: the chain of nodes ('Seg'), the builder's state ('St'), and what one step more does to it ('St.push'). No program in sight but the cells.
-/
import Derived.Test.YtppgnpnkcilmeaaGreatDoorMeth
import Derived.Test.YtppgnpnkcilmeaaGreatDoorStr
namespace Go.Proofs.YtppgnpnkcilmeaaGreatDoor.Pth
open Go.RowKit Go.Proofs.YtppgnpnkcilmeaaGreatDoor.Str

/-- A step of a path. -/
inductive Stp
  | key (l : List UInt8)
  | idx (i : Nat)
  | all
  | deep (l : List UInt8)

/-- The type of its node, and the second cell of the node. -/
def Stp.ty : Stp → TypeId
  | .key _ => 84
  | .idx _ => 89
  | .all => 86
  | .deep _ => 91
def Stp.pl : Stp → Option Value
  | .key l => some (.string (B l))
  | .idx i => some (.int .u64 i)
  | .all => none
  | .deep l => some (.string (B l))

def NodeC (w : World) (s : Stp) (n b : Nat) : Prop := w.cell? ⟨n, 0, none⟩ = some (.pointer (some ⟨b, 0, none⟩)) ∧ ∀ v, s.pl = some v → w.cell? ⟨n, 1, none⟩ = some v

/-- The nodes of the steps, from the block b of the one before on; e: the block of the last one (its child is nil); none of them is the block pb. -/
def Seg (w : World) (pb e : Nat) : Nat → List Stp → Prop
  | b, [] => b = e ∧ w.cell? ⟨b, 0, none⟩ = some .nilIface
  | b, s :: ss => b ≠ e ∧ b ≠ pb ∧ ∃ n b', n ≠ e ∧ n ≠ pb ∧ w.cell? ⟨b, 0, none⟩ = some (.iface s.ty (.pointer (some ⟨n, 0, none⟩))) ∧ NodeC w s n b' ∧ Seg w pb e b' ss

/-- A new node and its block. -/
structure New (w w' : World) (b n : Nat) (s : Stp) : Prop where
  hb : w.heap.size ≤ b
  hbn : b < n
  hn : n < w'.heap.size
  bel : Below w.heap.size w w'
  cb : w'.cell? ⟨b, 0, none⟩ = some .nilIface
  fb : w'.frozen? ⟨b, 0, none⟩ = false
  nc : NodeC w' s n b

theorem lt_of_cell {w : World} {a : Addr} {v : Value} (h : w.cell? a = some v) : a.block < w.heap.size := by
  rcases Nat.lt_or_ge a.block w.heap.size with h1 | h1
  · exact h1
  · exfalso
    have h2 : w.heap[a.block]? = none := Array.getElem?_eq_none h1
    simp [World.cell?, h2] at h
theorem cell_below {w w' : World} (h : Below w.heap.size w w') {a : Addr} {v : Value} (hc : w.cell? a = some v) : w'.cell? a = some v := by
  rw [h.cell (lt_of_cell hc)]; exact hc

theorem NodeC.of {w w' : World} {s : Stp} {n b : Nat} (h : NodeC w s n b) (hk : ∀ o v, w.cell? ⟨n, o, none⟩ = some v → w'.cell? ⟨n, o, none⟩ = some v) : NodeC w' s n b :=
  ⟨hk _ _ h.1, fun v hv => hk _ _ (h.2 v hv)⟩

/-- Where all cells but the last block's and pb's are kept, and the last block gets the new node, the chain is longer by it. -/
theorem Seg.push {w w' : World} {pb e b n : Nat} {s : Stp} (hk : ∀ a v, a.block ≠ e → a.block ≠ pb → w.cell? a = some v → w'.cell? a = some v)
    (hbe : w.heap.size ≤ b) (hn : w.heap.size ≤ n) (hepb : e ≠ pb) (hpb : pb < w.heap.size)
    (he : w'.cell? ⟨e, 0, none⟩ = some (.iface s.ty (.pointer (some ⟨n, 0, none⟩)))) (hN : NodeC w' s n b) (hc : w'.cell? ⟨b, 0, none⟩ = some .nilIface) (hbn : b ≠ n) :
    ∀ (ss : List Stp) (c : Nat), Seg w pb e c ss → Seg w' pb b c (ss ++ [s])
  | [], c, h => by
    obtain ⟨rfl, h1⟩ := h
    have := lt_of_cell h1
    simp only at this
    exact ⟨by omega, hepb, n, b, by omega, by omega, he, hN, rfl, hc⟩
  | x :: ss, c, h => by
    obtain ⟨h1, h2, m, c', h3, h4, h5, h6, h7⟩ := h
    have l1 := lt_of_cell h5
    have l2 := lt_of_cell h6.1
    simp only at l1 l2
    exact ⟨by omega, h2, m, c', by omega, h4, hk _ _ h1 h2 h5, h6.of (fun o v hv => hk _ _ h3 h4 hv), Seg.push hk hbe hn hepb hpb he hN hc hbn ss c' h7⟩

/-- The builder: its block pb holds the root and the last node; e: the last node's block. -/
structure St (w : World) (pb : Nat) (ss : List Stp) (rn rb e : Nat) (T : TypeId) (nn : Nat) : Prop where
  c0 : w.cell? ⟨pb, 0, none⟩ = some (.pointer (some ⟨rn, 0, none⟩))
  c1 : w.cell? ⟨pb, 1, none⟩ = some (.iface T (.pointer (some ⟨nn, 0, none⟩)))
  f1 : w.frozen? ⟨pb, 1, none⟩ = false
  cr : w.cell? ⟨rn, 0, none⟩ = some (.pointer (some ⟨rb, 0, none⟩))
  rpb : rn ≠ pb
  re : rn ≠ e
  hT : T = 48 ∨ T = 84 ∨ T = 86 ∨ T = 89 ∨ T = 91
  cn : w.cell? ⟨nn, 0, none⟩ = some (.pointer (some ⟨e, 0, none⟩))
  npb : nn ≠ pb
  ne : nn ≠ e
  epb : e ≠ pb
  fe : w.frozen? ⟨e, 0, none⟩ = false
  ce : w.cell? ⟨e, 0, none⟩ = some .nilIface
  seg : Seg w pb e rb ss

theorem Stp.ty_in (s : Stp) : s.ty = 48 ∨ s.ty = 84 ∨ s.ty = 86 ∨ s.ty = 89 ∨ s.ty = 91 := by cases s <;> simp [Stp.ty]

theorem NodeC.lt {w : World} {s : Stp} {n b : Nat} (h : NodeC w s n b) : n < w.heap.size := lt_of_cell h.1

/-- One step more: a new node s, linked from the last one's block, and kept by the builder. -/
theorem St.push {w w1 : World} {pb rn rb e T nn b n : Nat} {ss : List Stp} {s : Stp} (h : St w pb ss rn rb e T nn) (hN : New w w1 b n s) :
    St ((w1.setCell ⟨e, 0, none⟩ (.iface s.ty (.pointer (some ⟨n, 0, none⟩)))).setCell ⟨pb, 1, none⟩ (.iface s.ty (.pointer (some ⟨n, 0, none⟩)))) pb (ss ++ [s]) rn rb b s.ty n := by
  have lpb := lt_of_cell h.c0
  have lrn := lt_of_cell h.cr
  have le := lt_of_cell h.ce
  simp only at lpb lrn le
  have hb := hN.hb
  have hbn := hN.hbn
  have hepb := h.epb
  have hrpb := h.rpb
  have hre := h.re
  generalize hX : Value.iface s.ty (.pointer (some ⟨n, 0, none⟩)) = X
  have key : ∀ (a : Addr) v, a.block ≠ e → a.block ≠ pb → w1.cell? a = some v → ((w1.setCell ⟨e, 0, none⟩ X).setCell ⟨pb, 1, none⟩ X).cell? a = some v := by
    intro a v h1 h2 h3
    rw [World.cell?_setCell_other _ _ _ _ (by rintro rfl; exact h2 rfl), World.cell?_setCell_other _ _ _ _ (by rintro rfl; exact h1 rfl)]
    exact h3
  have he : ((w1.setCell ⟨e, 0, none⟩ X).setCell ⟨pb, 1, none⟩ X).cell? ⟨e, 0, none⟩ = some X := by
    rw [World.cell?_setCell_other _ _ _ _ (by intro hh; injection hh with h1; exact hepb h1.symm)]
    exact World.cell?_setCell_same _ _ _ (cell_below hN.bel h.ce)
  have hfr : ∀ a, ((w1.setCell ⟨e, 0, none⟩ X).setCell ⟨pb, 1, none⟩ X).frozen? a = w1.frozen? a := fun a => by simp
  have hold : ∀ (a : Addr) v, a.block ≠ e → a.block ≠ pb → w.cell? a = some v → ((w1.setCell ⟨e, 0, none⟩ X).setCell ⟨pb, 1, none⟩ X).cell? a = some v :=
    fun a v h1 h2 h3 => key a v h1 h2 (cell_below hN.bel h3)
  have hNC : NodeC ((w1.setCell ⟨e, 0, none⟩ X).setCell ⟨pb, 1, none⟩ X) s n b := hN.nc.of (fun o v hv => key _ _ (by simp only; omega) (by simp only; omega) hv)
  refine { c0 := ?_, c1 := ?_, f1 := ?_, cr := hold _ _ hre hrpb h.cr, rpb := hrpb, re := by omega, hT := s.ty_in, cn := hNC.1, npb := by omega, ne := by omega, epb := by omega, fe := ?_, ce := ?_, seg := ?_ }
  · rw [World.cell?_setCell_other _ _ _ _ (by simp), World.cell?_setCell_other _ _ _ _ (by intro hh; injection hh with h1; exact hepb h1)]
    exact cell_below hN.bel h.c0
  · rw [hX]
    refine World.cell?_setCell_same _ _ _ (u := .iface T (.pointer (some ⟨nn, 0, none⟩))) ?_
    rw [World.cell?_setCell_other _ _ _ _ (by simp)]
    exact cell_below hN.bel h.c1
  · rw [hfr, hN.bel.frozen lpb]
    exact h.f1
  · rw [hfr]
    exact hN.fb
  · exact key _ _ (by simp only; omega) (by simp only; omega) hN.cb
  · exact Seg.push hold hb (by omega) hepb lpb (by rw [hX]; exact he) hNC (key _ _ (by simp only; omega) (by simp only; omega) hN.cb) (by omega) ss rb h.seg
end Go.Proofs.YtppgnpnkcilmeaaGreatDoor.Pth
