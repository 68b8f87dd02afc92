/-
  A PATH's TEXT: Path.String at the path that the builder has built.
-/
import Derived.Test.YtppgnpnkcilmeaaGreatDoorTxt
namespace Go.Proofs.YtppgnpnkcilmeaaGreatDoor.Pth
open Go.RowKit Go.Proofs.YtppgnpnkcilmeaaGreatDoorW.PrintWords Go.Proofs.YtppgnpnkcilmeaaGreatDoorW.PrintLast Go.Proofs.YtppgnpnkcilmeaaGreatDoorW.PrintMore
open Go.Proofs.YtppgnpnkcilmeaaGreatDoor.Str Go.Shelf
set_option maxRecDepth 100000

def Stp.tx : Stp → List UInt8
  | .key l => 46 :: l
  | .idx i => 91 :: (Lib.decDigits i ++ [93])
  | .all => [91, 42, 93]
  | .deep l => 46 :: 46 :: l
def ptx (ss : List Stp) : List UInt8 := ss.flatMap Stp.tx
def Stp.ok : Stp → Prop
  | .key l => Plain l
  | .idx i => i < 1000000
  | .all => True
  | .deep l => Plain l
def Stp.fn : Stp → FuncId
  | .key _ => 81
  | .idx _ => 96
  | .all => 93
  | .deep _ => 101

theorem tab_below {w w' : World} (h : Below w.heap.size w w') (ht : Tab w) : Tab w' := by
  have hg : Tryz.prog.globalNamed "internal/strconv.uint64pow10" = some 5 := by kernel_rfl
  have hlt : 5 < w.heap.size := by
    rcases Nat.lt_or_ge 5 w.heap.size with h1 | h1
    · exact h1
    · exfalso
      have h2 : w.heap[5]? = none := Array.getElem?_eq_none h1
      simp [Tab, Lib.TabIs, World.var?, hg, h2] at ht
  unfold Tab Lib.TabIs at ht ⊢
  rw [← ht]
  unfold World.var?
  rw [hg]
  simp only [Option.bind_some]
  rw [h.block 5 hlt]

theorem TextOf.below {w w' : World} {v : Value} {r : List UInt8} (h : TextOf w v r) (hb : Below w.heap.size w w') : TextOf w' v r := by
  obtain ⟨T, f, n, h1, h2, h3, h4⟩ := h
  exact ⟨T, f, n, h1, h2, h3, fun w'' hw => h4 w'' (hb.trans (hw.mono hb.size))⟩
theorem ChildOk.below {w w' : World} {b : Nat} {r : List UInt8} (h : ChildOk w b r) (hb : Below w.heap.size w w') : ChildOk w' b r := by
  rcases h with ⟨h1, h2⟩ | ⟨v, h1, h2⟩
  · exact .inl ⟨cell_below hb h1, h2⟩
  · exact .inr ⟨v, cell_below hb h1, h2.below hb⟩

theorem str_meth (s : Stp) (n : Nat) (W : World) : (method 283 s.ty (.pointer (some ⟨n, 0, none⟩)) "String").run Tryz.prog W = .ok (s.fn, .pointer (some ⟨n, 0, none⟩)) W := by
  cases s
  · exact (by kernel_rfl : (method 283 84 (.pointer (some ⟨n, 0, none⟩)) "String").run Tryz.prog W = .ok (81, .pointer (some ⟨n, 0, none⟩)) W)
  · exact (by kernel_rfl : (method 283 89 (.pointer (some ⟨n, 0, none⟩)) "String").run Tryz.prog W = .ok (96, .pointer (some ⟨n, 0, none⟩)) W)
  · exact (by kernel_rfl : (method 283 86 (.pointer (some ⟨n, 0, none⟩)) "String").run Tryz.prog W = .ok (93, .pointer (some ⟨n, 0, none⟩)) W)
  · exact (by kernel_rfl : (method 283 91 (.pointer (some ⟨n, 0, none⟩)) "String").run Tryz.prog W = .ok (101, .pointer (some ⟨n, 0, none⟩)) W)
theorem root_meth (n : Nat) (W : World) : (method 283 48 (.pointer (some ⟨n, 0, none⟩)) "String").run Tryz.prog W = .ok (73, .pointer (some ⟨n, 0, none⟩)) W := by kernel_rfl
theorem str_enters (s : Stp) : Enters Tryz.prog s.fn := by
  cases s
  · exact enters_of Tryz.func81 (by kernel_rfl) rfl
  · exact enters_of Tryz.func96 (by kernel_rfl) rfl
  · exact enters_of Tryz.func93 (by kernel_rfl) rfl
  · exact enters_of Tryz.func101 (by kernel_rfl) rfl

theorem seg_child {pb e : Nat} : ∀ (ss : List Stp) (b : Nat) (w : World), Seg w pb e b ss → (∀ s ∈ ss, s.ok) → (ptx ss).length ≤ 100000 → Tab w → ChildOk w b (ptx ss)
  | [], b, w, h, _, _, _ => .inl ⟨h.2, rfl⟩
  | s :: ss, b, w, h, ho, hl, ht => by
    obtain ⟨_, _, n, b', _, _, h5, h6, h7⟩ := h
    have hl1 : (ptx (s :: ss)) = s.tx ++ ptx ss := rfl
    have hl2 : (ptx ss).length ≤ 100000 := by rw [hl1, List.length_append] at hl; omega
    have ih := seg_child ss b' w h7 (fun x hx => ho x (List.mem_cons_of_mem _ hx)) hl2 ht
    have hok := ho s (List.mem_cons_self)
    refine .inr ⟨_, h5, s.ty, s.fn, n, rfl, str_meth s n, str_enters s, fun w' hb => ?_⟩
    have k0 := cell_below hb h6.1
    have ihb := ih.below hb
    have k1 := h6.2
    rw [hl1]
    cases s with
    | key l => exact key_str n b' l hok _ w' (cell_below hb (k1 _ rfl)) k0 ihb hl2
    | idx i => exact idx_str n b' i hok _ w' (tab_below hb ht) (cell_below hb (k1 _ rfl)) k0 ihb hl2
    | all => exact all_str n b' _ w' k0 ihb hl2
    | deep l => exact deep_str n b' l hok.len _ w' (cell_below hb (k1 _ rfl)) k0 ihb hl2

theorem path_str (pa rn : Nat) (r : List UInt8) (w : World) (hp : w.cell? ⟨pa, 0, none⟩ = some (.iface 48 (.pointer (some ⟨rn, 0, none⟩)))) (rb : Nat) (hr : w.cell? ⟨rn, 0, none⟩ = some (.pointer (some ⟨rb, 0, none⟩))) (hk : ChildOk w rb r) (hl : r.length ≤ 100000) :
    Calls Tryz.prog 14 #[.pointer (some ⟨pa, 0, none⟩)] w fun e w2 => e = .returned (.string (B (36 :: r))) ∧ Below w.heap.size w w2 := by
  have H := Lib.hid (root_str rn rb r w hr hk hl)
  have hm := root_meth rn
  clear hk hr
  rw [show [36] ++ r = 36 :: r from rfl] at H
  generalize B (36 :: r) = ro at *
  go_enter Tryz.func14, Tryz.ntmps14
  go_wp2_with fail
  refine H.out.mono ?_
  rintro e w1 ⟨rfl, hb⟩
  go_wp2_with fail
  go_ret
  exact ⟨rfl, hb⟩
end Go.Proofs.YtppgnpnkcilmeaaGreatDoor.Pth
