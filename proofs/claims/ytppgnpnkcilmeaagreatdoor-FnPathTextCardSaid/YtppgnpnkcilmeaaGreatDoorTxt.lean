/-
  THE WALKS of a path's text: each node's String, by the text of its child.
-/
import Derived.Test.YtppgnpnkcilmeaaGreatDoorBldB
import Derived.Test.YtppgnpnkcilmeaaGreatDoorSel
import Derived.Test.YtppgnpnkcilmeaaGreatDoorFmt
namespace Go.Proofs.YtppgnpnkcilmeaaGreatDoor.Pth
open Go.RowKit Go.Proofs.YtppgnpnkcilmeaaGreatDoorW.PrintWords Go.Proofs.YtppgnpnkcilmeaaGreatDoorW.PrintLast Go.Proofs.YtppgnpnkcilmeaaGreatDoorW.PrintMore
open Go.Proofs.YtppgnpnkcilmeaaGreatDoor.Str Go.Shelf
set_option maxRecDepth 100000

abbrev Tab (w : World) : Prop := Lib.TabIs Tryz.prog w "internal/strconv.uint64pow10" .u64 Lib.pow10Tab

/-- A node whose text is r: its method, and its walk from now on. -/
def TextOf (w : World) (v : Value) (r : List UInt8) : Prop :=
  ∃ T f n, v = .iface T (.pointer (some ⟨n, 0, none⟩)) ∧ (∀ W, (method 283 T (.pointer (some ⟨n, 0, none⟩)) "String").run Tryz.prog W = .ok (f, .pointer (some ⟨n, 0, none⟩)) W) ∧
    (∀ args W, (callFunc f args).run Tryz.prog W = .ok (.enter f args) W) ∧
    ∀ w', Below w.heap.size w w' → Calls Tryz.prog f #[.pointer (some ⟨n, 0, none⟩)] w' fun e w2 => e = .returned (.string (B r)) ∧ Below w'.heap.size w' w2
/-- What hangs on a node's block: nothing, or a node of the text r. -/
def ChildOk (w : World) (b : Nat) (r : List UInt8) : Prop :=
  (w.cell? ⟨b, 0, none⟩ = some .nilIface ∧ r = []) ∨ ∃ v, w.cell? ⟨b, 0, none⟩ = some v ∧ TextOf w v r

theorem app (a b c : List UInt8) (h : a ++ b = c) : B a ++ B b = B c := by
  subst h
  exact B_ext (by simp [B, ByteArray.data_append])
theorem lit1 (c : UInt8) : (⟨#[c]⟩ : ByteArray) = B [c] := rfl

set_option maxHeartbeats 1000000 in
theorem all_str (n b : Nat)  (r : List UInt8) (w : World) (h0 : w.cell? ⟨n, 0, none⟩ = some (.pointer (some ⟨b, 0, none⟩))) (hk : ChildOk w b r) (hr : r.length ≤ 100000) :
    Calls Tryz.prog 93 #[.pointer (some ⟨n, 0, none⟩)] w fun e w2 => e = .returned (.string (B (([91, 42, 93] : List UInt8) ++ r))) ∧ Below w.heap.size w w2 := by
  have hX : (⟨#[91, 42, 93]⟩ : ByteArray) = B [91, 42, 93] := rfl
  have hXs : (B [91, 42, 93]).size = 3 := rfl
  have hh0 : B (([91, 42, 93] : List UInt8) ++ []) = B (([91, 42, 93] : List UInt8)) := by rw [List.append_nil]
  have hh := app (([91, 42, 93] : List UInt8)) r _ rfl
  have hsr : (B r).size ≤ 100000 := by rw [B_size]; exact hr
  rcases hk with ⟨hc, rfl⟩ | ⟨v, hc, T, f, m, rfl, hm, hf, hC⟩
  · clear hh hsr
    rw [hh0]
    clear hh0
    rw [← hX] at *
    go_enter Tryz.func93, Tryz.ntmps93
    go_wp2_with fail
    go_ret
    exact ⟨rfl, Below.refl _ _⟩
  · have H := Lib.hid hC
    clear hC hh0
    generalize B (([91, 42, 93] : List UInt8) ++ r) = ro at *
    generalize B r = rb at *
    rw [← hX] at *
    go_enter Tryz.func93, Tryz.ntmps93
    go_wp2_with fail
    refine (H.out _ (Below.refl _ _)).mono ?_
    rintro e w2 ⟨rfl, hb2⟩
    have x2 := hb2
    go_wp2_with fail
    go_ret
    exact ⟨rfl, x2⟩

set_option maxHeartbeats 1000000 in
theorem root_str (n b : Nat)  (r : List UInt8) (w : World) (h0 : w.cell? ⟨n, 0, none⟩ = some (.pointer (some ⟨b, 0, none⟩))) (hk : ChildOk w b r) (hr : r.length ≤ 100000) :
    Calls Tryz.prog 73 #[.pointer (some ⟨n, 0, none⟩)] w fun e w2 => e = .returned (.string (B (([36] : List UInt8) ++ r))) ∧ Below w.heap.size w w2 := by
  have hX : (⟨#[36]⟩ : ByteArray) = B [36] := rfl
  have hXs : (B [36]).size = 1 := rfl
  have hh0 : B (([36] : List UInt8) ++ []) = B (([36] : List UInt8)) := by rw [List.append_nil]
  have hh := app (([36] : List UInt8)) r _ rfl
  have hsr : (B r).size ≤ 100000 := by rw [B_size]; exact hr
  rcases hk with ⟨hc, rfl⟩ | ⟨v, hc, T, f, m, rfl, hm, hf, hC⟩
  · clear hh hsr
    rw [hh0]
    clear hh0
    rw [← hX] at *
    go_enter Tryz.func73, Tryz.ntmps73
    go_wp2_with fail
    go_ret
    exact ⟨rfl, Below.refl _ _⟩
  · have H := Lib.hid hC
    clear hC hh0
    generalize B (([36] : List UInt8) ++ r) = ro at *
    generalize B r = rb at *
    rw [← hX] at *
    go_enter Tryz.func73, Tryz.ntmps73
    go_wp2_with fail
    refine (H.out _ (Below.refl _ _)).mono ?_
    rintro e w2 ⟨rfl, hb2⟩
    have x2 := hb2
    go_wp2_with fail
    go_ret
    exact ⟨rfl, x2⟩

set_option maxHeartbeats 1000000 in
theorem deep_str (n b : Nat) (l : List UInt8) (hl : l.length ≤ 1000) (r : List UInt8) (w : World) (h1 : w.cell? ⟨n, 1, none⟩ = some (.string (B l))) (h0 : w.cell? ⟨n, 0, none⟩ = some (.pointer (some ⟨b, 0, none⟩))) (hk : ChildOk w b r) (hr : r.length ≤ 100000) :
    Calls Tryz.prog 101 #[.pointer (some ⟨n, 0, none⟩)] w fun e w2 => e = .returned (.string (B (46 :: 46 :: l ++ r))) ∧ Below w.heap.size w w2 := by
  have hX := app [46, 46] l (46 :: 46 :: l) rfl
  have hXs : (B (46 :: 46 :: l)).size ≤ 1002 := by rw [B_size]; simp; omega
  have hls : (B l).size ≤ 1000 := by rw [B_size]; exact hl
  rw [show B [46, 46] = (⟨#[46, 46]⟩ : ByteArray) from rfl] at hX
  have hh0 : B (46 :: 46 :: l ++ []) = B (46 :: 46 :: l) := by rw [List.append_nil]
  have hh := app (46 :: 46 :: l) r _ rfl
  have hsr : (B r).size ≤ 100000 := by rw [B_size]; exact hr
  rcases hk with ⟨hc, rfl⟩ | ⟨v, hc, T, f, m, rfl, hm, hf, hC⟩
  · clear hh hsr
    rw [hh0]
    clear hh0
    generalize B (46 :: 46 :: l) = X at *
    generalize B l = lb at *
    go_enter Tryz.func101, Tryz.ntmps101
    go_wp2_with fail
    go_ret
    exact ⟨rfl, Below.refl _ _⟩
  · have H := Lib.hid hC
    clear hC hh0
    generalize B (46 :: 46 :: l ++ r) = ro at *
    generalize B r = rb at *
    generalize B (46 :: 46 :: l) = X at *
    generalize B l = lb at *
    go_enter Tryz.func101, Tryz.ntmps101
    go_wp2_with fail
    refine (H.out _ (Below.refl _ _)).mono ?_
    rintro e w2 ⟨rfl, hb2⟩
    have x2 := hb2
    go_wp2_with fail
    go_ret
    exact ⟨rfl, x2⟩

set_option maxHeartbeats 1000000 in
theorem key_str (n b : Nat) (l : List UInt8) (hp : Plain l) (r : List UInt8) (w : World) (h1 : w.cell? ⟨n, 1, none⟩ = some (.string (B l))) (h0 : w.cell? ⟨n, 0, none⟩ = some (.pointer (some ⟨b, 0, none⟩))) (hk : ChildOk w b r) (hr : r.length ≤ 100000) :
    Calls Tryz.prog 81 #[.pointer (some ⟨n, 0, none⟩)] w fun e w2 => e = .returned (.string (B (46 :: l ++ r))) ∧ Below w.heap.size w w2 := by
  have hX := app [46] l (46 :: l) rfl
  have hXs : (B (46 :: l)).size ≤ 1002 := by rw [B_size]; have := hp.len; simp; omega
  have hls : (B l).size ≤ 1000 := by rw [B_size]; exact hp.len
  rw [show B [46] = (⟨#[46]⟩ : ByteArray) from rfl] at hX
  have HN := Lib.hid (normal_any l hp)
  have hh0 : B (46 :: l ++ []) = B (46 :: l) := by rw [List.append_nil]
  have hh := app (46 :: l) r _ rfl
  have hsr : (B r).size ≤ 100000 := by rw [B_size]; exact hr
  rcases hk with ⟨hc, rfl⟩ | ⟨v, hc, T, f, m, rfl, hm, hf, hC⟩
  · clear hh hsr
    rw [hh0]
    clear hh0
    generalize B (46 :: l) = X at *
    generalize B l = lb at *
    have ha := fun o => cell_below ((Below.refl w.heap.size w).alloc (Nat.le_refl _) o) h1
    go_enter Tryz.func81, Tryz.ntmps81
    go_wp2_with fail
    refine (HN.out _ _).mono ?_
    rintro e w1 ⟨rfl, hb1⟩
    have x1 : Below w.heap.size w w1 := ((Below.refl _ _).alloc (Nat.le_refl _) _).trans (hb1.mono (by simp))
    have g0 := cell_below x1 h0
    have g1 := cell_below x1 hc
    go_wp2_with fail
    go_ret
    exact ⟨rfl, x1⟩
  · have H := Lib.hid hC
    clear hC hh0
    generalize B (46 :: l ++ r) = ro at *
    generalize B r = rb at *
    generalize B (46 :: l) = X at *
    generalize B l = lb at *
    have ha := fun o => cell_below ((Below.refl w.heap.size w).alloc (Nat.le_refl _) o) h1
    go_enter Tryz.func81, Tryz.ntmps81
    go_wp2_with fail
    refine (HN.out _ _).mono ?_
    rintro e w1 ⟨rfl, hb1⟩
    have x1 : Below w.heap.size w w1 := ((Below.refl _ _).alloc (Nat.le_refl _) _).trans (hb1.mono (by simp))
    have g0 := cell_below x1 h0
    have g1 := cell_below x1 hc
    go_wp2_with fail
    refine (H.out _ x1).mono ?_
    rintro e w2 ⟨rfl, hb2⟩
    have x2 := x1.trans (hb2.mono x1.size)
    go_wp2_with fail
    go_ret
    exact ⟨rfl, x2⟩

theorem dec_len (i : Nat) (hi : i < 1000000) : (Lib.decDigits i).length ≤ 20 := by
  rw [Lib.decDigits_length]
  by_cases h : i = 0
  · subst h; rw [Lib.nDigits_small (by omega)]; omega
  · have := Lib.numDigits_eq i (by omega) (by omega); split at this <;> omega
set_option maxHeartbeats 1000000 in
theorem idx_str (n b : Nat) (i : Nat) (hi : i < 1000000) (r : List UInt8) (w : World) (ht : Tab w) (h1 : w.cell? ⟨n, 1, none⟩ = some (.int .u64 i)) (h0 : w.cell? ⟨n, 0, none⟩ = some (.pointer (some ⟨b, 0, none⟩))) (hk : ChildOk w b r) (hr : r.length ≤ 100000) :
    Calls Tryz.prog 96 #[.pointer (some ⟨n, 0, none⟩)] w fun e w2 => e = .returned (.string (B (91 :: (Lib.decDigits i ++ [93]) ++ r))) ∧ Below w.heap.size w w2 := by
  have hX0 := app [91] (Lib.decDigits i) (91 :: Lib.decDigits i) rfl
  have hX := app (91 :: Lib.decDigits i) [93] (91 :: (Lib.decDigits i ++ [93])) rfl
  have hd : (Lib.decDigits i).length ≤ 20 := dec_len i hi
  have hXs : (B (91 :: (Lib.decDigits i ++ [93]))).size ≤ 1002 := by rw [B_size]; simp; omega
  have hX0s : (B (91 :: Lib.decDigits i)).size ≤ 1002 := by rw [B_size]; simp; omega
  have hls : (B (Lib.decDigits i)).size ≤ 20 := by rw [B_size]; exact hd
  rw [show B [91] = (⟨#[91]⟩ : ByteArray) from rfl] at hX0
  rw [show B [93] = (⟨#[93]⟩ : ByteArray) from rfl] at hX
  have HN := Lib.hid (fmt_any i hi w ht)
  rw [show (⟨(Lib.decDigits i).toArray⟩ : ByteArray) = B (Lib.decDigits i) from rfl] at HN
  clear ht
  have hh0 : B (91 :: (Lib.decDigits i ++ [93]) ++ []) = B (91 :: (Lib.decDigits i ++ [93])) := by rw [List.append_nil]
  have hh := app (91 :: (Lib.decDigits i ++ [93])) r _ rfl
  have hsr : (B r).size ≤ 100000 := by rw [B_size]; exact hr
  rcases hk with ⟨hc, rfl⟩ | ⟨v, hc, T, f, m, rfl, hm, hf, hC⟩
  · clear hh hsr
    rw [hh0]
    clear hh0
    generalize B (91 :: (Lib.decDigits i ++ [93])) = X at *
    generalize B (91 :: Lib.decDigits i) = X0 at *
    generalize B (Lib.decDigits i) = lb at *
    go_enter Tryz.func96, Tryz.ntmps96
    go_wp2_with fail
    refine HN.out.mono ?_
    rintro e w1 ⟨rfl, x1⟩
    have g0 := cell_below x1 h0
    have g1 := cell_below x1 hc
    go_wp2_with fail
    go_ret
    exact ⟨rfl, x1⟩
  · have H := Lib.hid hC
    clear hC hh0
    generalize B (91 :: (Lib.decDigits i ++ [93]) ++ r) = ro at *
    generalize B r = rb at *
    generalize B (91 :: (Lib.decDigits i ++ [93])) = X at *
    generalize B (91 :: Lib.decDigits i) = X0 at *
    generalize B (Lib.decDigits i) = lb at *
    go_enter Tryz.func96, Tryz.ntmps96
    go_wp2_with fail
    refine HN.out.mono ?_
    rintro e w1 ⟨rfl, x1⟩
    have g0 := cell_below x1 h0
    have g1 := cell_below x1 hc
    go_wp2_with fail
    refine (H.out _ x1).mono ?_
    rintro e w2 ⟨rfl, hb2⟩
    have x2 := x1.trans (hb2.mono x1.size)
    go_wp2_with fail
    go_ret
    exact ⟨rfl, x2⟩

end Go.Proofs.YtppgnpnkcilmeaaGreatDoor.Pth
