/-
  THE WALK of PathOf: the text of the steps.
-/
import Derived.Test.YtppgnpnkcilmeaaGreatDoorDec
import Derived.Test.YtppgnpnkcilmeaaGreatDoorTxtB
import Derived.Test.YtppgnpnkcilmeaaGreatDoorPFnPathTextx0
namespace Go.Proofs.YtppgnpnkcilmeaaGreatDoor.Pth
open Go.RowKit Go.Proofs.YtppgnpnkcilmeaaGreatDoorW.PrintWords Go.Proofs.YtppgnpnkcilmeaaGreatDoorW.PrintLast Go.Proofs.YtppgnpnkcilmeaaGreatDoorW.PrintMore
open Go.Proofs.YtppgnpnkcilmeaaGreatDoor.Str Go.Proofs.YtppgnpnkcilmeaaGreatDoor.PFnPathText
set_option maxRecDepth 100000

/-- The step that a record tells. -/
def toStp (x : S34) : Stp := if x.f0 = 0 then .key x.f1.data.toList else if x.f0 = 1 then .idx x.f2.toNat else if x.f0 = 2 then .all else .deep x.f1.data.toList
structure OkS (x : S34) : Prop where
  kind : x.f0 = 0 ∨ x.f0 = 1 ∨ x.f0 = 2 ∨ x.f0 = 3
  name : x.f1.size ≤ 9
  lo : 0 ≤ x.f2
  hi : x.f2 < 1000000

theorem tx_len (x : S34) (h : OkS x) : (toStp x).tx.length ≤ 30 := by
  have hn : x.f1.data.toList.length ≤ 9 := h.name
  have hn2 := h.name
  have hd := dec_len20 x.f2.toNat (by have := h.lo; have := h.hi; omega)
  unfold toStp
  split
  · simp [Stp.tx]; omega
  · split
    · simp [Stp.tx]; omega
    · split
      · simp [Stp.tx]
      · simp [Stp.tx]; omega
theorem ptx_len : ∀ (xs : List S34), (∀ x ∈ xs, OkS x) → (ptx (xs.map toStp)).length ≤ 30 * xs.length
  | [], _ => by simp [ptx]
  | x :: xs, h => by
    have h1 := tx_len x (h x List.mem_cons_self)
    have h2 := ptx_len xs (fun y hy => h y (List.mem_cons_of_mem _ hy))
    have e : ptx ((x :: xs).map toStp) = (toStp x).tx ++ ptx (xs.map toStp) := rfl
    rw [e, List.length_append, List.length_cons]
    omega

/-- The text of the first k steps. -/
def upTo (xs : List S34) (k : Nat) : ByteArray := B (36 :: ptx ((xs.take k).map toStp))
theorem upTo_succ (xs : List S34) (k : Nat) (h : k < xs.length) : upTo xs (k + 1) = upTo xs k ++ B (toStp xs[k]).tx := by
  unfold upTo
  rw [List.take_succ_eq_append_getElem h, List.map_append, List.map_cons, List.map_nil]
  have e : ptx ((xs.take k).map toStp ++ [toStp xs[k]]) = ptx ((xs.take k).map toStp) ++ (toStp xs[k]).tx := by simp [ptx]
  rw [e, ← List.cons_append]
  exact (app _ _ _ rfl).symm
theorem upTo_size (xs : List S34) (k : Nat) (hx : xs.length ≤ 8) (ho : ∀ x ∈ xs, OkS x) : (upTo xs k).size ≤ 500 := by
  have h := ptx_len (xs.take k) (fun x hx => ho x (List.mem_of_mem_take hx))
  have h2 : (xs.take k).length ≤ 8 := by rw [List.length_take]; omega
  unfold upTo
  rw [B_size, List.length_cons]
  omega

set_option maxHeartbeats 4000000 in
theorem pathOf_any (A : Option Addr) (cp : Nat) (xs : List S34) (w : World) (hC : Kd.C k34 w A xs.length xs) (hx : xs.length ≤ 8) (ho : ∀ x ∈ xs, OkS x) :
    Calls Tryz.prog 5 #[.slice A xs.length cp] w fun e w' => e = .returned (.string (B (36 :: ptx (xs.map toStp)))) ∧ Below w.heap.size w w' := by
  have hfin : upTo xs xs.length = B (36 :: ptx (xs.map toStp)) := by unfold upTo; rw [List.take_length]
  rw [← hfin]
  have h36 : upTo xs 0 = (⟨#[36]⟩ : ByteArray) := rfl
  have HS := Lib.hid (fun k => upTo_size xs k hx ho)
  have HU := Lib.hid (upTo_succ xs)
  have HC := Lib.hid hC
  have HO := Lib.hid ho
  clear hfin hC ho
  go_enter Tryz.func5, Tryz.ntmps5
  go_wp2_with fail
  rw [← h36]
  go_loopw [3, 8] (fun o i wr => ∃ k : Nat, k ≤ xs.length ∧ o = .string (upTo xs k) ∧ i = .int .i64 k ∧ Below w.heap.size w wr) (fun _ i _ => xs.length - (intOf i).toNat)
  case atStart => exact ⟨0, by omega, rfl, rfl, Below.refl _ _⟩
  case round =>
    obtain ⟨k, hk, rfl, rfl, hb⟩ := hrel
    by_cases hkn : k < xs.length
    · have t0 : decide ((k : Int) < (xs.length : Int)) = true := decide_eq_true (by omega)
      have t0n : decide (k < xs.length) = true := decide_eq_true hkn
      obtain ⟨ad, rfl, g0, g1, g2⟩ := at_T34 (Kd.C_below HC.out hb) (k : Int) (by omega) (by omega)
      have hrd : rd_T34 xs (k : Int) = xs[k] := by
        unfold rd_T34
        rw [show ((k : Int)).toNat = k by omega, List.getD_eq_getElem?_getD, List.getElem?_eq_getElem hkn]
        rfl
      have hu := HU.out k hkn
      have hox := HO.out _ (List.getElem_mem hkn)
      rw [hrd, show ((k : Int)).toNat = k by omega] at g0 g1 g2
      have hsz := HS.out k
      generalize xs[k] = x at *
      obtain ⟨f0, f1, f2⟩ := x
      obtain ⟨kind, name, lo, hi⟩ := hox
      simp only at kind name lo hi g0 g1 g2
      have hbz := hb.size
      have e46 : B (46 :: f1.data.toList) = ⟨#[46]⟩ ++ f1 := (app [46] f1.data.toList (46 :: f1.data.toList) rfl).symm.trans (by rw [← eq_B]; rfl)
      have e4646 : B (46 :: 46 :: f1.data.toList) = ⟨#[46, 46]⟩ ++ f1 := (app [46, 46] f1.data.toList (46 :: 46 :: f1.data.toList) rfl).symm.trans (by rw [← eq_B]; rfl)
      have hzn := HS.out (k + 1)
      rcases kind with rfl | rfl | rfl | rfl
      · rw [show (toStp ⟨0, f1, f2⟩).tx = 46 :: f1.data.toList from rfl, e46] at hu
        clear e46 e4646
        generalize upTo xs k = o0 at *
        go_wp2_with fail
        go_roundw
        case measure => simp [intOf]; omega
        case rel => exact ⟨k + 1, by omega, by rw [hu], by go_num, Below.alloc hb (by omega) _⟩
      · obtain ⟨n, rfl⟩ : ∃ n : Nat, f2 = (n : Int) := ⟨f2.toNat, by omega⟩
        have hn : n < 1000000 := by omega
        have e91 : B (91 :: (Lib.decDigits n ++ [93])) = ⟨#[91]⟩ ++ B (Lib.decDigits n) ++ ⟨#[93]⟩ := (app (91 :: Lib.decDigits n) [93] (91 :: (Lib.decDigits n ++ [93])) rfl).symm.trans (by rw [← app [91] (Lib.decDigits n) (91 :: Lib.decDigits n) rfl]; rfl)
        have hdz : (B (Lib.decDigits n)).size ≤ 20 := by rw [B_size]; exact dec_len20 n hn
        rw [show (toStp ⟨1, f1, (n : Int)⟩).tx = 91 :: (Lib.decDigits n ++ [93]) from rfl, e91] at hu
        have HD := Lib.hid (fun w => dec_any (n + 1) n (by omega) hn w)
        have hwr : IntKind.i64.wrap (n : Int) = n := by rw [IntKind.wrap_i64]; omega
        clear e46 e4646 e91
        generalize upTo xs k = o0 at *
        generalize B (Lib.decDigits n) = dn at *
        go_wp2_with fail
        refine (HD.out _).mono ?_
        rintro e w1 ⟨rfl, hb1⟩
        have x1 : Below w.heap.size w w1 := (Below.alloc hb (by omega) _).trans (hb1.mono (by simp; omega))
        go_wp2_with fail
        go_roundw
        case measure => simp [intOf]; omega
        case rel => exact ⟨k + 1, by omega, by rw [hu], by go_num, x1⟩
      · rw [show (toStp ⟨2, f1, f2⟩).tx = [91, 42, 93] from rfl, show B [91, 42, 93] = (⟨#[91, 42, 93]⟩ : ByteArray) from rfl] at hu
        clear e46 e4646
        generalize upTo xs k = o0 at *
        go_wp2_with fail
        go_roundw
        case measure => simp [intOf]; omega
        case rel => exact ⟨k + 1, by omega, by rw [hu], by go_num, Below.alloc hb (by omega) _⟩
      · rw [show (toStp ⟨3, f1, f2⟩).tx = 46 :: 46 :: f1.data.toList from rfl, e4646] at hu
        clear e46 e4646
        generalize upTo xs k = o0 at *
        go_wp2_with fail
        go_roundw
        case measure => simp [intOf]; omega
        case rel => exact ⟨k + 1, by omega, by rw [hu], by go_num, Below.alloc hb (by omega) _⟩
    · have hke : k = xs.length := by omega
      subst hke
      have t0 : decide ((xs.length : Int) < (xs.length : Int)) = false := decide_eq_false (by omega)
      go_wp2_with fail
      go_ret
      exact ⟨rfl, hb⟩
end Go.Proofs.YtppgnpnkcilmeaaGreatDoor.Pth
