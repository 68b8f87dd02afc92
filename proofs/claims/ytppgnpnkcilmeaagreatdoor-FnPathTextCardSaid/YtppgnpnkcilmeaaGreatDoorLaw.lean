/-
  THE WALK of FnPathText.
-/
/-
  AN ARGUMENT OF STEPS, OPENED: what a reading of a slice of steps gives the walk.
-/
import Derived.Test.YtppgnpnkcilmeaaGreatDoorPFnPathTextx0
import Derived.Deep.Slices
import Derived.ProofKit
import Derived.Test.YtppgnpnkcilmeaaGreatDoorStp
import Derived.Test.YtppgnpnkcilmeaaGreatDoorPtx
import Derived.Test.YtppgnpnkcilmeaaGreatDoorPFnPathTextx1
namespace Go.Proofs.YtppgnpnkcilmeaaGreatDoor.Pth
open Go.ChangeShapes Go.WideShapes Go.ChangeAt Go.RowKit Go.Deep Go.Proofs.YtppgnpnkcilmeaaGreatDoorW.PrintWords Go.Proofs.YtppgnpnkcilmeaaGreatDoorW.PrintLast Go.Proofs.YtppgnpnkcilmeaaGreatDoorW.PrintMore
open Go.Proofs.YtppgnpnkcilmeaaGreatDoor.PFnPathText
set_option linter.unusedVariables false
set_option maxRecDepth 100000

theorem open_steps {H : Type} {enc : TypeId × Value → H} {W : World} {sp : Nat → Bool} {r : Reach} {base : Nat} {v : Value} {d : DataW H} {ps : List MemPlace}
    (hv : Value.okWide Tryz.prog W r base 22 v) (h : DataW.Trod enc Tryz.prog W 0 sp true 22 v d ps) :
    ∃ (A : Option Addr) (c : Nat) (xs : List S34), v = .slice A xs.length c ∧ xs.length ≤ c ∧ Kd.C k34 W A xs.length xs ∧ ∀ x ∈ xs, 0 ≤ x.f2 := by
  obtain ⟨A, len, cap, rfl⟩ := okWide_slice Tryz.underlying22 hv
  obtain ⟨fuel, hf⟩ := h
  have ce : Tryz.prog.cellsOf 34 = 3 := by kernel_rfl
  have c3 : Tryz.prog.cellsOf 3 = 1 := by kernel_rfl
  have c9 : Tryz.prog.cellsOf 9 = 1 := by kernel_rfl
  have c32 : Tryz.prog.cellsOf 32 = 1 := by kernel_rfl
  rcases open_slice Tryz.underlying22 hf with ⟨h0, _⟩ | ⟨a, len', cap', m, n, D, Pl, h0, hb, hl, hm, hmm, _, hx⟩
  · simp [Value.cells] at h0
    obtain ⟨rfl, rfl, rfl⟩ := h0
    exact ⟨none, 0, [], rfl, Nat.le_refl _, ⟨rfl, by simp, fun h => by simp at h⟩, fun x hx => by cases hx⟩
  · simp [Value.cells] at h0
    obtain ⟨rfl, rfl, rfl⟩ := h0
    have hlm : len ≤ m := by rw [hmm]; split <;> omega
    have each : ∀ i, i < len → ∃ x : S34, 0 ≤ x.f2 ∧ W.cell? (a.add (i * 3)) = some (.int .i64 x.f0) ∧ W.cell? (a.add (i * 3 + 1)) = some (.string x.f1) ∧ W.cell? (a.add (i * 3 + 2)) = some (.int .u64 x.f2) := by
      intro i hi
      obtain ⟨cs', h1, h2⟩ := hx i (by omega)
      rw [ce] at h1
      obtain ⟨_, hlen, hcell⟩ := World.cells?_some h1
      obtain ⟨xs, k, hk, hxy, _, hxl, hfd⟩ := DataW.trod_struct Tryz.underlying34 h2
      have g0 := hfd 0 _ rfl
      have g1 := hfd 1 _ rfl
      have g2 := hfd 2 _ rfl
      match xs, hxl, cs', hlen with
      | [y0, y1, y2], _, [v0, v1, v2], _ =>
        simp [c3, c9, c32] at g0 g1 g2
        have e0 := hcell 0 (by omega)
        have e1 := hcell 1 (by omega)
        have e2 := hcell 2 (by omega)
        rw [Go.Deep.add_add] at e0 e1 e2
        obtain ⟨n0, q0, _, _⟩ := DataW.trod_int Tryz.underlying3 g0
        obtain ⟨s1, q1, _, _⟩ := DataW.trod_string Tryz.underlying9 g1
        obtain ⟨n2, q2, _, w2⟩ := DataW.trod_int Tryz.underlying32 g2
        simp at q0 q1 q2
        subst q0; subst q1; subst q2
        refine ⟨⟨n0, s1, n2⟩, ?_, by simpa using e0, by simpa using e1, by simpa using e2⟩
        simp [Lit.wf, IntKind.min, IntKind.max, IntKind.bits, IntKind.signed] at w2
        exact w2.1
    haveI : Inhabited S34 := ⟨z34⟩
    obtain ⟨q, hq⟩ := choose_lt each
    refine ⟨some a, cap, (List.range len).map q, by simp, by simpa using hl, ⟨by simp, by simp; unfold maxLen at hm; omega, fun _ => ⟨a, rfl, fun j p hj => ?_⟩⟩, fun x hx2 => ?_⟩
    · have hjl : j < len := by
        rcases Nat.lt_or_ge j len with h1 | h1
        · exact h1
        · rw [List.getElem?_eq_none (by simpa using h1)] at hj; cases hj
      rw [List.getElem?_map, List.getElem?_range hjl] at hj
      simp at hj
      subst hj
      obtain ⟨_, h1, h2, h3⟩ := hq j hjl
      refine ⟨_, rfl, k34_mk W (q j), fun i u hu => ?_⟩
      match i, hu with
      | 0, hu => simp at hu; subst hu; exact h1
      | 1, hu => simp at hu; subst hu; exact h2
      | 2, hu => simp at hu; subst hu; exact h3
    · obtain ⟨j, hj, rfl⟩ := List.mem_map.1 hx2
      exact (hq j (List.mem_range.1 hj)).1
end Go.Proofs.YtppgnpnkcilmeaaGreatDoor.Pth

namespace Go.Proofs.YtppgnpnkcilmeaaGreatDoor.Pth
open Go.RowKit Go.Proofs.YtppgnpnkcilmeaaGreatDoorW.PrintWords Go.Proofs.YtppgnpnkcilmeaaGreatDoorW.PrintLast Go.Proofs.YtppgnpnkcilmeaaGreatDoorW.PrintMore
open Go.Proofs.YtppgnpnkcilmeaaGreatDoor.Str Go.Proofs.YtppgnpnkcilmeaaGreatDoor.PFnPathText Go.Proofs.YtppgnpnkcilmeaaGreatDoor.Trs
set_option maxRecDepth 100000
set_option linter.unusedVariables false

theorem fits_at (xs : List S34) (hx : xs.length ≤ 2147483647) (d : Nat) : ∀ (k i : Nat), i ≤ xs.length → xs.length - i = d → d < k →
    ∃ b, laws_zzFits3.l0 k xs (xs.length : Int) (i : Int) = some b ∧ (b = true → ∀ j, i ≤ j → (h : j < xs.length) → xs[j].f1.size ≤ 2147483647) := by
  induction d with
  | zero =>
    intro k i h1 h2 h3
    obtain ⟨k, rfl⟩ : ∃ m, k = m + 1 := ⟨k - 1, by omega⟩
    exact ⟨true, by rw [laws_zzFits3.l0, if_neg (by omega)], fun _ j hj h => by omega⟩
  | succ d ih =>
    intro k i h1 h2 h3
    obtain ⟨k, rfl⟩ : ∃ m, k = m + 1 := ⟨k - 1, by omega⟩
    have hlt : i < xs.length := by omega
    have hrd : rd_T34 xs (i : Int) = xs[i] := by
      unfold rd_T34
      rw [show ((i : Int)).toNat = i by omega, List.getD_eq_getElem?_getD, List.getElem?_eq_getElem hlt]
      rfl
    rw [laws_zzFits3.l0, if_pos (by omega), if_pos (by omega), if_pos (by omega), hrd]
    by_cases hb : (xs[i].f1.size : Int) > 2147483647
    · exact ⟨false, by unfold laws_zzFits4.f; rw [if_pos hb]; rfl, fun h => by cases h⟩
    · obtain ⟨b, e, hb2⟩ := ih k (i + 1) (by omega) (by omega) (by omega)
      refine ⟨b, ?_, fun h j hj hjl => ?_⟩
      · unfold laws_zzFits4.f
        rw [if_neg hb, Option.bind_some, if_pos rfl, wrap_id (by omega) (by omega), show (i : Int) + 1 = ((i + 1 : Nat) : Int) by omega]
        exact e
      · by_cases hji : j = i
        · subst hji; omega
        · exact hb2 h j (by omega) hjl
theorem fits_eq (xs : List S34) : ∃ k b, laws_zzFits3.f k xs = some b ∧ (b = true → xs.length ≤ 2147483647 ∧ ∀ x ∈ xs, x.f1.size ≤ 2147483647) := by
  by_cases hx : (xs.length : Int) > 2147483647
  · exact ⟨0, false, by unfold laws_zzFits3.f; rw [if_pos hx], fun h => by cases h⟩
  · obtain ⟨b, e, hb⟩ := fits_at xs (by omega) xs.length (xs.length + 1) 0 (by omega) (by omega) (by omega)
    refine ⟨_, b, by unfold laws_zzFits3.f; rw [if_neg hx]; exact e, fun h => ⟨by omega, fun x hm => ?_⟩⟩
    obtain ⟨j, hj, rfl⟩ := List.getElem_of_mem hm
    exact hb h j (by omega) hj

set_option maxHeartbeats 4000000 in
theorem law_any (A : Option Addr) (cp : Nat) (xs : List S34) (w : World) (hC : Kd.C k34 w A xs.length xs) (hcp : xs.length ≤ cp) (hf2 : ∀ x ∈ xs, 0 ≤ x.f2) (ht : Tab w) :
    Calls Tryz.prog 3 #[.slice A xs.length cp] w fun e w' => e = .returned (.bool true) ∧ Below w.heap.size w w' := by
  obtain ⟨k, b, hfit, hb⟩ := fits_eq xs
  have H1 := Lib.hid (laws_zzFits3.calls k A cp xs b w hC hcp hfit)
  cases b with
  | false =>
    clear hC hfit hb ht
    go_enter Tryz.func3, Tryz.ntmps3
    go_wp2_with fail
    refine H1.out.mono ?_
    rintro e w1 ⟨rfl, hb1⟩
    go_wp2_with fail
    go_ret
    exact ⟨rfl, hb1⟩
  | true =>
    obtain ⟨hlen, hsz⟩ := hb rfl
    obtain ⟨k2, r, hst, hr8, hgood⟩ := steps_eq xs (by omega) (fun x hx => ⟨hf2 x hx, by have := hsz x hx; omega⟩)
    have hgs : ∀ s ∈ r.map toStp, s.good := by
      intro s hs
      obtain ⟨x, hx, rfl⟩ := List.mem_map.1 hs
      exact (hgood x hx).2
    have hplen := ptx_len r (fun x hx => (hgood x hx).1)
    have H2 := Lib.hid (fun w1 h => laws_trSteps.calls k2 A cp xs r w1 h hcp hst)
    have H3 := Lib.hid (fun A c w1 h => pathOf_any A c r w1 h hr8 (fun x hx => (hgood x hx).1))
    have H4 := Lib.hid (fun w1 h => pathText_any (r.map toStp) _ (path_at _ hgs) (path_ascii _ hgs) (by rw [List.length_cons]; omega) (fun s hs => Stp.good_ok (hgs s hs)) w1 h)
    have HC := Lib.hid hC
    have HT := Lib.hid ht
    clear hC hfit hb ht hst hgood hgs hsz hf2
    generalize B (36 :: ptx (r.map toStp)) = path at *
    go_enter Tryz.func3, Tryz.ntmps3
    go_wp2_with fail
    refine H1.out.mono ?_
    rintro e w1 ⟨rfl, hb1⟩
    go_wp2_with fail
    refine (H2.out _ (Kd.C_below HC.out hb1)).mono ?_
    rintro e w2 ⟨v, rfl, hR, hb2⟩
    have x2 := hb1.trans (hb2.mono hb1.size)
    obtain ⟨A2, c2, rfl, hc2, hC2⟩ := Kd.R_reads hR
    have HC2 := Lib.hid hC2
    clear hR hC2
    go_wp2_with fail
    refine (H3.out _ _ _ HC2.out).mono ?_
    rintro e w3 ⟨rfl, hb3⟩
    have x3 := x2.trans (hb3.mono x2.size)
    go_wp2_with fail
    refine (H4.out _ (tab_below x3 HT.out)).mono ?_
    rintro e w4 ⟨rfl, hb4⟩
    have x4 := x3.trans (hb4.mono x3.size)
    unfold noFault
    go_wp2_with fail
    go_ret
    exact ⟨rfl, by repeat (first | exact x4 | refine Below.alloc ?_ x4.size _)⟩
end Go.Proofs.YtppgnpnkcilmeaaGreatDoor.Pth
