/-
  trSteps: THE PRINT's OWN LINES (print.sh) with three facts more, one at each append: what the cells of the step hold behind its last store.
-/
import Derived.Test.YtppgnpnkcilmeaaGreatDoorPFnPathTextx0
import Derived.Test.YtppgnpnkcilmeaaGreatDoorPFnPathTextx2
namespace Go.Proofs.YtppgnpnkcilmeaaGreatDoor.Trs
open Go.Proofs.YtppgnpnkcilmeaaGreatDoor.PFnPathText Go.RowKit Go.Proofs.YtppgnpnkcilmeaaGreatDoorW.PrintWords Go.Proofs.YtppgnpnkcilmeaaGreatDoorW.PrintLast Go.Proofs.YtppgnpnkcilmeaaGreatDoorW.PrintMore
attribute [local go_sem] max2_int min2_int max_two min_two max_three min_three max_four min_four   -- for this text's walks alone
set_option linter.unusedVariables false
set_option linter.unusedSimpArgs false

theorem cells1 (w : World) (g : Nat) (a0 a1 a2 A T C X : Value) (h0 : w.cell? ⟨g, 0, none⟩ = some a0) (h1 : w.cell? ⟨g, 1, none⟩ = some a1) (h2 : w.cell? ⟨g, 2, none⟩ = some a2) :
    ((((w.setCell ⟨g, 0, none⟩ A).setCell ⟨g, 1, none⟩ T).setCell ⟨g, 2, none⟩ C).setCell ⟨g, 1, none⟩ X).cell? ⟨g, 0, none⟩ = some A ∧
    ((((w.setCell ⟨g, 0, none⟩ A).setCell ⟨g, 1, none⟩ T).setCell ⟨g, 2, none⟩ C).setCell ⟨g, 1, none⟩ X).cell? ⟨g, 1, none⟩ = some X ∧
    ((((w.setCell ⟨g, 0, none⟩ A).setCell ⟨g, 1, none⟩ T).setCell ⟨g, 2, none⟩ C).setCell ⟨g, 1, none⟩ X).cell? ⟨g, 2, none⟩ = some C := by
  have e0 : (w.setCell ⟨g, 0, none⟩ A).cell? ⟨g, 1, none⟩ = some a1 := by rw [World.cell?_setCell_other _ _ _ _ (by simp)]; exact h1
  have e1 : ((w.setCell ⟨g, 0, none⟩ A).setCell ⟨g, 1, none⟩ T).cell? ⟨g, 1, none⟩ = some T := World.cell?_setCell_same _ _ _ e0
  have e2 : ((w.setCell ⟨g, 0, none⟩ A).setCell ⟨g, 1, none⟩ T).cell? ⟨g, 2, none⟩ = some a2 := by rw [World.cell?_setCell_other _ _ _ _ (by simp), World.cell?_setCell_other _ _ _ _ (by simp)]; exact h2
  have e3 : (((w.setCell ⟨g, 0, none⟩ A).setCell ⟨g, 1, none⟩ T).setCell ⟨g, 2, none⟩ C).cell? ⟨g, 1, none⟩ = some T := by rw [World.cell?_setCell_other _ _ _ _ (by simp)]; exact e1
  refine ⟨?_, World.cell?_setCell_same _ _ _ e3, ?_⟩
  · rw [World.cell?_setCell_other _ _ _ _ (by simp), World.cell?_setCell_other _ _ _ _ (by simp), World.cell?_setCell_other _ _ _ _ (by simp)]
    exact World.cell?_setCell_same _ _ _ h0
  · rw [World.cell?_setCell_other _ _ _ _ (by simp)]
    exact World.cell?_setCell_same _ _ _ e2
theorem cells2 (w : World) (g : Nat) (a0 a1 a2 A T C X : Value) (h0 : w.cell? ⟨g, 0, none⟩ = some a0) (h1 : w.cell? ⟨g, 1, none⟩ = some a1) (h2 : w.cell? ⟨g, 2, none⟩ = some a2) :
    ((((w.setCell ⟨g, 0, none⟩ A).setCell ⟨g, 1, none⟩ T).setCell ⟨g, 2, none⟩ C).setCell ⟨g, 2, none⟩ X).cell? ⟨g, 0, none⟩ = some A ∧
    ((((w.setCell ⟨g, 0, none⟩ A).setCell ⟨g, 1, none⟩ T).setCell ⟨g, 2, none⟩ C).setCell ⟨g, 2, none⟩ X).cell? ⟨g, 1, none⟩ = some T ∧
    ((((w.setCell ⟨g, 0, none⟩ A).setCell ⟨g, 1, none⟩ T).setCell ⟨g, 2, none⟩ C).setCell ⟨g, 2, none⟩ X).cell? ⟨g, 2, none⟩ = some X := by
  have e0 : (w.setCell ⟨g, 0, none⟩ A).cell? ⟨g, 1, none⟩ = some a1 := by rw [World.cell?_setCell_other _ _ _ _ (by simp)]; exact h1
  have e1 : ((w.setCell ⟨g, 0, none⟩ A).setCell ⟨g, 1, none⟩ T).cell? ⟨g, 1, none⟩ = some T := World.cell?_setCell_same _ _ _ e0
  have e2 : ((w.setCell ⟨g, 0, none⟩ A).setCell ⟨g, 1, none⟩ T).cell? ⟨g, 2, none⟩ = some a2 := by rw [World.cell?_setCell_other _ _ _ _ (by simp), World.cell?_setCell_other _ _ _ _ (by simp)]; exact h2
  have e3 : (((w.setCell ⟨g, 0, none⟩ A).setCell ⟨g, 1, none⟩ T).setCell ⟨g, 2, none⟩ C).cell? ⟨g, 2, none⟩ = some C := World.cell?_setCell_same _ _ _ e2
  refine ⟨?_, ?_, World.cell?_setCell_same _ _ _ e3⟩
  · rw [World.cell?_setCell_other _ _ _ _ (by simp), World.cell?_setCell_other _ _ _ _ (by simp), World.cell?_setCell_other _ _ _ _ (by simp)]
    exact World.cell?_setCell_same _ _ _ h0
  · rw [World.cell?_setCell_other _ _ _ _ (by simp), World.cell?_setCell_other _ _ _ _ (by simp)]
    exact e1

/-! ### laws_trSteps: function 6 -/
mutual
def laws_trSteps.l0 : Nat → List (S34) → List (S34) → Int → Option ((List (S34)))
  | 0, _, _, _ => none
  | k + 1, x0, x3, x4 => if x4 < (x0.length : Int) then (laws_trSteps.j1 k x0 x3 x4 (decide (x4 < 8))) else (laws_trSteps.j1 k x0 x3 x4 false)
def laws_trSteps.j1 : Nat → List (S34) → List (S34) → Int → Bool → Option ((List (S34)))
  | 0, _, _, _, _ => none
  | k + 1, x0, x3, x4, x13 => if x13 = true then (if 0 ≤ x4 then (if x4 < (x0.length : Int) then ((laws_trName.f k ((rd_T34 x0 x4).f1)).bind fun t181 => (if (wrap64 (Int.tmod (IntKind.u64.wrap ((rd_T34 x0 x4).f0)) 4)) = 1 then (if x3.length < 4398046511104 then (laws_trSteps.l0 k x0 (x3 ++ [(⟨wrap64 (Int.tmod (IntKind.u64.wrap ((rd_T34 x0 x4).f0)) 4), (⟨#[]⟩ : ByteArray), Int.tmod ((rd_T34 x0 x4).f2) 1000000⟩ : S34)]) (wrap64 (x4 + 1))) else (none)) else (if (wrap64 (Int.tmod (IntKind.u64.wrap ((rd_T34 x0 x4).f0)) 4)) = 2 then (if x3.length < 4398046511104 then (laws_trSteps.l0 k x0 (x3 ++ [(⟨wrap64 (Int.tmod (IntKind.u64.wrap ((rd_T34 x0 x4).f0)) 4), (⟨#[]⟩ : ByteArray), Int.tmod ((rd_T34 x0 x4).f2) 1000000⟩ : S34)]) (wrap64 (x4 + 1))) else (none)) else (if x3.length < 4398046511104 then (laws_trSteps.l0 k x0 (x3 ++ [(⟨wrap64 (Int.tmod (IntKind.u64.wrap ((rd_T34 x0 x4).f0)) 4), t181, 0⟩ : S34)]) (wrap64 (x4 + 1))) else (none))))) else (none)) else (none)) else (some x3)
end
def laws_trSteps.f (k : Nat) (l0 : List (S34)) : Option ((List (S34))) := laws_trSteps.l0 k l0 ([] : List (S34)) 0
theorem laws_trSteps.mono_l : ∀ k, (∀ y0 y1 y2, LeO (laws_trSteps.l0 k y0 y1 y2) (laws_trSteps.l0 (k + 1) y0 y1 y2)) ∧ (∀ y0 y1 y2 y3, LeO (laws_trSteps.j1 k y0 y1 y2 y3) (laws_trSteps.j1 (k + 1) y0 y1 y2 y3))
  | 0 => ⟨fun _ _ _ r h => by simp [laws_trSteps.l0] at h, fun _ _ _ _ r h => by simp [laws_trSteps.j1] at h⟩
  | k + 1 => by
    obtain ⟨ih0, ih1⟩ := laws_trSteps.mono_l k
    refine ⟨?_, ?_⟩
    · intro y0 y1 y2
      unfold laws_trSteps.l0
      repeat' first
      | (with_reducible exact ih0 _ _ _)
      | (with_reducible exact ih1 _ _ _ _)
      | (with_reducible exact laws_trName.mono _ _)
      | (with_reducible exact LeO.refl _)
      | (with_reducible exact LeO.none _)
      | (with_reducible refine LeO.ite ?_ ?_)
      | (with_reducible refine LeO.bind ?_ (fun _ => ?_))
      | exact ih0 _ _ _
      | exact ih1 _ _ _ _
      | exact laws_trName.mono _ _
      | exact LeO.none _
      | refine LeO.ite ?_ ?_
      | refine LeO.bind ?_ (fun _ => ?_)
    · intro y0 y1 y2 y3
      unfold laws_trSteps.j1
      repeat' first
      | (with_reducible exact ih0 _ _ _)
      | (with_reducible exact ih1 _ _ _ _)
      | (with_reducible exact laws_trName.mono _ _)
      | (with_reducible exact LeO.refl _)
      | (with_reducible exact LeO.none _)
      | (with_reducible refine LeO.ite ?_ ?_)
      | (with_reducible refine LeO.bind ?_ (fun _ => ?_))
      | exact ih0 _ _ _
      | exact ih1 _ _ _ _
      | exact laws_trName.mono _ _
      | exact LeO.none _
      | refine LeO.ite ?_ ?_
      | refine LeO.bind ?_ (fun _ => ?_)
theorem laws_trSteps.mono : ∀ a0 k, LeO (laws_trSteps.f k a0) (laws_trSteps.f (k + 1) a0) := by
  intro a0 k
  obtain ⟨ih0, ih1⟩ := laws_trSteps.mono_l k
  unfold laws_trSteps.f
  repeat' first
      | (with_reducible exact ih0 _ _ _)
      | (with_reducible exact ih1 _ _ _ _)
      | (with_reducible exact laws_trName.mono _ _)
      | (with_reducible exact LeO.refl _)
      | (with_reducible exact LeO.none _)
      | (with_reducible refine LeO.ite ?_ ?_)
      | (with_reducible refine LeO.bind ?_ (fun _ => ?_))
      | exact ih0 _ _ _
      | exact ih1 _ _ _ _
      | exact laws_trName.mono _ _
      | exact LeO.none _
      | refine LeO.ite ?_ ?_
      | refine LeO.bind ?_ (fun _ => ?_)
def laws_trSteps.T5 : Bool × List (List Nat × List Nat) := (true, [([], []), ([], []), ([0, 1], [0, 1]), ([2], [2]), ([3], [3]), ([4], [4]), ([5], [5]), ([6], [6]), ([], []), ([], []), ([8, 9], [8, 9]), ([10], [10]), ([11], [11]), ([12], [12]), ([], []), ([], []), ([14, 15], [14, 15]), ([16], [16]), ([17], [17]), ([18], [18]), ([7, 13, 19], [7, 13, 19]), ([], []), ([21, 20, 13, 0, 1, 2, 3, 4, 5, 6, 7, 8, 9, 10, 11, 12, 13, 14, 15, 16, 17, 18, 19, 20, 21], [20, 21])])
def laws_trSteps.B5 : List Nat := [0, 0, 3, 7, 15, 31, 63, 127, 0, 0, 768, 1792, 3840, 7936, 0, 0, 49152, 114688, 245760, 507904, 1048575, 0, 4194303]
theorem laws_trSteps.tab5 : rtab .any (opsOf Tryz.f6 5) = laws_trSteps.T5 := by kernel_rfl
theorem laws_trSteps.bits5 : waitsOk laws_trSteps.T5.2 laws_trSteps.B5 = true := by kernel_rfl
set_option maxHeartbeats 8000000 in
set_option maxRecDepth 100000 in
theorem laws_trSteps.calls (k : Nat) (A0 : Option Addr) (c0 : Nat) (l0 : List (S34)) (r : List (S34)) (w : World) (hr0 : Kd.C k34 w A0 l0.length l0) (hc0 : l0.length ≤ c0) (h : laws_trSteps.f k l0 = some r) :
    Calls Tryz.prog 6 #[.slice A0 l0.length c0] w fun e w' => ∃ v0_ : Value, e = .returned (v0_) ∧ Kd.R k34 34 w' w.heap.size (fun _ => True) v0_ r ∧ Below w.heap.size w w' := by
  have hu34 := Tryz.underlying34
  have HR0 := Aside0.mk hr0
  have HC0 := Aside0.mk hc0
  clear hr0 hc0
  have HB := Aside0.mk (Below.refl w.heap.size w)
  have H : (laws_trSteps.l0 k l0 ([] : List (S34)) 0) = some r := h
  clear h
  have H' := Aside0.mk H
  clear H
  go_enter Tryz.func6, Tryz.ntmps6
  go_wp2
  go_loopg [3, 4] k (fun kq v3 v4 w' => ∃ (x3_1 : List (S34)) (x4_1 : Int), v4 = .int .i64 x4_1 ∧ Aside0 (laws_trSteps.l0 kq l0 x3_1 x4_1 = some r) ∧ Aside0 (kq ≤ k) ∧ Aside0 (Kd.R k34 34 w' w.heap.size (fun _ => True) v3 x3_1) ∧ Aside0 (Below w.heap.size w w'))
  case atStart => exact ⟨(([] : List (S34))), (0), (by first | rfl | (simp; done) | (simp [*]; done)), H', ⟨Nat.le_refl _⟩, ⟨by first | exact Kd.R_nil _ _ _ _ _ | exact Kd.N_nil _ _ _ _ _ | exact Kd.V_nil _ _ _ _ _ | exact Kd.Q_nil _ _ _ _ _ | exact Kd.S_nil _ _ _ _ _⟩, ⟨by repeat (first | (with_reducible first | exact HB.out | apply below_alloc | apply pw_below_drewN | apply below_drew1) | exact HB.out)⟩⟩
  case round =>
    clear H'
    obtain ⟨x3_1, x4_1, rfl, HA, HK1, HO_3, HB⟩ := hrel
    cases gk with
    | zero => exact absurd HA.out (by simp [laws_trSteps.l0])
    | succ k1 =>
      have H := HA.out
      clear HA
      simp only [laws_trSteps.l0] at H
      have HC2 := Aside0.mk H
      clear H
      go_upto_region 3 with (fail)
      go_cut [13] (fun v13 wc => ∃ (kq : Nat) (x13_1 : Bool), v13 = .bool x13_1 ∧ Aside0 (laws_trSteps.j1 kq l0 x3_1 x4_1 x13_1 = some r) ∧ Aside0 (kq ≤ k1) ∧ Aside0 (Kd.R k34 34 wc w.heap.size (fun _ => True) u3 x3_1) ∧ Aside0 (Below w.heap.size w wc))
      case first =>
        have H := HC2.out
        clear HC2
        by_cases c3 : x4_1 < (l0.length : Int)
        · rw [if_pos c3] at H
          have c3b0 : decide (x4_1 < (l0.length : Int)) = true := decide_eq_true c3
          clear c3
          (first | rw [c3b0] | (simp only [i64_w, i32_w]; rw [c3b0]) | skip)
          have H' := Aside0.mk H
          clear H
          go_wp2
          go_meet
          case rel => exact ⟨_, (decide (x4_1 < 8)), (by first | rfl | (simp; done) | (simp [*]; done)), H', ⟨by have := HK1.out; first | omega | exact Nat.le_refl _⟩, ⟨by (with_reducible repeat (first | apply Kd.R_alloc | apply Kd.R_drewN | apply Kd.R_drew)); exact HO_3.out⟩, ⟨by repeat (first | (with_reducible first | exact HB.out | apply below_alloc | apply pw_below_drewN | apply below_drew1) | exact HB.out)⟩⟩
        · rw [if_neg c3] at H
          have c3b0 : decide (x4_1 < (l0.length : Int)) = false := decide_eq_false c3
          clear c3
          (first | rw [c3b0] | (simp only [i64_w, i32_w]; rw [c3b0]) | skip)
          have H' := Aside0.mk H
          clear H
          go_wp2
          go_meet
          case rel => exact ⟨_, (false), (by first | rfl | (simp; done) | (simp [*]; done)), H', ⟨by have := HK1.out; first | omega | exact Nat.le_refl _⟩, ⟨by (with_reducible repeat (first | apply Kd.R_alloc | apply Kd.R_drewN | apply Kd.R_drew)); exact HO_3.out⟩, ⟨by repeat (first | (with_reducible first | exact HB.out | apply below_alloc | apply pw_below_drewN | apply below_drew1) | exact HB.out)⟩⟩
      case rest =>
        clear HC2
        try clear p2
        try clear c3
        try clear c3b0
        obtain ⟨kq, x13_1, rfl, HA, HJ1, HO_3, HB⟩ := hcut
        cases kq with
        | zero => exact absurd HA.out (by simp [laws_trSteps.j1])
        | succ kj1 =>
          have H := HA.out
          clear HA
          simp only [laws_trSteps.j1] at H
          by_cases c4 : x13_1 = true
          · subst c4
            have H1 : (if 0 ≤ x4_1 then (if x4_1 < (l0.length : Int) then ((laws_trName.f kj1 ((rd_T34 l0 x4_1).f1)).bind fun t181 => (if (wrap64 (Int.tmod (IntKind.u64.wrap ((rd_T34 l0 x4_1).f0)) 4)) = 1 then (if x3_1.length < 4398046511104 then (laws_trSteps.l0 kj1 l0 (x3_1 ++ [(⟨wrap64 (Int.tmod (IntKind.u64.wrap ((rd_T34 l0 x4_1).f0)) 4), (⟨#[]⟩ : ByteArray), Int.tmod ((rd_T34 l0 x4_1).f2) 1000000⟩ : S34)]) (wrap64 (x4_1 + 1))) else (none)) else (if (wrap64 (Int.tmod (IntKind.u64.wrap ((rd_T34 l0 x4_1).f0)) 4)) = 2 then (if x3_1.length < 4398046511104 then (laws_trSteps.l0 kj1 l0 (x3_1 ++ [(⟨wrap64 (Int.tmod (IntKind.u64.wrap ((rd_T34 l0 x4_1).f0)) 4), (⟨#[]⟩ : ByteArray), Int.tmod ((rd_T34 l0 x4_1).f2) 1000000⟩ : S34)]) (wrap64 (x4_1 + 1))) else (none)) else (if x3_1.length < 4398046511104 then (laws_trSteps.l0 kj1 l0 (x3_1 ++ [(⟨wrap64 (Int.tmod (IntKind.u64.wrap ((rd_T34 l0 x4_1).f0)) 4), t181, 0⟩ : S34)]) (wrap64 (x4_1 + 1))) else (none))))) else (none)) else (none)) = some r := by rw [if_pos rfl] at H; exact H
            clear H
            have H := H1
            clear H1
            by_cases c5 : 0 ≤ x4_1
            · rw [if_pos c5] at H
              have c5b0 : decide (0 ≤ x4_1) = true := decide_eq_true c5
              clear c5
              by_cases c6 : x4_1 < (l0.length : Int)
              · rw [if_pos c6] at H
                have c6b0 : decide (x4_1 < (l0.length : Int)) = true := decide_eq_true c6
                clear c6
                replace H := Option.bind_eq_some_iff.mp H
                obtain ⟨t181, A70, H⟩ := H
                replace H : (if (wrap64 (Int.tmod (IntKind.u64.wrap ((rd_T34 l0 x4_1).f0)) 4)) = 1 then (if x3_1.length < 4398046511104 then (laws_trSteps.l0 kj1 l0 (x3_1 ++ [(⟨wrap64 (Int.tmod (IntKind.u64.wrap ((rd_T34 l0 x4_1).f0)) 4), (⟨#[]⟩ : ByteArray), Int.tmod ((rd_T34 l0 x4_1).f2) 1000000⟩ : S34)]) (wrap64 (x4_1 + 1))) else (none)) else (if (wrap64 (Int.tmod (IntKind.u64.wrap ((rd_T34 l0 x4_1).f0)) 4)) = 2 then (if x3_1.length < 4398046511104 then (laws_trSteps.l0 kj1 l0 (x3_1 ++ [(⟨wrap64 (Int.tmod (IntKind.u64.wrap ((rd_T34 l0 x4_1).f0)) 4), (⟨#[]⟩ : ByteArray), Int.tmod ((rd_T34 l0 x4_1).f2) 1000000⟩ : S34)]) (wrap64 (x4_1 + 1))) else (none)) else (if x3_1.length < 4398046511104 then (laws_trSteps.l0 kj1 l0 (x3_1 ++ [(⟨wrap64 (Int.tmod (IntKind.u64.wrap ((rd_T34 l0 x4_1).f0)) 4), t181, 0⟩ : S34)]) (wrap64 (x4_1 + 1))) else (none)))) = some r := H
                have A7 := Aside0.mk A70
                clear A70
                by_cases c8 : (wrap64 (Int.tmod (IntKind.u64.wrap ((rd_T34 l0 x4_1).f0)) 4)) = 1
                · rw [if_pos c8] at H
                  have c8b0 : ((wrap64 (Int.tmod (IntKind.u64.wrap ((rd_T34 l0 x4_1).f0)) 4)) == 1) = true := beq_iff_eq.mpr c8
                  have c8b1 : ((wrap64 (Int.tmod (IntKind.u64.wrap ((rd_T34 l0 x4_1).f0)) 4)) != 1) = false := bne_eq_false_iff_eq.mpr c8
                  clear c8
                  by_cases c9 : x3_1.length < 4398046511104
                  · rw [if_pos c9] at H
                    have LMc9 := Aside0.mk c9
                    clear c9
                    obtain ⟨y184, hy184⟩ : ∃ y_ : List (S34), y_ = (x3_1 ++ [(⟨wrap64 (Int.tmod (IntKind.u64.wrap ((rd_T34 l0 x4_1).f0)) 4), (⟨#[]⟩ : ByteArray), Int.tmod ((rd_T34 l0 x4_1).f2) 1000000⟩ : S34)]) := ⟨_, rfl⟩
                    replace H : (laws_trSteps.l0 kj1 l0 y184 (wrap64 (x4_1 + 1))) = some r := by first | (rw [hy184]; with_reducible exact H) | (have H2_ := (Option.bind_some _ _).symm.trans H; rw [hy184]; with_reducible exact H2_) | (have H2_ := (Option.bind_some _ _).symm.trans H; with_reducible exact H2_) | with_reducible exact H | (rw [hy184]; exact H) | exact H
                    have Ny184 := Aside0.mk hy184
                    clear hy184
                    have H' := Aside0.mk H
                    clear H
                    try go_wp2
                    have n0_ := Aside0.mk (Kd.R_drew HO_3.out)
                    have n1_ := Aside0.mk (below_drew1 HB.out)
                    clear HO_3
                    clear HB
                    have HO_3 := n0_
                    have HB := n1_
                    clear n0_ n1_
                    have p179 : 0 ≤ (x4_1 : Int) := of_decide_eq_true (by first | (with_reducible assumption) | assumption)
                    have q179 : x4_1 < (l0.length : Int) := of_decide_eq_true (by first | (with_reducible assumption) | assumption)
                    obtain ⟨ad179, e179, hx179_0, hx179_1, hx179_2⟩ := at_T34 HR0.out x4_1 p179 q179
                    have hw179_2 := hx179_2
                    have hw179_1 := hx179_1
                    have hw179_0 := hx179_0
                    cases e179
                    replace hx179_0 := (HB.out.cell (World.block_lt_of_cell? w _ hx179_0)).trans hx179_0
                    replace hx179_1 := (HB.out.cell (World.block_lt_of_cell? w _ hx179_1)).trans hx179_1
                    replace hx179_2 := (HB.out.cell (World.block_lt_of_cell? w _ hx179_2)).trans hx179_2
                    replace p179 := eq_true p179
                    replace q179 := eq_true q179
                    have p180 : 0 ≤ (x4_1 : Int) := of_decide_eq_true (by first | (with_reducible assumption) | assumption)
                    have q180 : x4_1 < (l0.length : Int) := of_decide_eq_true (by first | (with_reducible assumption) | assumption)
                    obtain ⟨ad180, e180, hx180_0, hx180_1, hx180_2⟩ := at_T34 HR0.out x4_1 p180 q180
                    have hw180_2 := hx180_2
                    have hw180_1 := hx180_1
                    have hw180_0 := hx180_0
                    obtain rfl : ad179 = ad180 := (by injection e180)
                    replace hx180_0 := (HB.out.cell (World.block_lt_of_cell? w _ hx180_0)).trans hx180_0
                    replace hx180_1 := (HB.out.cell (World.block_lt_of_cell? w _ hx180_1)).trans hx180_1
                    replace hx180_2 := (HB.out.cell (World.block_lt_of_cell? w _ hx180_2)).trans hx180_2
                    replace p180 := eq_true p180
                    replace q180 := eq_true q180
                    have p182 : 0 ≤ (x4_1 : Int) := of_decide_eq_true (by first | (with_reducible assumption) | assumption)
                    have q182 : x4_1 < (l0.length : Int) := of_decide_eq_true (by first | (with_reducible assumption) | assumption)
                    obtain ⟨ad182, e182, hx182_0, hx182_1, hx182_2⟩ := at_T34 HR0.out x4_1 p182 q182
                    have hw182_2 := hx182_2
                    have hw182_1 := hx182_1
                    have hw182_0 := hx182_0
                    obtain rfl : ad179 = ad182 := (by injection e182)
                    replace hx182_0 := (HB.out.cell (World.block_lt_of_cell? w _ hx182_0)).trans hx182_0
                    replace hx182_1 := (HB.out.cell (World.block_lt_of_cell? w _ hx182_1)).trans hx182_1
                    replace hx182_2 := (HB.out.cell (World.block_lt_of_cell? w _ hx182_2)).trans hx182_2
                    replace p182 := eq_true p182
                    replace q182 := eq_true q182
                    refine start_ (n := 23) (S := fun w' => w'.cell? (ad179.add ((x4_1).toNat * 3)) = some (.int .i64 ((rd_T34 l0 x4_1).f0)) ∧ w'.cell? ⟨(ad179.add ((x4_1).toNat * 3)).block, (ad179.add ((x4_1).toNat * 3)).off + 1, none⟩ = some (.string ((rd_T34 l0 x4_1).f1)) ∧ w'.cell? ⟨(ad179.add ((x4_1).toNat * 3)).block, (ad179.add ((x4_1).toNat * 3)).off + 2, none⟩ = some (.int .u64 ((rd_T34 l0 x4_1).f2)) ∧ w'.cell? (ad179.add ((x4_1).toNat * 3)) = some (.int .i64 ((rd_T34 l0 x4_1).f0)) ∧ w'.cell? ⟨(ad179.add ((x4_1).toNat * 3)).block, (ad179.add ((x4_1).toNat * 3)).off + 1, none⟩ = some (.string ((rd_T34 l0 x4_1).f1)) ∧ w'.cell? ⟨(ad179.add ((x4_1).toNat * 3)).block, (ad179.add ((x4_1).toNat * 3)).off + 2, none⟩ = some (.int .u64 ((rd_T34 l0 x4_1).f2)) ∧ w'.cell? (ad179.add ((x4_1).toNat * 3)) = some (.int .i64 ((rd_T34 l0 x4_1).f0)) ∧ w'.cell? ⟨(ad179.add ((x4_1).toNat * 3)).block, (ad179.add ((x4_1).toNat * 3)).off + 1, none⟩ = some (.string ((rd_T34 l0 x4_1).f1)) ∧ w'.cell? ⟨(ad179.add ((x4_1).toNat * 3)).block, (ad179.add ((x4_1).toNat * 3)).off + 2, none⟩ = some (.int .u64 ((rd_T34 l0 x4_1).f2))) (ds := []) #[false, false, false, false, false, false, false, false, false, false, false, false, false, false, false, false, false, false, false, false, false, false, false] (by kernel_rfl) rfl rfl ⟨((HB.out.cell (World.block_lt_of_cell? w _ hw179_0)).trans hw179_0), ((HB.out.cell (World.block_lt_of_cell? w _ hw179_1)).trans hw179_1), ((HB.out.cell (World.block_lt_of_cell? w _ hw179_2)).trans hw179_2), ((HB.out.cell (World.block_lt_of_cell? w _ hw180_0)).trans hw180_0), ((HB.out.cell (World.block_lt_of_cell? w _ hw180_1)).trans hw180_1), ((HB.out.cell (World.block_lt_of_cell? w _ hw180_2)).trans hw180_2), ((HB.out.cell (World.block_lt_of_cell? w _ hw182_0)).trans hw182_0), ((HB.out.cell (World.block_lt_of_cell? w _ hw182_1)).trans hw182_1), ((HB.out.cell (World.block_lt_of_cell? w _ hw182_2)).trans hw182_2)⟩ (fun hHeld => ?_); refine with_tabW laws_trSteps.tab5 laws_trSteps.bits5 (fun HT_ HW_ => ?_)
                    generalize wc.drew = w10 at HO_3 HB hx179_0 hx179_1 hx179_2 hx180_0 hx180_1 hx180_2 hx182_0 hx182_1 hx182_2 hHeld ⊢
                    refine pure_ (i := 0) (N := some 16) (v := ?_) (a' := ?_) #[true, false, false, false, false, false, false, false, false, false, false, false, false, false, false, false, false, false, false, false, false, false, false] rfl rfl (any_of HT_.out (by kernel_rfl)) (fun _ _ _ h => h) (Or.inl ⟨by rfl, ?_⟩) ?_ ?_
                    rotate_left
                    · intro w'
                      go_simp
                      with_reducible rfl
                    rotate_left
                    · simp only [Act.put, List.setIfInBounds_toArray, List.set_cons_zero, List.set_cons_succ, i64_w, i32_w]
                      rfl
                    refine pure_ (i := 1) (N := some 17) (v := ?_) (a' := ?_) #[true, true, false, false, false, false, false, false, false, false, false, false, false, false, false, false, false, false, false, false, false, false, false] rfl rfl (any_of HT_.out (by kernel_rfl)) (fun _ _ _ h => h) (Or.inl ⟨by rfl, ?_⟩) ?_ ?_
                    rotate_left
                    · intro w'
                      go_simp
                      with_reducible rfl
                    rotate_left
                    · simp only [Act.put, List.setIfInBounds_toArray, List.set_cons_zero, List.set_cons_succ, i64_w, i32_w]
                      rfl
                    refine pure_ (i := 2) (N := some 18) (v := ?_) (a' := ?_) #[true, true, true, false, false, false, false, false, false, false, false, false, false, false, false, false, false, false, false, false, false, false, false] rfl rfl (any_of HT_.out (by kernel_rfl)) (fun _ _ _ h => h) (Or.inl ⟨by rfl, ?_⟩) ?_ ?_
                    rotate_left
                    · intro w'
                      go_simp
                      with_reducible rfl
                    rotate_left
                    · simp only [Act.put, List.setIfInBounds_toArray, List.set_cons_zero, List.set_cons_succ, i64_w, i32_w]
                      rfl
                    refine pure_ (i := 3) (N := some 19) (v := ?_) (a' := ?_) #[true, true, true, true, false, false, false, false, false, false, false, false, false, false, false, false, false, false, false, false, false, false, false] rfl rfl (any_of HT_.out (by kernel_rfl)) (fun _ _ _ h => h) (Or.inl ⟨by rfl, ?_⟩) ?_ ?_
                    rotate_left
                    · intro w'
                      go_simp
                      with_reducible rfl
                    rotate_left
                    · simp only [Act.put, List.setIfInBounds_toArray, List.set_cons_zero, List.set_cons_succ, i64_w, i32_w]
                      rfl
                    refine pure_ (i := 8) (N := some 24) (v := ?_) (a' := ?_) #[true, true, true, true, false, false, false, false, true, false, false, false, false, false, false, false, false, false, false, false, false, false, false] rfl rfl (any_of HT_.out (by kernel_rfl)) (fun _ _ _ h => h) (Or.inl ⟨by rfl, ?_⟩) ?_ ?_
                    rotate_left
                    · intro w'
                      go_simp
                      with_reducible rfl
                    rotate_left
                    · simp only [Act.put, List.setIfInBounds_toArray, List.set_cons_zero, List.set_cons_succ, i64_w, i32_w]
                      rfl
                    refine pure_ (i := 9) (N := some 25) (v := ?_) (a' := ?_) #[true, true, true, true, false, false, false, false, true, true, false, false, false, false, false, false, false, false, false, false, false, false, false] rfl rfl (any_of HT_.out (by kernel_rfl)) (fun _ _ _ h => h) (Or.inl ⟨by rfl, ?_⟩) ?_ ?_
                    rotate_left
                    · intro w'
                      go_simp
                      with_reducible rfl
                    rotate_left
                    · simp only [Act.put, List.setIfInBounds_toArray, List.set_cons_zero, List.set_cons_succ, i64_w, i32_w]
                      rfl
                    refine pure_ (i := 10) (N := some 26) (v := ?_) (a' := ?_) #[true, true, true, true, false, false, false, false, true, true, true, false, false, false, false, false, false, false, false, false, false, false, false] rfl rfl (any_of HT_.out (by kernel_rfl)) (fun _ _ _ h => h) (Or.inl ⟨by rfl, ?_⟩) ?_ ?_
                    rotate_left
                    · intro w'
                      go_simp
                      with_reducible rfl
                    rotate_left
                    · simp only [Act.put, List.setIfInBounds_toArray, List.set_cons_zero, List.set_cons_succ, i64_w, i32_w]
                      rfl
                    refine pure_ (i := 11) (N := some 27) (v := ?_) (a' := ?_) #[true, true, true, true, false, false, false, false, true, true, true, true, false, false, false, false, false, false, false, false, false, false, false] rfl rfl (any_of HT_.out (by kernel_rfl)) (fun _ _ _ h => h) (Or.inl ⟨by rfl, ?_⟩) ?_ ?_
                    rotate_left
                    · intro w'
                      go_simp
                      with_reducible rfl
                    rotate_left
                    · simp only [Act.put, List.setIfInBounds_toArray, List.set_cons_zero, List.set_cons_succ, i64_w, i32_w]
                      rfl
                    refine pure_ (i := 14) (N := some 30) (v := ?_) (a' := ?_) #[true, true, true, true, false, false, false, false, true, true, true, true, false, false, true, false, false, false, false, false, false, false, false] rfl rfl (any_of HT_.out (by kernel_rfl)) (fun _ _ _ h => h) (Or.inl ⟨by rfl, ?_⟩) ?_ ?_
                    rotate_left
                    · intro w'
                      go_simp
                      with_reducible rfl
                    rotate_left
                    · simp only [Act.put, List.setIfInBounds_toArray, List.set_cons_zero, List.set_cons_succ, i64_w, i32_w]
                      rfl
                    refine pure_ (i := 15) (N := some 31) (v := ?_) (a' := ?_) #[true, true, true, true, false, false, false, false, true, true, true, true, false, false, true, true, false, false, false, false, false, false, false] rfl rfl (any_of HT_.out (by kernel_rfl)) (fun _ _ _ h => h) (Or.inl ⟨by rfl, ?_⟩) ?_ ?_
                    rotate_left
                    · intro w'
                      go_simp
                      with_reducible rfl
                    rotate_left
                    · simp only [Act.put, List.setIfInBounds_toArray, List.set_cons_zero, List.set_cons_succ, i64_w, i32_w]
                      rfl
                    refine pure_ (i := 16) (N := some 32) (v := ?_) (a' := ?_) #[true, true, true, true, false, false, false, false, true, true, true, true, false, false, true, true, true, false, false, false, false, false, false] rfl rfl (any_of HT_.out (by kernel_rfl)) (fun _ _ _ h => h) (Or.inl ⟨by rfl, ?_⟩) ?_ ?_
                    rotate_left
                    · intro w'
                      go_simp
                      with_reducible rfl
                    rotate_left
                    · simp only [Act.put, List.setIfInBounds_toArray, List.set_cons_zero, List.set_cons_succ, i64_w, i32_w]
                      rfl
                    refine pure_ (i := 17) (N := some 33) (v := ?_) (a' := ?_) #[true, true, true, true, false, false, false, false, true, true, true, true, false, false, true, true, true, true, false, false, false, false, false] rfl rfl (any_of HT_.out (by kernel_rfl)) (fun _ _ _ h => h) (Or.inl ⟨by rfl, ?_⟩) ?_ ?_
                    rotate_left
                    · intro w'
                      go_simp
                      with_reducible rfl
                    rotate_left
                    · simp only [Act.put, List.setIfInBounds_toArray, List.set_cons_zero, List.set_cons_succ, i64_w, i32_w]
                      rfl
                    refine take_ (i := 4) (N := some 20) (v := ?_) (a' := ?_) #[true, true, true, true, true, false, false, false, true, true, true, true, false, false, true, true, true, true, false, false, false, false, false] rfl rfl (take_ofW HT_.out HW_.out (by kernel_rfl)) (fun _ _ _ h => h) (Or.inl ⟨by rfl, ?_⟩) hHeld ?_ ?_
                    rotate_left
                    · rintro w' ⟨s0, s1, s2, s3, s4, s5, s6, s7, s8⟩
                      go_simp
                      with_reducible rfl
                    rotate_left
                    · simp only [Act.put, List.setIfInBounds_toArray, List.set_cons_zero, List.set_cons_succ, i64_w, i32_w]
                      rfl
                    refine pure_ (i := 5) (N := some 21) (v := ?_) (a' := ?_) #[true, true, true, true, true, true, false, false, true, true, true, true, false, false, true, true, true, true, false, false, false, false, false] rfl rfl (any_of HT_.out (by kernel_rfl)) (fun _ _ _ h => h) (Or.inl ⟨by rfl, ?_⟩) ?_ ?_
                    rotate_left
                    · intro w'
                      go_simp
                      with_reducible rfl
                    rotate_left
                    · simp only [Act.put, List.setIfInBounds_toArray, List.set_cons_zero, List.set_cons_succ, i64_w, i32_w]
                      rfl
                    refine pure_ (i := 6) (N := some 22) (v := ?_) (a' := ?_) #[true, true, true, true, true, true, true, false, true, true, true, true, false, false, true, true, true, true, false, false, false, false, false] rfl rfl (any_of HT_.out (by kernel_rfl)) (fun _ _ _ h => h) (Or.inl ⟨by rfl, ?_⟩) ?_ ?_
                    rotate_left
                    · intro w'
                      go_simp
                      with_reducible rfl
                    rotate_left
                    · simp only [Act.put, List.setIfInBounds_toArray, List.set_cons_zero, List.set_cons_succ, i64_w, i32_w]
                      rfl
                    refine pure_ (i := 7) (N := some 23) (v := ?_) (a' := ?_) #[true, true, true, true, true, true, true, true, true, true, true, true, false, false, true, true, true, true, false, false, false, false, false] rfl rfl (any_of HT_.out (by kernel_rfl)) (fun _ _ _ h => h) (Or.inl ⟨by rfl, ?_⟩) ?_ ?_
                    rotate_left
                    · intro w'
                      go_simp
                      with_reducible rfl
                    rotate_left
                    · simp only [Act.put, List.setIfInBounds_toArray, List.set_cons_zero, List.set_cons_succ, i64_w, i32_w]
                      rfl
                    refine take_ (i := 12) (N := some 28) (v := ?_) (a' := ?_) #[true, true, true, true, true, true, true, true, true, true, true, true, true, false, true, true, true, true, false, false, false, false, false] rfl rfl (take_ofW HT_.out HW_.out (by kernel_rfl)) (fun _ _ _ h => h) (Or.inl ⟨by rfl, ?_⟩) hHeld ?_ ?_
                    rotate_left
                    · rintro w' ⟨s0, s1, s2, s3, s4, s5, s6, s7, s8⟩
                      go_simp
                      with_reducible rfl
                    rotate_left
                    · simp only [Act.put, List.setIfInBounds_toArray, List.set_cons_zero, List.set_cons_succ, i64_w, i32_w]
                      rfl
                    refine take_ (i := 18) (N := some 34) (v := ?_) (a' := ?_) #[true, true, true, true, true, true, true, true, true, true, true, true, true, false, true, true, true, true, true, false, false, false, false] rfl rfl (take_ofW HT_.out HW_.out (by kernel_rfl)) (fun _ _ _ h => h) (Or.inl ⟨by rfl, ?_⟩) hHeld ?_ ?_
                    rotate_left
                    · rintro w' ⟨s0, s1, s2, s3, s4, s5, s6, s7, s8⟩
                      go_simp
                      with_reducible rfl
                    rotate_left
                    · simp only [Act.put, List.setIfInBounds_toArray, List.set_cons_zero, List.set_cons_succ, i64_w, i32_w]
                      rfl
                    refine pure_ (i := 19) (N := some 35) (v := ?_) (a' := ?_) #[true, true, true, true, true, true, true, true, true, true, true, true, true, false, true, true, true, true, true, true, false, false, false] rfl rfl (any_of HT_.out (by kernel_rfl)) (fun _ _ _ h => h) (Or.inl ⟨by rfl, ?_⟩) ?_ ?_
                    rotate_left
                    · intro w'
                      go_simp
                      with_reducible rfl
                    rotate_left
                    · simp only [Act.put, List.setIfInBounds_toArray, List.set_cons_zero, List.set_cons_succ, i64_w, i32_w]
                      rfl
                    refine join_ (σ := Nat) 1 #[true, true, true, true, true, true, true, true, true, true, true, true, true, true, true, true, true, true, true, true, true, true, false] (fun s_ => [(29, .string t181), (5, .pointer (some ⟨s_, 0, none⟩)), (36, .agg #[.int .i64 (wrap64 (Int.tmod (IntKind.u64.wrap ((rd_T34 l0 x4_1).f0)) 4)), .string t181, .int .u64 (Int.tmod ((rd_T34 l0 x4_1).f2) 1000000)])]) (fun s_ w' => (w'.cell? (ad179.add ((x4_1).toNat * 3)) = some (.int .i64 ((rd_T34 l0 x4_1).f0)) ∧ w'.cell? ⟨(ad179.add ((x4_1).toNat * 3)).block, (ad179.add ((x4_1).toNat * 3)).off + 1, none⟩ = some (.string ((rd_T34 l0 x4_1).f1)) ∧ w'.cell? ⟨(ad179.add ((x4_1).toNat * 3)).block, (ad179.add ((x4_1).toNat * 3)).off + 2, none⟩ = some (.int .u64 ((rd_T34 l0 x4_1).f2)) ∧ w'.cell? (ad179.add ((x4_1).toNat * 3)) = some (.int .i64 ((rd_T34 l0 x4_1).f0)) ∧ w'.cell? ⟨(ad179.add ((x4_1).toNat * 3)).block, (ad179.add ((x4_1).toNat * 3)).off + 1, none⟩ = some (.string ((rd_T34 l0 x4_1).f1)) ∧ w'.cell? ⟨(ad179.add ((x4_1).toNat * 3)).block, (ad179.add ((x4_1).toNat * 3)).off + 2, none⟩ = some (.int .u64 ((rd_T34 l0 x4_1).f2)) ∧ w'.cell? (ad179.add ((x4_1).toNat * 3)) = some (.int .i64 ((rd_T34 l0 x4_1).f0)) ∧ w'.cell? ⟨(ad179.add ((x4_1).toNat * 3)).block, (ad179.add ((x4_1).toNat * 3)).off + 1, none⟩ = some (.string ((rd_T34 l0 x4_1).f1)) ∧ w'.cell? ⟨(ad179.add ((x4_1).toNat * 3)).block, (ad179.add ((x4_1).toNat * 3)).off + 2, none⟩ = some (.int .u64 ((rd_T34 l0 x4_1).f2))) ∧ (Kd.R k34 34 w' w.heap.size (fun k_ => k_ ≠ s_) u3 x3_1) ∧ (w'.heap[s_]? = some (.cells #[.int .i64 0, .string (⟨#[]⟩ : ByteArray), .int .u64 0] 34 (0, 0))) ∧ (w.heap.size ≤ s_) ∧ (w.heap.size ≤ s_) ∧ (Below w.heap.size w w')) ?_ ?_
                    rotate_left
                    · intro hCont
                      refine two_ (i := 13) (j := 21) (Ni := some 29) (Nj := some 5) #[true, true, true, true, true, true, true, true, true, true, true, true, true, true, true, true, true, true, true, true, false, false, false] #[true, true, true, true, true, true, true, true, true, true, true, true, true, false, true, true, true, true, true, true, false, true, false] rfl rfl rfl rfl (two_of HT_.out (by kernel_rfl)) (by decide) (by decide) (fun K hK => ?_) (fun K hK => ?_)
                      · skip
                        refine goes_ Tryz.func10 (by kernel_rfl) rfl #[.string ((rd_T34 l0 x4_1).f1)] (by rfl) rfl rfl (by (try simp only [List.map_toArray, List.map_cons, List.map_nil]); first | done | rfl | (simp only [List.length_drop, List.length_take]; rfl)) ?_
                        with_reducible refine (laws_trName.calls kj1 ((rd_T34 l0 x4_1).f1) t181 _ A7.out).mono ?_
                        rintro e w11 ⟨rfl, hb⟩
                        refine ⟨_, rfl, ?_⟩
                        have n0_ := Aside0.mk (Kd.R_below (by (with_reducible repeat (first | apply Kd.R_alloc | apply Kd.R_drewN | apply Kd.R_drew)); exact HO_3.out) hb)
                        have n1_ := Aside0.mk (below_step (by repeat (first | (with_reducible first | exact HB.out | apply below_alloc | apply pw_below_drewN | apply below_drew1) | exact HB.out)) hb)
                        clear HO_3
                        clear HB
                        have HO_3 := n0_
                        have HB := n1_
                        clear n0_ n1_
                        (try clear hb)
                        (try clear hb2)
                        (try clear hk)
                        (try clear hi)
                        refine hK.out _ _ ⟨((HB.out.cell (World.block_lt_of_cell? w _ hw179_0)).trans hw179_0), ((HB.out.cell (World.block_lt_of_cell? w _ hw179_1)).trans hw179_1), ((HB.out.cell (World.block_lt_of_cell? w _ hw179_2)).trans hw179_2), ((HB.out.cell (World.block_lt_of_cell? w _ hw180_0)).trans hw180_0), ((HB.out.cell (World.block_lt_of_cell? w _ hw180_1)).trans hw180_1), ((HB.out.cell (World.block_lt_of_cell? w _ hw180_2)).trans hw180_2), ((HB.out.cell (World.block_lt_of_cell? w _ hw182_0)).trans hw182_0), ((HB.out.cell (World.block_lt_of_cell? w _ hw182_1)).trans hw182_1), ((HB.out.cell (World.block_lt_of_cell? w _ hw182_2)).trans hw182_2)⟩ (fun hHeld => ?_)
                        clear hK K
                        refine norm_ (a' := ?_) ?_ ?_
                        rotate_left
                        · show Act.put _ (some 29) _ = _
                          simp only [Act.put, List.setIfInBounds_toArray, List.set_cons_zero, List.set_cons_succ, i64_w, i32_w]
                          rfl
                        refine pure_ (i := 20) (N := some 36) (v := ?_) (a' := ?_) #[true, true, true, true, true, true, true, true, true, true, true, true, true, true, true, true, true, true, true, true, true, false, false] rfl rfl (any_of HT_.out (by kernel_rfl)) (fun _ _ _ h => h) (Or.inl ⟨by rfl, ?_⟩) ?_ ?_
                        rotate_left
                        · intro w'
                          go_simp
                          with_reducible rfl
                        rotate_left
                        · simp only [Act.put, List.setIfInBounds_toArray, List.set_cons_zero, List.set_cons_succ, i64_w, i32_w]
                          rfl
                        refine one_ (i := 21) (N := some 5) #[true, true, true, true, true, true, true, true, true, true, true, true, true, true, true, true, true, true, true, true, true, true, false] rfl rfl (one_of HT_.out (by kernel_rfl)) (by decide) (fun K hK => ?_)
                        refine box_step ?hg (N := 5) ?hd (cs := #[.int .i64 0, .string (⟨#[]⟩ : ByteArray), .int .u64 0]) (t := 34) ?hr ?_; (case hd => rfl); (case hg => rfl); (case hr => first | (go_simp; done) | (go_simp; rfl))
                        intro gb183 hg w12 hbox hb
                        have n0_ := Aside0.mk (Kd.R_below (Kd.R_elderB (by (with_reducible repeat (first | apply Kd.R_alloc | apply Kd.R_drewN | apply Kd.R_drew)); exact HO_3.out) gb183 (Nat.le_of_eq hg.symm)) hb)
                        have n1_ := Aside0.mk (below_step (by repeat (first | (with_reducible first | exact HB.out | apply below_alloc | apply pw_below_drewN | apply below_drew1) | exact HB.out)) hb)
                        have n2_ := Aside0.mk (hbox)
                        have n3_ := Aside0.mk ((by rw [hg]; exact (below_size (by repeat (first | (with_reducible first | exact HB.out | apply below_alloc | apply pw_below_drewN | apply below_drew1) | exact HB.out))) : w.heap.size ≤ gb183))
                        have n4_ := Aside0.mk ((by rw [hg]; exact (below_size (by repeat (first | (with_reducible first | exact HB.out | apply below_alloc | apply pw_below_drewN | apply below_drew1) | exact HB.out))) : w.heap.size ≤ gb183))
                        clear HO_3
                        clear HB
                        have HO_3 := n0_
                        have HB := n1_
                        have BK183 := n2_
                        have GW183 := n3_
                        have GE183 := n4_
                        clear n0_ n1_ n2_ n3_ n4_
                        clear hb hbox hg
                        refine hK.out _ _ ⟨((HB.out.cell (World.block_lt_of_cell? w _ hw179_0)).trans hw179_0), ((HB.out.cell (World.block_lt_of_cell? w _ hw179_1)).trans hw179_1), ((HB.out.cell (World.block_lt_of_cell? w _ hw179_2)).trans hw179_2), ((HB.out.cell (World.block_lt_of_cell? w _ hw180_0)).trans hw180_0), ((HB.out.cell (World.block_lt_of_cell? w _ hw180_1)).trans hw180_1), ((HB.out.cell (World.block_lt_of_cell? w _ hw180_2)).trans hw180_2), ((HB.out.cell (World.block_lt_of_cell? w _ hw182_0)).trans hw182_0), ((HB.out.cell (World.block_lt_of_cell? w _ hw182_1)).trans hw182_1), ((HB.out.cell (World.block_lt_of_cell? w _ hw182_2)).trans hw182_2)⟩ (fun hHeld => ?_)
                        clear hK K
                        refine norm_ (a' := ?_) ?_ ?_
                        rotate_left
                        · show Act.put _ (some 5) _ = _
                          simp only [Act.put, List.setIfInBounds_toArray, List.set_cons_zero, List.set_cons_succ, i64_w, i32_w]
                          rfl
                        exact norm_ (by simp only [putAll, Act.put, List.setIfInBounds_toArray, List.set_cons_zero, List.set_cons_succ]) (hCont (gb183) _ ⟨hHeld, (by (with_reducible repeat (first | apply Kd.R_alloc | apply Kd.R_drewN | apply Kd.R_drew)); exact Kd.R_mono HO_3.out (fun _ hk => hk.2)), (by (with_reducible repeat (first | refine blk_drewN ?_ _ | refine blk_drew ?_ | refine blk_alloc ?_ _)); exact BK183.out), GW183.out, GE183.out, (by repeat (first | (with_reducible first | exact HB.out | apply below_alloc | apply pw_below_drewN | apply below_drew1 | refine below_set ?_ GE183.out) | exact HB.out))⟩)
                      · skip
                        refine box_step ?hg (N := 5) ?hd (cs := #[.int .i64 0, .string (⟨#[]⟩ : ByteArray), .int .u64 0]) (t := 34) ?hr ?_; (case hd => rfl); (case hg => rfl); (case hr => first | (go_simp; done) | (go_simp; rfl))
                        intro gb183 hg w11 hbox hb
                        have n0_ := Aside0.mk (Kd.R_below (Kd.R_elderB (by (with_reducible repeat (first | apply Kd.R_alloc | apply Kd.R_drewN | apply Kd.R_drew)); exact HO_3.out) gb183 (Nat.le_of_eq hg.symm)) hb)
                        have n1_ := Aside0.mk (below_step (by repeat (first | (with_reducible first | exact HB.out | apply below_alloc | apply pw_below_drewN | apply below_drew1) | exact HB.out)) hb)
                        have n2_ := Aside0.mk (hbox)
                        have n3_ := Aside0.mk ((by rw [hg]; exact (below_size (by repeat (first | (with_reducible first | exact HB.out | apply below_alloc | apply pw_below_drewN | apply below_drew1) | exact HB.out))) : w.heap.size ≤ gb183))
                        have n4_ := Aside0.mk ((by rw [hg]; exact (below_size (by repeat (first | (with_reducible first | exact HB.out | apply below_alloc | apply pw_below_drewN | apply below_drew1) | exact HB.out))) : w.heap.size ≤ gb183))
                        clear HO_3
                        clear HB
                        have HO_3 := n0_
                        have HB := n1_
                        have BK183 := n2_
                        have GW183 := n3_
                        have GE183 := n4_
                        clear n0_ n1_ n2_ n3_ n4_
                        clear hb hbox hg
                        refine hK.out _ _ ⟨((HB.out.cell (World.block_lt_of_cell? w _ hw179_0)).trans hw179_0), ((HB.out.cell (World.block_lt_of_cell? w _ hw179_1)).trans hw179_1), ((HB.out.cell (World.block_lt_of_cell? w _ hw179_2)).trans hw179_2), ((HB.out.cell (World.block_lt_of_cell? w _ hw180_0)).trans hw180_0), ((HB.out.cell (World.block_lt_of_cell? w _ hw180_1)).trans hw180_1), ((HB.out.cell (World.block_lt_of_cell? w _ hw180_2)).trans hw180_2), ((HB.out.cell (World.block_lt_of_cell? w _ hw182_0)).trans hw182_0), ((HB.out.cell (World.block_lt_of_cell? w _ hw182_1)).trans hw182_1), ((HB.out.cell (World.block_lt_of_cell? w _ hw182_2)).trans hw182_2)⟩ (fun hHeld => ?_)
                        clear hK K
                        refine norm_ (a' := ?_) ?_ ?_
                        rotate_left
                        · show Act.put _ (some 5) _ = _
                          simp only [Act.put, List.setIfInBounds_toArray, List.set_cons_zero, List.set_cons_succ, i64_w, i32_w]
                          rfl
                        refine one_ (i := 13) (N := some 29) #[true, true, true, true, true, true, true, true, true, true, true, true, true, true, true, true, true, true, true, true, false, true, false] rfl rfl (one_of HT_.out (by kernel_rfl)) (by decide) (fun K hK => ?_)
                        refine goes_ Tryz.func10 (by kernel_rfl) rfl #[.string ((rd_T34 l0 x4_1).f1)] (by rfl) rfl rfl (by (try simp only [List.map_toArray, List.map_cons, List.map_nil]); first | done | rfl | (simp only [List.length_drop, List.length_take]; rfl)) ?_
                        with_reducible refine (laws_trName.calls kj1 ((rd_T34 l0 x4_1).f1) t181 _ A7.out).mono ?_
                        rintro e w12 ⟨rfl, hb⟩
                        refine ⟨_, rfl, ?_⟩
                        have n0_ := Aside0.mk (Kd.R_below (by (with_reducible repeat (first | apply Kd.R_alloc | apply Kd.R_drewN | apply Kd.R_drew)); exact HO_3.out) hb)
                        have n1_ := Aside0.mk (blk_below (g := gb183) (o := .cells #[.int .i64 0, .string (⟨#[]⟩ : ByteArray), .int .u64 0] 34 (0, 0)) (by (with_reducible repeat (first | refine blk_drewN ?_ _ | refine blk_drew ?_ | refine blk_alloc ?_ _)); exact BK183.out) hb)
                        have n2_ := Aside0.mk (below_step (by repeat (first | (with_reducible first | exact HB.out | apply below_alloc | apply pw_below_drewN | apply below_drew1 | refine below_set ?_ GE183.out) | exact HB.out)) hb)
                        clear HO_3
                        clear BK183
                        clear HB
                        have HO_3 := n0_
                        have BK183 := n1_
                        have HB := n2_
                        clear n0_ n1_ n2_
                        (try clear hb)
                        (try clear hb2)
                        (try clear hk)
                        (try clear hi)
                        refine hK.out _ _ ⟨((HB.out.cell (World.block_lt_of_cell? w _ hw179_0)).trans hw179_0), ((HB.out.cell (World.block_lt_of_cell? w _ hw179_1)).trans hw179_1), ((HB.out.cell (World.block_lt_of_cell? w _ hw179_2)).trans hw179_2), ((HB.out.cell (World.block_lt_of_cell? w _ hw180_0)).trans hw180_0), ((HB.out.cell (World.block_lt_of_cell? w _ hw180_1)).trans hw180_1), ((HB.out.cell (World.block_lt_of_cell? w _ hw180_2)).trans hw180_2), ((HB.out.cell (World.block_lt_of_cell? w _ hw182_0)).trans hw182_0), ((HB.out.cell (World.block_lt_of_cell? w _ hw182_1)).trans hw182_1), ((HB.out.cell (World.block_lt_of_cell? w _ hw182_2)).trans hw182_2)⟩ (fun hHeld => ?_)
                        clear hK K
                        refine norm_ (a' := ?_) ?_ ?_
                        rotate_left
                        · show Act.put _ (some 29) _ = _
                          simp only [Act.put, List.setIfInBounds_toArray, List.set_cons_zero, List.set_cons_succ, i64_w, i32_w]
                          rfl
                        refine pure_ (i := 20) (N := some 36) (v := ?_) (a' := ?_) #[true, true, true, true, true, true, true, true, true, true, true, true, true, true, true, true, true, true, true, true, true, true, false] rfl rfl (any_of HT_.out (by kernel_rfl)) (fun _ _ _ h => h) (Or.inl ⟨by rfl, ?_⟩) ?_ ?_
                        rotate_left
                        · intro w'
                          go_simp
                          with_reducible rfl
                        rotate_left
                        · simp only [Act.put, List.setIfInBounds_toArray, List.set_cons_zero, List.set_cons_succ, i64_w, i32_w]
                          rfl
                        exact norm_ (by simp only [putAll, Act.put, List.setIfInBounds_toArray, List.set_cons_zero, List.set_cons_succ]) (hCont (gb183) _ ⟨hHeld, (by (with_reducible repeat (first | apply Kd.R_alloc | apply Kd.R_drewN | apply Kd.R_drew)); exact Kd.R_mono HO_3.out (fun _ hk => hk.2)), (by (with_reducible repeat (first | refine blk_drewN ?_ _ | refine blk_drew ?_ | refine blk_alloc ?_ _)); exact BK183.out), GW183.out, GE183.out, (by repeat (first | (with_reducible first | exact HB.out | apply below_alloc | apply pw_below_drewN | apply below_drew1 | refine below_set ?_ GE183.out) | exact HB.out))⟩)
                    rintro gb183 w13 ⟨hS_, h0_, h1_, h2_, h3_, h4_⟩
                    have n0_ : Aside0 (Kd.R k34 34 w13 w.heap.size (fun k_ => k_ ≠ gb183) u3 x3_1) := ⟨h0_⟩
                    have n1_ : Aside0 (w13.heap[gb183]? = some (.cells #[.int .i64 0, .string (⟨#[]⟩ : ByteArray), .int .u64 0] 34 (0, 0))) := ⟨h1_⟩
                    have n2_ : Aside0 (w.heap.size ≤ gb183) := ⟨h2_⟩
                    have n3_ : Aside0 (w.heap.size ≤ gb183) := ⟨h3_⟩
                    have n4_ : Aside0 (Below w.heap.size w w13) := ⟨h4_⟩
                    clear HO_3
                    clear HB
                    clear h0_ h1_ h2_ h3_ h4_
                    have HO_3 := n0_
                    have BK183 := n1_
                    have GW183 := n2_
                    have GE183 := n3_
                    have HB := n4_
                    clear n0_ n1_ n2_ n3_ n4_
                    have hHeld : w13.cell? (ad179.add ((x4_1).toNat * 3)) = some (.int .i64 ((rd_T34 l0 x4_1).f0)) ∧ w13.cell? ⟨(ad179.add ((x4_1).toNat * 3)).block, (ad179.add ((x4_1).toNat * 3)).off + 1, none⟩ = some (.string ((rd_T34 l0 x4_1).f1)) ∧ w13.cell? ⟨(ad179.add ((x4_1).toNat * 3)).block, (ad179.add ((x4_1).toNat * 3)).off + 2, none⟩ = some (.int .u64 ((rd_T34 l0 x4_1).f2)) ∧ w13.cell? (ad179.add ((x4_1).toNat * 3)) = some (.int .i64 ((rd_T34 l0 x4_1).f0)) ∧ w13.cell? ⟨(ad179.add ((x4_1).toNat * 3)).block, (ad179.add ((x4_1).toNat * 3)).off + 1, none⟩ = some (.string ((rd_T34 l0 x4_1).f1)) ∧ w13.cell? ⟨(ad179.add ((x4_1).toNat * 3)).block, (ad179.add ((x4_1).toNat * 3)).off + 2, none⟩ = some (.int .u64 ((rd_T34 l0 x4_1).f2)) ∧ w13.cell? (ad179.add ((x4_1).toNat * 3)) = some (.int .i64 ((rd_T34 l0 x4_1).f0)) ∧ w13.cell? ⟨(ad179.add ((x4_1).toNat * 3)).block, (ad179.add ((x4_1).toNat * 3)).off + 1, none⟩ = some (.string ((rd_T34 l0 x4_1).f1)) ∧ w13.cell? ⟨(ad179.add ((x4_1).toNat * 3)).block, (ad179.add ((x4_1).toNat * 3)).off + 2, none⟩ = some (.int .u64 ((rd_T34 l0 x4_1).f2)) := hS_
                    refine norm_ (a' := ?_) ?_ ?_
                    rotate_left
                    · simp only [putAll, Act.put, List.setIfInBounds_toArray, List.set_cons_zero, List.set_cons_succ]
                      rfl
                    refine one_ (i := 22) (N := none) #[true, true, true, true, true, true, true, true, true, true, true, true, true, true, true, true, true, true, true, true, true, true, true] rfl rfl (one_of HT_.out (by kernel_rfl)) (by decide) (fun K hK => ?_)
                    have hs14 : w13.cell? ⟨gb183, 0, none⟩ = some (.int .i64 0) := (blk_cell BK183.out 0).trans rfl
                    have hfs14 := blk_frozen BK183.out 0
                    have hs15 : w13.cell? ⟨gb183, 1, none⟩ = some (.string (⟨#[]⟩ : ByteArray)) := (blk_cell BK183.out 1).trans rfl
                    have hfs15 := blk_frozen BK183.out 1
                    have hs16 : w13.cell? ⟨gb183, 2, none⟩ = some (.int .u64 0) := (blk_cell BK183.out 2).trans rfl
                    have hfs16 := blk_frozen BK183.out 2
                    refine skip_ (w1 := ?_) (by rfl) rfl ?_ ?_
                    rotate_left
                    · go_simp
                      rfl
                    refine hK.out _ _ ⟨((cell_far (p := ⟨gb183, _, none⟩) (by first | exact Nat.ne_of_lt (Nat.lt_of_lt_of_le (by have := World.block_lt_of_cell? _ _ hw179_0; first | rwa [add_block] at this | exact this) GW183.out) | (rw [add_block]; exact Nat.ne_of_lt (Nat.lt_of_lt_of_le (by have := World.block_lt_of_cell? _ _ hw179_0; first | rwa [add_block] at this | exact this) GW183.out)) | (show (Addr.add _ _).block ≠ _; rw [add_block]; exact Nat.ne_of_lt (Nat.lt_of_lt_of_le (by have := World.block_lt_of_cell? _ _ hw179_0; first | rwa [add_block] at this | exact this) GW183.out)) | (dsimp only; exact Nat.ne_of_lt (Nat.lt_of_lt_of_le (by have := World.block_lt_of_cell? _ _ hw179_0; first | rwa [add_block] at this | exact this) GW183.out))) _).trans (((cell_far (p := ⟨gb183, _, none⟩) (by first | exact Nat.ne_of_lt (Nat.lt_of_lt_of_le (by have := World.block_lt_of_cell? _ _ hw179_0; first | rwa [add_block] at this | exact this) GW183.out) | (rw [add_block]; exact Nat.ne_of_lt (Nat.lt_of_lt_of_le (by have := World.block_lt_of_cell? _ _ hw179_0; first | rwa [add_block] at this | exact this) GW183.out)) | (show (Addr.add _ _).block ≠ _; rw [add_block]; exact Nat.ne_of_lt (Nat.lt_of_lt_of_le (by have := World.block_lt_of_cell? _ _ hw179_0; first | rwa [add_block] at this | exact this) GW183.out)) | (dsimp only; exact Nat.ne_of_lt (Nat.lt_of_lt_of_le (by have := World.block_lt_of_cell? _ _ hw179_0; first | rwa [add_block] at this | exact this) GW183.out))) _).trans (((cell_far (p := ⟨gb183, _, none⟩) (by first | exact Nat.ne_of_lt (Nat.lt_of_lt_of_le (by have := World.block_lt_of_cell? _ _ hw179_0; first | rwa [add_block] at this | exact this) GW183.out) | (rw [add_block]; exact Nat.ne_of_lt (Nat.lt_of_lt_of_le (by have := World.block_lt_of_cell? _ _ hw179_0; first | rwa [add_block] at this | exact this) GW183.out)) | (show (Addr.add _ _).block ≠ _; rw [add_block]; exact Nat.ne_of_lt (Nat.lt_of_lt_of_le (by have := World.block_lt_of_cell? _ _ hw179_0; first | rwa [add_block] at this | exact this) GW183.out)) | (dsimp only; exact Nat.ne_of_lt (Nat.lt_of_lt_of_le (by have := World.block_lt_of_cell? _ _ hw179_0; first | rwa [add_block] at this | exact this) GW183.out))) _).trans (hHeld.1)))))), ((cell_far (p := ⟨gb183, _, none⟩) (by first | exact Nat.ne_of_lt (Nat.lt_of_lt_of_le (by have := World.block_lt_of_cell? _ _ hw179_1; first | rwa [add_block] at this | exact this) GW183.out) | (rw [add_block]; exact Nat.ne_of_lt (Nat.lt_of_lt_of_le (by have := World.block_lt_of_cell? _ _ hw179_1; first | rwa [add_block] at this | exact this) GW183.out)) | (show (Addr.add _ _).block ≠ _; rw [add_block]; exact Nat.ne_of_lt (Nat.lt_of_lt_of_le (by have := World.block_lt_of_cell? _ _ hw179_1; first | rwa [add_block] at this | exact this) GW183.out)) | (dsimp only; exact Nat.ne_of_lt (Nat.lt_of_lt_of_le (by have := World.block_lt_of_cell? _ _ hw179_1; first | rwa [add_block] at this | exact this) GW183.out))) _).trans (((cell_far (p := ⟨gb183, _, none⟩) (by first | exact Nat.ne_of_lt (Nat.lt_of_lt_of_le (by have := World.block_lt_of_cell? _ _ hw179_1; first | rwa [add_block] at this | exact this) GW183.out) | (rw [add_block]; exact Nat.ne_of_lt (Nat.lt_of_lt_of_le (by have := World.block_lt_of_cell? _ _ hw179_1; first | rwa [add_block] at this | exact this) GW183.out)) | (show (Addr.add _ _).block ≠ _; rw [add_block]; exact Nat.ne_of_lt (Nat.lt_of_lt_of_le (by have := World.block_lt_of_cell? _ _ hw179_1; first | rwa [add_block] at this | exact this) GW183.out)) | (dsimp only; exact Nat.ne_of_lt (Nat.lt_of_lt_of_le (by have := World.block_lt_of_cell? _ _ hw179_1; first | rwa [add_block] at this | exact this) GW183.out))) _).trans (((cell_far (p := ⟨gb183, _, none⟩) (by first | exact Nat.ne_of_lt (Nat.lt_of_lt_of_le (by have := World.block_lt_of_cell? _ _ hw179_1; first | rwa [add_block] at this | exact this) GW183.out) | (rw [add_block]; exact Nat.ne_of_lt (Nat.lt_of_lt_of_le (by have := World.block_lt_of_cell? _ _ hw179_1; first | rwa [add_block] at this | exact this) GW183.out)) | (show (Addr.add _ _).block ≠ _; rw [add_block]; exact Nat.ne_of_lt (Nat.lt_of_lt_of_le (by have := World.block_lt_of_cell? _ _ hw179_1; first | rwa [add_block] at this | exact this) GW183.out)) | (dsimp only; exact Nat.ne_of_lt (Nat.lt_of_lt_of_le (by have := World.block_lt_of_cell? _ _ hw179_1; first | rwa [add_block] at this | exact this) GW183.out))) _).trans (hHeld.2.1)))))), ((cell_far (p := ⟨gb183, _, none⟩) (by first | exact Nat.ne_of_lt (Nat.lt_of_lt_of_le (by have := World.block_lt_of_cell? _ _ hw179_2; first | rwa [add_block] at this | exact this) GW183.out) | (rw [add_block]; exact Nat.ne_of_lt (Nat.lt_of_lt_of_le (by have := World.block_lt_of_cell? _ _ hw179_2; first | rwa [add_block] at this | exact this) GW183.out)) | (show (Addr.add _ _).block ≠ _; rw [add_block]; exact Nat.ne_of_lt (Nat.lt_of_lt_of_le (by have := World.block_lt_of_cell? _ _ hw179_2; first | rwa [add_block] at this | exact this) GW183.out)) | (dsimp only; exact Nat.ne_of_lt (Nat.lt_of_lt_of_le (by have := World.block_lt_of_cell? _ _ hw179_2; first | rwa [add_block] at this | exact this) GW183.out))) _).trans (((cell_far (p := ⟨gb183, _, none⟩) (by first | exact Nat.ne_of_lt (Nat.lt_of_lt_of_le (by have := World.block_lt_of_cell? _ _ hw179_2; first | rwa [add_block] at this | exact this) GW183.out) | (rw [add_block]; exact Nat.ne_of_lt (Nat.lt_of_lt_of_le (by have := World.block_lt_of_cell? _ _ hw179_2; first | rwa [add_block] at this | exact this) GW183.out)) | (show (Addr.add _ _).block ≠ _; rw [add_block]; exact Nat.ne_of_lt (Nat.lt_of_lt_of_le (by have := World.block_lt_of_cell? _ _ hw179_2; first | rwa [add_block] at this | exact this) GW183.out)) | (dsimp only; exact Nat.ne_of_lt (Nat.lt_of_lt_of_le (by have := World.block_lt_of_cell? _ _ hw179_2; first | rwa [add_block] at this | exact this) GW183.out))) _).trans (((cell_far (p := ⟨gb183, _, none⟩) (by first | exact Nat.ne_of_lt (Nat.lt_of_lt_of_le (by have := World.block_lt_of_cell? _ _ hw179_2; first | rwa [add_block] at this | exact this) GW183.out) | (rw [add_block]; exact Nat.ne_of_lt (Nat.lt_of_lt_of_le (by have := World.block_lt_of_cell? _ _ hw179_2; first | rwa [add_block] at this | exact this) GW183.out)) | (show (Addr.add _ _).block ≠ _; rw [add_block]; exact Nat.ne_of_lt (Nat.lt_of_lt_of_le (by have := World.block_lt_of_cell? _ _ hw179_2; first | rwa [add_block] at this | exact this) GW183.out)) | (dsimp only; exact Nat.ne_of_lt (Nat.lt_of_lt_of_le (by have := World.block_lt_of_cell? _ _ hw179_2; first | rwa [add_block] at this | exact this) GW183.out))) _).trans (hHeld.2.2.1)))))), ((cell_far (p := ⟨gb183, _, none⟩) (by first | exact Nat.ne_of_lt (Nat.lt_of_lt_of_le (by have := World.block_lt_of_cell? _ _ hw180_0; first | rwa [add_block] at this | exact this) GW183.out) | (rw [add_block]; exact Nat.ne_of_lt (Nat.lt_of_lt_of_le (by have := World.block_lt_of_cell? _ _ hw180_0; first | rwa [add_block] at this | exact this) GW183.out)) | (show (Addr.add _ _).block ≠ _; rw [add_block]; exact Nat.ne_of_lt (Nat.lt_of_lt_of_le (by have := World.block_lt_of_cell? _ _ hw180_0; first | rwa [add_block] at this | exact this) GW183.out)) | (dsimp only; exact Nat.ne_of_lt (Nat.lt_of_lt_of_le (by have := World.block_lt_of_cell? _ _ hw180_0; first | rwa [add_block] at this | exact this) GW183.out))) _).trans (((cell_far (p := ⟨gb183, _, none⟩) (by first | exact Nat.ne_of_lt (Nat.lt_of_lt_of_le (by have := World.block_lt_of_cell? _ _ hw180_0; first | rwa [add_block] at this | exact this) GW183.out) | (rw [add_block]; exact Nat.ne_of_lt (Nat.lt_of_lt_of_le (by have := World.block_lt_of_cell? _ _ hw180_0; first | rwa [add_block] at this | exact this) GW183.out)) | (show (Addr.add _ _).block ≠ _; rw [add_block]; exact Nat.ne_of_lt (Nat.lt_of_lt_of_le (by have := World.block_lt_of_cell? _ _ hw180_0; first | rwa [add_block] at this | exact this) GW183.out)) | (dsimp only; exact Nat.ne_of_lt (Nat.lt_of_lt_of_le (by have := World.block_lt_of_cell? _ _ hw180_0; first | rwa [add_block] at this | exact this) GW183.out))) _).trans (((cell_far (p := ⟨gb183, _, none⟩) (by first | exact Nat.ne_of_lt (Nat.lt_of_lt_of_le (by have := World.block_lt_of_cell? _ _ hw180_0; first | rwa [add_block] at this | exact this) GW183.out) | (rw [add_block]; exact Nat.ne_of_lt (Nat.lt_of_lt_of_le (by have := World.block_lt_of_cell? _ _ hw180_0; first | rwa [add_block] at this | exact this) GW183.out)) | (show (Addr.add _ _).block ≠ _; rw [add_block]; exact Nat.ne_of_lt (Nat.lt_of_lt_of_le (by have := World.block_lt_of_cell? _ _ hw180_0; first | rwa [add_block] at this | exact this) GW183.out)) | (dsimp only; exact Nat.ne_of_lt (Nat.lt_of_lt_of_le (by have := World.block_lt_of_cell? _ _ hw180_0; first | rwa [add_block] at this | exact this) GW183.out))) _).trans (hHeld.2.2.2.1)))))), ((cell_far (p := ⟨gb183, _, none⟩) (by first | exact Nat.ne_of_lt (Nat.lt_of_lt_of_le (by have := World.block_lt_of_cell? _ _ hw180_1; first | rwa [add_block] at this | exact this) GW183.out) | (rw [add_block]; exact Nat.ne_of_lt (Nat.lt_of_lt_of_le (by have := World.block_lt_of_cell? _ _ hw180_1; first | rwa [add_block] at this | exact this) GW183.out)) | (show (Addr.add _ _).block ≠ _; rw [add_block]; exact Nat.ne_of_lt (Nat.lt_of_lt_of_le (by have := World.block_lt_of_cell? _ _ hw180_1; first | rwa [add_block] at this | exact this) GW183.out)) | (dsimp only; exact Nat.ne_of_lt (Nat.lt_of_lt_of_le (by have := World.block_lt_of_cell? _ _ hw180_1; first | rwa [add_block] at this | exact this) GW183.out))) _).trans (((cell_far (p := ⟨gb183, _, none⟩) (by first | exact Nat.ne_of_lt (Nat.lt_of_lt_of_le (by have := World.block_lt_of_cell? _ _ hw180_1; first | rwa [add_block] at this | exact this) GW183.out) | (rw [add_block]; exact Nat.ne_of_lt (Nat.lt_of_lt_of_le (by have := World.block_lt_of_cell? _ _ hw180_1; first | rwa [add_block] at this | exact this) GW183.out)) | (show (Addr.add _ _).block ≠ _; rw [add_block]; exact Nat.ne_of_lt (Nat.lt_of_lt_of_le (by have := World.block_lt_of_cell? _ _ hw180_1; first | rwa [add_block] at this | exact this) GW183.out)) | (dsimp only; exact Nat.ne_of_lt (Nat.lt_of_lt_of_le (by have := World.block_lt_of_cell? _ _ hw180_1; first | rwa [add_block] at this | exact this) GW183.out))) _).trans (((cell_far (p := ⟨gb183, _, none⟩) (by first | exact Nat.ne_of_lt (Nat.lt_of_lt_of_le (by have := World.block_lt_of_cell? _ _ hw180_1; first | rwa [add_block] at this | exact this) GW183.out) | (rw [add_block]; exact Nat.ne_of_lt (Nat.lt_of_lt_of_le (by have := World.block_lt_of_cell? _ _ hw180_1; first | rwa [add_block] at this | exact this) GW183.out)) | (show (Addr.add _ _).block ≠ _; rw [add_block]; exact Nat.ne_of_lt (Nat.lt_of_lt_of_le (by have := World.block_lt_of_cell? _ _ hw180_1; first | rwa [add_block] at this | exact this) GW183.out)) | (dsimp only; exact Nat.ne_of_lt (Nat.lt_of_lt_of_le (by have := World.block_lt_of_cell? _ _ hw180_1; first | rwa [add_block] at this | exact this) GW183.out))) _).trans (hHeld.2.2.2.2.1)))))), ((cell_far (p := ⟨gb183, _, none⟩) (by first | exact Nat.ne_of_lt (Nat.lt_of_lt_of_le (by have := World.block_lt_of_cell? _ _ hw180_2; first | rwa [add_block] at this | exact this) GW183.out) | (rw [add_block]; exact Nat.ne_of_lt (Nat.lt_of_lt_of_le (by have := World.block_lt_of_cell? _ _ hw180_2; first | rwa [add_block] at this | exact this) GW183.out)) | (show (Addr.add _ _).block ≠ _; rw [add_block]; exact Nat.ne_of_lt (Nat.lt_of_lt_of_le (by have := World.block_lt_of_cell? _ _ hw180_2; first | rwa [add_block] at this | exact this) GW183.out)) | (dsimp only; exact Nat.ne_of_lt (Nat.lt_of_lt_of_le (by have := World.block_lt_of_cell? _ _ hw180_2; first | rwa [add_block] at this | exact this) GW183.out))) _).trans (((cell_far (p := ⟨gb183, _, none⟩) (by first | exact Nat.ne_of_lt (Nat.lt_of_lt_of_le (by have := World.block_lt_of_cell? _ _ hw180_2; first | rwa [add_block] at this | exact this) GW183.out) | (rw [add_block]; exact Nat.ne_of_lt (Nat.lt_of_lt_of_le (by have := World.block_lt_of_cell? _ _ hw180_2; first | rwa [add_block] at this | exact this) GW183.out)) | (show (Addr.add _ _).block ≠ _; rw [add_block]; exact Nat.ne_of_lt (Nat.lt_of_lt_of_le (by have := World.block_lt_of_cell? _ _ hw180_2; first | rwa [add_block] at this | exact this) GW183.out)) | (dsimp only; exact Nat.ne_of_lt (Nat.lt_of_lt_of_le (by have := World.block_lt_of_cell? _ _ hw180_2; first | rwa [add_block] at this | exact this) GW183.out))) _).trans (((cell_far (p := ⟨gb183, _, none⟩) (by first | exact Nat.ne_of_lt (Nat.lt_of_lt_of_le (by have := World.block_lt_of_cell? _ _ hw180_2; first | rwa [add_block] at this | exact this) GW183.out) | (rw [add_block]; exact Nat.ne_of_lt (Nat.lt_of_lt_of_le (by have := World.block_lt_of_cell? _ _ hw180_2; first | rwa [add_block] at this | exact this) GW183.out)) | (show (Addr.add _ _).block ≠ _; rw [add_block]; exact Nat.ne_of_lt (Nat.lt_of_lt_of_le (by have := World.block_lt_of_cell? _ _ hw180_2; first | rwa [add_block] at this | exact this) GW183.out)) | (dsimp only; exact Nat.ne_of_lt (Nat.lt_of_lt_of_le (by have := World.block_lt_of_cell? _ _ hw180_2; first | rwa [add_block] at this | exact this) GW183.out))) _).trans (hHeld.2.2.2.2.2.1)))))), ((cell_far (p := ⟨gb183, _, none⟩) (by first | exact Nat.ne_of_lt (Nat.lt_of_lt_of_le (by have := World.block_lt_of_cell? _ _ hw182_0; first | rwa [add_block] at this | exact this) GW183.out) | (rw [add_block]; exact Nat.ne_of_lt (Nat.lt_of_lt_of_le (by have := World.block_lt_of_cell? _ _ hw182_0; first | rwa [add_block] at this | exact this) GW183.out)) | (show (Addr.add _ _).block ≠ _; rw [add_block]; exact Nat.ne_of_lt (Nat.lt_of_lt_of_le (by have := World.block_lt_of_cell? _ _ hw182_0; first | rwa [add_block] at this | exact this) GW183.out)) | (dsimp only; exact Nat.ne_of_lt (Nat.lt_of_lt_of_le (by have := World.block_lt_of_cell? _ _ hw182_0; first | rwa [add_block] at this | exact this) GW183.out))) _).trans (((cell_far (p := ⟨gb183, _, none⟩) (by first | exact Nat.ne_of_lt (Nat.lt_of_lt_of_le (by have := World.block_lt_of_cell? _ _ hw182_0; first | rwa [add_block] at this | exact this) GW183.out) | (rw [add_block]; exact Nat.ne_of_lt (Nat.lt_of_lt_of_le (by have := World.block_lt_of_cell? _ _ hw182_0; first | rwa [add_block] at this | exact this) GW183.out)) | (show (Addr.add _ _).block ≠ _; rw [add_block]; exact Nat.ne_of_lt (Nat.lt_of_lt_of_le (by have := World.block_lt_of_cell? _ _ hw182_0; first | rwa [add_block] at this | exact this) GW183.out)) | (dsimp only; exact Nat.ne_of_lt (Nat.lt_of_lt_of_le (by have := World.block_lt_of_cell? _ _ hw182_0; first | rwa [add_block] at this | exact this) GW183.out))) _).trans (((cell_far (p := ⟨gb183, _, none⟩) (by first | exact Nat.ne_of_lt (Nat.lt_of_lt_of_le (by have := World.block_lt_of_cell? _ _ hw182_0; first | rwa [add_block] at this | exact this) GW183.out) | (rw [add_block]; exact Nat.ne_of_lt (Nat.lt_of_lt_of_le (by have := World.block_lt_of_cell? _ _ hw182_0; first | rwa [add_block] at this | exact this) GW183.out)) | (show (Addr.add _ _).block ≠ _; rw [add_block]; exact Nat.ne_of_lt (Nat.lt_of_lt_of_le (by have := World.block_lt_of_cell? _ _ hw182_0; first | rwa [add_block] at this | exact this) GW183.out)) | (dsimp only; exact Nat.ne_of_lt (Nat.lt_of_lt_of_le (by have := World.block_lt_of_cell? _ _ hw182_0; first | rwa [add_block] at this | exact this) GW183.out))) _).trans (hHeld.2.2.2.2.2.2.1)))))), ((cell_far (p := ⟨gb183, _, none⟩) (by first | exact Nat.ne_of_lt (Nat.lt_of_lt_of_le (by have := World.block_lt_of_cell? _ _ hw182_1; first | rwa [add_block] at this | exact this) GW183.out) | (rw [add_block]; exact Nat.ne_of_lt (Nat.lt_of_lt_of_le (by have := World.block_lt_of_cell? _ _ hw182_1; first | rwa [add_block] at this | exact this) GW183.out)) | (show (Addr.add _ _).block ≠ _; rw [add_block]; exact Nat.ne_of_lt (Nat.lt_of_lt_of_le (by have := World.block_lt_of_cell? _ _ hw182_1; first | rwa [add_block] at this | exact this) GW183.out)) | (dsimp only; exact Nat.ne_of_lt (Nat.lt_of_lt_of_le (by have := World.block_lt_of_cell? _ _ hw182_1; first | rwa [add_block] at this | exact this) GW183.out))) _).trans (((cell_far (p := ⟨gb183, _, none⟩) (by first | exact Nat.ne_of_lt (Nat.lt_of_lt_of_le (by have := World.block_lt_of_cell? _ _ hw182_1; first | rwa [add_block] at this | exact this) GW183.out) | (rw [add_block]; exact Nat.ne_of_lt (Nat.lt_of_lt_of_le (by have := World.block_lt_of_cell? _ _ hw182_1; first | rwa [add_block] at this | exact this) GW183.out)) | (show (Addr.add _ _).block ≠ _; rw [add_block]; exact Nat.ne_of_lt (Nat.lt_of_lt_of_le (by have := World.block_lt_of_cell? _ _ hw182_1; first | rwa [add_block] at this | exact this) GW183.out)) | (dsimp only; exact Nat.ne_of_lt (Nat.lt_of_lt_of_le (by have := World.block_lt_of_cell? _ _ hw182_1; first | rwa [add_block] at this | exact this) GW183.out))) _).trans (((cell_far (p := ⟨gb183, _, none⟩) (by first | exact Nat.ne_of_lt (Nat.lt_of_lt_of_le (by have := World.block_lt_of_cell? _ _ hw182_1; first | rwa [add_block] at this | exact this) GW183.out) | (rw [add_block]; exact Nat.ne_of_lt (Nat.lt_of_lt_of_le (by have := World.block_lt_of_cell? _ _ hw182_1; first | rwa [add_block] at this | exact this) GW183.out)) | (show (Addr.add _ _).block ≠ _; rw [add_block]; exact Nat.ne_of_lt (Nat.lt_of_lt_of_le (by have := World.block_lt_of_cell? _ _ hw182_1; first | rwa [add_block] at this | exact this) GW183.out)) | (dsimp only; exact Nat.ne_of_lt (Nat.lt_of_lt_of_le (by have := World.block_lt_of_cell? _ _ hw182_1; first | rwa [add_block] at this | exact this) GW183.out))) _).trans (hHeld.2.2.2.2.2.2.2.1)))))), ((cell_far (p := ⟨gb183, _, none⟩) (by first | exact Nat.ne_of_lt (Nat.lt_of_lt_of_le (by have := World.block_lt_of_cell? _ _ hw182_2; first | rwa [add_block] at this | exact this) GW183.out) | (rw [add_block]; exact Nat.ne_of_lt (Nat.lt_of_lt_of_le (by have := World.block_lt_of_cell? _ _ hw182_2; first | rwa [add_block] at this | exact this) GW183.out)) | (show (Addr.add _ _).block ≠ _; rw [add_block]; exact Nat.ne_of_lt (Nat.lt_of_lt_of_le (by have := World.block_lt_of_cell? _ _ hw182_2; first | rwa [add_block] at this | exact this) GW183.out)) | (dsimp only; exact Nat.ne_of_lt (Nat.lt_of_lt_of_le (by have := World.block_lt_of_cell? _ _ hw182_2; first | rwa [add_block] at this | exact this) GW183.out))) _).trans (((cell_far (p := ⟨gb183, _, none⟩) (by first | exact Nat.ne_of_lt (Nat.lt_of_lt_of_le (by have := World.block_lt_of_cell? _ _ hw182_2; first | rwa [add_block] at this | exact this) GW183.out) | (rw [add_block]; exact Nat.ne_of_lt (Nat.lt_of_lt_of_le (by have := World.block_lt_of_cell? _ _ hw182_2; first | rwa [add_block] at this | exact this) GW183.out)) | (show (Addr.add _ _).block ≠ _; rw [add_block]; exact Nat.ne_of_lt (Nat.lt_of_lt_of_le (by have := World.block_lt_of_cell? _ _ hw182_2; first | rwa [add_block] at this | exact this) GW183.out)) | (dsimp only; exact Nat.ne_of_lt (Nat.lt_of_lt_of_le (by have := World.block_lt_of_cell? _ _ hw182_2; first | rwa [add_block] at this | exact this) GW183.out))) _).trans (((cell_far (p := ⟨gb183, _, none⟩) (by first | exact Nat.ne_of_lt (Nat.lt_of_lt_of_le (by have := World.block_lt_of_cell? _ _ hw182_2; first | rwa [add_block] at this | exact this) GW183.out) | (rw [add_block]; exact Nat.ne_of_lt (Nat.lt_of_lt_of_le (by have := World.block_lt_of_cell? _ _ hw182_2; first | rwa [add_block] at this | exact this) GW183.out)) | (show (Addr.add _ _).block ≠ _; rw [add_block]; exact Nat.ne_of_lt (Nat.lt_of_lt_of_le (by have := World.block_lt_of_cell? _ _ hw182_2; first | rwa [add_block] at this | exact this) GW183.out)) | (dsimp only; exact Nat.ne_of_lt (Nat.lt_of_lt_of_le (by have := World.block_lt_of_cell? _ _ hw182_2; first | rwa [add_block] at this | exact this) GW183.out))) _).trans (hHeld.2.2.2.2.2.2.2.2))))))⟩ (fun hHeld => ?_)
                    clear hK K
                    refine done_ (done_of HT_.out (by kernel_rfl)) ?_
                    have hcz17_0 : w13.cell? ⟨gb183, 0, none⟩ = some (.int .i64 0) := (blk_cell BK183.out 0).trans rfl
                    have hcz17_1 : w13.cell? ⟨gb183, 1, none⟩ = some (.string (⟨#[]⟩ : ByteArray)) := (blk_cell BK183.out 1).trans rfl
                    have hcz17_2 : w13.cell? ⟨gb183, 2, none⟩ = some (.int .u64 0) := (blk_cell BK183.out 2).trans rfl
                    have hfz17_0 := blk_frozen BK183.out 0
                    have hfz17_1 := blk_frozen BK183.out 1
                    have hfz17_2 := blk_frozen BK183.out 2
                    obtain ⟨hq0, hq1, hq2⟩ := cells1 w13 gb183 _ _ _ (.int .i64 (wrap64 (Int.tmod (IntKind.u64.wrap ((rd_T34 l0 x4_1).f0)) 4))) (.string t181) (.int .u64 (Int.tmod ((rd_T34 l0 x4_1).f2) 1000000)) (.string (⟨#[]⟩ : ByteArray)) hcz17_0 hcz17_1 hcz17_2
                    try go_wp2_with (first | ((with_reducible refine gate_builtin (b := .append) (xs := #[.tmp 47, .tmp 49]) rfl ?_); at_builtin; refine Kd.R_append k34 (w0 := w) w.heap.size rfl (.tmp 47) (.tmp 49) 22 34 (.agg #[(.int .i64 0), (.string ⟨#[]⟩), (.int .u64 0)]) 32 rfl Tryz.underlying22 info34 rfl (by decide) (by omega) u3 x3_1 (⟨wrap64 (Int.tmod (IntKind.u64.wrap ((rd_T34 l0 x4_1).f0)) 4), (⟨#[]⟩ : ByteArray), Int.tmod ((rd_T34 l0 x4_1).f2) 1000000⟩ : S34) [.int .i64 (wrap64 (Int.tmod (IntKind.u64.wrap ((rd_T34 l0 x4_1).f0)) 4)), .string (⟨#[]⟩ : ByteArray), .int .u64 (Int.tmod ((rd_T34 l0 x4_1).f2) 1000000)] (fun k_ => k_ ≠ gb183) (fun _ => False) rfl (by first | (go_simp; done) | (go_simp; rfl)) ?aP (fun _ hk => hk.elim) ?aF ?aO ?aB ?aS ?aL ?_; (case aP => exact k34_mkM _ _ _ (⟨wrap64 (Int.tmod (IntKind.u64.wrap ((rd_T34 l0 x4_1).f0)) 4), (⟨#[]⟩ : ByteArray), Int.tmod ((rd_T34 l0 x4_1).f2) 1000000⟩ : S34)); (case aB => exact (by repeat (first | (with_reducible first | exact HB.out | apply below_alloc | apply pw_below_drewN | apply below_drew1 | refine below_set ?_ GE183.out) | exact HB.out))); (case aF => exact (fun k_ hk => Kd.freshB (g := gb183) (o := .cells #[.int .i64 (wrap64 (Int.tmod (IntKind.u64.wrap ((rd_T34 l0 x4_1).f0)) 4)), .string (⟨#[]⟩ : ByteArray), .int .u64 (Int.tmod ((rd_T34 l0 x4_1).f2) 1000000)] 34 (0, 0)) (by (with_reducible repeat (first | refine blk_drewN ?_ _ | refine blk_drew ?_ | refine blk_alloc ?_ _)); refine blk_put (cs := #[.int .i64 (wrap64 (Int.tmod (IntKind.u64.wrap ((rd_T34 l0 x4_1).f0)) 4)), .string t181, .int .u64 (Int.tmod ((rd_T34 l0 x4_1).f2) 1000000)]) ?_ 1 _ rfl; (with_reducible repeat (first | refine blk_drewN ?_ _ | refine blk_drew ?_ | refine blk_alloc ?_ _)); refine blk_put (cs := #[.int .i64 (wrap64 (Int.tmod (IntKind.u64.wrap ((rd_T34 l0 x4_1).f0)) 4)), .string t181, .int .u64 0]) ?_ 2 _ rfl; (with_reducible repeat (first | refine blk_drewN ?_ _ | refine blk_drew ?_ | refine blk_alloc ?_ _)); refine blk_put (cs := #[.int .i64 (wrap64 (Int.tmod (IntKind.u64.wrap ((rd_T34 l0 x4_1).f0)) 4)), .string (⟨#[]⟩ : ByteArray), .int .u64 0]) ?_ 1 _ rfl; (with_reducible repeat (first | refine blk_drewN ?_ _ | refine blk_drew ?_ | refine blk_alloc ?_ _)); refine blk_put (cs := #[.int .i64 0, .string (⟨#[]⟩ : ByteArray), .int .u64 0]) ?_ 0 _ rfl; (with_reducible repeat (first | refine blk_drewN ?_ _ | refine blk_drew ?_ | refine blk_alloc ?_ _)); exact BK183.out) k_ hk)); (case aO => exact (by (with_reducible repeat (first | apply Kd.R_alloc | apply Kd.R_drewN | apply Kd.R_drew)); exact Kd.R_mono (Kd.R_far (p := ⟨gb183, 1, none⟩) (Kd.R_far (p := ⟨gb183, 2, none⟩) (Kd.R_far (p := ⟨gb183, 1, none⟩) (Kd.R_far (p := ⟨gb183, 0, none⟩) (Kd.R_mono HO_3.out (fun k_ hk => (⟨hk, hk⟩ : _ ∧ k_ ≠ gb183))) (fun _ hk => hk.2) (.int .i64 (wrap64 (Int.tmod (IntKind.u64.wrap ((rd_T34 l0 x4_1).f0)) 4)))) (fun _ hk => hk.2) (.string t181)) (fun _ hk => hk.2) (.int .u64 (Int.tmod ((rd_T34 l0 x4_1).f2) 1000000))) (fun _ hk => hk.2) (.string (⟨#[]⟩ : ByteArray))) (fun _ hk => hk.1))); (case aS => exact (below_size (by repeat (first | (with_reducible first | exact HB.out | apply below_alloc | apply pw_below_drewN | apply below_drew1 | refine below_set ?_ GE183.out) | exact HB.out)))); (case aL => have := LMc9.out; omega); intro v185 w18 ho hb hg hat; rw [← Ny184.out] at ho; have n0_ := Aside0.mk (blk_grown (g := gb183) (o := .cells #[.int .i64 (wrap64 (Int.tmod (IntKind.u64.wrap ((rd_T34 l0 x4_1).f0)) 4)), .string (⟨#[]⟩ : ByteArray), .int .u64 (Int.tmod ((rd_T34 l0 x4_1).f2) 1000000)] 34 (0, 0)) (by (with_reducible repeat (first | refine blk_drewN ?_ _ | refine blk_drew ?_ | refine blk_alloc ?_ _)); refine blk_put (cs := #[.int .i64 (wrap64 (Int.tmod (IntKind.u64.wrap ((rd_T34 l0 x4_1).f0)) 4)), .string t181, .int .u64 (Int.tmod ((rd_T34 l0 x4_1).f2) 1000000)]) ?_ 1 _ rfl; (with_reducible repeat (first | refine blk_drewN ?_ _ | refine blk_drew ?_ | refine blk_alloc ?_ _)); refine blk_put (cs := #[.int .i64 (wrap64 (Int.tmod (IntKind.u64.wrap ((rd_T34 l0 x4_1).f0)) 4)), .string t181, .int .u64 0]) ?_ 2 _ rfl; (with_reducible repeat (first | refine blk_drewN ?_ _ | refine blk_drew ?_ | refine blk_alloc ?_ _)); refine blk_put (cs := #[.int .i64 (wrap64 (Int.tmod (IntKind.u64.wrap ((rd_T34 l0 x4_1).f0)) 4)), .string (⟨#[]⟩ : ByteArray), .int .u64 0]) ?_ 1 _ rfl; (with_reducible repeat (first | refine blk_drewN ?_ _ | refine blk_drew ?_ | refine blk_alloc ?_ _)); refine blk_put (cs := #[.int .i64 0, .string (⟨#[]⟩ : ByteArray), .int .u64 0]) ?_ 0 _ rfl; (with_reducible repeat (first | refine blk_drewN ?_ _ | refine blk_drew ?_ | refine blk_alloc ?_ _)); exact BK183.out) hg (Kd.R_away HO_3.out (fun _ hk => hk))); have n1_ := Aside0.mk (hb); have n2_ := Aside0.mk (ho); clear BK183; clear HB; clear HO_3; have BK183 := n0_; have HB := n1_; have HO186 := n2_; clear n0_ n1_ n2_; clear ho hb hg hat))
                    go_roundg kj1
                    case measure => have := HK1.out; have := HJ1.out; omega
                    case rel => exact ⟨(y184), (wrap64 (x4_1 + 1)), (by first | rfl | (simp; done) | (simp [*]; done)), H', ⟨by have := HK1.out; have := HJ1.out; omega⟩, ⟨by (with_reducible repeat (first | apply Kd.R_alloc | apply Kd.R_drewN | apply Kd.R_drew)); exact Kd.R_mono HO186.out (fun _ hk => trivial)⟩, ⟨by repeat (first | (with_reducible first | exact HB.out | apply below_alloc | apply pw_below_drewN | apply below_drew1 | refine below_set ?_ GE183.out) | exact HB.out)⟩⟩
                  · rw [if_neg c9] at H
                    exact absurd H (by simp)
                · rw [if_neg c8] at H
                  have c8b0 : ((wrap64 (Int.tmod (IntKind.u64.wrap ((rd_T34 l0 x4_1).f0)) 4)) == 1) = false := beq_eq_false_iff_ne.mpr c8
                  have c8b1 : ((wrap64 (Int.tmod (IntKind.u64.wrap ((rd_T34 l0 x4_1).f0)) 4)) != 1) = true := bne_iff_ne.mpr c8
                  by_cases c19 : (wrap64 (Int.tmod (IntKind.u64.wrap ((rd_T34 l0 x4_1).f0)) 4)) = 2
                  · rw [if_pos c19] at H
                    have c19b0 : ((wrap64 (Int.tmod (IntKind.u64.wrap ((rd_T34 l0 x4_1).f0)) 4)) == 2) = true := beq_iff_eq.mpr c19
                    have c19b1 : ((wrap64 (Int.tmod (IntKind.u64.wrap ((rd_T34 l0 x4_1).f0)) 4)) != 2) = false := bne_eq_false_iff_eq.mpr c19
                    clear c19
                    by_cases c20 : x3_1.length < 4398046511104
                    · rw [if_pos c20] at H
                      have LMc20 := Aside0.mk c20
                      clear c20
                      obtain ⟨y187, hy187⟩ : ∃ y_ : List (S34), y_ = (x3_1 ++ [(⟨wrap64 (Int.tmod (IntKind.u64.wrap ((rd_T34 l0 x4_1).f0)) 4), (⟨#[]⟩ : ByteArray), Int.tmod ((rd_T34 l0 x4_1).f2) 1000000⟩ : S34)]) := ⟨_, rfl⟩
                      replace H : (laws_trSteps.l0 kj1 l0 y187 (wrap64 (x4_1 + 1))) = some r := by first | (rw [hy187]; with_reducible exact H) | (have H2_ := (Option.bind_some _ _).symm.trans H; rw [hy187]; with_reducible exact H2_) | (have H2_ := (Option.bind_some _ _).symm.trans H; with_reducible exact H2_) | with_reducible exact H | (rw [hy187]; exact H) | exact H
                      have Ny187 := Aside0.mk hy187
                      clear hy187
                      have H' := Aside0.mk H
                      clear H
                      try go_wp2
                      have n0_ := Aside0.mk (Kd.R_drew HO_3.out)
                      have n1_ := Aside0.mk (below_drew1 HB.out)
                      clear HO_3
                      clear HB
                      have HO_3 := n0_
                      have HB := n1_
                      clear n0_ n1_
                      have p179 : 0 ≤ (x4_1 : Int) := of_decide_eq_true (by first | (with_reducible assumption) | assumption)
                      have q179 : x4_1 < (l0.length : Int) := of_decide_eq_true (by first | (with_reducible assumption) | assumption)
                      obtain ⟨ad179, e179, hx179_0, hx179_1, hx179_2⟩ := at_T34 HR0.out x4_1 p179 q179
                      have hw179_2 := hx179_2
                      have hw179_1 := hx179_1
                      have hw179_0 := hx179_0
                      cases e179
                      replace hx179_0 := (HB.out.cell (World.block_lt_of_cell? w _ hx179_0)).trans hx179_0
                      replace hx179_1 := (HB.out.cell (World.block_lt_of_cell? w _ hx179_1)).trans hx179_1
                      replace hx179_2 := (HB.out.cell (World.block_lt_of_cell? w _ hx179_2)).trans hx179_2
                      replace p179 := eq_true p179
                      replace q179 := eq_true q179
                      have p180 : 0 ≤ (x4_1 : Int) := of_decide_eq_true (by first | (with_reducible assumption) | assumption)
                      have q180 : x4_1 < (l0.length : Int) := of_decide_eq_true (by first | (with_reducible assumption) | assumption)
                      obtain ⟨ad180, e180, hx180_0, hx180_1, hx180_2⟩ := at_T34 HR0.out x4_1 p180 q180
                      have hw180_2 := hx180_2
                      have hw180_1 := hx180_1
                      have hw180_0 := hx180_0
                      obtain rfl : ad179 = ad180 := (by injection e180)
                      replace hx180_0 := (HB.out.cell (World.block_lt_of_cell? w _ hx180_0)).trans hx180_0
                      replace hx180_1 := (HB.out.cell (World.block_lt_of_cell? w _ hx180_1)).trans hx180_1
                      replace hx180_2 := (HB.out.cell (World.block_lt_of_cell? w _ hx180_2)).trans hx180_2
                      replace p180 := eq_true p180
                      replace q180 := eq_true q180
                      have p182 : 0 ≤ (x4_1 : Int) := of_decide_eq_true (by first | (with_reducible assumption) | assumption)
                      have q182 : x4_1 < (l0.length : Int) := of_decide_eq_true (by first | (with_reducible assumption) | assumption)
                      obtain ⟨ad182, e182, hx182_0, hx182_1, hx182_2⟩ := at_T34 HR0.out x4_1 p182 q182
                      have hw182_2 := hx182_2
                      have hw182_1 := hx182_1
                      have hw182_0 := hx182_0
                      obtain rfl : ad179 = ad182 := (by injection e182)
                      replace hx182_0 := (HB.out.cell (World.block_lt_of_cell? w _ hx182_0)).trans hx182_0
                      replace hx182_1 := (HB.out.cell (World.block_lt_of_cell? w _ hx182_1)).trans hx182_1
                      replace hx182_2 := (HB.out.cell (World.block_lt_of_cell? w _ hx182_2)).trans hx182_2
                      replace p182 := eq_true p182
                      replace q182 := eq_true q182
                      refine start_ (n := 23) (S := fun w' => w'.cell? (ad179.add ((x4_1).toNat * 3)) = some (.int .i64 ((rd_T34 l0 x4_1).f0)) ∧ w'.cell? ⟨(ad179.add ((x4_1).toNat * 3)).block, (ad179.add ((x4_1).toNat * 3)).off + 1, none⟩ = some (.string ((rd_T34 l0 x4_1).f1)) ∧ w'.cell? ⟨(ad179.add ((x4_1).toNat * 3)).block, (ad179.add ((x4_1).toNat * 3)).off + 2, none⟩ = some (.int .u64 ((rd_T34 l0 x4_1).f2)) ∧ w'.cell? (ad179.add ((x4_1).toNat * 3)) = some (.int .i64 ((rd_T34 l0 x4_1).f0)) ∧ w'.cell? ⟨(ad179.add ((x4_1).toNat * 3)).block, (ad179.add ((x4_1).toNat * 3)).off + 1, none⟩ = some (.string ((rd_T34 l0 x4_1).f1)) ∧ w'.cell? ⟨(ad179.add ((x4_1).toNat * 3)).block, (ad179.add ((x4_1).toNat * 3)).off + 2, none⟩ = some (.int .u64 ((rd_T34 l0 x4_1).f2)) ∧ w'.cell? (ad179.add ((x4_1).toNat * 3)) = some (.int .i64 ((rd_T34 l0 x4_1).f0)) ∧ w'.cell? ⟨(ad179.add ((x4_1).toNat * 3)).block, (ad179.add ((x4_1).toNat * 3)).off + 1, none⟩ = some (.string ((rd_T34 l0 x4_1).f1)) ∧ w'.cell? ⟨(ad179.add ((x4_1).toNat * 3)).block, (ad179.add ((x4_1).toNat * 3)).off + 2, none⟩ = some (.int .u64 ((rd_T34 l0 x4_1).f2))) (ds := []) #[false, false, false, false, false, false, false, false, false, false, false, false, false, false, false, false, false, false, false, false, false, false, false] (by kernel_rfl) rfl rfl ⟨((HB.out.cell (World.block_lt_of_cell? w _ hw179_0)).trans hw179_0), ((HB.out.cell (World.block_lt_of_cell? w _ hw179_1)).trans hw179_1), ((HB.out.cell (World.block_lt_of_cell? w _ hw179_2)).trans hw179_2), ((HB.out.cell (World.block_lt_of_cell? w _ hw180_0)).trans hw180_0), ((HB.out.cell (World.block_lt_of_cell? w _ hw180_1)).trans hw180_1), ((HB.out.cell (World.block_lt_of_cell? w _ hw180_2)).trans hw180_2), ((HB.out.cell (World.block_lt_of_cell? w _ hw182_0)).trans hw182_0), ((HB.out.cell (World.block_lt_of_cell? w _ hw182_1)).trans hw182_1), ((HB.out.cell (World.block_lt_of_cell? w _ hw182_2)).trans hw182_2)⟩ (fun hHeld => ?_); refine with_tabW laws_trSteps.tab5 laws_trSteps.bits5 (fun HT_ HW_ => ?_)
                      generalize wc.drew = w21 at HO_3 HB hx179_0 hx179_1 hx179_2 hx180_0 hx180_1 hx180_2 hx182_0 hx182_1 hx182_2 hHeld ⊢
                      refine pure_ (i := 0) (N := some 16) (v := ?_) (a' := ?_) #[true, false, false, false, false, false, false, false, false, false, false, false, false, false, false, false, false, false, false, false, false, false, false] rfl rfl (any_of HT_.out (by kernel_rfl)) (fun _ _ _ h => h) (Or.inl ⟨by rfl, ?_⟩) ?_ ?_
                      rotate_left
                      · intro w'
                        go_simp
                        with_reducible rfl
                      rotate_left
                      · simp only [Act.put, List.setIfInBounds_toArray, List.set_cons_zero, List.set_cons_succ, i64_w, i32_w]
                        rfl
                      refine pure_ (i := 1) (N := some 17) (v := ?_) (a' := ?_) #[true, true, false, false, false, false, false, false, false, false, false, false, false, false, false, false, false, false, false, false, false, false, false] rfl rfl (any_of HT_.out (by kernel_rfl)) (fun _ _ _ h => h) (Or.inl ⟨by rfl, ?_⟩) ?_ ?_
                      rotate_left
                      · intro w'
                        go_simp
                        with_reducible rfl
                      rotate_left
                      · simp only [Act.put, List.setIfInBounds_toArray, List.set_cons_zero, List.set_cons_succ, i64_w, i32_w]
                        rfl
                      refine pure_ (i := 2) (N := some 18) (v := ?_) (a' := ?_) #[true, true, true, false, false, false, false, false, false, false, false, false, false, false, false, false, false, false, false, false, false, false, false] rfl rfl (any_of HT_.out (by kernel_rfl)) (fun _ _ _ h => h) (Or.inl ⟨by rfl, ?_⟩) ?_ ?_
                      rotate_left
                      · intro w'
                        go_simp
                        with_reducible rfl
                      rotate_left
                      · simp only [Act.put, List.setIfInBounds_toArray, List.set_cons_zero, List.set_cons_succ, i64_w, i32_w]
                        rfl
                      refine pure_ (i := 3) (N := some 19) (v := ?_) (a' := ?_) #[true, true, true, true, false, false, false, false, false, false, false, false, false, false, false, false, false, false, false, false, false, false, false] rfl rfl (any_of HT_.out (by kernel_rfl)) (fun _ _ _ h => h) (Or.inl ⟨by rfl, ?_⟩) ?_ ?_
                      rotate_left
                      · intro w'
                        go_simp
                        with_reducible rfl
                      rotate_left
                      · simp only [Act.put, List.setIfInBounds_toArray, List.set_cons_zero, List.set_cons_succ, i64_w, i32_w]
                        rfl
                      refine pure_ (i := 8) (N := some 24) (v := ?_) (a' := ?_) #[true, true, true, true, false, false, false, false, true, false, false, false, false, false, false, false, false, false, false, false, false, false, false] rfl rfl (any_of HT_.out (by kernel_rfl)) (fun _ _ _ h => h) (Or.inl ⟨by rfl, ?_⟩) ?_ ?_
                      rotate_left
                      · intro w'
                        go_simp
                        with_reducible rfl
                      rotate_left
                      · simp only [Act.put, List.setIfInBounds_toArray, List.set_cons_zero, List.set_cons_succ, i64_w, i32_w]
                        rfl
                      refine pure_ (i := 9) (N := some 25) (v := ?_) (a' := ?_) #[true, true, true, true, false, false, false, false, true, true, false, false, false, false, false, false, false, false, false, false, false, false, false] rfl rfl (any_of HT_.out (by kernel_rfl)) (fun _ _ _ h => h) (Or.inl ⟨by rfl, ?_⟩) ?_ ?_
                      rotate_left
                      · intro w'
                        go_simp
                        with_reducible rfl
                      rotate_left
                      · simp only [Act.put, List.setIfInBounds_toArray, List.set_cons_zero, List.set_cons_succ, i64_w, i32_w]
                        rfl
                      refine pure_ (i := 10) (N := some 26) (v := ?_) (a' := ?_) #[true, true, true, true, false, false, false, false, true, true, true, false, false, false, false, false, false, false, false, false, false, false, false] rfl rfl (any_of HT_.out (by kernel_rfl)) (fun _ _ _ h => h) (Or.inl ⟨by rfl, ?_⟩) ?_ ?_
                      rotate_left
                      · intro w'
                        go_simp
                        with_reducible rfl
                      rotate_left
                      · simp only [Act.put, List.setIfInBounds_toArray, List.set_cons_zero, List.set_cons_succ, i64_w, i32_w]
                        rfl
                      refine pure_ (i := 11) (N := some 27) (v := ?_) (a' := ?_) #[true, true, true, true, false, false, false, false, true, true, true, true, false, false, false, false, false, false, false, false, false, false, false] rfl rfl (any_of HT_.out (by kernel_rfl)) (fun _ _ _ h => h) (Or.inl ⟨by rfl, ?_⟩) ?_ ?_
                      rotate_left
                      · intro w'
                        go_simp
                        with_reducible rfl
                      rotate_left
                      · simp only [Act.put, List.setIfInBounds_toArray, List.set_cons_zero, List.set_cons_succ, i64_w, i32_w]
                        rfl
                      refine pure_ (i := 14) (N := some 30) (v := ?_) (a' := ?_) #[true, true, true, true, false, false, false, false, true, true, true, true, false, false, true, false, false, false, false, false, false, false, false] rfl rfl (any_of HT_.out (by kernel_rfl)) (fun _ _ _ h => h) (Or.inl ⟨by rfl, ?_⟩) ?_ ?_
                      rotate_left
                      · intro w'
                        go_simp
                        with_reducible rfl
                      rotate_left
                      · simp only [Act.put, List.setIfInBounds_toArray, List.set_cons_zero, List.set_cons_succ, i64_w, i32_w]
                        rfl
                      refine pure_ (i := 15) (N := some 31) (v := ?_) (a' := ?_) #[true, true, true, true, false, false, false, false, true, true, true, true, false, false, true, true, false, false, false, false, false, false, false] rfl rfl (any_of HT_.out (by kernel_rfl)) (fun _ _ _ h => h) (Or.inl ⟨by rfl, ?_⟩) ?_ ?_
                      rotate_left
                      · intro w'
                        go_simp
                        with_reducible rfl
                      rotate_left
                      · simp only [Act.put, List.setIfInBounds_toArray, List.set_cons_zero, List.set_cons_succ, i64_w, i32_w]
                        rfl
                      refine pure_ (i := 16) (N := some 32) (v := ?_) (a' := ?_) #[true, true, true, true, false, false, false, false, true, true, true, true, false, false, true, true, true, false, false, false, false, false, false] rfl rfl (any_of HT_.out (by kernel_rfl)) (fun _ _ _ h => h) (Or.inl ⟨by rfl, ?_⟩) ?_ ?_
                      rotate_left
                      · intro w'
                        go_simp
                        with_reducible rfl
                      rotate_left
                      · simp only [Act.put, List.setIfInBounds_toArray, List.set_cons_zero, List.set_cons_succ, i64_w, i32_w]
                        rfl
                      refine pure_ (i := 17) (N := some 33) (v := ?_) (a' := ?_) #[true, true, true, true, false, false, false, false, true, true, true, true, false, false, true, true, true, true, false, false, false, false, false] rfl rfl (any_of HT_.out (by kernel_rfl)) (fun _ _ _ h => h) (Or.inl ⟨by rfl, ?_⟩) ?_ ?_
                      rotate_left
                      · intro w'
                        go_simp
                        with_reducible rfl
                      rotate_left
                      · simp only [Act.put, List.setIfInBounds_toArray, List.set_cons_zero, List.set_cons_succ, i64_w, i32_w]
                        rfl
                      refine take_ (i := 4) (N := some 20) (v := ?_) (a' := ?_) #[true, true, true, true, true, false, false, false, true, true, true, true, false, false, true, true, true, true, false, false, false, false, false] rfl rfl (take_ofW HT_.out HW_.out (by kernel_rfl)) (fun _ _ _ h => h) (Or.inl ⟨by rfl, ?_⟩) hHeld ?_ ?_
                      rotate_left
                      · rintro w' ⟨s0, s1, s2, s3, s4, s5, s6, s7, s8⟩
                        go_simp
                        with_reducible rfl
                      rotate_left
                      · simp only [Act.put, List.setIfInBounds_toArray, List.set_cons_zero, List.set_cons_succ, i64_w, i32_w]
                        rfl
                      refine pure_ (i := 5) (N := some 21) (v := ?_) (a' := ?_) #[true, true, true, true, true, true, false, false, true, true, true, true, false, false, true, true, true, true, false, false, false, false, false] rfl rfl (any_of HT_.out (by kernel_rfl)) (fun _ _ _ h => h) (Or.inl ⟨by rfl, ?_⟩) ?_ ?_
                      rotate_left
                      · intro w'
                        go_simp
                        with_reducible rfl
                      rotate_left
                      · simp only [Act.put, List.setIfInBounds_toArray, List.set_cons_zero, List.set_cons_succ, i64_w, i32_w]
                        rfl
                      refine pure_ (i := 6) (N := some 22) (v := ?_) (a' := ?_) #[true, true, true, true, true, true, true, false, true, true, true, true, false, false, true, true, true, true, false, false, false, false, false] rfl rfl (any_of HT_.out (by kernel_rfl)) (fun _ _ _ h => h) (Or.inl ⟨by rfl, ?_⟩) ?_ ?_
                      rotate_left
                      · intro w'
                        go_simp
                        with_reducible rfl
                      rotate_left
                      · simp only [Act.put, List.setIfInBounds_toArray, List.set_cons_zero, List.set_cons_succ, i64_w, i32_w]
                        rfl
                      refine pure_ (i := 7) (N := some 23) (v := ?_) (a' := ?_) #[true, true, true, true, true, true, true, true, true, true, true, true, false, false, true, true, true, true, false, false, false, false, false] rfl rfl (any_of HT_.out (by kernel_rfl)) (fun _ _ _ h => h) (Or.inl ⟨by rfl, ?_⟩) ?_ ?_
                      rotate_left
                      · intro w'
                        go_simp
                        with_reducible rfl
                      rotate_left
                      · simp only [Act.put, List.setIfInBounds_toArray, List.set_cons_zero, List.set_cons_succ, i64_w, i32_w]
                        rfl
                      refine take_ (i := 12) (N := some 28) (v := ?_) (a' := ?_) #[true, true, true, true, true, true, true, true, true, true, true, true, true, false, true, true, true, true, false, false, false, false, false] rfl rfl (take_ofW HT_.out HW_.out (by kernel_rfl)) (fun _ _ _ h => h) (Or.inl ⟨by rfl, ?_⟩) hHeld ?_ ?_
                      rotate_left
                      · rintro w' ⟨s0, s1, s2, s3, s4, s5, s6, s7, s8⟩
                        go_simp
                        with_reducible rfl
                      rotate_left
                      · simp only [Act.put, List.setIfInBounds_toArray, List.set_cons_zero, List.set_cons_succ, i64_w, i32_w]
                        rfl
                      refine take_ (i := 18) (N := some 34) (v := ?_) (a' := ?_) #[true, true, true, true, true, true, true, true, true, true, true, true, true, false, true, true, true, true, true, false, false, false, false] rfl rfl (take_ofW HT_.out HW_.out (by kernel_rfl)) (fun _ _ _ h => h) (Or.inl ⟨by rfl, ?_⟩) hHeld ?_ ?_
                      rotate_left
                      · rintro w' ⟨s0, s1, s2, s3, s4, s5, s6, s7, s8⟩
                        go_simp
                        with_reducible rfl
                      rotate_left
                      · simp only [Act.put, List.setIfInBounds_toArray, List.set_cons_zero, List.set_cons_succ, i64_w, i32_w]
                        rfl
                      refine pure_ (i := 19) (N := some 35) (v := ?_) (a' := ?_) #[true, true, true, true, true, true, true, true, true, true, true, true, true, false, true, true, true, true, true, true, false, false, false] rfl rfl (any_of HT_.out (by kernel_rfl)) (fun _ _ _ h => h) (Or.inl ⟨by rfl, ?_⟩) ?_ ?_
                      rotate_left
                      · intro w'
                        go_simp
                        with_reducible rfl
                      rotate_left
                      · simp only [Act.put, List.setIfInBounds_toArray, List.set_cons_zero, List.set_cons_succ, i64_w, i32_w]
                        rfl
                      refine join_ (σ := Nat) 1 #[true, true, true, true, true, true, true, true, true, true, true, true, true, true, true, true, true, true, true, true, true, true, false] (fun s_ => [(29, .string t181), (5, .pointer (some ⟨s_, 0, none⟩)), (36, .agg #[.int .i64 (wrap64 (Int.tmod (IntKind.u64.wrap ((rd_T34 l0 x4_1).f0)) 4)), .string t181, .int .u64 (Int.tmod ((rd_T34 l0 x4_1).f2) 1000000)])]) (fun s_ w' => (w'.cell? (ad179.add ((x4_1).toNat * 3)) = some (.int .i64 ((rd_T34 l0 x4_1).f0)) ∧ w'.cell? ⟨(ad179.add ((x4_1).toNat * 3)).block, (ad179.add ((x4_1).toNat * 3)).off + 1, none⟩ = some (.string ((rd_T34 l0 x4_1).f1)) ∧ w'.cell? ⟨(ad179.add ((x4_1).toNat * 3)).block, (ad179.add ((x4_1).toNat * 3)).off + 2, none⟩ = some (.int .u64 ((rd_T34 l0 x4_1).f2)) ∧ w'.cell? (ad179.add ((x4_1).toNat * 3)) = some (.int .i64 ((rd_T34 l0 x4_1).f0)) ∧ w'.cell? ⟨(ad179.add ((x4_1).toNat * 3)).block, (ad179.add ((x4_1).toNat * 3)).off + 1, none⟩ = some (.string ((rd_T34 l0 x4_1).f1)) ∧ w'.cell? ⟨(ad179.add ((x4_1).toNat * 3)).block, (ad179.add ((x4_1).toNat * 3)).off + 2, none⟩ = some (.int .u64 ((rd_T34 l0 x4_1).f2)) ∧ w'.cell? (ad179.add ((x4_1).toNat * 3)) = some (.int .i64 ((rd_T34 l0 x4_1).f0)) ∧ w'.cell? ⟨(ad179.add ((x4_1).toNat * 3)).block, (ad179.add ((x4_1).toNat * 3)).off + 1, none⟩ = some (.string ((rd_T34 l0 x4_1).f1)) ∧ w'.cell? ⟨(ad179.add ((x4_1).toNat * 3)).block, (ad179.add ((x4_1).toNat * 3)).off + 2, none⟩ = some (.int .u64 ((rd_T34 l0 x4_1).f2))) ∧ (Kd.R k34 34 w' w.heap.size (fun k_ => k_ ≠ s_) u3 x3_1) ∧ (w'.heap[s_]? = some (.cells #[.int .i64 0, .string (⟨#[]⟩ : ByteArray), .int .u64 0] 34 (0, 0))) ∧ (w.heap.size ≤ s_) ∧ (w.heap.size ≤ s_) ∧ (Below w.heap.size w w')) ?_ ?_
                      rotate_left
                      · intro hCont
                        refine two_ (i := 13) (j := 21) (Ni := some 29) (Nj := some 5) #[true, true, true, true, true, true, true, true, true, true, true, true, true, true, true, true, true, true, true, true, false, false, false] #[true, true, true, true, true, true, true, true, true, true, true, true, true, false, true, true, true, true, true, true, false, true, false] rfl rfl rfl rfl (two_of HT_.out (by kernel_rfl)) (by decide) (by decide) (fun K hK => ?_) (fun K hK => ?_)
                        · skip
                          refine goes_ Tryz.func10 (by kernel_rfl) rfl #[.string ((rd_T34 l0 x4_1).f1)] (by rfl) rfl rfl (by (try simp only [List.map_toArray, List.map_cons, List.map_nil]); first | done | rfl | (simp only [List.length_drop, List.length_take]; rfl)) ?_
                          with_reducible refine (laws_trName.calls kj1 ((rd_T34 l0 x4_1).f1) t181 _ A7.out).mono ?_
                          rintro e w22 ⟨rfl, hb⟩
                          refine ⟨_, rfl, ?_⟩
                          have n0_ := Aside0.mk (Kd.R_below (by (with_reducible repeat (first | apply Kd.R_alloc | apply Kd.R_drewN | apply Kd.R_drew)); exact HO_3.out) hb)
                          have n1_ := Aside0.mk (below_step (by repeat (first | (with_reducible first | exact HB.out | apply below_alloc | apply pw_below_drewN | apply below_drew1) | exact HB.out)) hb)
                          clear HO_3
                          clear HB
                          have HO_3 := n0_
                          have HB := n1_
                          clear n0_ n1_
                          (try clear hb)
                          (try clear hb2)
                          (try clear hk)
                          (try clear hi)
                          refine hK.out _ _ ⟨((HB.out.cell (World.block_lt_of_cell? w _ hw179_0)).trans hw179_0), ((HB.out.cell (World.block_lt_of_cell? w _ hw179_1)).trans hw179_1), ((HB.out.cell (World.block_lt_of_cell? w _ hw179_2)).trans hw179_2), ((HB.out.cell (World.block_lt_of_cell? w _ hw180_0)).trans hw180_0), ((HB.out.cell (World.block_lt_of_cell? w _ hw180_1)).trans hw180_1), ((HB.out.cell (World.block_lt_of_cell? w _ hw180_2)).trans hw180_2), ((HB.out.cell (World.block_lt_of_cell? w _ hw182_0)).trans hw182_0), ((HB.out.cell (World.block_lt_of_cell? w _ hw182_1)).trans hw182_1), ((HB.out.cell (World.block_lt_of_cell? w _ hw182_2)).trans hw182_2)⟩ (fun hHeld => ?_)
                          clear hK K
                          refine norm_ (a' := ?_) ?_ ?_
                          rotate_left
                          · show Act.put _ (some 29) _ = _
                            simp only [Act.put, List.setIfInBounds_toArray, List.set_cons_zero, List.set_cons_succ, i64_w, i32_w]
                            rfl
                          refine pure_ (i := 20) (N := some 36) (v := ?_) (a' := ?_) #[true, true, true, true, true, true, true, true, true, true, true, true, true, true, true, true, true, true, true, true, true, false, false] rfl rfl (any_of HT_.out (by kernel_rfl)) (fun _ _ _ h => h) (Or.inl ⟨by rfl, ?_⟩) ?_ ?_
                          rotate_left
                          · intro w'
                            go_simp
                            with_reducible rfl
                          rotate_left
                          · simp only [Act.put, List.setIfInBounds_toArray, List.set_cons_zero, List.set_cons_succ, i64_w, i32_w]
                            rfl
                          refine one_ (i := 21) (N := some 5) #[true, true, true, true, true, true, true, true, true, true, true, true, true, true, true, true, true, true, true, true, true, true, false] rfl rfl (one_of HT_.out (by kernel_rfl)) (by decide) (fun K hK => ?_)
                          refine box_step ?hg (N := 5) ?hd (cs := #[.int .i64 0, .string (⟨#[]⟩ : ByteArray), .int .u64 0]) (t := 34) ?hr ?_; (case hd => rfl); (case hg => rfl); (case hr => first | (go_simp; done) | (go_simp; rfl))
                          intro gb183 hg w23 hbox hb
                          have n0_ := Aside0.mk (Kd.R_below (Kd.R_elderB (by (with_reducible repeat (first | apply Kd.R_alloc | apply Kd.R_drewN | apply Kd.R_drew)); exact HO_3.out) gb183 (Nat.le_of_eq hg.symm)) hb)
                          have n1_ := Aside0.mk (below_step (by repeat (first | (with_reducible first | exact HB.out | apply below_alloc | apply pw_below_drewN | apply below_drew1) | exact HB.out)) hb)
                          have n2_ := Aside0.mk (hbox)
                          have n3_ := Aside0.mk ((by rw [hg]; exact (below_size (by repeat (first | (with_reducible first | exact HB.out | apply below_alloc | apply pw_below_drewN | apply below_drew1) | exact HB.out))) : w.heap.size ≤ gb183))
                          have n4_ := Aside0.mk ((by rw [hg]; exact (below_size (by repeat (first | (with_reducible first | exact HB.out | apply below_alloc | apply pw_below_drewN | apply below_drew1) | exact HB.out))) : w.heap.size ≤ gb183))
                          clear HO_3
                          clear HB
                          have HO_3 := n0_
                          have HB := n1_
                          have BK183 := n2_
                          have GW183 := n3_
                          have GE183 := n4_
                          clear n0_ n1_ n2_ n3_ n4_
                          clear hb hbox hg
                          refine hK.out _ _ ⟨((HB.out.cell (World.block_lt_of_cell? w _ hw179_0)).trans hw179_0), ((HB.out.cell (World.block_lt_of_cell? w _ hw179_1)).trans hw179_1), ((HB.out.cell (World.block_lt_of_cell? w _ hw179_2)).trans hw179_2), ((HB.out.cell (World.block_lt_of_cell? w _ hw180_0)).trans hw180_0), ((HB.out.cell (World.block_lt_of_cell? w _ hw180_1)).trans hw180_1), ((HB.out.cell (World.block_lt_of_cell? w _ hw180_2)).trans hw180_2), ((HB.out.cell (World.block_lt_of_cell? w _ hw182_0)).trans hw182_0), ((HB.out.cell (World.block_lt_of_cell? w _ hw182_1)).trans hw182_1), ((HB.out.cell (World.block_lt_of_cell? w _ hw182_2)).trans hw182_2)⟩ (fun hHeld => ?_)
                          clear hK K
                          refine norm_ (a' := ?_) ?_ ?_
                          rotate_left
                          · show Act.put _ (some 5) _ = _
                            simp only [Act.put, List.setIfInBounds_toArray, List.set_cons_zero, List.set_cons_succ, i64_w, i32_w]
                            rfl
                          exact norm_ (by simp only [putAll, Act.put, List.setIfInBounds_toArray, List.set_cons_zero, List.set_cons_succ]) (hCont (gb183) _ ⟨hHeld, (by (with_reducible repeat (first | apply Kd.R_alloc | apply Kd.R_drewN | apply Kd.R_drew)); exact Kd.R_mono HO_3.out (fun _ hk => hk.2)), (by (with_reducible repeat (first | refine blk_drewN ?_ _ | refine blk_drew ?_ | refine blk_alloc ?_ _)); exact BK183.out), GW183.out, GE183.out, (by repeat (first | (with_reducible first | exact HB.out | apply below_alloc | apply pw_below_drewN | apply below_drew1 | refine below_set ?_ GE183.out) | exact HB.out))⟩)
                        · skip
                          refine box_step ?hg (N := 5) ?hd (cs := #[.int .i64 0, .string (⟨#[]⟩ : ByteArray), .int .u64 0]) (t := 34) ?hr ?_; (case hd => rfl); (case hg => rfl); (case hr => first | (go_simp; done) | (go_simp; rfl))
                          intro gb183 hg w22 hbox hb
                          have n0_ := Aside0.mk (Kd.R_below (Kd.R_elderB (by (with_reducible repeat (first | apply Kd.R_alloc | apply Kd.R_drewN | apply Kd.R_drew)); exact HO_3.out) gb183 (Nat.le_of_eq hg.symm)) hb)
                          have n1_ := Aside0.mk (below_step (by repeat (first | (with_reducible first | exact HB.out | apply below_alloc | apply pw_below_drewN | apply below_drew1) | exact HB.out)) hb)
                          have n2_ := Aside0.mk (hbox)
                          have n3_ := Aside0.mk ((by rw [hg]; exact (below_size (by repeat (first | (with_reducible first | exact HB.out | apply below_alloc | apply pw_below_drewN | apply below_drew1) | exact HB.out))) : w.heap.size ≤ gb183))
                          have n4_ := Aside0.mk ((by rw [hg]; exact (below_size (by repeat (first | (with_reducible first | exact HB.out | apply below_alloc | apply pw_below_drewN | apply below_drew1) | exact HB.out))) : w.heap.size ≤ gb183))
                          clear HO_3
                          clear HB
                          have HO_3 := n0_
                          have HB := n1_
                          have BK183 := n2_
                          have GW183 := n3_
                          have GE183 := n4_
                          clear n0_ n1_ n2_ n3_ n4_
                          clear hb hbox hg
                          refine hK.out _ _ ⟨((HB.out.cell (World.block_lt_of_cell? w _ hw179_0)).trans hw179_0), ((HB.out.cell (World.block_lt_of_cell? w _ hw179_1)).trans hw179_1), ((HB.out.cell (World.block_lt_of_cell? w _ hw179_2)).trans hw179_2), ((HB.out.cell (World.block_lt_of_cell? w _ hw180_0)).trans hw180_0), ((HB.out.cell (World.block_lt_of_cell? w _ hw180_1)).trans hw180_1), ((HB.out.cell (World.block_lt_of_cell? w _ hw180_2)).trans hw180_2), ((HB.out.cell (World.block_lt_of_cell? w _ hw182_0)).trans hw182_0), ((HB.out.cell (World.block_lt_of_cell? w _ hw182_1)).trans hw182_1), ((HB.out.cell (World.block_lt_of_cell? w _ hw182_2)).trans hw182_2)⟩ (fun hHeld => ?_)
                          clear hK K
                          refine norm_ (a' := ?_) ?_ ?_
                          rotate_left
                          · show Act.put _ (some 5) _ = _
                            simp only [Act.put, List.setIfInBounds_toArray, List.set_cons_zero, List.set_cons_succ, i64_w, i32_w]
                            rfl
                          refine one_ (i := 13) (N := some 29) #[true, true, true, true, true, true, true, true, true, true, true, true, true, true, true, true, true, true, true, true, false, true, false] rfl rfl (one_of HT_.out (by kernel_rfl)) (by decide) (fun K hK => ?_)
                          refine goes_ Tryz.func10 (by kernel_rfl) rfl #[.string ((rd_T34 l0 x4_1).f1)] (by rfl) rfl rfl (by (try simp only [List.map_toArray, List.map_cons, List.map_nil]); first | done | rfl | (simp only [List.length_drop, List.length_take]; rfl)) ?_
                          with_reducible refine (laws_trName.calls kj1 ((rd_T34 l0 x4_1).f1) t181 _ A7.out).mono ?_
                          rintro e w23 ⟨rfl, hb⟩
                          refine ⟨_, rfl, ?_⟩
                          have n0_ := Aside0.mk (Kd.R_below (by (with_reducible repeat (first | apply Kd.R_alloc | apply Kd.R_drewN | apply Kd.R_drew)); exact HO_3.out) hb)
                          have n1_ := Aside0.mk (blk_below (g := gb183) (o := .cells #[.int .i64 0, .string (⟨#[]⟩ : ByteArray), .int .u64 0] 34 (0, 0)) (by (with_reducible repeat (first | refine blk_drewN ?_ _ | refine blk_drew ?_ | refine blk_alloc ?_ _)); exact BK183.out) hb)
                          have n2_ := Aside0.mk (below_step (by repeat (first | (with_reducible first | exact HB.out | apply below_alloc | apply pw_below_drewN | apply below_drew1 | refine below_set ?_ GE183.out) | exact HB.out)) hb)
                          clear HO_3
                          clear BK183
                          clear HB
                          have HO_3 := n0_
                          have BK183 := n1_
                          have HB := n2_
                          clear n0_ n1_ n2_
                          (try clear hb)
                          (try clear hb2)
                          (try clear hk)
                          (try clear hi)
                          refine hK.out _ _ ⟨((HB.out.cell (World.block_lt_of_cell? w _ hw179_0)).trans hw179_0), ((HB.out.cell (World.block_lt_of_cell? w _ hw179_1)).trans hw179_1), ((HB.out.cell (World.block_lt_of_cell? w _ hw179_2)).trans hw179_2), ((HB.out.cell (World.block_lt_of_cell? w _ hw180_0)).trans hw180_0), ((HB.out.cell (World.block_lt_of_cell? w _ hw180_1)).trans hw180_1), ((HB.out.cell (World.block_lt_of_cell? w _ hw180_2)).trans hw180_2), ((HB.out.cell (World.block_lt_of_cell? w _ hw182_0)).trans hw182_0), ((HB.out.cell (World.block_lt_of_cell? w _ hw182_1)).trans hw182_1), ((HB.out.cell (World.block_lt_of_cell? w _ hw182_2)).trans hw182_2)⟩ (fun hHeld => ?_)
                          clear hK K
                          refine norm_ (a' := ?_) ?_ ?_
                          rotate_left
                          · show Act.put _ (some 29) _ = _
                            simp only [Act.put, List.setIfInBounds_toArray, List.set_cons_zero, List.set_cons_succ, i64_w, i32_w]
                            rfl
                          refine pure_ (i := 20) (N := some 36) (v := ?_) (a' := ?_) #[true, true, true, true, true, true, true, true, true, true, true, true, true, true, true, true, true, true, true, true, true, true, false] rfl rfl (any_of HT_.out (by kernel_rfl)) (fun _ _ _ h => h) (Or.inl ⟨by rfl, ?_⟩) ?_ ?_
                          rotate_left
                          · intro w'
                            go_simp
                            with_reducible rfl
                          rotate_left
                          · simp only [Act.put, List.setIfInBounds_toArray, List.set_cons_zero, List.set_cons_succ, i64_w, i32_w]
                            rfl
                          exact norm_ (by simp only [putAll, Act.put, List.setIfInBounds_toArray, List.set_cons_zero, List.set_cons_succ]) (hCont (gb183) _ ⟨hHeld, (by (with_reducible repeat (first | apply Kd.R_alloc | apply Kd.R_drewN | apply Kd.R_drew)); exact Kd.R_mono HO_3.out (fun _ hk => hk.2)), (by (with_reducible repeat (first | refine blk_drewN ?_ _ | refine blk_drew ?_ | refine blk_alloc ?_ _)); exact BK183.out), GW183.out, GE183.out, (by repeat (first | (with_reducible first | exact HB.out | apply below_alloc | apply pw_below_drewN | apply below_drew1 | refine below_set ?_ GE183.out) | exact HB.out))⟩)
                      rintro gb183 w24 ⟨hS_, h0_, h1_, h2_, h3_, h4_⟩
                      have n0_ : Aside0 (Kd.R k34 34 w24 w.heap.size (fun k_ => k_ ≠ gb183) u3 x3_1) := ⟨h0_⟩
                      have n1_ : Aside0 (w24.heap[gb183]? = some (.cells #[.int .i64 0, .string (⟨#[]⟩ : ByteArray), .int .u64 0] 34 (0, 0))) := ⟨h1_⟩
                      have n2_ : Aside0 (w.heap.size ≤ gb183) := ⟨h2_⟩
                      have n3_ : Aside0 (w.heap.size ≤ gb183) := ⟨h3_⟩
                      have n4_ : Aside0 (Below w.heap.size w w24) := ⟨h4_⟩
                      clear HO_3
                      clear HB
                      clear h0_ h1_ h2_ h3_ h4_
                      have HO_3 := n0_
                      have BK183 := n1_
                      have GW183 := n2_
                      have GE183 := n3_
                      have HB := n4_
                      clear n0_ n1_ n2_ n3_ n4_
                      have hHeld : w24.cell? (ad179.add ((x4_1).toNat * 3)) = some (.int .i64 ((rd_T34 l0 x4_1).f0)) ∧ w24.cell? ⟨(ad179.add ((x4_1).toNat * 3)).block, (ad179.add ((x4_1).toNat * 3)).off + 1, none⟩ = some (.string ((rd_T34 l0 x4_1).f1)) ∧ w24.cell? ⟨(ad179.add ((x4_1).toNat * 3)).block, (ad179.add ((x4_1).toNat * 3)).off + 2, none⟩ = some (.int .u64 ((rd_T34 l0 x4_1).f2)) ∧ w24.cell? (ad179.add ((x4_1).toNat * 3)) = some (.int .i64 ((rd_T34 l0 x4_1).f0)) ∧ w24.cell? ⟨(ad179.add ((x4_1).toNat * 3)).block, (ad179.add ((x4_1).toNat * 3)).off + 1, none⟩ = some (.string ((rd_T34 l0 x4_1).f1)) ∧ w24.cell? ⟨(ad179.add ((x4_1).toNat * 3)).block, (ad179.add ((x4_1).toNat * 3)).off + 2, none⟩ = some (.int .u64 ((rd_T34 l0 x4_1).f2)) ∧ w24.cell? (ad179.add ((x4_1).toNat * 3)) = some (.int .i64 ((rd_T34 l0 x4_1).f0)) ∧ w24.cell? ⟨(ad179.add ((x4_1).toNat * 3)).block, (ad179.add ((x4_1).toNat * 3)).off + 1, none⟩ = some (.string ((rd_T34 l0 x4_1).f1)) ∧ w24.cell? ⟨(ad179.add ((x4_1).toNat * 3)).block, (ad179.add ((x4_1).toNat * 3)).off + 2, none⟩ = some (.int .u64 ((rd_T34 l0 x4_1).f2)) := hS_
                      refine norm_ (a' := ?_) ?_ ?_
                      rotate_left
                      · simp only [putAll, Act.put, List.setIfInBounds_toArray, List.set_cons_zero, List.set_cons_succ]
                        rfl
                      refine one_ (i := 22) (N := none) #[true, true, true, true, true, true, true, true, true, true, true, true, true, true, true, true, true, true, true, true, true, true, true] rfl rfl (one_of HT_.out (by kernel_rfl)) (by decide) (fun K hK => ?_)
                      have hs25 : w24.cell? ⟨gb183, 0, none⟩ = some (.int .i64 0) := (blk_cell BK183.out 0).trans rfl
                      have hfs25 := blk_frozen BK183.out 0
                      have hs26 : w24.cell? ⟨gb183, 1, none⟩ = some (.string (⟨#[]⟩ : ByteArray)) := (blk_cell BK183.out 1).trans rfl
                      have hfs26 := blk_frozen BK183.out 1
                      have hs27 : w24.cell? ⟨gb183, 2, none⟩ = some (.int .u64 0) := (blk_cell BK183.out 2).trans rfl
                      have hfs27 := blk_frozen BK183.out 2
                      refine skip_ (w1 := ?_) (by rfl) rfl ?_ ?_
                      rotate_left
                      · go_simp
                        rfl
                      refine hK.out _ _ ⟨((cell_far (p := ⟨gb183, _, none⟩) (by first | exact Nat.ne_of_lt (Nat.lt_of_lt_of_le (by have := World.block_lt_of_cell? _ _ hw179_0; first | rwa [add_block] at this | exact this) GW183.out) | (rw [add_block]; exact Nat.ne_of_lt (Nat.lt_of_lt_of_le (by have := World.block_lt_of_cell? _ _ hw179_0; first | rwa [add_block] at this | exact this) GW183.out)) | (show (Addr.add _ _).block ≠ _; rw [add_block]; exact Nat.ne_of_lt (Nat.lt_of_lt_of_le (by have := World.block_lt_of_cell? _ _ hw179_0; first | rwa [add_block] at this | exact this) GW183.out)) | (dsimp only; exact Nat.ne_of_lt (Nat.lt_of_lt_of_le (by have := World.block_lt_of_cell? _ _ hw179_0; first | rwa [add_block] at this | exact this) GW183.out))) _).trans (((cell_far (p := ⟨gb183, _, none⟩) (by first | exact Nat.ne_of_lt (Nat.lt_of_lt_of_le (by have := World.block_lt_of_cell? _ _ hw179_0; first | rwa [add_block] at this | exact this) GW183.out) | (rw [add_block]; exact Nat.ne_of_lt (Nat.lt_of_lt_of_le (by have := World.block_lt_of_cell? _ _ hw179_0; first | rwa [add_block] at this | exact this) GW183.out)) | (show (Addr.add _ _).block ≠ _; rw [add_block]; exact Nat.ne_of_lt (Nat.lt_of_lt_of_le (by have := World.block_lt_of_cell? _ _ hw179_0; first | rwa [add_block] at this | exact this) GW183.out)) | (dsimp only; exact Nat.ne_of_lt (Nat.lt_of_lt_of_le (by have := World.block_lt_of_cell? _ _ hw179_0; first | rwa [add_block] at this | exact this) GW183.out))) _).trans (((cell_far (p := ⟨gb183, _, none⟩) (by first | exact Nat.ne_of_lt (Nat.lt_of_lt_of_le (by have := World.block_lt_of_cell? _ _ hw179_0; first | rwa [add_block] at this | exact this) GW183.out) | (rw [add_block]; exact Nat.ne_of_lt (Nat.lt_of_lt_of_le (by have := World.block_lt_of_cell? _ _ hw179_0; first | rwa [add_block] at this | exact this) GW183.out)) | (show (Addr.add _ _).block ≠ _; rw [add_block]; exact Nat.ne_of_lt (Nat.lt_of_lt_of_le (by have := World.block_lt_of_cell? _ _ hw179_0; first | rwa [add_block] at this | exact this) GW183.out)) | (dsimp only; exact Nat.ne_of_lt (Nat.lt_of_lt_of_le (by have := World.block_lt_of_cell? _ _ hw179_0; first | rwa [add_block] at this | exact this) GW183.out))) _).trans (hHeld.1)))))), ((cell_far (p := ⟨gb183, _, none⟩) (by first | exact Nat.ne_of_lt (Nat.lt_of_lt_of_le (by have := World.block_lt_of_cell? _ _ hw179_1; first | rwa [add_block] at this | exact this) GW183.out) | (rw [add_block]; exact Nat.ne_of_lt (Nat.lt_of_lt_of_le (by have := World.block_lt_of_cell? _ _ hw179_1; first | rwa [add_block] at this | exact this) GW183.out)) | (show (Addr.add _ _).block ≠ _; rw [add_block]; exact Nat.ne_of_lt (Nat.lt_of_lt_of_le (by have := World.block_lt_of_cell? _ _ hw179_1; first | rwa [add_block] at this | exact this) GW183.out)) | (dsimp only; exact Nat.ne_of_lt (Nat.lt_of_lt_of_le (by have := World.block_lt_of_cell? _ _ hw179_1; first | rwa [add_block] at this | exact this) GW183.out))) _).trans (((cell_far (p := ⟨gb183, _, none⟩) (by first | exact Nat.ne_of_lt (Nat.lt_of_lt_of_le (by have := World.block_lt_of_cell? _ _ hw179_1; first | rwa [add_block] at this | exact this) GW183.out) | (rw [add_block]; exact Nat.ne_of_lt (Nat.lt_of_lt_of_le (by have := World.block_lt_of_cell? _ _ hw179_1; first | rwa [add_block] at this | exact this) GW183.out)) | (show (Addr.add _ _).block ≠ _; rw [add_block]; exact Nat.ne_of_lt (Nat.lt_of_lt_of_le (by have := World.block_lt_of_cell? _ _ hw179_1; first | rwa [add_block] at this | exact this) GW183.out)) | (dsimp only; exact Nat.ne_of_lt (Nat.lt_of_lt_of_le (by have := World.block_lt_of_cell? _ _ hw179_1; first | rwa [add_block] at this | exact this) GW183.out))) _).trans (((cell_far (p := ⟨gb183, _, none⟩) (by first | exact Nat.ne_of_lt (Nat.lt_of_lt_of_le (by have := World.block_lt_of_cell? _ _ hw179_1; first | rwa [add_block] at this | exact this) GW183.out) | (rw [add_block]; exact Nat.ne_of_lt (Nat.lt_of_lt_of_le (by have := World.block_lt_of_cell? _ _ hw179_1; first | rwa [add_block] at this | exact this) GW183.out)) | (show (Addr.add _ _).block ≠ _; rw [add_block]; exact Nat.ne_of_lt (Nat.lt_of_lt_of_le (by have := World.block_lt_of_cell? _ _ hw179_1; first | rwa [add_block] at this | exact this) GW183.out)) | (dsimp only; exact Nat.ne_of_lt (Nat.lt_of_lt_of_le (by have := World.block_lt_of_cell? _ _ hw179_1; first | rwa [add_block] at this | exact this) GW183.out))) _).trans (hHeld.2.1)))))), ((cell_far (p := ⟨gb183, _, none⟩) (by first | exact Nat.ne_of_lt (Nat.lt_of_lt_of_le (by have := World.block_lt_of_cell? _ _ hw179_2; first | rwa [add_block] at this | exact this) GW183.out) | (rw [add_block]; exact Nat.ne_of_lt (Nat.lt_of_lt_of_le (by have := World.block_lt_of_cell? _ _ hw179_2; first | rwa [add_block] at this | exact this) GW183.out)) | (show (Addr.add _ _).block ≠ _; rw [add_block]; exact Nat.ne_of_lt (Nat.lt_of_lt_of_le (by have := World.block_lt_of_cell? _ _ hw179_2; first | rwa [add_block] at this | exact this) GW183.out)) | (dsimp only; exact Nat.ne_of_lt (Nat.lt_of_lt_of_le (by have := World.block_lt_of_cell? _ _ hw179_2; first | rwa [add_block] at this | exact this) GW183.out))) _).trans (((cell_far (p := ⟨gb183, _, none⟩) (by first | exact Nat.ne_of_lt (Nat.lt_of_lt_of_le (by have := World.block_lt_of_cell? _ _ hw179_2; first | rwa [add_block] at this | exact this) GW183.out) | (rw [add_block]; exact Nat.ne_of_lt (Nat.lt_of_lt_of_le (by have := World.block_lt_of_cell? _ _ hw179_2; first | rwa [add_block] at this | exact this) GW183.out)) | (show (Addr.add _ _).block ≠ _; rw [add_block]; exact Nat.ne_of_lt (Nat.lt_of_lt_of_le (by have := World.block_lt_of_cell? _ _ hw179_2; first | rwa [add_block] at this | exact this) GW183.out)) | (dsimp only; exact Nat.ne_of_lt (Nat.lt_of_lt_of_le (by have := World.block_lt_of_cell? _ _ hw179_2; first | rwa [add_block] at this | exact this) GW183.out))) _).trans (((cell_far (p := ⟨gb183, _, none⟩) (by first | exact Nat.ne_of_lt (Nat.lt_of_lt_of_le (by have := World.block_lt_of_cell? _ _ hw179_2; first | rwa [add_block] at this | exact this) GW183.out) | (rw [add_block]; exact Nat.ne_of_lt (Nat.lt_of_lt_of_le (by have := World.block_lt_of_cell? _ _ hw179_2; first | rwa [add_block] at this | exact this) GW183.out)) | (show (Addr.add _ _).block ≠ _; rw [add_block]; exact Nat.ne_of_lt (Nat.lt_of_lt_of_le (by have := World.block_lt_of_cell? _ _ hw179_2; first | rwa [add_block] at this | exact this) GW183.out)) | (dsimp only; exact Nat.ne_of_lt (Nat.lt_of_lt_of_le (by have := World.block_lt_of_cell? _ _ hw179_2; first | rwa [add_block] at this | exact this) GW183.out))) _).trans (hHeld.2.2.1)))))), ((cell_far (p := ⟨gb183, _, none⟩) (by first | exact Nat.ne_of_lt (Nat.lt_of_lt_of_le (by have := World.block_lt_of_cell? _ _ hw180_0; first | rwa [add_block] at this | exact this) GW183.out) | (rw [add_block]; exact Nat.ne_of_lt (Nat.lt_of_lt_of_le (by have := World.block_lt_of_cell? _ _ hw180_0; first | rwa [add_block] at this | exact this) GW183.out)) | (show (Addr.add _ _).block ≠ _; rw [add_block]; exact Nat.ne_of_lt (Nat.lt_of_lt_of_le (by have := World.block_lt_of_cell? _ _ hw180_0; first | rwa [add_block] at this | exact this) GW183.out)) | (dsimp only; exact Nat.ne_of_lt (Nat.lt_of_lt_of_le (by have := World.block_lt_of_cell? _ _ hw180_0; first | rwa [add_block] at this | exact this) GW183.out))) _).trans (((cell_far (p := ⟨gb183, _, none⟩) (by first | exact Nat.ne_of_lt (Nat.lt_of_lt_of_le (by have := World.block_lt_of_cell? _ _ hw180_0; first | rwa [add_block] at this | exact this) GW183.out) | (rw [add_block]; exact Nat.ne_of_lt (Nat.lt_of_lt_of_le (by have := World.block_lt_of_cell? _ _ hw180_0; first | rwa [add_block] at this | exact this) GW183.out)) | (show (Addr.add _ _).block ≠ _; rw [add_block]; exact Nat.ne_of_lt (Nat.lt_of_lt_of_le (by have := World.block_lt_of_cell? _ _ hw180_0; first | rwa [add_block] at this | exact this) GW183.out)) | (dsimp only; exact Nat.ne_of_lt (Nat.lt_of_lt_of_le (by have := World.block_lt_of_cell? _ _ hw180_0; first | rwa [add_block] at this | exact this) GW183.out))) _).trans (((cell_far (p := ⟨gb183, _, none⟩) (by first | exact Nat.ne_of_lt (Nat.lt_of_lt_of_le (by have := World.block_lt_of_cell? _ _ hw180_0; first | rwa [add_block] at this | exact this) GW183.out) | (rw [add_block]; exact Nat.ne_of_lt (Nat.lt_of_lt_of_le (by have := World.block_lt_of_cell? _ _ hw180_0; first | rwa [add_block] at this | exact this) GW183.out)) | (show (Addr.add _ _).block ≠ _; rw [add_block]; exact Nat.ne_of_lt (Nat.lt_of_lt_of_le (by have := World.block_lt_of_cell? _ _ hw180_0; first | rwa [add_block] at this | exact this) GW183.out)) | (dsimp only; exact Nat.ne_of_lt (Nat.lt_of_lt_of_le (by have := World.block_lt_of_cell? _ _ hw180_0; first | rwa [add_block] at this | exact this) GW183.out))) _).trans (hHeld.2.2.2.1)))))), ((cell_far (p := ⟨gb183, _, none⟩) (by first | exact Nat.ne_of_lt (Nat.lt_of_lt_of_le (by have := World.block_lt_of_cell? _ _ hw180_1; first | rwa [add_block] at this | exact this) GW183.out) | (rw [add_block]; exact Nat.ne_of_lt (Nat.lt_of_lt_of_le (by have := World.block_lt_of_cell? _ _ hw180_1; first | rwa [add_block] at this | exact this) GW183.out)) | (show (Addr.add _ _).block ≠ _; rw [add_block]; exact Nat.ne_of_lt (Nat.lt_of_lt_of_le (by have := World.block_lt_of_cell? _ _ hw180_1; first | rwa [add_block] at this | exact this) GW183.out)) | (dsimp only; exact Nat.ne_of_lt (Nat.lt_of_lt_of_le (by have := World.block_lt_of_cell? _ _ hw180_1; first | rwa [add_block] at this | exact this) GW183.out))) _).trans (((cell_far (p := ⟨gb183, _, none⟩) (by first | exact Nat.ne_of_lt (Nat.lt_of_lt_of_le (by have := World.block_lt_of_cell? _ _ hw180_1; first | rwa [add_block] at this | exact this) GW183.out) | (rw [add_block]; exact Nat.ne_of_lt (Nat.lt_of_lt_of_le (by have := World.block_lt_of_cell? _ _ hw180_1; first | rwa [add_block] at this | exact this) GW183.out)) | (show (Addr.add _ _).block ≠ _; rw [add_block]; exact Nat.ne_of_lt (Nat.lt_of_lt_of_le (by have := World.block_lt_of_cell? _ _ hw180_1; first | rwa [add_block] at this | exact this) GW183.out)) | (dsimp only; exact Nat.ne_of_lt (Nat.lt_of_lt_of_le (by have := World.block_lt_of_cell? _ _ hw180_1; first | rwa [add_block] at this | exact this) GW183.out))) _).trans (((cell_far (p := ⟨gb183, _, none⟩) (by first | exact Nat.ne_of_lt (Nat.lt_of_lt_of_le (by have := World.block_lt_of_cell? _ _ hw180_1; first | rwa [add_block] at this | exact this) GW183.out) | (rw [add_block]; exact Nat.ne_of_lt (Nat.lt_of_lt_of_le (by have := World.block_lt_of_cell? _ _ hw180_1; first | rwa [add_block] at this | exact this) GW183.out)) | (show (Addr.add _ _).block ≠ _; rw [add_block]; exact Nat.ne_of_lt (Nat.lt_of_lt_of_le (by have := World.block_lt_of_cell? _ _ hw180_1; first | rwa [add_block] at this | exact this) GW183.out)) | (dsimp only; exact Nat.ne_of_lt (Nat.lt_of_lt_of_le (by have := World.block_lt_of_cell? _ _ hw180_1; first | rwa [add_block] at this | exact this) GW183.out))) _).trans (hHeld.2.2.2.2.1)))))), ((cell_far (p := ⟨gb183, _, none⟩) (by first | exact Nat.ne_of_lt (Nat.lt_of_lt_of_le (by have := World.block_lt_of_cell? _ _ hw180_2; first | rwa [add_block] at this | exact this) GW183.out) | (rw [add_block]; exact Nat.ne_of_lt (Nat.lt_of_lt_of_le (by have := World.block_lt_of_cell? _ _ hw180_2; first | rwa [add_block] at this | exact this) GW183.out)) | (show (Addr.add _ _).block ≠ _; rw [add_block]; exact Nat.ne_of_lt (Nat.lt_of_lt_of_le (by have := World.block_lt_of_cell? _ _ hw180_2; first | rwa [add_block] at this | exact this) GW183.out)) | (dsimp only; exact Nat.ne_of_lt (Nat.lt_of_lt_of_le (by have := World.block_lt_of_cell? _ _ hw180_2; first | rwa [add_block] at this | exact this) GW183.out))) _).trans (((cell_far (p := ⟨gb183, _, none⟩) (by first | exact Nat.ne_of_lt (Nat.lt_of_lt_of_le (by have := World.block_lt_of_cell? _ _ hw180_2; first | rwa [add_block] at this | exact this) GW183.out) | (rw [add_block]; exact Nat.ne_of_lt (Nat.lt_of_lt_of_le (by have := World.block_lt_of_cell? _ _ hw180_2; first | rwa [add_block] at this | exact this) GW183.out)) | (show (Addr.add _ _).block ≠ _; rw [add_block]; exact Nat.ne_of_lt (Nat.lt_of_lt_of_le (by have := World.block_lt_of_cell? _ _ hw180_2; first | rwa [add_block] at this | exact this) GW183.out)) | (dsimp only; exact Nat.ne_of_lt (Nat.lt_of_lt_of_le (by have := World.block_lt_of_cell? _ _ hw180_2; first | rwa [add_block] at this | exact this) GW183.out))) _).trans (((cell_far (p := ⟨gb183, _, none⟩) (by first | exact Nat.ne_of_lt (Nat.lt_of_lt_of_le (by have := World.block_lt_of_cell? _ _ hw180_2; first | rwa [add_block] at this | exact this) GW183.out) | (rw [add_block]; exact Nat.ne_of_lt (Nat.lt_of_lt_of_le (by have := World.block_lt_of_cell? _ _ hw180_2; first | rwa [add_block] at this | exact this) GW183.out)) | (show (Addr.add _ _).block ≠ _; rw [add_block]; exact Nat.ne_of_lt (Nat.lt_of_lt_of_le (by have := World.block_lt_of_cell? _ _ hw180_2; first | rwa [add_block] at this | exact this) GW183.out)) | (dsimp only; exact Nat.ne_of_lt (Nat.lt_of_lt_of_le (by have := World.block_lt_of_cell? _ _ hw180_2; first | rwa [add_block] at this | exact this) GW183.out))) _).trans (hHeld.2.2.2.2.2.1)))))), ((cell_far (p := ⟨gb183, _, none⟩) (by first | exact Nat.ne_of_lt (Nat.lt_of_lt_of_le (by have := World.block_lt_of_cell? _ _ hw182_0; first | rwa [add_block] at this | exact this) GW183.out) | (rw [add_block]; exact Nat.ne_of_lt (Nat.lt_of_lt_of_le (by have := World.block_lt_of_cell? _ _ hw182_0; first | rwa [add_block] at this | exact this) GW183.out)) | (show (Addr.add _ _).block ≠ _; rw [add_block]; exact Nat.ne_of_lt (Nat.lt_of_lt_of_le (by have := World.block_lt_of_cell? _ _ hw182_0; first | rwa [add_block] at this | exact this) GW183.out)) | (dsimp only; exact Nat.ne_of_lt (Nat.lt_of_lt_of_le (by have := World.block_lt_of_cell? _ _ hw182_0; first | rwa [add_block] at this | exact this) GW183.out))) _).trans (((cell_far (p := ⟨gb183, _, none⟩) (by first | exact Nat.ne_of_lt (Nat.lt_of_lt_of_le (by have := World.block_lt_of_cell? _ _ hw182_0; first | rwa [add_block] at this | exact this) GW183.out) | (rw [add_block]; exact Nat.ne_of_lt (Nat.lt_of_lt_of_le (by have := World.block_lt_of_cell? _ _ hw182_0; first | rwa [add_block] at this | exact this) GW183.out)) | (show (Addr.add _ _).block ≠ _; rw [add_block]; exact Nat.ne_of_lt (Nat.lt_of_lt_of_le (by have := World.block_lt_of_cell? _ _ hw182_0; first | rwa [add_block] at this | exact this) GW183.out)) | (dsimp only; exact Nat.ne_of_lt (Nat.lt_of_lt_of_le (by have := World.block_lt_of_cell? _ _ hw182_0; first | rwa [add_block] at this | exact this) GW183.out))) _).trans (((cell_far (p := ⟨gb183, _, none⟩) (by first | exact Nat.ne_of_lt (Nat.lt_of_lt_of_le (by have := World.block_lt_of_cell? _ _ hw182_0; first | rwa [add_block] at this | exact this) GW183.out) | (rw [add_block]; exact Nat.ne_of_lt (Nat.lt_of_lt_of_le (by have := World.block_lt_of_cell? _ _ hw182_0; first | rwa [add_block] at this | exact this) GW183.out)) | (show (Addr.add _ _).block ≠ _; rw [add_block]; exact Nat.ne_of_lt (Nat.lt_of_lt_of_le (by have := World.block_lt_of_cell? _ _ hw182_0; first | rwa [add_block] at this | exact this) GW183.out)) | (dsimp only; exact Nat.ne_of_lt (Nat.lt_of_lt_of_le (by have := World.block_lt_of_cell? _ _ hw182_0; first | rwa [add_block] at this | exact this) GW183.out))) _).trans (hHeld.2.2.2.2.2.2.1)))))), ((cell_far (p := ⟨gb183, _, none⟩) (by first | exact Nat.ne_of_lt (Nat.lt_of_lt_of_le (by have := World.block_lt_of_cell? _ _ hw182_1; first | rwa [add_block] at this | exact this) GW183.out) | (rw [add_block]; exact Nat.ne_of_lt (Nat.lt_of_lt_of_le (by have := World.block_lt_of_cell? _ _ hw182_1; first | rwa [add_block] at this | exact this) GW183.out)) | (show (Addr.add _ _).block ≠ _; rw [add_block]; exact Nat.ne_of_lt (Nat.lt_of_lt_of_le (by have := World.block_lt_of_cell? _ _ hw182_1; first | rwa [add_block] at this | exact this) GW183.out)) | (dsimp only; exact Nat.ne_of_lt (Nat.lt_of_lt_of_le (by have := World.block_lt_of_cell? _ _ hw182_1; first | rwa [add_block] at this | exact this) GW183.out))) _).trans (((cell_far (p := ⟨gb183, _, none⟩) (by first | exact Nat.ne_of_lt (Nat.lt_of_lt_of_le (by have := World.block_lt_of_cell? _ _ hw182_1; first | rwa [add_block] at this | exact this) GW183.out) | (rw [add_block]; exact Nat.ne_of_lt (Nat.lt_of_lt_of_le (by have := World.block_lt_of_cell? _ _ hw182_1; first | rwa [add_block] at this | exact this) GW183.out)) | (show (Addr.add _ _).block ≠ _; rw [add_block]; exact Nat.ne_of_lt (Nat.lt_of_lt_of_le (by have := World.block_lt_of_cell? _ _ hw182_1; first | rwa [add_block] at this | exact this) GW183.out)) | (dsimp only; exact Nat.ne_of_lt (Nat.lt_of_lt_of_le (by have := World.block_lt_of_cell? _ _ hw182_1; first | rwa [add_block] at this | exact this) GW183.out))) _).trans (((cell_far (p := ⟨gb183, _, none⟩) (by first | exact Nat.ne_of_lt (Nat.lt_of_lt_of_le (by have := World.block_lt_of_cell? _ _ hw182_1; first | rwa [add_block] at this | exact this) GW183.out) | (rw [add_block]; exact Nat.ne_of_lt (Nat.lt_of_lt_of_le (by have := World.block_lt_of_cell? _ _ hw182_1; first | rwa [add_block] at this | exact this) GW183.out)) | (show (Addr.add _ _).block ≠ _; rw [add_block]; exact Nat.ne_of_lt (Nat.lt_of_lt_of_le (by have := World.block_lt_of_cell? _ _ hw182_1; first | rwa [add_block] at this | exact this) GW183.out)) | (dsimp only; exact Nat.ne_of_lt (Nat.lt_of_lt_of_le (by have := World.block_lt_of_cell? _ _ hw182_1; first | rwa [add_block] at this | exact this) GW183.out))) _).trans (hHeld.2.2.2.2.2.2.2.1)))))), ((cell_far (p := ⟨gb183, _, none⟩) (by first | exact Nat.ne_of_lt (Nat.lt_of_lt_of_le (by have := World.block_lt_of_cell? _ _ hw182_2; first | rwa [add_block] at this | exact this) GW183.out) | (rw [add_block]; exact Nat.ne_of_lt (Nat.lt_of_lt_of_le (by have := World.block_lt_of_cell? _ _ hw182_2; first | rwa [add_block] at this | exact this) GW183.out)) | (show (Addr.add _ _).block ≠ _; rw [add_block]; exact Nat.ne_of_lt (Nat.lt_of_lt_of_le (by have := World.block_lt_of_cell? _ _ hw182_2; first | rwa [add_block] at this | exact this) GW183.out)) | (dsimp only; exact Nat.ne_of_lt (Nat.lt_of_lt_of_le (by have := World.block_lt_of_cell? _ _ hw182_2; first | rwa [add_block] at this | exact this) GW183.out))) _).trans (((cell_far (p := ⟨gb183, _, none⟩) (by first | exact Nat.ne_of_lt (Nat.lt_of_lt_of_le (by have := World.block_lt_of_cell? _ _ hw182_2; first | rwa [add_block] at this | exact this) GW183.out) | (rw [add_block]; exact Nat.ne_of_lt (Nat.lt_of_lt_of_le (by have := World.block_lt_of_cell? _ _ hw182_2; first | rwa [add_block] at this | exact this) GW183.out)) | (show (Addr.add _ _).block ≠ _; rw [add_block]; exact Nat.ne_of_lt (Nat.lt_of_lt_of_le (by have := World.block_lt_of_cell? _ _ hw182_2; first | rwa [add_block] at this | exact this) GW183.out)) | (dsimp only; exact Nat.ne_of_lt (Nat.lt_of_lt_of_le (by have := World.block_lt_of_cell? _ _ hw182_2; first | rwa [add_block] at this | exact this) GW183.out))) _).trans (((cell_far (p := ⟨gb183, _, none⟩) (by first | exact Nat.ne_of_lt (Nat.lt_of_lt_of_le (by have := World.block_lt_of_cell? _ _ hw182_2; first | rwa [add_block] at this | exact this) GW183.out) | (rw [add_block]; exact Nat.ne_of_lt (Nat.lt_of_lt_of_le (by have := World.block_lt_of_cell? _ _ hw182_2; first | rwa [add_block] at this | exact this) GW183.out)) | (show (Addr.add _ _).block ≠ _; rw [add_block]; exact Nat.ne_of_lt (Nat.lt_of_lt_of_le (by have := World.block_lt_of_cell? _ _ hw182_2; first | rwa [add_block] at this | exact this) GW183.out)) | (dsimp only; exact Nat.ne_of_lt (Nat.lt_of_lt_of_le (by have := World.block_lt_of_cell? _ _ hw182_2; first | rwa [add_block] at this | exact this) GW183.out))) _).trans (hHeld.2.2.2.2.2.2.2.2))))))⟩ (fun hHeld => ?_)
                      clear hK K
                      refine done_ (done_of HT_.out (by kernel_rfl)) ?_
                      have hcz28_0 : w24.cell? ⟨gb183, 0, none⟩ = some (.int .i64 0) := (blk_cell BK183.out 0).trans rfl
                      have hcz28_1 : w24.cell? ⟨gb183, 1, none⟩ = some (.string (⟨#[]⟩ : ByteArray)) := (blk_cell BK183.out 1).trans rfl
                      have hcz28_2 : w24.cell? ⟨gb183, 2, none⟩ = some (.int .u64 0) := (blk_cell BK183.out 2).trans rfl
                      have hfz28_0 := blk_frozen BK183.out 0
                      have hfz28_1 := blk_frozen BK183.out 1
                      have hfz28_2 := blk_frozen BK183.out 2
                      obtain ⟨hq0, hq1, hq2⟩ := cells1 w24 gb183 _ _ _ (.int .i64 (wrap64 (Int.tmod (IntKind.u64.wrap ((rd_T34 l0 x4_1).f0)) 4))) (.string t181) (.int .u64 (Int.tmod ((rd_T34 l0 x4_1).f2) 1000000)) (.string (⟨#[]⟩ : ByteArray)) hcz28_0 hcz28_1 hcz28_2
                      try go_wp2_with (first | ((with_reducible refine gate_builtin (b := .append) (xs := #[.tmp 47, .tmp 49]) rfl ?_); at_builtin; refine Kd.R_append k34 (w0 := w) w.heap.size rfl (.tmp 47) (.tmp 49) 22 34 (.agg #[(.int .i64 0), (.string ⟨#[]⟩), (.int .u64 0)]) 32 rfl Tryz.underlying22 info34 rfl (by decide) (by omega) u3 x3_1 (⟨wrap64 (Int.tmod (IntKind.u64.wrap ((rd_T34 l0 x4_1).f0)) 4), (⟨#[]⟩ : ByteArray), Int.tmod ((rd_T34 l0 x4_1).f2) 1000000⟩ : S34) [.int .i64 (wrap64 (Int.tmod (IntKind.u64.wrap ((rd_T34 l0 x4_1).f0)) 4)), .string (⟨#[]⟩ : ByteArray), .int .u64 (Int.tmod ((rd_T34 l0 x4_1).f2) 1000000)] (fun k_ => k_ ≠ gb183) (fun _ => False) rfl (by first | (go_simp; done) | (go_simp; rfl)) ?aP (fun _ hk => hk.elim) ?aF ?aO ?aB ?aS ?aL ?_; (case aP => exact k34_mkM _ _ _ (⟨wrap64 (Int.tmod (IntKind.u64.wrap ((rd_T34 l0 x4_1).f0)) 4), (⟨#[]⟩ : ByteArray), Int.tmod ((rd_T34 l0 x4_1).f2) 1000000⟩ : S34)); (case aB => exact (by repeat (first | (with_reducible first | exact HB.out | apply below_alloc | apply pw_below_drewN | apply below_drew1 | refine below_set ?_ GE183.out) | exact HB.out))); (case aF => exact (fun k_ hk => Kd.freshB (g := gb183) (o := .cells #[.int .i64 (wrap64 (Int.tmod (IntKind.u64.wrap ((rd_T34 l0 x4_1).f0)) 4)), .string (⟨#[]⟩ : ByteArray), .int .u64 (Int.tmod ((rd_T34 l0 x4_1).f2) 1000000)] 34 (0, 0)) (by (with_reducible repeat (first | refine blk_drewN ?_ _ | refine blk_drew ?_ | refine blk_alloc ?_ _)); refine blk_put (cs := #[.int .i64 (wrap64 (Int.tmod (IntKind.u64.wrap ((rd_T34 l0 x4_1).f0)) 4)), .string t181, .int .u64 (Int.tmod ((rd_T34 l0 x4_1).f2) 1000000)]) ?_ 1 _ rfl; (with_reducible repeat (first | refine blk_drewN ?_ _ | refine blk_drew ?_ | refine blk_alloc ?_ _)); refine blk_put (cs := #[.int .i64 (wrap64 (Int.tmod (IntKind.u64.wrap ((rd_T34 l0 x4_1).f0)) 4)), .string t181, .int .u64 0]) ?_ 2 _ rfl; (with_reducible repeat (first | refine blk_drewN ?_ _ | refine blk_drew ?_ | refine blk_alloc ?_ _)); refine blk_put (cs := #[.int .i64 (wrap64 (Int.tmod (IntKind.u64.wrap ((rd_T34 l0 x4_1).f0)) 4)), .string (⟨#[]⟩ : ByteArray), .int .u64 0]) ?_ 1 _ rfl; (with_reducible repeat (first | refine blk_drewN ?_ _ | refine blk_drew ?_ | refine blk_alloc ?_ _)); refine blk_put (cs := #[.int .i64 0, .string (⟨#[]⟩ : ByteArray), .int .u64 0]) ?_ 0 _ rfl; (with_reducible repeat (first | refine blk_drewN ?_ _ | refine blk_drew ?_ | refine blk_alloc ?_ _)); exact BK183.out) k_ hk)); (case aO => exact (by (with_reducible repeat (first | apply Kd.R_alloc | apply Kd.R_drewN | apply Kd.R_drew)); exact Kd.R_mono (Kd.R_far (p := ⟨gb183, 1, none⟩) (Kd.R_far (p := ⟨gb183, 2, none⟩) (Kd.R_far (p := ⟨gb183, 1, none⟩) (Kd.R_far (p := ⟨gb183, 0, none⟩) (Kd.R_mono HO_3.out (fun k_ hk => (⟨hk, hk⟩ : _ ∧ k_ ≠ gb183))) (fun _ hk => hk.2) (.int .i64 (wrap64 (Int.tmod (IntKind.u64.wrap ((rd_T34 l0 x4_1).f0)) 4)))) (fun _ hk => hk.2) (.string t181)) (fun _ hk => hk.2) (.int .u64 (Int.tmod ((rd_T34 l0 x4_1).f2) 1000000))) (fun _ hk => hk.2) (.string (⟨#[]⟩ : ByteArray))) (fun _ hk => hk.1))); (case aS => exact (below_size (by repeat (first | (with_reducible first | exact HB.out | apply below_alloc | apply pw_below_drewN | apply below_drew1 | refine below_set ?_ GE183.out) | exact HB.out)))); (case aL => have := LMc20.out; omega); intro v188 w29 ho hb hg hat; rw [← Ny187.out] at ho; have n0_ := Aside0.mk (blk_grown (g := gb183) (o := .cells #[.int .i64 (wrap64 (Int.tmod (IntKind.u64.wrap ((rd_T34 l0 x4_1).f0)) 4)), .string (⟨#[]⟩ : ByteArray), .int .u64 (Int.tmod ((rd_T34 l0 x4_1).f2) 1000000)] 34 (0, 0)) (by (with_reducible repeat (first | refine blk_drewN ?_ _ | refine blk_drew ?_ | refine blk_alloc ?_ _)); refine blk_put (cs := #[.int .i64 (wrap64 (Int.tmod (IntKind.u64.wrap ((rd_T34 l0 x4_1).f0)) 4)), .string t181, .int .u64 (Int.tmod ((rd_T34 l0 x4_1).f2) 1000000)]) ?_ 1 _ rfl; (with_reducible repeat (first | refine blk_drewN ?_ _ | refine blk_drew ?_ | refine blk_alloc ?_ _)); refine blk_put (cs := #[.int .i64 (wrap64 (Int.tmod (IntKind.u64.wrap ((rd_T34 l0 x4_1).f0)) 4)), .string t181, .int .u64 0]) ?_ 2 _ rfl; (with_reducible repeat (first | refine blk_drewN ?_ _ | refine blk_drew ?_ | refine blk_alloc ?_ _)); refine blk_put (cs := #[.int .i64 (wrap64 (Int.tmod (IntKind.u64.wrap ((rd_T34 l0 x4_1).f0)) 4)), .string (⟨#[]⟩ : ByteArray), .int .u64 0]) ?_ 1 _ rfl; (with_reducible repeat (first | refine blk_drewN ?_ _ | refine blk_drew ?_ | refine blk_alloc ?_ _)); refine blk_put (cs := #[.int .i64 0, .string (⟨#[]⟩ : ByteArray), .int .u64 0]) ?_ 0 _ rfl; (with_reducible repeat (first | refine blk_drewN ?_ _ | refine blk_drew ?_ | refine blk_alloc ?_ _)); exact BK183.out) hg (Kd.R_away HO_3.out (fun _ hk => hk))); have n1_ := Aside0.mk (hb); have n2_ := Aside0.mk (ho); clear BK183; clear HB; clear HO_3; have BK183 := n0_; have HB := n1_; have HO189 := n2_; clear n0_ n1_ n2_; clear ho hb hg hat))
                      go_roundg kj1
                      case measure => have := HK1.out; have := HJ1.out; omega
                      case rel => exact ⟨(y187), (wrap64 (x4_1 + 1)), (by first | rfl | (simp; done) | (simp [*]; done)), H', ⟨by have := HK1.out; have := HJ1.out; omega⟩, ⟨by (with_reducible repeat (first | apply Kd.R_alloc | apply Kd.R_drewN | apply Kd.R_drew)); exact Kd.R_mono HO189.out (fun _ hk => trivial)⟩, ⟨by repeat (first | (with_reducible first | exact HB.out | apply below_alloc | apply pw_below_drewN | apply below_drew1 | refine below_set ?_ GE183.out) | exact HB.out)⟩⟩
                    · rw [if_neg c20] at H
                      exact absurd H (by simp)
                  · rw [if_neg c19] at H
                    have c19b0 : ((wrap64 (Int.tmod (IntKind.u64.wrap ((rd_T34 l0 x4_1).f0)) 4)) == 2) = false := beq_eq_false_iff_ne.mpr c19
                    have c19b1 : ((wrap64 (Int.tmod (IntKind.u64.wrap ((rd_T34 l0 x4_1).f0)) 4)) != 2) = true := bne_iff_ne.mpr c19
                    by_cases c30 : x3_1.length < 4398046511104
                    · rw [if_pos c30] at H
                      have LMc30 := Aside0.mk c30
                      clear c30
                      obtain ⟨y190, hy190⟩ : ∃ y_ : List (S34), y_ = (x3_1 ++ [(⟨wrap64 (Int.tmod (IntKind.u64.wrap ((rd_T34 l0 x4_1).f0)) 4), t181, 0⟩ : S34)]) := ⟨_, rfl⟩
                      replace H : (laws_trSteps.l0 kj1 l0 y190 (wrap64 (x4_1 + 1))) = some r := by first | (rw [hy190]; with_reducible exact H) | (have H2_ := (Option.bind_some _ _).symm.trans H; rw [hy190]; with_reducible exact H2_) | (have H2_ := (Option.bind_some _ _).symm.trans H; with_reducible exact H2_) | with_reducible exact H | (rw [hy190]; exact H) | exact H
                      have Ny190 := Aside0.mk hy190
                      clear hy190
                      have H' := Aside0.mk H
                      clear H
                      try go_wp2
                      have n0_ := Aside0.mk (Kd.R_drew HO_3.out)
                      have n1_ := Aside0.mk (below_drew1 HB.out)
                      clear HO_3
                      clear HB
                      have HO_3 := n0_
                      have HB := n1_
                      clear n0_ n1_
                      have p179 : 0 ≤ (x4_1 : Int) := of_decide_eq_true (by first | (with_reducible assumption) | assumption)
                      have q179 : x4_1 < (l0.length : Int) := of_decide_eq_true (by first | (with_reducible assumption) | assumption)
                      obtain ⟨ad179, e179, hx179_0, hx179_1, hx179_2⟩ := at_T34 HR0.out x4_1 p179 q179
                      have hw179_2 := hx179_2
                      have hw179_1 := hx179_1
                      have hw179_0 := hx179_0
                      cases e179
                      replace hx179_0 := (HB.out.cell (World.block_lt_of_cell? w _ hx179_0)).trans hx179_0
                      replace hx179_1 := (HB.out.cell (World.block_lt_of_cell? w _ hx179_1)).trans hx179_1
                      replace hx179_2 := (HB.out.cell (World.block_lt_of_cell? w _ hx179_2)).trans hx179_2
                      replace p179 := eq_true p179
                      replace q179 := eq_true q179
                      have p180 : 0 ≤ (x4_1 : Int) := of_decide_eq_true (by first | (with_reducible assumption) | assumption)
                      have q180 : x4_1 < (l0.length : Int) := of_decide_eq_true (by first | (with_reducible assumption) | assumption)
                      obtain ⟨ad180, e180, hx180_0, hx180_1, hx180_2⟩ := at_T34 HR0.out x4_1 p180 q180
                      have hw180_2 := hx180_2
                      have hw180_1 := hx180_1
                      have hw180_0 := hx180_0
                      obtain rfl : ad179 = ad180 := (by injection e180)
                      replace hx180_0 := (HB.out.cell (World.block_lt_of_cell? w _ hx180_0)).trans hx180_0
                      replace hx180_1 := (HB.out.cell (World.block_lt_of_cell? w _ hx180_1)).trans hx180_1
                      replace hx180_2 := (HB.out.cell (World.block_lt_of_cell? w _ hx180_2)).trans hx180_2
                      replace p180 := eq_true p180
                      replace q180 := eq_true q180
                      have p182 : 0 ≤ (x4_1 : Int) := of_decide_eq_true (by first | (with_reducible assumption) | assumption)
                      have q182 : x4_1 < (l0.length : Int) := of_decide_eq_true (by first | (with_reducible assumption) | assumption)
                      obtain ⟨ad182, e182, hx182_0, hx182_1, hx182_2⟩ := at_T34 HR0.out x4_1 p182 q182
                      have hw182_2 := hx182_2
                      have hw182_1 := hx182_1
                      have hw182_0 := hx182_0
                      obtain rfl : ad179 = ad182 := (by injection e182)
                      replace hx182_0 := (HB.out.cell (World.block_lt_of_cell? w _ hx182_0)).trans hx182_0
                      replace hx182_1 := (HB.out.cell (World.block_lt_of_cell? w _ hx182_1)).trans hx182_1
                      replace hx182_2 := (HB.out.cell (World.block_lt_of_cell? w _ hx182_2)).trans hx182_2
                      replace p182 := eq_true p182
                      replace q182 := eq_true q182
                      refine start_ (n := 23) (S := fun w' => w'.cell? (ad179.add ((x4_1).toNat * 3)) = some (.int .i64 ((rd_T34 l0 x4_1).f0)) ∧ w'.cell? ⟨(ad179.add ((x4_1).toNat * 3)).block, (ad179.add ((x4_1).toNat * 3)).off + 1, none⟩ = some (.string ((rd_T34 l0 x4_1).f1)) ∧ w'.cell? ⟨(ad179.add ((x4_1).toNat * 3)).block, (ad179.add ((x4_1).toNat * 3)).off + 2, none⟩ = some (.int .u64 ((rd_T34 l0 x4_1).f2)) ∧ w'.cell? (ad179.add ((x4_1).toNat * 3)) = some (.int .i64 ((rd_T34 l0 x4_1).f0)) ∧ w'.cell? ⟨(ad179.add ((x4_1).toNat * 3)).block, (ad179.add ((x4_1).toNat * 3)).off + 1, none⟩ = some (.string ((rd_T34 l0 x4_1).f1)) ∧ w'.cell? ⟨(ad179.add ((x4_1).toNat * 3)).block, (ad179.add ((x4_1).toNat * 3)).off + 2, none⟩ = some (.int .u64 ((rd_T34 l0 x4_1).f2)) ∧ w'.cell? (ad179.add ((x4_1).toNat * 3)) = some (.int .i64 ((rd_T34 l0 x4_1).f0)) ∧ w'.cell? ⟨(ad179.add ((x4_1).toNat * 3)).block, (ad179.add ((x4_1).toNat * 3)).off + 1, none⟩ = some (.string ((rd_T34 l0 x4_1).f1)) ∧ w'.cell? ⟨(ad179.add ((x4_1).toNat * 3)).block, (ad179.add ((x4_1).toNat * 3)).off + 2, none⟩ = some (.int .u64 ((rd_T34 l0 x4_1).f2))) (ds := []) #[false, false, false, false, false, false, false, false, false, false, false, false, false, false, false, false, false, false, false, false, false, false, false] (by kernel_rfl) rfl rfl ⟨((HB.out.cell (World.block_lt_of_cell? w _ hw179_0)).trans hw179_0), ((HB.out.cell (World.block_lt_of_cell? w _ hw179_1)).trans hw179_1), ((HB.out.cell (World.block_lt_of_cell? w _ hw179_2)).trans hw179_2), ((HB.out.cell (World.block_lt_of_cell? w _ hw180_0)).trans hw180_0), ((HB.out.cell (World.block_lt_of_cell? w _ hw180_1)).trans hw180_1), ((HB.out.cell (World.block_lt_of_cell? w _ hw180_2)).trans hw180_2), ((HB.out.cell (World.block_lt_of_cell? w _ hw182_0)).trans hw182_0), ((HB.out.cell (World.block_lt_of_cell? w _ hw182_1)).trans hw182_1), ((HB.out.cell (World.block_lt_of_cell? w _ hw182_2)).trans hw182_2)⟩ (fun hHeld => ?_); refine with_tabW laws_trSteps.tab5 laws_trSteps.bits5 (fun HT_ HW_ => ?_)
                      generalize wc.drew = w31 at HO_3 HB hx179_0 hx179_1 hx179_2 hx180_0 hx180_1 hx180_2 hx182_0 hx182_1 hx182_2 hHeld ⊢
                      refine pure_ (i := 0) (N := some 16) (v := ?_) (a' := ?_) #[true, false, false, false, false, false, false, false, false, false, false, false, false, false, false, false, false, false, false, false, false, false, false] rfl rfl (any_of HT_.out (by kernel_rfl)) (fun _ _ _ h => h) (Or.inl ⟨by rfl, ?_⟩) ?_ ?_
                      rotate_left
                      · intro w'
                        go_simp
                        with_reducible rfl
                      rotate_left
                      · simp only [Act.put, List.setIfInBounds_toArray, List.set_cons_zero, List.set_cons_succ, i64_w, i32_w]
                        rfl
                      refine pure_ (i := 1) (N := some 17) (v := ?_) (a' := ?_) #[true, true, false, false, false, false, false, false, false, false, false, false, false, false, false, false, false, false, false, false, false, false, false] rfl rfl (any_of HT_.out (by kernel_rfl)) (fun _ _ _ h => h) (Or.inl ⟨by rfl, ?_⟩) ?_ ?_
                      rotate_left
                      · intro w'
                        go_simp
                        with_reducible rfl
                      rotate_left
                      · simp only [Act.put, List.setIfInBounds_toArray, List.set_cons_zero, List.set_cons_succ, i64_w, i32_w]
                        rfl
                      refine pure_ (i := 2) (N := some 18) (v := ?_) (a' := ?_) #[true, true, true, false, false, false, false, false, false, false, false, false, false, false, false, false, false, false, false, false, false, false, false] rfl rfl (any_of HT_.out (by kernel_rfl)) (fun _ _ _ h => h) (Or.inl ⟨by rfl, ?_⟩) ?_ ?_
                      rotate_left
                      · intro w'
                        go_simp
                        with_reducible rfl
                      rotate_left
                      · simp only [Act.put, List.setIfInBounds_toArray, List.set_cons_zero, List.set_cons_succ, i64_w, i32_w]
                        rfl
                      refine pure_ (i := 3) (N := some 19) (v := ?_) (a' := ?_) #[true, true, true, true, false, false, false, false, false, false, false, false, false, false, false, false, false, false, false, false, false, false, false] rfl rfl (any_of HT_.out (by kernel_rfl)) (fun _ _ _ h => h) (Or.inl ⟨by rfl, ?_⟩) ?_ ?_
                      rotate_left
                      · intro w'
                        go_simp
                        with_reducible rfl
                      rotate_left
                      · simp only [Act.put, List.setIfInBounds_toArray, List.set_cons_zero, List.set_cons_succ, i64_w, i32_w]
                        rfl
                      refine pure_ (i := 8) (N := some 24) (v := ?_) (a' := ?_) #[true, true, true, true, false, false, false, false, true, false, false, false, false, false, false, false, false, false, false, false, false, false, false] rfl rfl (any_of HT_.out (by kernel_rfl)) (fun _ _ _ h => h) (Or.inl ⟨by rfl, ?_⟩) ?_ ?_
                      rotate_left
                      · intro w'
                        go_simp
                        with_reducible rfl
                      rotate_left
                      · simp only [Act.put, List.setIfInBounds_toArray, List.set_cons_zero, List.set_cons_succ, i64_w, i32_w]
                        rfl
                      refine pure_ (i := 9) (N := some 25) (v := ?_) (a' := ?_) #[true, true, true, true, false, false, false, false, true, true, false, false, false, false, false, false, false, false, false, false, false, false, false] rfl rfl (any_of HT_.out (by kernel_rfl)) (fun _ _ _ h => h) (Or.inl ⟨by rfl, ?_⟩) ?_ ?_
                      rotate_left
                      · intro w'
                        go_simp
                        with_reducible rfl
                      rotate_left
                      · simp only [Act.put, List.setIfInBounds_toArray, List.set_cons_zero, List.set_cons_succ, i64_w, i32_w]
                        rfl
                      refine pure_ (i := 10) (N := some 26) (v := ?_) (a' := ?_) #[true, true, true, true, false, false, false, false, true, true, true, false, false, false, false, false, false, false, false, false, false, false, false] rfl rfl (any_of HT_.out (by kernel_rfl)) (fun _ _ _ h => h) (Or.inl ⟨by rfl, ?_⟩) ?_ ?_
                      rotate_left
                      · intro w'
                        go_simp
                        with_reducible rfl
                      rotate_left
                      · simp only [Act.put, List.setIfInBounds_toArray, List.set_cons_zero, List.set_cons_succ, i64_w, i32_w]
                        rfl
                      refine pure_ (i := 11) (N := some 27) (v := ?_) (a' := ?_) #[true, true, true, true, false, false, false, false, true, true, true, true, false, false, false, false, false, false, false, false, false, false, false] rfl rfl (any_of HT_.out (by kernel_rfl)) (fun _ _ _ h => h) (Or.inl ⟨by rfl, ?_⟩) ?_ ?_
                      rotate_left
                      · intro w'
                        go_simp
                        with_reducible rfl
                      rotate_left
                      · simp only [Act.put, List.setIfInBounds_toArray, List.set_cons_zero, List.set_cons_succ, i64_w, i32_w]
                        rfl
                      refine pure_ (i := 14) (N := some 30) (v := ?_) (a' := ?_) #[true, true, true, true, false, false, false, false, true, true, true, true, false, false, true, false, false, false, false, false, false, false, false] rfl rfl (any_of HT_.out (by kernel_rfl)) (fun _ _ _ h => h) (Or.inl ⟨by rfl, ?_⟩) ?_ ?_
                      rotate_left
                      · intro w'
                        go_simp
                        with_reducible rfl
                      rotate_left
                      · simp only [Act.put, List.setIfInBounds_toArray, List.set_cons_zero, List.set_cons_succ, i64_w, i32_w]
                        rfl
                      refine pure_ (i := 15) (N := some 31) (v := ?_) (a' := ?_) #[true, true, true, true, false, false, false, false, true, true, true, true, false, false, true, true, false, false, false, false, false, false, false] rfl rfl (any_of HT_.out (by kernel_rfl)) (fun _ _ _ h => h) (Or.inl ⟨by rfl, ?_⟩) ?_ ?_
                      rotate_left
                      · intro w'
                        go_simp
                        with_reducible rfl
                      rotate_left
                      · simp only [Act.put, List.setIfInBounds_toArray, List.set_cons_zero, List.set_cons_succ, i64_w, i32_w]
                        rfl
                      refine pure_ (i := 16) (N := some 32) (v := ?_) (a' := ?_) #[true, true, true, true, false, false, false, false, true, true, true, true, false, false, true, true, true, false, false, false, false, false, false] rfl rfl (any_of HT_.out (by kernel_rfl)) (fun _ _ _ h => h) (Or.inl ⟨by rfl, ?_⟩) ?_ ?_
                      rotate_left
                      · intro w'
                        go_simp
                        with_reducible rfl
                      rotate_left
                      · simp only [Act.put, List.setIfInBounds_toArray, List.set_cons_zero, List.set_cons_succ, i64_w, i32_w]
                        rfl
                      refine pure_ (i := 17) (N := some 33) (v := ?_) (a' := ?_) #[true, true, true, true, false, false, false, false, true, true, true, true, false, false, true, true, true, true, false, false, false, false, false] rfl rfl (any_of HT_.out (by kernel_rfl)) (fun _ _ _ h => h) (Or.inl ⟨by rfl, ?_⟩) ?_ ?_
                      rotate_left
                      · intro w'
                        go_simp
                        with_reducible rfl
                      rotate_left
                      · simp only [Act.put, List.setIfInBounds_toArray, List.set_cons_zero, List.set_cons_succ, i64_w, i32_w]
                        rfl
                      refine take_ (i := 4) (N := some 20) (v := ?_) (a' := ?_) #[true, true, true, true, true, false, false, false, true, true, true, true, false, false, true, true, true, true, false, false, false, false, false] rfl rfl (take_ofW HT_.out HW_.out (by kernel_rfl)) (fun _ _ _ h => h) (Or.inl ⟨by rfl, ?_⟩) hHeld ?_ ?_
                      rotate_left
                      · rintro w' ⟨s0, s1, s2, s3, s4, s5, s6, s7, s8⟩
                        go_simp
                        with_reducible rfl
                      rotate_left
                      · simp only [Act.put, List.setIfInBounds_toArray, List.set_cons_zero, List.set_cons_succ, i64_w, i32_w]
                        rfl
                      refine pure_ (i := 5) (N := some 21) (v := ?_) (a' := ?_) #[true, true, true, true, true, true, false, false, true, true, true, true, false, false, true, true, true, true, false, false, false, false, false] rfl rfl (any_of HT_.out (by kernel_rfl)) (fun _ _ _ h => h) (Or.inl ⟨by rfl, ?_⟩) ?_ ?_
                      rotate_left
                      · intro w'
                        go_simp
                        with_reducible rfl
                      rotate_left
                      · simp only [Act.put, List.setIfInBounds_toArray, List.set_cons_zero, List.set_cons_succ, i64_w, i32_w]
                        rfl
                      refine pure_ (i := 6) (N := some 22) (v := ?_) (a' := ?_) #[true, true, true, true, true, true, true, false, true, true, true, true, false, false, true, true, true, true, false, false, false, false, false] rfl rfl (any_of HT_.out (by kernel_rfl)) (fun _ _ _ h => h) (Or.inl ⟨by rfl, ?_⟩) ?_ ?_
                      rotate_left
                      · intro w'
                        go_simp
                        with_reducible rfl
                      rotate_left
                      · simp only [Act.put, List.setIfInBounds_toArray, List.set_cons_zero, List.set_cons_succ, i64_w, i32_w]
                        rfl
                      refine pure_ (i := 7) (N := some 23) (v := ?_) (a' := ?_) #[true, true, true, true, true, true, true, true, true, true, true, true, false, false, true, true, true, true, false, false, false, false, false] rfl rfl (any_of HT_.out (by kernel_rfl)) (fun _ _ _ h => h) (Or.inl ⟨by rfl, ?_⟩) ?_ ?_
                      rotate_left
                      · intro w'
                        go_simp
                        with_reducible rfl
                      rotate_left
                      · simp only [Act.put, List.setIfInBounds_toArray, List.set_cons_zero, List.set_cons_succ, i64_w, i32_w]
                        rfl
                      refine take_ (i := 12) (N := some 28) (v := ?_) (a' := ?_) #[true, true, true, true, true, true, true, true, true, true, true, true, true, false, true, true, true, true, false, false, false, false, false] rfl rfl (take_ofW HT_.out HW_.out (by kernel_rfl)) (fun _ _ _ h => h) (Or.inl ⟨by rfl, ?_⟩) hHeld ?_ ?_
                      rotate_left
                      · rintro w' ⟨s0, s1, s2, s3, s4, s5, s6, s7, s8⟩
                        go_simp
                        with_reducible rfl
                      rotate_left
                      · simp only [Act.put, List.setIfInBounds_toArray, List.set_cons_zero, List.set_cons_succ, i64_w, i32_w]
                        rfl
                      refine take_ (i := 18) (N := some 34) (v := ?_) (a' := ?_) #[true, true, true, true, true, true, true, true, true, true, true, true, true, false, true, true, true, true, true, false, false, false, false] rfl rfl (take_ofW HT_.out HW_.out (by kernel_rfl)) (fun _ _ _ h => h) (Or.inl ⟨by rfl, ?_⟩) hHeld ?_ ?_
                      rotate_left
                      · rintro w' ⟨s0, s1, s2, s3, s4, s5, s6, s7, s8⟩
                        go_simp
                        with_reducible rfl
                      rotate_left
                      · simp only [Act.put, List.setIfInBounds_toArray, List.set_cons_zero, List.set_cons_succ, i64_w, i32_w]
                        rfl
                      refine pure_ (i := 19) (N := some 35) (v := ?_) (a' := ?_) #[true, true, true, true, true, true, true, true, true, true, true, true, true, false, true, true, true, true, true, true, false, false, false] rfl rfl (any_of HT_.out (by kernel_rfl)) (fun _ _ _ h => h) (Or.inl ⟨by rfl, ?_⟩) ?_ ?_
                      rotate_left
                      · intro w'
                        go_simp
                        with_reducible rfl
                      rotate_left
                      · simp only [Act.put, List.setIfInBounds_toArray, List.set_cons_zero, List.set_cons_succ, i64_w, i32_w]
                        rfl
                      refine join_ (σ := Nat) 1 #[true, true, true, true, true, true, true, true, true, true, true, true, true, true, true, true, true, true, true, true, true, true, false] (fun s_ => [(29, .string t181), (5, .pointer (some ⟨s_, 0, none⟩)), (36, .agg #[.int .i64 (wrap64 (Int.tmod (IntKind.u64.wrap ((rd_T34 l0 x4_1).f0)) 4)), .string t181, .int .u64 (Int.tmod ((rd_T34 l0 x4_1).f2) 1000000)])]) (fun s_ w' => (w'.cell? (ad179.add ((x4_1).toNat * 3)) = some (.int .i64 ((rd_T34 l0 x4_1).f0)) ∧ w'.cell? ⟨(ad179.add ((x4_1).toNat * 3)).block, (ad179.add ((x4_1).toNat * 3)).off + 1, none⟩ = some (.string ((rd_T34 l0 x4_1).f1)) ∧ w'.cell? ⟨(ad179.add ((x4_1).toNat * 3)).block, (ad179.add ((x4_1).toNat * 3)).off + 2, none⟩ = some (.int .u64 ((rd_T34 l0 x4_1).f2)) ∧ w'.cell? (ad179.add ((x4_1).toNat * 3)) = some (.int .i64 ((rd_T34 l0 x4_1).f0)) ∧ w'.cell? ⟨(ad179.add ((x4_1).toNat * 3)).block, (ad179.add ((x4_1).toNat * 3)).off + 1, none⟩ = some (.string ((rd_T34 l0 x4_1).f1)) ∧ w'.cell? ⟨(ad179.add ((x4_1).toNat * 3)).block, (ad179.add ((x4_1).toNat * 3)).off + 2, none⟩ = some (.int .u64 ((rd_T34 l0 x4_1).f2)) ∧ w'.cell? (ad179.add ((x4_1).toNat * 3)) = some (.int .i64 ((rd_T34 l0 x4_1).f0)) ∧ w'.cell? ⟨(ad179.add ((x4_1).toNat * 3)).block, (ad179.add ((x4_1).toNat * 3)).off + 1, none⟩ = some (.string ((rd_T34 l0 x4_1).f1)) ∧ w'.cell? ⟨(ad179.add ((x4_1).toNat * 3)).block, (ad179.add ((x4_1).toNat * 3)).off + 2, none⟩ = some (.int .u64 ((rd_T34 l0 x4_1).f2))) ∧ (Kd.R k34 34 w' w.heap.size (fun k_ => k_ ≠ s_) u3 x3_1) ∧ (w'.heap[s_]? = some (.cells #[.int .i64 0, .string (⟨#[]⟩ : ByteArray), .int .u64 0] 34 (0, 0))) ∧ (w.heap.size ≤ s_) ∧ (w.heap.size ≤ s_) ∧ (Below w.heap.size w w')) ?_ ?_
                      rotate_left
                      · intro hCont
                        refine two_ (i := 13) (j := 21) (Ni := some 29) (Nj := some 5) #[true, true, true, true, true, true, true, true, true, true, true, true, true, true, true, true, true, true, true, true, false, false, false] #[true, true, true, true, true, true, true, true, true, true, true, true, true, false, true, true, true, true, true, true, false, true, false] rfl rfl rfl rfl (two_of HT_.out (by kernel_rfl)) (by decide) (by decide) (fun K hK => ?_) (fun K hK => ?_)
                        · skip
                          refine goes_ Tryz.func10 (by kernel_rfl) rfl #[.string ((rd_T34 l0 x4_1).f1)] (by rfl) rfl rfl (by (try simp only [List.map_toArray, List.map_cons, List.map_nil]); first | done | rfl | (simp only [List.length_drop, List.length_take]; rfl)) ?_
                          with_reducible refine (laws_trName.calls kj1 ((rd_T34 l0 x4_1).f1) t181 _ A7.out).mono ?_
                          rintro e w32 ⟨rfl, hb⟩
                          refine ⟨_, rfl, ?_⟩
                          have n0_ := Aside0.mk (Kd.R_below (by (with_reducible repeat (first | apply Kd.R_alloc | apply Kd.R_drewN | apply Kd.R_drew)); exact HO_3.out) hb)
                          have n1_ := Aside0.mk (below_step (by repeat (first | (with_reducible first | exact HB.out | apply below_alloc | apply pw_below_drewN | apply below_drew1) | exact HB.out)) hb)
                          clear HO_3
                          clear HB
                          have HO_3 := n0_
                          have HB := n1_
                          clear n0_ n1_
                          (try clear hb)
                          (try clear hb2)
                          (try clear hk)
                          (try clear hi)
                          refine hK.out _ _ ⟨((HB.out.cell (World.block_lt_of_cell? w _ hw179_0)).trans hw179_0), ((HB.out.cell (World.block_lt_of_cell? w _ hw179_1)).trans hw179_1), ((HB.out.cell (World.block_lt_of_cell? w _ hw179_2)).trans hw179_2), ((HB.out.cell (World.block_lt_of_cell? w _ hw180_0)).trans hw180_0), ((HB.out.cell (World.block_lt_of_cell? w _ hw180_1)).trans hw180_1), ((HB.out.cell (World.block_lt_of_cell? w _ hw180_2)).trans hw180_2), ((HB.out.cell (World.block_lt_of_cell? w _ hw182_0)).trans hw182_0), ((HB.out.cell (World.block_lt_of_cell? w _ hw182_1)).trans hw182_1), ((HB.out.cell (World.block_lt_of_cell? w _ hw182_2)).trans hw182_2)⟩ (fun hHeld => ?_)
                          clear hK K
                          refine norm_ (a' := ?_) ?_ ?_
                          rotate_left
                          · show Act.put _ (some 29) _ = _
                            simp only [Act.put, List.setIfInBounds_toArray, List.set_cons_zero, List.set_cons_succ, i64_w, i32_w]
                            rfl
                          refine pure_ (i := 20) (N := some 36) (v := ?_) (a' := ?_) #[true, true, true, true, true, true, true, true, true, true, true, true, true, true, true, true, true, true, true, true, true, false, false] rfl rfl (any_of HT_.out (by kernel_rfl)) (fun _ _ _ h => h) (Or.inl ⟨by rfl, ?_⟩) ?_ ?_
                          rotate_left
                          · intro w'
                            go_simp
                            with_reducible rfl
                          rotate_left
                          · simp only [Act.put, List.setIfInBounds_toArray, List.set_cons_zero, List.set_cons_succ, i64_w, i32_w]
                            rfl
                          refine one_ (i := 21) (N := some 5) #[true, true, true, true, true, true, true, true, true, true, true, true, true, true, true, true, true, true, true, true, true, true, false] rfl rfl (one_of HT_.out (by kernel_rfl)) (by decide) (fun K hK => ?_)
                          refine box_step ?hg (N := 5) ?hd (cs := #[.int .i64 0, .string (⟨#[]⟩ : ByteArray), .int .u64 0]) (t := 34) ?hr ?_; (case hd => rfl); (case hg => rfl); (case hr => first | (go_simp; done) | (go_simp; rfl))
                          intro gb183 hg w33 hbox hb
                          have n0_ := Aside0.mk (Kd.R_below (Kd.R_elderB (by (with_reducible repeat (first | apply Kd.R_alloc | apply Kd.R_drewN | apply Kd.R_drew)); exact HO_3.out) gb183 (Nat.le_of_eq hg.symm)) hb)
                          have n1_ := Aside0.mk (below_step (by repeat (first | (with_reducible first | exact HB.out | apply below_alloc | apply pw_below_drewN | apply below_drew1) | exact HB.out)) hb)
                          have n2_ := Aside0.mk (hbox)
                          have n3_ := Aside0.mk ((by rw [hg]; exact (below_size (by repeat (first | (with_reducible first | exact HB.out | apply below_alloc | apply pw_below_drewN | apply below_drew1) | exact HB.out))) : w.heap.size ≤ gb183))
                          have n4_ := Aside0.mk ((by rw [hg]; exact (below_size (by repeat (first | (with_reducible first | exact HB.out | apply below_alloc | apply pw_below_drewN | apply below_drew1) | exact HB.out))) : w.heap.size ≤ gb183))
                          clear HO_3
                          clear HB
                          have HO_3 := n0_
                          have HB := n1_
                          have BK183 := n2_
                          have GW183 := n3_
                          have GE183 := n4_
                          clear n0_ n1_ n2_ n3_ n4_
                          clear hb hbox hg
                          refine hK.out _ _ ⟨((HB.out.cell (World.block_lt_of_cell? w _ hw179_0)).trans hw179_0), ((HB.out.cell (World.block_lt_of_cell? w _ hw179_1)).trans hw179_1), ((HB.out.cell (World.block_lt_of_cell? w _ hw179_2)).trans hw179_2), ((HB.out.cell (World.block_lt_of_cell? w _ hw180_0)).trans hw180_0), ((HB.out.cell (World.block_lt_of_cell? w _ hw180_1)).trans hw180_1), ((HB.out.cell (World.block_lt_of_cell? w _ hw180_2)).trans hw180_2), ((HB.out.cell (World.block_lt_of_cell? w _ hw182_0)).trans hw182_0), ((HB.out.cell (World.block_lt_of_cell? w _ hw182_1)).trans hw182_1), ((HB.out.cell (World.block_lt_of_cell? w _ hw182_2)).trans hw182_2)⟩ (fun hHeld => ?_)
                          clear hK K
                          refine norm_ (a' := ?_) ?_ ?_
                          rotate_left
                          · show Act.put _ (some 5) _ = _
                            simp only [Act.put, List.setIfInBounds_toArray, List.set_cons_zero, List.set_cons_succ, i64_w, i32_w]
                            rfl
                          exact norm_ (by simp only [putAll, Act.put, List.setIfInBounds_toArray, List.set_cons_zero, List.set_cons_succ]) (hCont (gb183) _ ⟨hHeld, (by (with_reducible repeat (first | apply Kd.R_alloc | apply Kd.R_drewN | apply Kd.R_drew)); exact Kd.R_mono HO_3.out (fun _ hk => hk.2)), (by (with_reducible repeat (first | refine blk_drewN ?_ _ | refine blk_drew ?_ | refine blk_alloc ?_ _)); exact BK183.out), GW183.out, GE183.out, (by repeat (first | (with_reducible first | exact HB.out | apply below_alloc | apply pw_below_drewN | apply below_drew1 | refine below_set ?_ GE183.out) | exact HB.out))⟩)
                        · skip
                          refine box_step ?hg (N := 5) ?hd (cs := #[.int .i64 0, .string (⟨#[]⟩ : ByteArray), .int .u64 0]) (t := 34) ?hr ?_; (case hd => rfl); (case hg => rfl); (case hr => first | (go_simp; done) | (go_simp; rfl))
                          intro gb183 hg w32 hbox hb
                          have n0_ := Aside0.mk (Kd.R_below (Kd.R_elderB (by (with_reducible repeat (first | apply Kd.R_alloc | apply Kd.R_drewN | apply Kd.R_drew)); exact HO_3.out) gb183 (Nat.le_of_eq hg.symm)) hb)
                          have n1_ := Aside0.mk (below_step (by repeat (first | (with_reducible first | exact HB.out | apply below_alloc | apply pw_below_drewN | apply below_drew1) | exact HB.out)) hb)
                          have n2_ := Aside0.mk (hbox)
                          have n3_ := Aside0.mk ((by rw [hg]; exact (below_size (by repeat (first | (with_reducible first | exact HB.out | apply below_alloc | apply pw_below_drewN | apply below_drew1) | exact HB.out))) : w.heap.size ≤ gb183))
                          have n4_ := Aside0.mk ((by rw [hg]; exact (below_size (by repeat (first | (with_reducible first | exact HB.out | apply below_alloc | apply pw_below_drewN | apply below_drew1) | exact HB.out))) : w.heap.size ≤ gb183))
                          clear HO_3
                          clear HB
                          have HO_3 := n0_
                          have HB := n1_
                          have BK183 := n2_
                          have GW183 := n3_
                          have GE183 := n4_
                          clear n0_ n1_ n2_ n3_ n4_
                          clear hb hbox hg
                          refine hK.out _ _ ⟨((HB.out.cell (World.block_lt_of_cell? w _ hw179_0)).trans hw179_0), ((HB.out.cell (World.block_lt_of_cell? w _ hw179_1)).trans hw179_1), ((HB.out.cell (World.block_lt_of_cell? w _ hw179_2)).trans hw179_2), ((HB.out.cell (World.block_lt_of_cell? w _ hw180_0)).trans hw180_0), ((HB.out.cell (World.block_lt_of_cell? w _ hw180_1)).trans hw180_1), ((HB.out.cell (World.block_lt_of_cell? w _ hw180_2)).trans hw180_2), ((HB.out.cell (World.block_lt_of_cell? w _ hw182_0)).trans hw182_0), ((HB.out.cell (World.block_lt_of_cell? w _ hw182_1)).trans hw182_1), ((HB.out.cell (World.block_lt_of_cell? w _ hw182_2)).trans hw182_2)⟩ (fun hHeld => ?_)
                          clear hK K
                          refine norm_ (a' := ?_) ?_ ?_
                          rotate_left
                          · show Act.put _ (some 5) _ = _
                            simp only [Act.put, List.setIfInBounds_toArray, List.set_cons_zero, List.set_cons_succ, i64_w, i32_w]
                            rfl
                          refine one_ (i := 13) (N := some 29) #[true, true, true, true, true, true, true, true, true, true, true, true, true, true, true, true, true, true, true, true, false, true, false] rfl rfl (one_of HT_.out (by kernel_rfl)) (by decide) (fun K hK => ?_)
                          refine goes_ Tryz.func10 (by kernel_rfl) rfl #[.string ((rd_T34 l0 x4_1).f1)] (by rfl) rfl rfl (by (try simp only [List.map_toArray, List.map_cons, List.map_nil]); first | done | rfl | (simp only [List.length_drop, List.length_take]; rfl)) ?_
                          with_reducible refine (laws_trName.calls kj1 ((rd_T34 l0 x4_1).f1) t181 _ A7.out).mono ?_
                          rintro e w33 ⟨rfl, hb⟩
                          refine ⟨_, rfl, ?_⟩
                          have n0_ := Aside0.mk (Kd.R_below (by (with_reducible repeat (first | apply Kd.R_alloc | apply Kd.R_drewN | apply Kd.R_drew)); exact HO_3.out) hb)
                          have n1_ := Aside0.mk (blk_below (g := gb183) (o := .cells #[.int .i64 0, .string (⟨#[]⟩ : ByteArray), .int .u64 0] 34 (0, 0)) (by (with_reducible repeat (first | refine blk_drewN ?_ _ | refine blk_drew ?_ | refine blk_alloc ?_ _)); exact BK183.out) hb)
                          have n2_ := Aside0.mk (below_step (by repeat (first | (with_reducible first | exact HB.out | apply below_alloc | apply pw_below_drewN | apply below_drew1 | refine below_set ?_ GE183.out) | exact HB.out)) hb)
                          clear HO_3
                          clear BK183
                          clear HB
                          have HO_3 := n0_
                          have BK183 := n1_
                          have HB := n2_
                          clear n0_ n1_ n2_
                          (try clear hb)
                          (try clear hb2)
                          (try clear hk)
                          (try clear hi)
                          refine hK.out _ _ ⟨((HB.out.cell (World.block_lt_of_cell? w _ hw179_0)).trans hw179_0), ((HB.out.cell (World.block_lt_of_cell? w _ hw179_1)).trans hw179_1), ((HB.out.cell (World.block_lt_of_cell? w _ hw179_2)).trans hw179_2), ((HB.out.cell (World.block_lt_of_cell? w _ hw180_0)).trans hw180_0), ((HB.out.cell (World.block_lt_of_cell? w _ hw180_1)).trans hw180_1), ((HB.out.cell (World.block_lt_of_cell? w _ hw180_2)).trans hw180_2), ((HB.out.cell (World.block_lt_of_cell? w _ hw182_0)).trans hw182_0), ((HB.out.cell (World.block_lt_of_cell? w _ hw182_1)).trans hw182_1), ((HB.out.cell (World.block_lt_of_cell? w _ hw182_2)).trans hw182_2)⟩ (fun hHeld => ?_)
                          clear hK K
                          refine norm_ (a' := ?_) ?_ ?_
                          rotate_left
                          · show Act.put _ (some 29) _ = _
                            simp only [Act.put, List.setIfInBounds_toArray, List.set_cons_zero, List.set_cons_succ, i64_w, i32_w]
                            rfl
                          refine pure_ (i := 20) (N := some 36) (v := ?_) (a' := ?_) #[true, true, true, true, true, true, true, true, true, true, true, true, true, true, true, true, true, true, true, true, true, true, false] rfl rfl (any_of HT_.out (by kernel_rfl)) (fun _ _ _ h => h) (Or.inl ⟨by rfl, ?_⟩) ?_ ?_
                          rotate_left
                          · intro w'
                            go_simp
                            with_reducible rfl
                          rotate_left
                          · simp only [Act.put, List.setIfInBounds_toArray, List.set_cons_zero, List.set_cons_succ, i64_w, i32_w]
                            rfl
                          exact norm_ (by simp only [putAll, Act.put, List.setIfInBounds_toArray, List.set_cons_zero, List.set_cons_succ]) (hCont (gb183) _ ⟨hHeld, (by (with_reducible repeat (first | apply Kd.R_alloc | apply Kd.R_drewN | apply Kd.R_drew)); exact Kd.R_mono HO_3.out (fun _ hk => hk.2)), (by (with_reducible repeat (first | refine blk_drewN ?_ _ | refine blk_drew ?_ | refine blk_alloc ?_ _)); exact BK183.out), GW183.out, GE183.out, (by repeat (first | (with_reducible first | exact HB.out | apply below_alloc | apply pw_below_drewN | apply below_drew1 | refine below_set ?_ GE183.out) | exact HB.out))⟩)
                      rintro gb183 w34 ⟨hS_, h0_, h1_, h2_, h3_, h4_⟩
                      have n0_ : Aside0 (Kd.R k34 34 w34 w.heap.size (fun k_ => k_ ≠ gb183) u3 x3_1) := ⟨h0_⟩
                      have n1_ : Aside0 (w34.heap[gb183]? = some (.cells #[.int .i64 0, .string (⟨#[]⟩ : ByteArray), .int .u64 0] 34 (0, 0))) := ⟨h1_⟩
                      have n2_ : Aside0 (w.heap.size ≤ gb183) := ⟨h2_⟩
                      have n3_ : Aside0 (w.heap.size ≤ gb183) := ⟨h3_⟩
                      have n4_ : Aside0 (Below w.heap.size w w34) := ⟨h4_⟩
                      clear HO_3
                      clear HB
                      clear h0_ h1_ h2_ h3_ h4_
                      have HO_3 := n0_
                      have BK183 := n1_
                      have GW183 := n2_
                      have GE183 := n3_
                      have HB := n4_
                      clear n0_ n1_ n2_ n3_ n4_
                      have hHeld : w34.cell? (ad179.add ((x4_1).toNat * 3)) = some (.int .i64 ((rd_T34 l0 x4_1).f0)) ∧ w34.cell? ⟨(ad179.add ((x4_1).toNat * 3)).block, (ad179.add ((x4_1).toNat * 3)).off + 1, none⟩ = some (.string ((rd_T34 l0 x4_1).f1)) ∧ w34.cell? ⟨(ad179.add ((x4_1).toNat * 3)).block, (ad179.add ((x4_1).toNat * 3)).off + 2, none⟩ = some (.int .u64 ((rd_T34 l0 x4_1).f2)) ∧ w34.cell? (ad179.add ((x4_1).toNat * 3)) = some (.int .i64 ((rd_T34 l0 x4_1).f0)) ∧ w34.cell? ⟨(ad179.add ((x4_1).toNat * 3)).block, (ad179.add ((x4_1).toNat * 3)).off + 1, none⟩ = some (.string ((rd_T34 l0 x4_1).f1)) ∧ w34.cell? ⟨(ad179.add ((x4_1).toNat * 3)).block, (ad179.add ((x4_1).toNat * 3)).off + 2, none⟩ = some (.int .u64 ((rd_T34 l0 x4_1).f2)) ∧ w34.cell? (ad179.add ((x4_1).toNat * 3)) = some (.int .i64 ((rd_T34 l0 x4_1).f0)) ∧ w34.cell? ⟨(ad179.add ((x4_1).toNat * 3)).block, (ad179.add ((x4_1).toNat * 3)).off + 1, none⟩ = some (.string ((rd_T34 l0 x4_1).f1)) ∧ w34.cell? ⟨(ad179.add ((x4_1).toNat * 3)).block, (ad179.add ((x4_1).toNat * 3)).off + 2, none⟩ = some (.int .u64 ((rd_T34 l0 x4_1).f2)) := hS_
                      refine norm_ (a' := ?_) ?_ ?_
                      rotate_left
                      · simp only [putAll, Act.put, List.setIfInBounds_toArray, List.set_cons_zero, List.set_cons_succ]
                        rfl
                      refine one_ (i := 22) (N := none) #[true, true, true, true, true, true, true, true, true, true, true, true, true, true, true, true, true, true, true, true, true, true, true] rfl rfl (one_of HT_.out (by kernel_rfl)) (by decide) (fun K hK => ?_)
                      have hs35 : w34.cell? ⟨gb183, 0, none⟩ = some (.int .i64 0) := (blk_cell BK183.out 0).trans rfl
                      have hfs35 := blk_frozen BK183.out 0
                      have hs36 : w34.cell? ⟨gb183, 1, none⟩ = some (.string (⟨#[]⟩ : ByteArray)) := (blk_cell BK183.out 1).trans rfl
                      have hfs36 := blk_frozen BK183.out 1
                      have hs37 : w34.cell? ⟨gb183, 2, none⟩ = some (.int .u64 0) := (blk_cell BK183.out 2).trans rfl
                      have hfs37 := blk_frozen BK183.out 2
                      refine skip_ (w1 := ?_) (by rfl) rfl ?_ ?_
                      rotate_left
                      · go_simp
                        rfl
                      refine hK.out _ _ ⟨((cell_far (p := ⟨gb183, _, none⟩) (by first | exact Nat.ne_of_lt (Nat.lt_of_lt_of_le (by have := World.block_lt_of_cell? _ _ hw179_0; first | rwa [add_block] at this | exact this) GW183.out) | (rw [add_block]; exact Nat.ne_of_lt (Nat.lt_of_lt_of_le (by have := World.block_lt_of_cell? _ _ hw179_0; first | rwa [add_block] at this | exact this) GW183.out)) | (show (Addr.add _ _).block ≠ _; rw [add_block]; exact Nat.ne_of_lt (Nat.lt_of_lt_of_le (by have := World.block_lt_of_cell? _ _ hw179_0; first | rwa [add_block] at this | exact this) GW183.out)) | (dsimp only; exact Nat.ne_of_lt (Nat.lt_of_lt_of_le (by have := World.block_lt_of_cell? _ _ hw179_0; first | rwa [add_block] at this | exact this) GW183.out))) _).trans (((cell_far (p := ⟨gb183, _, none⟩) (by first | exact Nat.ne_of_lt (Nat.lt_of_lt_of_le (by have := World.block_lt_of_cell? _ _ hw179_0; first | rwa [add_block] at this | exact this) GW183.out) | (rw [add_block]; exact Nat.ne_of_lt (Nat.lt_of_lt_of_le (by have := World.block_lt_of_cell? _ _ hw179_0; first | rwa [add_block] at this | exact this) GW183.out)) | (show (Addr.add _ _).block ≠ _; rw [add_block]; exact Nat.ne_of_lt (Nat.lt_of_lt_of_le (by have := World.block_lt_of_cell? _ _ hw179_0; first | rwa [add_block] at this | exact this) GW183.out)) | (dsimp only; exact Nat.ne_of_lt (Nat.lt_of_lt_of_le (by have := World.block_lt_of_cell? _ _ hw179_0; first | rwa [add_block] at this | exact this) GW183.out))) _).trans (((cell_far (p := ⟨gb183, _, none⟩) (by first | exact Nat.ne_of_lt (Nat.lt_of_lt_of_le (by have := World.block_lt_of_cell? _ _ hw179_0; first | rwa [add_block] at this | exact this) GW183.out) | (rw [add_block]; exact Nat.ne_of_lt (Nat.lt_of_lt_of_le (by have := World.block_lt_of_cell? _ _ hw179_0; first | rwa [add_block] at this | exact this) GW183.out)) | (show (Addr.add _ _).block ≠ _; rw [add_block]; exact Nat.ne_of_lt (Nat.lt_of_lt_of_le (by have := World.block_lt_of_cell? _ _ hw179_0; first | rwa [add_block] at this | exact this) GW183.out)) | (dsimp only; exact Nat.ne_of_lt (Nat.lt_of_lt_of_le (by have := World.block_lt_of_cell? _ _ hw179_0; first | rwa [add_block] at this | exact this) GW183.out))) _).trans (hHeld.1)))))), ((cell_far (p := ⟨gb183, _, none⟩) (by first | exact Nat.ne_of_lt (Nat.lt_of_lt_of_le (by have := World.block_lt_of_cell? _ _ hw179_1; first | rwa [add_block] at this | exact this) GW183.out) | (rw [add_block]; exact Nat.ne_of_lt (Nat.lt_of_lt_of_le (by have := World.block_lt_of_cell? _ _ hw179_1; first | rwa [add_block] at this | exact this) GW183.out)) | (show (Addr.add _ _).block ≠ _; rw [add_block]; exact Nat.ne_of_lt (Nat.lt_of_lt_of_le (by have := World.block_lt_of_cell? _ _ hw179_1; first | rwa [add_block] at this | exact this) GW183.out)) | (dsimp only; exact Nat.ne_of_lt (Nat.lt_of_lt_of_le (by have := World.block_lt_of_cell? _ _ hw179_1; first | rwa [add_block] at this | exact this) GW183.out))) _).trans (((cell_far (p := ⟨gb183, _, none⟩) (by first | exact Nat.ne_of_lt (Nat.lt_of_lt_of_le (by have := World.block_lt_of_cell? _ _ hw179_1; first | rwa [add_block] at this | exact this) GW183.out) | (rw [add_block]; exact Nat.ne_of_lt (Nat.lt_of_lt_of_le (by have := World.block_lt_of_cell? _ _ hw179_1; first | rwa [add_block] at this | exact this) GW183.out)) | (show (Addr.add _ _).block ≠ _; rw [add_block]; exact Nat.ne_of_lt (Nat.lt_of_lt_of_le (by have := World.block_lt_of_cell? _ _ hw179_1; first | rwa [add_block] at this | exact this) GW183.out)) | (dsimp only; exact Nat.ne_of_lt (Nat.lt_of_lt_of_le (by have := World.block_lt_of_cell? _ _ hw179_1; first | rwa [add_block] at this | exact this) GW183.out))) _).trans (((cell_far (p := ⟨gb183, _, none⟩) (by first | exact Nat.ne_of_lt (Nat.lt_of_lt_of_le (by have := World.block_lt_of_cell? _ _ hw179_1; first | rwa [add_block] at this | exact this) GW183.out) | (rw [add_block]; exact Nat.ne_of_lt (Nat.lt_of_lt_of_le (by have := World.block_lt_of_cell? _ _ hw179_1; first | rwa [add_block] at this | exact this) GW183.out)) | (show (Addr.add _ _).block ≠ _; rw [add_block]; exact Nat.ne_of_lt (Nat.lt_of_lt_of_le (by have := World.block_lt_of_cell? _ _ hw179_1; first | rwa [add_block] at this | exact this) GW183.out)) | (dsimp only; exact Nat.ne_of_lt (Nat.lt_of_lt_of_le (by have := World.block_lt_of_cell? _ _ hw179_1; first | rwa [add_block] at this | exact this) GW183.out))) _).trans (hHeld.2.1)))))), ((cell_far (p := ⟨gb183, _, none⟩) (by first | exact Nat.ne_of_lt (Nat.lt_of_lt_of_le (by have := World.block_lt_of_cell? _ _ hw179_2; first | rwa [add_block] at this | exact this) GW183.out) | (rw [add_block]; exact Nat.ne_of_lt (Nat.lt_of_lt_of_le (by have := World.block_lt_of_cell? _ _ hw179_2; first | rwa [add_block] at this | exact this) GW183.out)) | (show (Addr.add _ _).block ≠ _; rw [add_block]; exact Nat.ne_of_lt (Nat.lt_of_lt_of_le (by have := World.block_lt_of_cell? _ _ hw179_2; first | rwa [add_block] at this | exact this) GW183.out)) | (dsimp only; exact Nat.ne_of_lt (Nat.lt_of_lt_of_le (by have := World.block_lt_of_cell? _ _ hw179_2; first | rwa [add_block] at this | exact this) GW183.out))) _).trans (((cell_far (p := ⟨gb183, _, none⟩) (by first | exact Nat.ne_of_lt (Nat.lt_of_lt_of_le (by have := World.block_lt_of_cell? _ _ hw179_2; first | rwa [add_block] at this | exact this) GW183.out) | (rw [add_block]; exact Nat.ne_of_lt (Nat.lt_of_lt_of_le (by have := World.block_lt_of_cell? _ _ hw179_2; first | rwa [add_block] at this | exact this) GW183.out)) | (show (Addr.add _ _).block ≠ _; rw [add_block]; exact Nat.ne_of_lt (Nat.lt_of_lt_of_le (by have := World.block_lt_of_cell? _ _ hw179_2; first | rwa [add_block] at this | exact this) GW183.out)) | (dsimp only; exact Nat.ne_of_lt (Nat.lt_of_lt_of_le (by have := World.block_lt_of_cell? _ _ hw179_2; first | rwa [add_block] at this | exact this) GW183.out))) _).trans (((cell_far (p := ⟨gb183, _, none⟩) (by first | exact Nat.ne_of_lt (Nat.lt_of_lt_of_le (by have := World.block_lt_of_cell? _ _ hw179_2; first | rwa [add_block] at this | exact this) GW183.out) | (rw [add_block]; exact Nat.ne_of_lt (Nat.lt_of_lt_of_le (by have := World.block_lt_of_cell? _ _ hw179_2; first | rwa [add_block] at this | exact this) GW183.out)) | (show (Addr.add _ _).block ≠ _; rw [add_block]; exact Nat.ne_of_lt (Nat.lt_of_lt_of_le (by have := World.block_lt_of_cell? _ _ hw179_2; first | rwa [add_block] at this | exact this) GW183.out)) | (dsimp only; exact Nat.ne_of_lt (Nat.lt_of_lt_of_le (by have := World.block_lt_of_cell? _ _ hw179_2; first | rwa [add_block] at this | exact this) GW183.out))) _).trans (hHeld.2.2.1)))))), ((cell_far (p := ⟨gb183, _, none⟩) (by first | exact Nat.ne_of_lt (Nat.lt_of_lt_of_le (by have := World.block_lt_of_cell? _ _ hw180_0; first | rwa [add_block] at this | exact this) GW183.out) | (rw [add_block]; exact Nat.ne_of_lt (Nat.lt_of_lt_of_le (by have := World.block_lt_of_cell? _ _ hw180_0; first | rwa [add_block] at this | exact this) GW183.out)) | (show (Addr.add _ _).block ≠ _; rw [add_block]; exact Nat.ne_of_lt (Nat.lt_of_lt_of_le (by have := World.block_lt_of_cell? _ _ hw180_0; first | rwa [add_block] at this | exact this) GW183.out)) | (dsimp only; exact Nat.ne_of_lt (Nat.lt_of_lt_of_le (by have := World.block_lt_of_cell? _ _ hw180_0; first | rwa [add_block] at this | exact this) GW183.out))) _).trans (((cell_far (p := ⟨gb183, _, none⟩) (by first | exact Nat.ne_of_lt (Nat.lt_of_lt_of_le (by have := World.block_lt_of_cell? _ _ hw180_0; first | rwa [add_block] at this | exact this) GW183.out) | (rw [add_block]; exact Nat.ne_of_lt (Nat.lt_of_lt_of_le (by have := World.block_lt_of_cell? _ _ hw180_0; first | rwa [add_block] at this | exact this) GW183.out)) | (show (Addr.add _ _).block ≠ _; rw [add_block]; exact Nat.ne_of_lt (Nat.lt_of_lt_of_le (by have := World.block_lt_of_cell? _ _ hw180_0; first | rwa [add_block] at this | exact this) GW183.out)) | (dsimp only; exact Nat.ne_of_lt (Nat.lt_of_lt_of_le (by have := World.block_lt_of_cell? _ _ hw180_0; first | rwa [add_block] at this | exact this) GW183.out))) _).trans (((cell_far (p := ⟨gb183, _, none⟩) (by first | exact Nat.ne_of_lt (Nat.lt_of_lt_of_le (by have := World.block_lt_of_cell? _ _ hw180_0; first | rwa [add_block] at this | exact this) GW183.out) | (rw [add_block]; exact Nat.ne_of_lt (Nat.lt_of_lt_of_le (by have := World.block_lt_of_cell? _ _ hw180_0; first | rwa [add_block] at this | exact this) GW183.out)) | (show (Addr.add _ _).block ≠ _; rw [add_block]; exact Nat.ne_of_lt (Nat.lt_of_lt_of_le (by have := World.block_lt_of_cell? _ _ hw180_0; first | rwa [add_block] at this | exact this) GW183.out)) | (dsimp only; exact Nat.ne_of_lt (Nat.lt_of_lt_of_le (by have := World.block_lt_of_cell? _ _ hw180_0; first | rwa [add_block] at this | exact this) GW183.out))) _).trans (hHeld.2.2.2.1)))))), ((cell_far (p := ⟨gb183, _, none⟩) (by first | exact Nat.ne_of_lt (Nat.lt_of_lt_of_le (by have := World.block_lt_of_cell? _ _ hw180_1; first | rwa [add_block] at this | exact this) GW183.out) | (rw [add_block]; exact Nat.ne_of_lt (Nat.lt_of_lt_of_le (by have := World.block_lt_of_cell? _ _ hw180_1; first | rwa [add_block] at this | exact this) GW183.out)) | (show (Addr.add _ _).block ≠ _; rw [add_block]; exact Nat.ne_of_lt (Nat.lt_of_lt_of_le (by have := World.block_lt_of_cell? _ _ hw180_1; first | rwa [add_block] at this | exact this) GW183.out)) | (dsimp only; exact Nat.ne_of_lt (Nat.lt_of_lt_of_le (by have := World.block_lt_of_cell? _ _ hw180_1; first | rwa [add_block] at this | exact this) GW183.out))) _).trans (((cell_far (p := ⟨gb183, _, none⟩) (by first | exact Nat.ne_of_lt (Nat.lt_of_lt_of_le (by have := World.block_lt_of_cell? _ _ hw180_1; first | rwa [add_block] at this | exact this) GW183.out) | (rw [add_block]; exact Nat.ne_of_lt (Nat.lt_of_lt_of_le (by have := World.block_lt_of_cell? _ _ hw180_1; first | rwa [add_block] at this | exact this) GW183.out)) | (show (Addr.add _ _).block ≠ _; rw [add_block]; exact Nat.ne_of_lt (Nat.lt_of_lt_of_le (by have := World.block_lt_of_cell? _ _ hw180_1; first | rwa [add_block] at this | exact this) GW183.out)) | (dsimp only; exact Nat.ne_of_lt (Nat.lt_of_lt_of_le (by have := World.block_lt_of_cell? _ _ hw180_1; first | rwa [add_block] at this | exact this) GW183.out))) _).trans (((cell_far (p := ⟨gb183, _, none⟩) (by first | exact Nat.ne_of_lt (Nat.lt_of_lt_of_le (by have := World.block_lt_of_cell? _ _ hw180_1; first | rwa [add_block] at this | exact this) GW183.out) | (rw [add_block]; exact Nat.ne_of_lt (Nat.lt_of_lt_of_le (by have := World.block_lt_of_cell? _ _ hw180_1; first | rwa [add_block] at this | exact this) GW183.out)) | (show (Addr.add _ _).block ≠ _; rw [add_block]; exact Nat.ne_of_lt (Nat.lt_of_lt_of_le (by have := World.block_lt_of_cell? _ _ hw180_1; first | rwa [add_block] at this | exact this) GW183.out)) | (dsimp only; exact Nat.ne_of_lt (Nat.lt_of_lt_of_le (by have := World.block_lt_of_cell? _ _ hw180_1; first | rwa [add_block] at this | exact this) GW183.out))) _).trans (hHeld.2.2.2.2.1)))))), ((cell_far (p := ⟨gb183, _, none⟩) (by first | exact Nat.ne_of_lt (Nat.lt_of_lt_of_le (by have := World.block_lt_of_cell? _ _ hw180_2; first | rwa [add_block] at this | exact this) GW183.out) | (rw [add_block]; exact Nat.ne_of_lt (Nat.lt_of_lt_of_le (by have := World.block_lt_of_cell? _ _ hw180_2; first | rwa [add_block] at this | exact this) GW183.out)) | (show (Addr.add _ _).block ≠ _; rw [add_block]; exact Nat.ne_of_lt (Nat.lt_of_lt_of_le (by have := World.block_lt_of_cell? _ _ hw180_2; first | rwa [add_block] at this | exact this) GW183.out)) | (dsimp only; exact Nat.ne_of_lt (Nat.lt_of_lt_of_le (by have := World.block_lt_of_cell? _ _ hw180_2; first | rwa [add_block] at this | exact this) GW183.out))) _).trans (((cell_far (p := ⟨gb183, _, none⟩) (by first | exact Nat.ne_of_lt (Nat.lt_of_lt_of_le (by have := World.block_lt_of_cell? _ _ hw180_2; first | rwa [add_block] at this | exact this) GW183.out) | (rw [add_block]; exact Nat.ne_of_lt (Nat.lt_of_lt_of_le (by have := World.block_lt_of_cell? _ _ hw180_2; first | rwa [add_block] at this | exact this) GW183.out)) | (show (Addr.add _ _).block ≠ _; rw [add_block]; exact Nat.ne_of_lt (Nat.lt_of_lt_of_le (by have := World.block_lt_of_cell? _ _ hw180_2; first | rwa [add_block] at this | exact this) GW183.out)) | (dsimp only; exact Nat.ne_of_lt (Nat.lt_of_lt_of_le (by have := World.block_lt_of_cell? _ _ hw180_2; first | rwa [add_block] at this | exact this) GW183.out))) _).trans (((cell_far (p := ⟨gb183, _, none⟩) (by first | exact Nat.ne_of_lt (Nat.lt_of_lt_of_le (by have := World.block_lt_of_cell? _ _ hw180_2; first | rwa [add_block] at this | exact this) GW183.out) | (rw [add_block]; exact Nat.ne_of_lt (Nat.lt_of_lt_of_le (by have := World.block_lt_of_cell? _ _ hw180_2; first | rwa [add_block] at this | exact this) GW183.out)) | (show (Addr.add _ _).block ≠ _; rw [add_block]; exact Nat.ne_of_lt (Nat.lt_of_lt_of_le (by have := World.block_lt_of_cell? _ _ hw180_2; first | rwa [add_block] at this | exact this) GW183.out)) | (dsimp only; exact Nat.ne_of_lt (Nat.lt_of_lt_of_le (by have := World.block_lt_of_cell? _ _ hw180_2; first | rwa [add_block] at this | exact this) GW183.out))) _).trans (hHeld.2.2.2.2.2.1)))))), ((cell_far (p := ⟨gb183, _, none⟩) (by first | exact Nat.ne_of_lt (Nat.lt_of_lt_of_le (by have := World.block_lt_of_cell? _ _ hw182_0; first | rwa [add_block] at this | exact this) GW183.out) | (rw [add_block]; exact Nat.ne_of_lt (Nat.lt_of_lt_of_le (by have := World.block_lt_of_cell? _ _ hw182_0; first | rwa [add_block] at this | exact this) GW183.out)) | (show (Addr.add _ _).block ≠ _; rw [add_block]; exact Nat.ne_of_lt (Nat.lt_of_lt_of_le (by have := World.block_lt_of_cell? _ _ hw182_0; first | rwa [add_block] at this | exact this) GW183.out)) | (dsimp only; exact Nat.ne_of_lt (Nat.lt_of_lt_of_le (by have := World.block_lt_of_cell? _ _ hw182_0; first | rwa [add_block] at this | exact this) GW183.out))) _).trans (((cell_far (p := ⟨gb183, _, none⟩) (by first | exact Nat.ne_of_lt (Nat.lt_of_lt_of_le (by have := World.block_lt_of_cell? _ _ hw182_0; first | rwa [add_block] at this | exact this) GW183.out) | (rw [add_block]; exact Nat.ne_of_lt (Nat.lt_of_lt_of_le (by have := World.block_lt_of_cell? _ _ hw182_0; first | rwa [add_block] at this | exact this) GW183.out)) | (show (Addr.add _ _).block ≠ _; rw [add_block]; exact Nat.ne_of_lt (Nat.lt_of_lt_of_le (by have := World.block_lt_of_cell? _ _ hw182_0; first | rwa [add_block] at this | exact this) GW183.out)) | (dsimp only; exact Nat.ne_of_lt (Nat.lt_of_lt_of_le (by have := World.block_lt_of_cell? _ _ hw182_0; first | rwa [add_block] at this | exact this) GW183.out))) _).trans (((cell_far (p := ⟨gb183, _, none⟩) (by first | exact Nat.ne_of_lt (Nat.lt_of_lt_of_le (by have := World.block_lt_of_cell? _ _ hw182_0; first | rwa [add_block] at this | exact this) GW183.out) | (rw [add_block]; exact Nat.ne_of_lt (Nat.lt_of_lt_of_le (by have := World.block_lt_of_cell? _ _ hw182_0; first | rwa [add_block] at this | exact this) GW183.out)) | (show (Addr.add _ _).block ≠ _; rw [add_block]; exact Nat.ne_of_lt (Nat.lt_of_lt_of_le (by have := World.block_lt_of_cell? _ _ hw182_0; first | rwa [add_block] at this | exact this) GW183.out)) | (dsimp only; exact Nat.ne_of_lt (Nat.lt_of_lt_of_le (by have := World.block_lt_of_cell? _ _ hw182_0; first | rwa [add_block] at this | exact this) GW183.out))) _).trans (hHeld.2.2.2.2.2.2.1)))))), ((cell_far (p := ⟨gb183, _, none⟩) (by first | exact Nat.ne_of_lt (Nat.lt_of_lt_of_le (by have := World.block_lt_of_cell? _ _ hw182_1; first | rwa [add_block] at this | exact this) GW183.out) | (rw [add_block]; exact Nat.ne_of_lt (Nat.lt_of_lt_of_le (by have := World.block_lt_of_cell? _ _ hw182_1; first | rwa [add_block] at this | exact this) GW183.out)) | (show (Addr.add _ _).block ≠ _; rw [add_block]; exact Nat.ne_of_lt (Nat.lt_of_lt_of_le (by have := World.block_lt_of_cell? _ _ hw182_1; first | rwa [add_block] at this | exact this) GW183.out)) | (dsimp only; exact Nat.ne_of_lt (Nat.lt_of_lt_of_le (by have := World.block_lt_of_cell? _ _ hw182_1; first | rwa [add_block] at this | exact this) GW183.out))) _).trans (((cell_far (p := ⟨gb183, _, none⟩) (by first | exact Nat.ne_of_lt (Nat.lt_of_lt_of_le (by have := World.block_lt_of_cell? _ _ hw182_1; first | rwa [add_block] at this | exact this) GW183.out) | (rw [add_block]; exact Nat.ne_of_lt (Nat.lt_of_lt_of_le (by have := World.block_lt_of_cell? _ _ hw182_1; first | rwa [add_block] at this | exact this) GW183.out)) | (show (Addr.add _ _).block ≠ _; rw [add_block]; exact Nat.ne_of_lt (Nat.lt_of_lt_of_le (by have := World.block_lt_of_cell? _ _ hw182_1; first | rwa [add_block] at this | exact this) GW183.out)) | (dsimp only; exact Nat.ne_of_lt (Nat.lt_of_lt_of_le (by have := World.block_lt_of_cell? _ _ hw182_1; first | rwa [add_block] at this | exact this) GW183.out))) _).trans (((cell_far (p := ⟨gb183, _, none⟩) (by first | exact Nat.ne_of_lt (Nat.lt_of_lt_of_le (by have := World.block_lt_of_cell? _ _ hw182_1; first | rwa [add_block] at this | exact this) GW183.out) | (rw [add_block]; exact Nat.ne_of_lt (Nat.lt_of_lt_of_le (by have := World.block_lt_of_cell? _ _ hw182_1; first | rwa [add_block] at this | exact this) GW183.out)) | (show (Addr.add _ _).block ≠ _; rw [add_block]; exact Nat.ne_of_lt (Nat.lt_of_lt_of_le (by have := World.block_lt_of_cell? _ _ hw182_1; first | rwa [add_block] at this | exact this) GW183.out)) | (dsimp only; exact Nat.ne_of_lt (Nat.lt_of_lt_of_le (by have := World.block_lt_of_cell? _ _ hw182_1; first | rwa [add_block] at this | exact this) GW183.out))) _).trans (hHeld.2.2.2.2.2.2.2.1)))))), ((cell_far (p := ⟨gb183, _, none⟩) (by first | exact Nat.ne_of_lt (Nat.lt_of_lt_of_le (by have := World.block_lt_of_cell? _ _ hw182_2; first | rwa [add_block] at this | exact this) GW183.out) | (rw [add_block]; exact Nat.ne_of_lt (Nat.lt_of_lt_of_le (by have := World.block_lt_of_cell? _ _ hw182_2; first | rwa [add_block] at this | exact this) GW183.out)) | (show (Addr.add _ _).block ≠ _; rw [add_block]; exact Nat.ne_of_lt (Nat.lt_of_lt_of_le (by have := World.block_lt_of_cell? _ _ hw182_2; first | rwa [add_block] at this | exact this) GW183.out)) | (dsimp only; exact Nat.ne_of_lt (Nat.lt_of_lt_of_le (by have := World.block_lt_of_cell? _ _ hw182_2; first | rwa [add_block] at this | exact this) GW183.out))) _).trans (((cell_far (p := ⟨gb183, _, none⟩) (by first | exact Nat.ne_of_lt (Nat.lt_of_lt_of_le (by have := World.block_lt_of_cell? _ _ hw182_2; first | rwa [add_block] at this | exact this) GW183.out) | (rw [add_block]; exact Nat.ne_of_lt (Nat.lt_of_lt_of_le (by have := World.block_lt_of_cell? _ _ hw182_2; first | rwa [add_block] at this | exact this) GW183.out)) | (show (Addr.add _ _).block ≠ _; rw [add_block]; exact Nat.ne_of_lt (Nat.lt_of_lt_of_le (by have := World.block_lt_of_cell? _ _ hw182_2; first | rwa [add_block] at this | exact this) GW183.out)) | (dsimp only; exact Nat.ne_of_lt (Nat.lt_of_lt_of_le (by have := World.block_lt_of_cell? _ _ hw182_2; first | rwa [add_block] at this | exact this) GW183.out))) _).trans (((cell_far (p := ⟨gb183, _, none⟩) (by first | exact Nat.ne_of_lt (Nat.lt_of_lt_of_le (by have := World.block_lt_of_cell? _ _ hw182_2; first | rwa [add_block] at this | exact this) GW183.out) | (rw [add_block]; exact Nat.ne_of_lt (Nat.lt_of_lt_of_le (by have := World.block_lt_of_cell? _ _ hw182_2; first | rwa [add_block] at this | exact this) GW183.out)) | (show (Addr.add _ _).block ≠ _; rw [add_block]; exact Nat.ne_of_lt (Nat.lt_of_lt_of_le (by have := World.block_lt_of_cell? _ _ hw182_2; first | rwa [add_block] at this | exact this) GW183.out)) | (dsimp only; exact Nat.ne_of_lt (Nat.lt_of_lt_of_le (by have := World.block_lt_of_cell? _ _ hw182_2; first | rwa [add_block] at this | exact this) GW183.out))) _).trans (hHeld.2.2.2.2.2.2.2.2))))))⟩ (fun hHeld => ?_)
                      clear hK K
                      refine done_ (done_of HT_.out (by kernel_rfl)) ?_
                      have hcz38_0 : w34.cell? ⟨gb183, 0, none⟩ = some (.int .i64 0) := (blk_cell BK183.out 0).trans rfl
                      have hcz38_1 : w34.cell? ⟨gb183, 1, none⟩ = some (.string (⟨#[]⟩ : ByteArray)) := (blk_cell BK183.out 1).trans rfl
                      have hcz38_2 : w34.cell? ⟨gb183, 2, none⟩ = some (.int .u64 0) := (blk_cell BK183.out 2).trans rfl
                      have hfz38_0 := blk_frozen BK183.out 0
                      have hfz38_1 := blk_frozen BK183.out 1
                      have hfz38_2 := blk_frozen BK183.out 2
                      obtain ⟨hq0, hq1, hq2⟩ := cells2 w34 gb183 _ _ _ (.int .i64 (wrap64 (Int.tmod (IntKind.u64.wrap ((rd_T34 l0 x4_1).f0)) 4))) (.string t181) (.int .u64 (Int.tmod ((rd_T34 l0 x4_1).f2) 1000000)) (.int .u64 0) hcz38_0 hcz38_1 hcz38_2
                      try go_wp2_with (first | ((with_reducible refine gate_builtin (b := .append) (xs := #[.tmp 47, .tmp 49]) rfl ?_); at_builtin; refine Kd.R_append k34 (w0 := w) w.heap.size rfl (.tmp 47) (.tmp 49) 22 34 (.agg #[(.int .i64 0), (.string ⟨#[]⟩), (.int .u64 0)]) 32 rfl Tryz.underlying22 info34 rfl (by decide) (by omega) u3 x3_1 (⟨wrap64 (Int.tmod (IntKind.u64.wrap ((rd_T34 l0 x4_1).f0)) 4), t181, 0⟩ : S34) [.int .i64 (wrap64 (Int.tmod (IntKind.u64.wrap ((rd_T34 l0 x4_1).f0)) 4)), .string t181, .int .u64 0] (fun k_ => k_ ≠ gb183) (fun _ => False) rfl (by first | (go_simp; done) | (go_simp; rfl)) ?aP (fun _ hk => hk.elim) ?aF ?aO ?aB ?aS ?aL ?_; (case aP => exact k34_mkM _ _ _ (⟨wrap64 (Int.tmod (IntKind.u64.wrap ((rd_T34 l0 x4_1).f0)) 4), t181, 0⟩ : S34)); (case aB => exact (by repeat (first | (with_reducible first | exact HB.out | apply below_alloc | apply pw_below_drewN | apply below_drew1 | refine below_set ?_ GE183.out) | exact HB.out))); (case aF => exact (fun k_ hk => Kd.freshB (g := gb183) (o := .cells #[.int .i64 (wrap64 (Int.tmod (IntKind.u64.wrap ((rd_T34 l0 x4_1).f0)) 4)), .string t181, .int .u64 0] 34 (0, 0)) (by (with_reducible repeat (first | refine blk_drewN ?_ _ | refine blk_drew ?_ | refine blk_alloc ?_ _)); refine blk_put (cs := #[.int .i64 (wrap64 (Int.tmod (IntKind.u64.wrap ((rd_T34 l0 x4_1).f0)) 4)), .string t181, .int .u64 (Int.tmod ((rd_T34 l0 x4_1).f2) 1000000)]) ?_ 2 _ rfl; (with_reducible repeat (first | refine blk_drewN ?_ _ | refine blk_drew ?_ | refine blk_alloc ?_ _)); refine blk_put (cs := #[.int .i64 (wrap64 (Int.tmod (IntKind.u64.wrap ((rd_T34 l0 x4_1).f0)) 4)), .string t181, .int .u64 0]) ?_ 2 _ rfl; (with_reducible repeat (first | refine blk_drewN ?_ _ | refine blk_drew ?_ | refine blk_alloc ?_ _)); refine blk_put (cs := #[.int .i64 (wrap64 (Int.tmod (IntKind.u64.wrap ((rd_T34 l0 x4_1).f0)) 4)), .string (⟨#[]⟩ : ByteArray), .int .u64 0]) ?_ 1 _ rfl; (with_reducible repeat (first | refine blk_drewN ?_ _ | refine blk_drew ?_ | refine blk_alloc ?_ _)); refine blk_put (cs := #[.int .i64 0, .string (⟨#[]⟩ : ByteArray), .int .u64 0]) ?_ 0 _ rfl; (with_reducible repeat (first | refine blk_drewN ?_ _ | refine blk_drew ?_ | refine blk_alloc ?_ _)); exact BK183.out) k_ hk)); (case aO => exact (by (with_reducible repeat (first | apply Kd.R_alloc | apply Kd.R_drewN | apply Kd.R_drew)); exact Kd.R_mono (Kd.R_far (p := ⟨gb183, 2, none⟩) (Kd.R_far (p := ⟨gb183, 2, none⟩) (Kd.R_far (p := ⟨gb183, 1, none⟩) (Kd.R_far (p := ⟨gb183, 0, none⟩) (Kd.R_mono HO_3.out (fun k_ hk => (⟨hk, hk⟩ : _ ∧ k_ ≠ gb183))) (fun _ hk => hk.2) (.int .i64 (wrap64 (Int.tmod (IntKind.u64.wrap ((rd_T34 l0 x4_1).f0)) 4)))) (fun _ hk => hk.2) (.string t181)) (fun _ hk => hk.2) (.int .u64 (Int.tmod ((rd_T34 l0 x4_1).f2) 1000000))) (fun _ hk => hk.2) (.int .u64 0)) (fun _ hk => hk.1))); (case aS => exact (below_size (by repeat (first | (with_reducible first | exact HB.out | apply below_alloc | apply pw_below_drewN | apply below_drew1 | refine below_set ?_ GE183.out) | exact HB.out)))); (case aL => have := LMc30.out; omega); intro v191 w39 ho hb hg hat; rw [← Ny190.out] at ho; have n0_ := Aside0.mk (blk_grown (g := gb183) (o := .cells #[.int .i64 (wrap64 (Int.tmod (IntKind.u64.wrap ((rd_T34 l0 x4_1).f0)) 4)), .string t181, .int .u64 0] 34 (0, 0)) (by (with_reducible repeat (first | refine blk_drewN ?_ _ | refine blk_drew ?_ | refine blk_alloc ?_ _)); refine blk_put (cs := #[.int .i64 (wrap64 (Int.tmod (IntKind.u64.wrap ((rd_T34 l0 x4_1).f0)) 4)), .string t181, .int .u64 (Int.tmod ((rd_T34 l0 x4_1).f2) 1000000)]) ?_ 2 _ rfl; (with_reducible repeat (first | refine blk_drewN ?_ _ | refine blk_drew ?_ | refine blk_alloc ?_ _)); refine blk_put (cs := #[.int .i64 (wrap64 (Int.tmod (IntKind.u64.wrap ((rd_T34 l0 x4_1).f0)) 4)), .string t181, .int .u64 0]) ?_ 2 _ rfl; (with_reducible repeat (first | refine blk_drewN ?_ _ | refine blk_drew ?_ | refine blk_alloc ?_ _)); refine blk_put (cs := #[.int .i64 (wrap64 (Int.tmod (IntKind.u64.wrap ((rd_T34 l0 x4_1).f0)) 4)), .string (⟨#[]⟩ : ByteArray), .int .u64 0]) ?_ 1 _ rfl; (with_reducible repeat (first | refine blk_drewN ?_ _ | refine blk_drew ?_ | refine blk_alloc ?_ _)); refine blk_put (cs := #[.int .i64 0, .string (⟨#[]⟩ : ByteArray), .int .u64 0]) ?_ 0 _ rfl; (with_reducible repeat (first | refine blk_drewN ?_ _ | refine blk_drew ?_ | refine blk_alloc ?_ _)); exact BK183.out) hg (Kd.R_away HO_3.out (fun _ hk => hk))); have n1_ := Aside0.mk (hb); have n2_ := Aside0.mk (ho); clear BK183; clear HB; clear HO_3; have BK183 := n0_; have HB := n1_; have HO192 := n2_; clear n0_ n1_ n2_; clear ho hb hg hat))
                      go_roundg kj1
                      case measure => have := HK1.out; have := HJ1.out; omega
                      case rel => exact ⟨(y190), (wrap64 (x4_1 + 1)), (by first | rfl | (simp; done) | (simp [*]; done)), H', ⟨by have := HK1.out; have := HJ1.out; omega⟩, ⟨by (with_reducible repeat (first | apply Kd.R_alloc | apply Kd.R_drewN | apply Kd.R_drew)); exact Kd.R_mono HO192.out (fun _ hk => trivial)⟩, ⟨by repeat (first | (with_reducible first | exact HB.out | apply below_alloc | apply pw_below_drewN | apply below_drew1 | refine below_set ?_ GE183.out) | exact HB.out)⟩⟩
                    · rw [if_neg c30] at H
                      exact absurd H (by simp)
              · rw [if_neg c6] at H
                exact absurd H (by simp)
            · rw [if_neg c5] at H
              exact absurd H (by simp)
          · replace c4 := Bool.eq_false_iff.mpr c4
            subst c4
            have H1 : (some x3_1) = some r := by rw [if_neg (show ¬ (false = true) by decide)] at H; exact H
            clear H
            have H := H1
            clear H1
            obtain rfl := Option.some.inj H
            go_wp2
            go_ret
            exact ⟨_, by first | rfl | (simp [errW_none, errW_some] <;> rfl) | (simp [*, errW_none, errW_some] <;> rfl), by (with_reducible repeat (first | apply Kd.R_alloc | apply Kd.R_drewN | apply Kd.R_drew)); exact HO_3.out, by repeat (first | (with_reducible first | exact HB.out | apply below_alloc | apply pw_below_drewN | apply below_drew1) | exact HB.out)⟩

end Go.Proofs.YtppgnpnkcilmeaaGreatDoor.Trs
