-- PRINTED BY print.sh 35421559b90ae4d0a3588c463048766b98c2df88dd9212a6774a882060cdf62d: not written by this session
import Derived.Test.YtpimdceafnhmlaaPFnBreakNormalx0
import Derived.Test.YtpimdceafnhmlaaPFnBreakNormalx1
namespace Go.Proofs.Ytpimdceafnhmlaa.PFnBreakNormal
open Go.RowKit Go.Proofs.YtpimdceafnhmlaaW.PrintWords Go.Proofs.YtpimdceafnhmlaaW.PrintLast Go.Proofs.YtpimdceafnhmlaaW.PrintMore
attribute [local go_sem] max2_int min2_int max_two min_two max_three min_three max_four min_four   -- for this text's walks alone
set_option linter.unusedVariables false
set_option linter.unusedSimpArgs false

/-! ### laws_FnBreakNormal: function 4 -/
def laws_FnBreakNormal.j0 : Nat → ByteArray → ByteArray → Bool → Option (Bool)
  | 0, _, _, _ => none
  | k + 1, x0, x3, x16 => if x16 = true then (some false) else ((spec_Has.f k x0 (⟨#[13]⟩ : ByteArray)).bind fun t130 => (if t130 = true then (some true) else (if x3.toList = x0.toList then ((spec_Broken.f k x0 true).bind fun t131 => ((impl_Normal.f k t131).bind fun t132 => (if t132.toList = x0.toList then ((spec_Broken.f k x0 false).bind fun t133 => ((impl_Normal.f k t133).bind fun t134 => (some (t134.toList == x0.toList)))) else (some false)))) else (some false))))
def laws_FnBreakNormal.f (k : Nat) (a0 : ByteArray) : Option (Bool) := if (a0.size : Int) > 2147483647 then (some true) else ((impl_Normal.f k a0).bind fun t127 => ((spec_Has.f k t127 (⟨#[13]⟩ : ByteArray)).bind fun t128 => (if t128 = true then (laws_FnBreakNormal.j0 k a0 t127 true) else ((impl_Normal.f k t127).bind fun t129 => (laws_FnBreakNormal.j0 k a0 t127 (t129.toList != t127.toList))))))
theorem laws_FnBreakNormal.mono_l : ∀ k, (∀ y0 y1 y2, LeO (laws_FnBreakNormal.j0 k y0 y1 y2) (laws_FnBreakNormal.j0 (k + 1) y0 y1 y2))
  | 0 => fun _ _ _ r h => by simp [laws_FnBreakNormal.j0] at h
  | k + 1 => by
    have ih0 := laws_FnBreakNormal.mono_l k
    · intro y0 y1 y2
      unfold laws_FnBreakNormal.j0
      repeat' first
      | (with_reducible exact ih0 _ _ _)
      | (with_reducible exact impl_Normal.mono _ _)
      | (with_reducible exact spec_Broken.mono _ _ _)
      | (with_reducible exact spec_Has.mono _ _ _)
      | (with_reducible exact LeO.refl _)
      | (with_reducible exact LeO.none _)
      | (with_reducible refine LeO.ite ?_ ?_)
      | (with_reducible refine LeO.bind ?_ (fun _ => ?_))
      | exact ih0 _ _ _
      | exact impl_Normal.mono _ _
      | exact spec_Broken.mono _ _ _
      | exact spec_Has.mono _ _ _
      | exact LeO.none _
      | refine LeO.ite ?_ ?_
      | refine LeO.bind ?_ (fun _ => ?_)
theorem laws_FnBreakNormal.mono : ∀ a0 k, LeO (laws_FnBreakNormal.f k a0) (laws_FnBreakNormal.f (k + 1) a0) := by
  intro a0 k
  have ih0 := laws_FnBreakNormal.mono_l k
  unfold laws_FnBreakNormal.f
  repeat' first
      | (with_reducible exact ih0 _ _ _)
      | (with_reducible exact impl_Normal.mono _ _)
      | (with_reducible exact spec_Broken.mono _ _ _)
      | (with_reducible exact spec_Has.mono _ _ _)
      | (with_reducible exact LeO.refl _)
      | (with_reducible exact LeO.none _)
      | (with_reducible refine LeO.ite ?_ ?_)
      | (with_reducible refine LeO.bind ?_ (fun _ => ?_))
      | exact ih0 _ _ _
      | exact impl_Normal.mono _ _
      | exact spec_Broken.mono _ _ _
      | exact spec_Has.mono _ _ _
      | exact LeO.none _
      | refine LeO.ite ?_ ?_
      | refine LeO.bind ?_ (fun _ => ?_)
set_option maxHeartbeats 8000000 in
set_option maxRecDepth 100000 in
theorem laws_FnBreakNormal.calls (k : Nat) (a0 : ByteArray) (r : Bool) (w : World) (h : laws_FnBreakNormal.f k a0 = some r) :
    Calls Try.prog 4 #[.string a0] w fun e w' => e = .returned (.bool r) ∧ Below w.heap.size w w' := by
  have HB := Aside0.mk (Below.refl w.heap.size w)
  have H : (if (a0.size : Int) > 2147483647 then (some true) else ((impl_Normal.f k a0).bind fun t127 => ((spec_Has.f k t127 (⟨#[13]⟩ : ByteArray)).bind fun t128 => (if t128 = true then (laws_FnBreakNormal.j0 k a0 t127 true) else ((impl_Normal.f k t127).bind fun t129 => (laws_FnBreakNormal.j0 k a0 t127 (t129.toList != t127.toList))))))) = some r := h
  clear h
  by_cases c2 : (a0.size : Int) > 2147483647
  · rw [if_pos c2] at H
    have c2b0 : decide (2147483647 < (a0.size : Int)) = true := decide_eq_true c2
    have c2b1 : decide (2147483647 < a0.size) = true := decide_eq_true (by omega)
    clear c2
    obtain rfl := Option.some.inj H
    go_enter Try.func4, Try.ntmps4
    go_wp2
    go_ret
    exact ⟨by first | rfl | (simp [errW_none, errW_some] <;> rfl) | (simp [*, errW_none, errW_some] <;> rfl), by repeat (first | (with_reducible first | exact HB.out | apply below_alloc | apply pw_below_drewN | apply below_drew1) | exact HB.out)⟩
  · rw [if_neg c2] at H
    have c2b0 : decide (2147483647 < (a0.size : Int)) = false := decide_eq_false c2
    have c2b1 : decide (2147483647 < a0.size) = false := decide_eq_false (by omega)
    clear c2
    replace H := Option.bind_eq_some_iff.mp H
    obtain ⟨t127, A30, H⟩ := H
    replace H : ((spec_Has.f k t127 (⟨#[13]⟩ : ByteArray)).bind fun t128 => (if t128 = true then (laws_FnBreakNormal.j0 k a0 t127 true) else ((impl_Normal.f k t127).bind fun t129 => (laws_FnBreakNormal.j0 k a0 t127 (t129.toList != t127.toList))))) = some r := H
    have A3 := Aside0.mk A30
    clear A30
    have HC4 := Aside0.mk H
    clear H
    go_enter Try.func4, Try.ntmps4
    go_upto_region 4 with (first | ((with_reducible refine gate_callee (f := 9) rfl ?_); refine goesL_ (some 8) rfl rfl Try.func9 (by kernel_rfl) rfl #[.string a0] rfl (by (try simp only [List.map_toArray, List.map_cons, List.map_nil]); first | done | rfl | (simp only [List.length_drop, List.length_take]; rfl)) ?_; (with_reducible refine (impl_Normal.calls k a0 t127 _ A3.out).mono ?_); rintro e w5 ⟨rfl, hb⟩; refine ⟨_, rfl, ?_⟩; have n0_ := Aside0.mk (below_step (by repeat (first | (with_reducible first | exact HB.out | apply below_alloc | apply pw_below_drewN | apply below_drew1) | exact HB.out)) hb); clear HB; have HB := n0_; clear n0_; (try clear hb); (try clear hb2); (try clear hk); (try clear hi)))
    (try simp only [Act.put, List.setIfInBounds_toArray, List.set_cons_zero, List.set_cons_succ])
    go_cut [16] (fun v16 wc => ∃ (kq : Nat) (x16_3 : Bool), v16 = .bool x16_3 ∧ Aside0 (laws_FnBreakNormal.j0 kq a0 t127 x16_3 = some r) ∧ Aside0 (kq ≤ k) ∧ Aside0 (Below w.heap.size w wc))
    case first =>
      have H := HC4.out
      clear HC4
      replace H := Option.bind_eq_some_iff.mp H
      obtain ⟨t128, A60, H⟩ := H
      replace H : (if t128 = true then (laws_FnBreakNormal.j0 k a0 t127 true) else ((impl_Normal.f k t127).bind fun t129 => (laws_FnBreakNormal.j0 k a0 t127 (t129.toList != t127.toList)))) = some r := H
      have A6 := Aside0.mk A60
      clear A60
      by_cases c7 : t128 = true
      · subst c7
        have H1 : (laws_FnBreakNormal.j0 k a0 t127 true) = some r := by rw [if_pos rfl] at H; exact H
        clear H
        have H := H1
        clear H1
        have H' := Aside0.mk H
        clear H
        go_wp2_with (first | ((with_reducible refine gate_callee (f := 10) rfl ?_); refine goesL_ (some 10) rfl rfl Try.func10 (by kernel_rfl) rfl #[.string t127, .string (⟨#[13]⟩ : ByteArray)] rfl (by (try simp only [List.map_toArray, List.map_cons, List.map_nil]); first | done | rfl | (simp only [List.length_drop, List.length_take]; rfl)) ?_; (with_reducible refine (spec_Has.calls k t127 (⟨#[13]⟩ : ByteArray) true _ A6.out).mono ?_); rintro e w' ⟨rfl, ⟨nd, rfl⟩⟩; refine ⟨_, rfl, ?_⟩))
        go_meet
        case rel => exact ⟨_, (true), (by first | rfl | (simp; done) | (simp [*]; done)), H', ⟨by first | omega | exact Nat.le_refl _⟩, ⟨by repeat (first | (with_reducible first | exact HB.out | apply below_alloc | apply pw_below_drewN | apply below_drew1) | exact HB.out)⟩⟩
      · replace c7 := Bool.eq_false_iff.mpr c7
        subst c7
        have H1 : ((impl_Normal.f k t127).bind fun t129 => (laws_FnBreakNormal.j0 k a0 t127 (t129.toList != t127.toList))) = some r := by rw [if_neg (show ¬ (false = true) by decide)] at H; exact H
        clear H
        have H := H1
        clear H1
        replace H := Option.bind_eq_some_iff.mp H
        obtain ⟨t129, A80, H⟩ := H
        replace H : (laws_FnBreakNormal.j0 k a0 t127 (t129.toList != t127.toList)) = some r := H
        have A8 := Aside0.mk A80
        clear A80
        have H' := Aside0.mk H
        clear H
        go_wp2_with (first | ((with_reducible refine gate_callee (f := 10) rfl ?_); refine goesL_ (some 10) rfl rfl Try.func10 (by kernel_rfl) rfl #[.string t127, .string (⟨#[13]⟩ : ByteArray)] rfl (by (try simp only [List.map_toArray, List.map_cons, List.map_nil]); first | done | rfl | (simp only [List.length_drop, List.length_take]; rfl)) ?_; (with_reducible refine (spec_Has.calls k t127 (⟨#[13]⟩ : ByteArray) false _ A6.out).mono ?_); rintro e w' ⟨rfl, ⟨nd, rfl⟩⟩; refine ⟨_, rfl, ?_⟩) | (go_at_call 9; (with_reducible refine (impl_Normal.calls k t127 t129 _ A8.out).mono ?_); rintro e w9 ⟨rfl, hb⟩; have n0_ := Aside0.mk (below_step (by repeat (first | (with_reducible first | exact HB.out | apply below_alloc | apply pw_below_drewN | apply below_drew1) | exact HB.out)) hb); clear HB; have HB := n0_; clear n0_; (try clear hb); (try clear hb2); (try clear hk); (try clear hi)))
        go_meet
        case rel => exact ⟨_, ((t129.toList != t127.toList)), (by first | rfl | (simp; done) | (simp [*]; done)), H', ⟨by first | omega | exact Nat.le_refl _⟩, ⟨by repeat (first | (with_reducible first | exact HB.out | apply below_alloc | apply pw_below_drewN | apply below_drew1) | exact HB.out)⟩⟩
    case rest =>
      clear HC4
      try clear c1
      try clear c2
      try clear c2b0
      try clear c2b1
      try clear p2
      try clear c4
      try clear c7
      try clear c9
      obtain ⟨kq, x16_3, rfl, HA, HJ3, HB⟩ := hcut
      cases kq with
      | zero => exact absurd HA.out (by simp [laws_FnBreakNormal.j0])
      | succ kj3 =>
        have H := HA.out
        clear HA
        simp only [laws_FnBreakNormal.j0] at H
        by_cases c10 : x16_3 = true
        · subst c10
          have H1 : (some false) = some r := by rw [if_pos rfl] at H; exact H
          clear H
          have H := H1
          clear H1
          obtain rfl := Option.some.inj H
          go_wp2
          go_ret
          exact ⟨by first | rfl | (simp [errW_none, errW_some] <;> rfl) | (simp [*, errW_none, errW_some] <;> rfl), by repeat (first | (with_reducible first | exact HB.out | apply below_alloc | apply pw_below_drewN | apply below_drew1) | exact HB.out)⟩
        · replace c10 := Bool.eq_false_iff.mpr c10
          subst c10
          have H1 : ((spec_Has.f kj3 a0 (⟨#[13]⟩ : ByteArray)).bind fun t130 => (if t130 = true then (some true) else (if t127.toList = a0.toList then ((spec_Broken.f kj3 a0 true).bind fun t131 => ((impl_Normal.f kj3 t131).bind fun t132 => (if t132.toList = a0.toList then ((spec_Broken.f kj3 a0 false).bind fun t133 => ((impl_Normal.f kj3 t133).bind fun t134 => (some (t134.toList == a0.toList)))) else (some false)))) else (some false)))) = some r := by rw [if_neg (show ¬ (false = true) by decide)] at H; exact H
          clear H
          have H := H1
          clear H1
          replace H := Option.bind_eq_some_iff.mp H
          obtain ⟨t130, A110, H⟩ := H
          replace H : (if t130 = true then (some true) else (if t127.toList = a0.toList then ((spec_Broken.f kj3 a0 true).bind fun t131 => ((impl_Normal.f kj3 t131).bind fun t132 => (if t132.toList = a0.toList then ((spec_Broken.f kj3 a0 false).bind fun t133 => ((impl_Normal.f kj3 t133).bind fun t134 => (some (t134.toList == a0.toList)))) else (some false)))) else (some false))) = some r := H
          have A11 := Aside0.mk A110
          clear A110
          by_cases c12 : t130 = true
          · subst c12
            have H1 : (some true) = some r := by rw [if_pos rfl] at H; exact H
            clear H
            have H := H1
            clear H1
            obtain rfl := Option.some.inj H
            go_wp2_with (first | ((with_reducible refine gate_callee (f := 10) rfl ?_); refine goesL_ (some 18) rfl rfl Try.func10 (by kernel_rfl) rfl #[.string a0, .string (⟨#[13]⟩ : ByteArray)] rfl (by (try simp only [List.map_toArray, List.map_cons, List.map_nil]); first | done | rfl | (simp only [List.length_drop, List.length_take]; rfl)) ?_; (with_reducible refine (spec_Has.calls kj3 a0 (⟨#[13]⟩ : ByteArray) true _ A11.out).mono ?_); rintro e w' ⟨rfl, ⟨nd, rfl⟩⟩; refine ⟨_, rfl, ?_⟩))
            go_ret
            exact ⟨by first | rfl | (simp [errW_none, errW_some] <;> rfl) | (simp [*, errW_none, errW_some] <;> rfl), by repeat (first | (with_reducible first | exact HB.out | apply below_alloc | apply pw_below_drewN | apply below_drew1) | exact HB.out)⟩
          · replace c12 := Bool.eq_false_iff.mpr c12
            subst c12
            have H1 : (if t127.toList = a0.toList then ((spec_Broken.f kj3 a0 true).bind fun t131 => ((impl_Normal.f kj3 t131).bind fun t132 => (if t132.toList = a0.toList then ((spec_Broken.f kj3 a0 false).bind fun t133 => ((impl_Normal.f kj3 t133).bind fun t134 => (some (t134.toList == a0.toList)))) else (some false)))) else (some false)) = some r := by rw [if_neg (show ¬ (false = true) by decide)] at H; exact H
            clear H
            have H := H1
            clear H1
            by_cases c13 : t127.toList = a0.toList
            · rw [if_pos c13] at H
              have c13b0 : (t127.toList == a0.toList) = true := beq_iff_eq.mpr c13
              have c13b1 : (t127.toList != a0.toList) = false := bne_eq_false_iff_eq.mpr c13
              clear c13
              replace H := Option.bind_eq_some_iff.mp H
              obtain ⟨t131, A140, H⟩ := H
              replace H : ((impl_Normal.f kj3 t131).bind fun t132 => (if t132.toList = a0.toList then ((spec_Broken.f kj3 a0 false).bind fun t133 => ((impl_Normal.f kj3 t133).bind fun t134 => (some (t134.toList == a0.toList)))) else (some false))) = some r := H
              have A14 := Aside0.mk A140
              clear A140
              replace H := Option.bind_eq_some_iff.mp H
              obtain ⟨t132, A150, H⟩ := H
              replace H : (if t132.toList = a0.toList then ((spec_Broken.f kj3 a0 false).bind fun t133 => ((impl_Normal.f kj3 t133).bind fun t134 => (some (t134.toList == a0.toList)))) else (some false)) = some r := H
              have A15 := Aside0.mk A150
              clear A150
              by_cases c16 : t132.toList = a0.toList
              · rw [if_pos c16] at H
                have c16b0 : (t132.toList == a0.toList) = true := beq_iff_eq.mpr c16
                have c16b1 : (t132.toList != a0.toList) = false := bne_eq_false_iff_eq.mpr c16
                clear c16
                replace H := Option.bind_eq_some_iff.mp H
                obtain ⟨t133, A170, H⟩ := H
                replace H : ((impl_Normal.f kj3 t133).bind fun t134 => (some (t134.toList == a0.toList))) = some r := H
                have A17 := Aside0.mk A170
                clear A170
                replace H := Option.bind_eq_some_iff.mp H
                obtain ⟨t134, A180, H⟩ := H
                replace H : (some (t134.toList == a0.toList)) = some r := H
                have A18 := Aside0.mk A180
                clear A180
                obtain rfl := Option.some.inj H
                go_wp2_with (first | ((with_reducible refine gate_callee (f := 10) rfl ?_); refine goesL_ (some 18) rfl rfl Try.func10 (by kernel_rfl) rfl #[.string a0, .string (⟨#[13]⟩ : ByteArray)] rfl (by (try simp only [List.map_toArray, List.map_cons, List.map_nil]); first | done | rfl | (simp only [List.length_drop, List.length_take]; rfl)) ?_; (with_reducible refine (spec_Has.calls kj3 a0 (⟨#[13]⟩ : ByteArray) false _ A11.out).mono ?_); rintro e w' ⟨rfl, ⟨nd, rfl⟩⟩; refine ⟨_, rfl, ?_⟩) | (go_at_call 11; (with_reducible refine (spec_Broken.calls kj3 a0 true t131 _ A14.out).mono ?_); rintro e w19 ⟨rfl, hb⟩; have n0_ := Aside0.mk (below_step (by repeat (first | (with_reducible first | exact HB.out | apply below_alloc | apply pw_below_drewN | apply below_drew1) | exact HB.out)) hb); clear HB; have HB := n0_; clear n0_; (try clear hb); (try clear hb2); (try clear hk); (try clear hi)) | (go_at_call 9; (with_reducible refine (impl_Normal.calls kj3 t131 t132 _ A15.out).mono ?_); rintro e w20 ⟨rfl, hb⟩; have n0_ := Aside0.mk (below_step (by repeat (first | (with_reducible first | exact HB.out | apply below_alloc | apply pw_below_drewN | apply below_drew1) | exact HB.out)) hb); clear HB; have HB := n0_; clear n0_; (try clear hb); (try clear hb2); (try clear hk); (try clear hi)) | (go_at_call 11; (with_reducible refine (spec_Broken.calls kj3 a0 false t133 _ A17.out).mono ?_); rintro e w21 ⟨rfl, hb⟩; have n0_ := Aside0.mk (below_step (by repeat (first | (with_reducible first | exact HB.out | apply below_alloc | apply pw_below_drewN | apply below_drew1) | exact HB.out)) hb); clear HB; have HB := n0_; clear n0_; (try clear hb); (try clear hb2); (try clear hk); (try clear hi)) | (go_at_call 9; (with_reducible refine (impl_Normal.calls kj3 t133 t134 _ A18.out).mono ?_); rintro e w22 ⟨rfl, hb⟩; have n0_ := Aside0.mk (below_step (by repeat (first | (with_reducible first | exact HB.out | apply below_alloc | apply pw_below_drewN | apply below_drew1) | exact HB.out)) hb); clear HB; have HB := n0_; clear n0_; (try clear hb); (try clear hb2); (try clear hk); (try clear hi)))
                go_ret
                exact ⟨by first | rfl | (simp [errW_none, errW_some] <;> rfl) | (simp [*, errW_none, errW_some] <;> rfl), by repeat (first | (with_reducible first | exact HB.out | apply below_alloc | apply pw_below_drewN | apply below_drew1) | exact HB.out)⟩
              · rw [if_neg c16] at H
                have c16b0 : (t132.toList == a0.toList) = false := beq_eq_false_iff_ne.mpr c16
                have c16b1 : (t132.toList != a0.toList) = true := bne_iff_ne.mpr c16
                obtain rfl := Option.some.inj H
                go_wp2_with (first | ((with_reducible refine gate_callee (f := 10) rfl ?_); refine goesL_ (some 18) rfl rfl Try.func10 (by kernel_rfl) rfl #[.string a0, .string (⟨#[13]⟩ : ByteArray)] rfl (by (try simp only [List.map_toArray, List.map_cons, List.map_nil]); first | done | rfl | (simp only [List.length_drop, List.length_take]; rfl)) ?_; (with_reducible refine (spec_Has.calls kj3 a0 (⟨#[13]⟩ : ByteArray) false _ A11.out).mono ?_); rintro e w' ⟨rfl, ⟨nd, rfl⟩⟩; refine ⟨_, rfl, ?_⟩) | (go_at_call 11; (with_reducible refine (spec_Broken.calls kj3 a0 true t131 _ A14.out).mono ?_); rintro e w23 ⟨rfl, hb⟩; have n0_ := Aside0.mk (below_step (by repeat (first | (with_reducible first | exact HB.out | apply below_alloc | apply pw_below_drewN | apply below_drew1) | exact HB.out)) hb); clear HB; have HB := n0_; clear n0_; (try clear hb); (try clear hb2); (try clear hk); (try clear hi)) | (go_at_call 9; (with_reducible refine (impl_Normal.calls kj3 t131 t132 _ A15.out).mono ?_); rintro e w24 ⟨rfl, hb⟩; have n0_ := Aside0.mk (below_step (by repeat (first | (with_reducible first | exact HB.out | apply below_alloc | apply pw_below_drewN | apply below_drew1) | exact HB.out)) hb); clear HB; have HB := n0_; clear n0_; (try clear hb); (try clear hb2); (try clear hk); (try clear hi)))
                go_ret
                exact ⟨by first | rfl | (simp [errW_none, errW_some] <;> rfl) | (simp [*, errW_none, errW_some] <;> rfl), by repeat (first | (with_reducible first | exact HB.out | apply below_alloc | apply pw_below_drewN | apply below_drew1) | exact HB.out)⟩
            · rw [if_neg c13] at H
              have c13b0 : (t127.toList == a0.toList) = false := beq_eq_false_iff_ne.mpr c13
              have c13b1 : (t127.toList != a0.toList) = true := bne_iff_ne.mpr c13
              obtain rfl := Option.some.inj H
              go_wp2_with (first | ((with_reducible refine gate_callee (f := 10) rfl ?_); refine goesL_ (some 18) rfl rfl Try.func10 (by kernel_rfl) rfl #[.string a0, .string (⟨#[13]⟩ : ByteArray)] rfl (by (try simp only [List.map_toArray, List.map_cons, List.map_nil]); first | done | rfl | (simp only [List.length_drop, List.length_take]; rfl)) ?_; (with_reducible refine (spec_Has.calls kj3 a0 (⟨#[13]⟩ : ByteArray) false _ A11.out).mono ?_); rintro e w' ⟨rfl, ⟨nd, rfl⟩⟩; refine ⟨_, rfl, ?_⟩))
              go_ret
              exact ⟨by first | rfl | (simp [errW_none, errW_some] <;> rfl) | (simp [*, errW_none, errW_some] <;> rfl), by repeat (first | (with_reducible first | exact HB.out | apply below_alloc | apply pw_below_drewN | apply below_drew1) | exact HB.out)⟩

/-- THE ONE PURE STATEMENT of laws_FnBreakNormal: yours. -/
def laws_FnBreakNormal.Pure : Prop := ∀ (a0 : ByteArray), a0.size ≤ 140737488351232 → ∃ k, laws_FnBreakNormal.f k a0 = some true
theorem laws_FnBreakNormal.walk (P : laws_FnBreakNormal.Pure) (a0 : ByteArray) (w : World) (w0 : a0.size ≤ 140737488351232) :
    Calls Try.prog 4 #[.string a0] w fun e w' => e = .returned (.bool true) ∧ Below w.heap.size w w' := by
  obtain ⟨k, h⟩ := P a0 w0
  refine (laws_FnBreakNormal.calls k a0 true w h).mono ?_
  rintro e w' ⟨rfl, hd⟩
  exact ⟨rfl, hd⟩

end Go.Proofs.Ytpimdceafnhmlaa.PFnBreakNormal
