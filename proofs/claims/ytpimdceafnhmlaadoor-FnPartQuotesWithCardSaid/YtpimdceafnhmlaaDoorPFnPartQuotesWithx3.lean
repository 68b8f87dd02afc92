-- PRINTED BY print.sh 35421559b90ae4d0a3588c463048766b98c2df88dd9212a6774a882060cdf62d: not written by this session
import Derived.Test.YtpimdceafnhmlaaDoorPFnPartQuotesWithx0
namespace Go.Proofs.YtpimdceafnhmlaaDoor.PFnPartQuotesWith
open Go.RowKit Go.Proofs.YtpimdceafnhmlaaDoorW.PrintWords Go.Proofs.YtpimdceafnhmlaaDoorW.PrintLast Go.Proofs.YtpimdceafnhmlaaDoorW.PrintMore
attribute [local go_sem] max2_int min2_int max_two min_two max_three min_three max_four min_four   -- for this text's walks alone
set_option linter.unusedVariables false
set_option linter.unusedSimpArgs false

/-! ### spec_scContent: function 20 -/
def spec_scContent.j0 : Nat → Int → Bool → Option (Bool)
  | 0, _, _ => none
  | k + 1, x0, x3 => if x3 = true then (if x0 = 8232 then (some false) else (some (x0 != 8233))) else (if x0 ≥ 57344 then (if x0 ≤ 65533 then (some (x0 != 65279)) else (if x0 ≥ 65536 then (some (decide (x0 ≤ 1114111))) else (some false))) else (if x0 ≥ 65536 then (some (decide (x0 ≤ 1114111))) else (some false)))
def spec_scContent.f (k : Nat) (a0 : Int) : Option (Bool) := if a0 = 9 then (spec_scContent.j0 k a0 (a0 == 9)) else (if a0 ≥ 32 then (if a0 ≤ 126 then (spec_scContent.j0 k a0 (decide (a0 ≤ 126))) else (if a0 ≥ 160 then (spec_scContent.j0 k a0 (decide (a0 ≤ 55295))) else (spec_scContent.j0 k a0 false))) else (if a0 ≥ 160 then (spec_scContent.j0 k a0 (decide (a0 ≤ 55295))) else (spec_scContent.j0 k a0 false)))
theorem spec_scContent.mono_l : ∀ k, (∀ y0 y1, LeO (spec_scContent.j0 k y0 y1) (spec_scContent.j0 (k + 1) y0 y1))
  | 0 => fun _ _ r h => by simp [spec_scContent.j0] at h
  | k + 1 => by
    have ih0 := spec_scContent.mono_l k
    · intro y0 y1
      unfold spec_scContent.j0
      repeat' first
      | (with_reducible exact ih0 _ _)
      | (with_reducible exact LeO.refl _)
      | (with_reducible exact LeO.none _)
      | (with_reducible refine LeO.ite ?_ ?_)
      | (with_reducible refine LeO.bind ?_ (fun _ => ?_))
      | exact ih0 _ _
      | exact LeO.none _
      | refine LeO.ite ?_ ?_
      | refine LeO.bind ?_ (fun _ => ?_)
theorem spec_scContent.mono : ∀ a0 k, LeO (spec_scContent.f k a0) (spec_scContent.f (k + 1) a0) := by
  intro a0 k
  have ih0 := spec_scContent.mono_l k
  unfold spec_scContent.f
  repeat' first
      | (with_reducible exact ih0 _ _)
      | (with_reducible exact LeO.refl _)
      | (with_reducible exact LeO.none _)
      | (with_reducible refine LeO.ite ?_ ?_)
      | (with_reducible refine LeO.bind ?_ (fun _ => ?_))
      | exact ih0 _ _
      | exact LeO.none _
      | refine LeO.ite ?_ ?_
      | refine LeO.bind ?_ (fun _ => ?_)
set_option maxHeartbeats 8000000 in
set_option maxRecDepth 100000 in
theorem spec_scContent.calls (k : Nat) (a0 : Int) (r : Bool) (w : World) (h : spec_scContent.f k a0 = some r) :
    Calls Tryd.prog 20 #[.int .i32 a0] w fun e w' => e = .returned (.bool r) ∧ Drawn0 w w' := by
  have H : (if a0 = 9 then (spec_scContent.j0 k a0 (a0 == 9)) else (if a0 ≥ 32 then (if a0 ≤ 126 then (spec_scContent.j0 k a0 (decide (a0 ≤ 126))) else (if a0 ≥ 160 then (spec_scContent.j0 k a0 (decide (a0 ≤ 55295))) else (spec_scContent.j0 k a0 false))) else (if a0 ≥ 160 then (spec_scContent.j0 k a0 (decide (a0 ≤ 55295))) else (spec_scContent.j0 k a0 false)))) = some r := h
  clear h
  have HC2 := Aside0.mk H
  clear H
  go_enter Tryd.func20, Tryd.ntmps20
  go_upto_if 3 with (fail)
  go_cut [3] (fun v3 wc => ∃ (kq : Nat) (x3_1 : Bool), v3 = .bool x3_1 ∧ Aside0 (spec_scContent.j0 kq a0 x3_1 = some r) ∧ Aside0 (kq ≤ k) ∧ Drawn0 w wc)
  case first =>
    have H := HC2.out
    clear HC2
    by_cases c3 : a0 = 9
    · rw [if_pos c3] at H
      have c3b0 : (a0 == 9) = true := beq_iff_eq.mpr c3
      have c3b1 : (a0 != 9) = false := bne_eq_false_iff_eq.mpr c3
      clear c3
      (first | rw [c3b0] | (simp only [i64_w, i32_w]; rw [c3b0]) | skip)
      have H' := Aside0.mk H
      clear H
      go_wp2
      go_meet
      case rel => exact ⟨_, ((a0 == 9)), (by first | rfl | (simp; done) | (simp [*]; done)), H', ⟨by first | omega | exact Nat.le_refl _⟩, by repeat (first | exact Drawn0.refl _ | apply Drawn0.step)⟩
    · rw [if_neg c3] at H
      have c3b0 : (a0 == 9) = false := beq_eq_false_iff_ne.mpr c3
      have c3b1 : (a0 != 9) = true := bne_iff_ne.mpr c3
      (first | rw [c3b0] | (simp only [i64_w, i32_w]; rw [c3b0]) | skip)
      by_cases c4 : a0 ≥ 32
      · rw [if_pos c4] at H
        have c4b0 : decide (32 ≤ a0) = true := decide_eq_true c4
        clear c4
        by_cases c5 : a0 ≤ 126
        · rw [if_pos c5] at H
          have c5b0 : decide (a0 ≤ 126) = true := decide_eq_true c5
          clear c5
          have H' := Aside0.mk H
          clear H
          go_wp2
          go_meet
          case rel => exact ⟨_, (decide (a0 ≤ 126)), (by first | rfl | (simp; done) | (simp [*]; done)), H', ⟨by first | omega | exact Nat.le_refl _⟩, by repeat (first | exact Drawn0.refl _ | apply Drawn0.step)⟩
        · rw [if_neg c5] at H
          have c5b0 : decide (a0 ≤ 126) = false := decide_eq_false c5
          clear c5
          by_cases c6 : a0 ≥ 160
          · rw [if_pos c6] at H
            have c6b0 : decide (160 ≤ a0) = true := decide_eq_true c6
            clear c6
            have H' := Aside0.mk H
            clear H
            go_wp2
            go_meet
            case rel => exact ⟨_, (decide (a0 ≤ 55295)), (by first | rfl | (simp; done) | (simp [*]; done)), H', ⟨by first | omega | exact Nat.le_refl _⟩, by repeat (first | exact Drawn0.refl _ | apply Drawn0.step)⟩
          · rw [if_neg c6] at H
            have c6b0 : decide (160 ≤ a0) = false := decide_eq_false c6
            clear c6
            have H' := Aside0.mk H
            clear H
            go_wp2
            go_meet
            case rel => exact ⟨_, (false), (by first | rfl | (simp; done) | (simp [*]; done)), H', ⟨by first | omega | exact Nat.le_refl _⟩, by repeat (first | exact Drawn0.refl _ | apply Drawn0.step)⟩
      · rw [if_neg c4] at H
        have c4b0 : decide (32 ≤ a0) = false := decide_eq_false c4
        clear c4
        by_cases c7 : a0 ≥ 160
        · rw [if_pos c7] at H
          have c7b0 : decide (160 ≤ a0) = true := decide_eq_true c7
          clear c7
          have H' := Aside0.mk H
          clear H
          go_wp2
          go_meet
          case rel => exact ⟨_, (decide (a0 ≤ 55295)), (by first | rfl | (simp; done) | (simp [*]; done)), H', ⟨by first | omega | exact Nat.le_refl _⟩, by repeat (first | exact Drawn0.refl _ | apply Drawn0.step)⟩
        · rw [if_neg c7] at H
          have c7b0 : decide (160 ≤ a0) = false := decide_eq_false c7
          clear c7
          have H' := Aside0.mk H
          clear H
          go_wp2
          go_meet
          case rel => exact ⟨_, (false), (by first | rfl | (simp; done) | (simp [*]; done)), H', ⟨by first | omega | exact Nat.le_refl _⟩, by repeat (first | exact Drawn0.refl _ | apply Drawn0.step)⟩
  case rest =>
    clear HC2
    try clear c2
    try clear p2
    try clear c3
    try clear c3b0
    try clear c3b1
    try clear c4
    try clear c4b0
    try clear c5
    try clear c5b0
    try clear c6
    try clear c6b0
    try clear c7
    try clear c7b0
    obtain ⟨kq, x3_1, rfl, HA, HJ1, ⟨mc1, rfl⟩⟩ := hcut
    cases kq with
    | zero => exact absurd HA.out (by simp [spec_scContent.j0])
    | succ kj1 =>
      have H := HA.out
      clear HA
      simp only [spec_scContent.j0] at H
      by_cases c8 : x3_1 = true
      · subst c8
        have H1 : (if a0 = 8232 then (some false) else (some (a0 != 8233))) = some r := by rw [if_pos rfl] at H; exact H
        clear H
        have H := H1
        clear H1
        by_cases c9 : a0 = 8232
        · rw [if_pos c9] at H
          have c9b0 : (a0 == 8232) = true := beq_iff_eq.mpr c9
          have c9b1 : (a0 != 8232) = false := bne_eq_false_iff_eq.mpr c9
          clear c9
          obtain rfl := Option.some.inj H
          go_wp2
          go_ret
          exact ⟨by first | rfl | (simp; done) | (simp [*]; done), by repeat (first | exact Drawn0.refl _ | apply Drawn0.step)⟩
        · rw [if_neg c9] at H
          have c9b0 : (a0 == 8232) = false := beq_eq_false_iff_ne.mpr c9
          have c9b1 : (a0 != 8232) = true := bne_iff_ne.mpr c9
          obtain rfl := Option.some.inj H
          go_wp2
          go_ret
          exact ⟨by first | rfl | (simp; done) | (simp [*]; done), by repeat (first | exact Drawn0.refl _ | apply Drawn0.step)⟩
      · replace c8 := Bool.eq_false_iff.mpr c8
        subst c8
        have H1 : (if a0 ≥ 57344 then (if a0 ≤ 65533 then (some (a0 != 65279)) else (if a0 ≥ 65536 then (some (decide (a0 ≤ 1114111))) else (some false))) else (if a0 ≥ 65536 then (some (decide (a0 ≤ 1114111))) else (some false))) = some r := by rw [if_neg (show ¬ (false = true) by decide)] at H; exact H
        clear H
        have H := H1
        clear H1
        by_cases c10 : a0 ≥ 57344
        · rw [if_pos c10] at H
          have c10b0 : decide (57344 ≤ a0) = true := decide_eq_true c10
          clear c10
          by_cases c11 : a0 ≤ 65533
          · rw [if_pos c11] at H
            have c11b0 : decide (a0 ≤ 65533) = true := decide_eq_true c11
            clear c11
            obtain rfl := Option.some.inj H
            go_wp2
            go_ret
            exact ⟨by first | rfl | (simp; done) | (simp [*]; done), by repeat (first | exact Drawn0.refl _ | apply Drawn0.step)⟩
          · rw [if_neg c11] at H
            have c11b0 : decide (a0 ≤ 65533) = false := decide_eq_false c11
            clear c11
            by_cases c12 : a0 ≥ 65536
            · rw [if_pos c12] at H
              have c12b0 : decide (65536 ≤ a0) = true := decide_eq_true c12
              clear c12
              obtain rfl := Option.some.inj H
              go_wp2
              go_ret
              exact ⟨by first | rfl | (simp; done) | (simp [*]; done), by repeat (first | exact Drawn0.refl _ | apply Drawn0.step)⟩
            · rw [if_neg c12] at H
              have c12b0 : decide (65536 ≤ a0) = false := decide_eq_false c12
              clear c12
              obtain rfl := Option.some.inj H
              go_wp2
              go_ret
              exact ⟨by first | rfl | (simp; done) | (simp [*]; done), by repeat (first | exact Drawn0.refl _ | apply Drawn0.step)⟩
        · rw [if_neg c10] at H
          have c10b0 : decide (57344 ≤ a0) = false := decide_eq_false c10
          clear c10
          by_cases c13 : a0 ≥ 65536
          · rw [if_pos c13] at H
            have c13b0 : decide (65536 ≤ a0) = true := decide_eq_true c13
            clear c13
            obtain rfl := Option.some.inj H
            go_wp2
            go_ret
            exact ⟨by first | rfl | (simp; done) | (simp [*]; done), by repeat (first | exact Drawn0.refl _ | apply Drawn0.step)⟩
          · rw [if_neg c13] at H
            have c13b0 : decide (65536 ≤ a0) = false := decide_eq_false c13
            clear c13
            obtain rfl := Option.some.inj H
            go_wp2
            go_ret
            exact ⟨by first | rfl | (simp; done) | (simp [*]; done), by repeat (first | exact Drawn0.refl _ | apply Drawn0.step)⟩

/-! ### spec_scAll: function 13 -/
def spec_scAll.l0 : Nat → Bool → List Int → Int → Int → Option (Bool)
  | 0, _, _, _, _ => none
  | k + 1, x1, x7, x8, x9 => if x9 < x8 then (if 0 ≤ x9 then (if x9 < (x7.length : Int) then ((spec_scContent.f k (rd x7 x9)).bind fun t136 => (if t136 = true then (spec_scAll.l0 k x1 x7 x8 (wrap64 (x9 + 1))) else (if x1 = true then (if ((rd x7 x9) = 10) then (spec_scAll.l0 k x1 x7 x8 (wrap64 (x9 + 1))) else (some false)) else (some false)))) else (none)) else (none)) else (some true)
def spec_scAll.f (k : Nat) (l0 : List Int) (a1 : Bool) : Option (Bool) := spec_scAll.l0 k a1 l0 (l0.length : Int) 0
theorem spec_scAll.mono_l : ∀ k, (∀ y0 y1 y2 y3, LeO (spec_scAll.l0 k y0 y1 y2 y3) (spec_scAll.l0 (k + 1) y0 y1 y2 y3))
  | 0 => fun _ _ _ _ r h => by simp [spec_scAll.l0] at h
  | k + 1 => by
    have ih0 := spec_scAll.mono_l k
    · intro y0 y1 y2 y3
      unfold spec_scAll.l0
      repeat' first
      | (with_reducible exact ih0 _ _ _ _)
      | (with_reducible exact spec_scContent.mono _ _)
      | (with_reducible exact LeO.refl _)
      | (with_reducible exact LeO.none _)
      | (with_reducible refine LeO.ite ?_ ?_)
      | (with_reducible refine LeO.bind ?_ (fun _ => ?_))
      | exact ih0 _ _ _ _
      | exact spec_scContent.mono _ _
      | exact LeO.none _
      | refine LeO.ite ?_ ?_
      | refine LeO.bind ?_ (fun _ => ?_)
theorem spec_scAll.mono : ∀ a0 a1 k, LeO (spec_scAll.f k a0 a1) (spec_scAll.f (k + 1) a0 a1) := by
  intro a0 a1 k
  have ih0 := spec_scAll.mono_l k
  unfold spec_scAll.f
  repeat' first
      | (with_reducible exact ih0 _ _ _ _)
      | (with_reducible exact spec_scContent.mono _ _)
      | (with_reducible exact LeO.refl _)
      | (with_reducible exact LeO.none _)
      | (with_reducible refine LeO.ite ?_ ?_)
      | (with_reducible refine LeO.bind ?_ (fun _ => ?_))
      | exact ih0 _ _ _ _
      | exact spec_scContent.mono _ _
      | exact LeO.none _
      | refine LeO.ite ?_ ?_
      | refine LeO.bind ?_ (fun _ => ?_)
set_option maxHeartbeats 8000000 in
set_option maxRecDepth 100000 in
theorem spec_scAll.calls (k : Nat) (A0 : Option Addr) (c0 : Nat) (l0 : List Int) (a1 : Bool) (r : Bool) (w : World) (hr0 : Kd.C (Kd.int .i32) w A0 l0.length l0) (hc0 : l0.length ≤ c0) (h : spec_scAll.f k l0 a1 = some r) :
    Calls Tryd.prog 13 #[.slice A0 l0.length c0, .bool a1] w fun e w' => e = .returned (.bool r) ∧ Drawn0 w w' := by
  have HR0 := Aside0.mk hr0
  have HC0 := Aside0.mk hc0
  clear hr0 hc0
  have H : (spec_scAll.l0 k a1 l0 (l0.length : Int) 0) = some r := h
  clear h
  have H' := Aside0.mk H
  clear H
  go_enter Tryd.func13, Tryd.ntmps13
  go_wp2
  go_loopg [9] k (fun kq v9 w' => ∃ (x9_1 : Int), v9 = .int .i64 x9_1 ∧ Aside0 (spec_scAll.l0 kq a1 l0 (l0.length : Int) x9_1 = some r) ∧ Aside0 (kq ≤ k) ∧ Drawn0 w w')
  case atStart => exact ⟨(0), (by first | rfl | (simp; done) | (simp [*]; done)), H', ⟨Nat.le_refl _⟩, by repeat (first | exact Drawn0.refl _ | apply Drawn0.step)⟩
  case round =>
    clear H'
    try clear c1
    try clear p2
    obtain ⟨x9_1, rfl, HA, HK1, ⟨m1, rfl⟩⟩ := hrel
    cases gk with
    | zero => exact absurd HA.out (by simp [spec_scAll.l0])
    | succ k1 =>
      have H := HA.out
      clear HA
      simp only [spec_scAll.l0] at H
      by_cases c3 : x9_1 < (l0.length : Int)
      · rw [if_pos c3] at H
        have c3b0 : decide (x9_1 < (l0.length : Int)) = true := decide_eq_true c3
        clear c3
        by_cases c4 : 0 ≤ x9_1
        · rw [if_pos c4] at H
          have c4b0 : decide (0 ≤ x9_1) = true := decide_eq_true c4
          clear c4
          by_cases c5 : x9_1 < (l0.length : Int)
          · rw [if_pos c5] at H
            have c5b0 : decide (x9_1 < (l0.length : Int)) = true := decide_eq_true c5
            clear c5
            replace H := Option.bind_eq_some_iff.mp H
            obtain ⟨t136, A60, H⟩ := H
            replace H : (if t136 = true then (spec_scAll.l0 k1 a1 l0 (l0.length : Int) (wrap64 (x9_1 + 1))) else (if a1 = true then (if ((rd l0 x9_1) = 10) then (spec_scAll.l0 k1 a1 l0 (l0.length : Int) (wrap64 (x9_1 + 1))) else (some false)) else (some false))) = some r := H
            have A6 := Aside0.mk A60
            clear A60
            by_cases c7 : t136 = true
            · subst c7
              have H1 : (spec_scAll.l0 k1 a1 l0 (l0.length : Int) (wrap64 (x9_1 + 1))) = some r := by rw [if_pos rfl] at H; exact H
              clear H
              have H := H1
              clear H1
              have H' := Aside0.mk H
              clear H
              have p135 : 0 ≤ (x9_1 : Int) := of_decide_eq_true (by first | (with_reducible assumption) | assumption)
              have q135 : x9_1 < (l0.length : Int) := of_decide_eq_true (by first | (with_reducible assumption) | assumption)
              obtain ⟨ad135, e135, hx135_0⟩ := Kd.at_int HR0.out x9_1 p135 q135
              cases e135
              replace p135 := eq_true p135
              replace q135 := eq_true q135
              go_wp2_with (first | ((with_reducible refine gate_callee (f := 20) rfl ?_); refine goesL_ (some 14) rfl rfl Tryd.func20 (by kernel_rfl) rfl #[.int .i32 (rd l0 x9_1)] rfl (by (try simp only [List.map_toArray, List.map_cons, List.map_nil]); first | done | rfl | (simp only [List.length_drop, List.length_take]; rfl)) ?_; (with_reducible refine (spec_scContent.calls k1 (rd l0 x9_1) true _ A6.out).mono ?_); rintro e w' ⟨rfl, ⟨nd, rfl⟩⟩; refine ⟨_, rfl, ?_⟩))
              go_roundg k1
              case measure => have := HK1.out; omega
              case rel => exact ⟨(wrap64 (x9_1 + 1)), (by first | rfl | (simp; done) | (simp [*]; done)), H', ⟨by have := HK1.out; omega⟩, by repeat (first | exact Drawn0.refl _ | apply Drawn0.step)⟩
            · replace c7 := Bool.eq_false_iff.mpr c7
              subst c7
              have H1 : (if a1 = true then (if ((rd l0 x9_1) = 10) then (spec_scAll.l0 k1 a1 l0 (l0.length : Int) (wrap64 (x9_1 + 1))) else (some false)) else (some false)) = some r := by rw [if_neg (show ¬ (false = true) by decide)] at H; exact H
              clear H
              have H := H1
              clear H1
              by_cases c8 : a1 = true
              · subst c8
                have H1 : (if ((rd l0 x9_1) = 10) then (spec_scAll.l0 k1 true l0 (l0.length : Int) (wrap64 (x9_1 + 1))) else (some false)) = some r := by rw [if_pos rfl] at H; exact H
                clear H
                have H := H1
                clear H1
                by_cases c9 : ((rd l0 x9_1) = 10)
                · rw [if_pos c9] at H
                  have c9b0 : ((rd l0 x9_1) == 10) = true := beq_iff_eq.mpr c9
                  have c9b1 : ((rd l0 x9_1) != 10) = false := bne_eq_false_iff_eq.mpr c9
                  clear c9
                  have H' := Aside0.mk H
                  clear H
                  have p135 : 0 ≤ (x9_1 : Int) := of_decide_eq_true (by first | (with_reducible assumption) | assumption)
                  have q135 : x9_1 < (l0.length : Int) := of_decide_eq_true (by first | (with_reducible assumption) | assumption)
                  obtain ⟨ad135, e135, hx135_0⟩ := Kd.at_int HR0.out x9_1 p135 q135
                  cases e135
                  replace p135 := eq_true p135
                  replace q135 := eq_true q135
                  go_wp2_with (first | ((with_reducible refine gate_callee (f := 20) rfl ?_); refine goesL_ (some 14) rfl rfl Tryd.func20 (by kernel_rfl) rfl #[.int .i32 (rd l0 x9_1)] rfl (by (try simp only [List.map_toArray, List.map_cons, List.map_nil]); first | done | rfl | (simp only [List.length_drop, List.length_take]; rfl)) ?_; (with_reducible refine (spec_scContent.calls k1 (rd l0 x9_1) false _ A6.out).mono ?_); rintro e w' ⟨rfl, ⟨nd, rfl⟩⟩; refine ⟨_, rfl, ?_⟩))
                  go_roundg k1
                  case measure => have := HK1.out; omega
                  case rel => exact ⟨(wrap64 (x9_1 + 1)), (by first | rfl | (simp; done) | (simp [*]; done)), H', ⟨by have := HK1.out; omega⟩, by repeat (first | exact Drawn0.refl _ | apply Drawn0.step)⟩
                · rw [if_neg c9] at H
                  have c9b0 : ((rd l0 x9_1) == 10) = false := beq_eq_false_iff_ne.mpr c9
                  have c9b1 : ((rd l0 x9_1) != 10) = true := bne_iff_ne.mpr c9
                  obtain rfl := Option.some.inj H
                  have p135 : 0 ≤ (x9_1 : Int) := of_decide_eq_true (by first | (with_reducible assumption) | assumption)
                  have q135 : x9_1 < (l0.length : Int) := of_decide_eq_true (by first | (with_reducible assumption) | assumption)
                  obtain ⟨ad135, e135, hx135_0⟩ := Kd.at_int HR0.out x9_1 p135 q135
                  cases e135
                  replace p135 := eq_true p135
                  replace q135 := eq_true q135
                  go_wp2_with (first | ((with_reducible refine gate_callee (f := 20) rfl ?_); refine goesL_ (some 14) rfl rfl Tryd.func20 (by kernel_rfl) rfl #[.int .i32 (rd l0 x9_1)] rfl (by (try simp only [List.map_toArray, List.map_cons, List.map_nil]); first | done | rfl | (simp only [List.length_drop, List.length_take]; rfl)) ?_; (with_reducible refine (spec_scContent.calls k1 (rd l0 x9_1) false _ A6.out).mono ?_); rintro e w' ⟨rfl, ⟨nd, rfl⟩⟩; refine ⟨_, rfl, ?_⟩))
                  go_ret
                  exact ⟨by first | rfl | (simp; done) | (simp [*]; done), by repeat (first | exact Drawn0.refl _ | apply Drawn0.step)⟩
              · replace c8 := Bool.eq_false_iff.mpr c8
                subst c8
                have H1 : (some false) = some r := by rw [if_neg (show ¬ (false = true) by decide)] at H; exact H
                clear H
                have H := H1
                clear H1
                obtain rfl := Option.some.inj H
                have p135 : 0 ≤ (x9_1 : Int) := of_decide_eq_true (by first | (with_reducible assumption) | assumption)
                have q135 : x9_1 < (l0.length : Int) := of_decide_eq_true (by first | (with_reducible assumption) | assumption)
                obtain ⟨ad135, e135, hx135_0⟩ := Kd.at_int HR0.out x9_1 p135 q135
                cases e135
                replace p135 := eq_true p135
                replace q135 := eq_true q135
                go_wp2_with (first | ((with_reducible refine gate_callee (f := 20) rfl ?_); refine goesL_ (some 14) rfl rfl Tryd.func20 (by kernel_rfl) rfl #[.int .i32 (rd l0 x9_1)] rfl (by (try simp only [List.map_toArray, List.map_cons, List.map_nil]); first | done | rfl | (simp only [List.length_drop, List.length_take]; rfl)) ?_; (with_reducible refine (spec_scContent.calls k1 (rd l0 x9_1) false _ A6.out).mono ?_); rintro e w' ⟨rfl, ⟨nd, rfl⟩⟩; refine ⟨_, rfl, ?_⟩))
                go_ret
                exact ⟨by first | rfl | (simp; done) | (simp [*]; done), by repeat (first | exact Drawn0.refl _ | apply Drawn0.step)⟩
          · rw [if_neg c5] at H
            exact absurd H (by simp)
        · rw [if_neg c4] at H
          exact absurd H (by simp)
      · rw [if_neg c3] at H
        have c3b0 : decide (x9_1 < (l0.length : Int)) = false := decide_eq_false c3
        clear c3
        obtain rfl := Option.some.inj H
        go_wp2
        go_ret
        exact ⟨by first | rfl | (simp; done) | (simp [*]; done), by repeat (first | exact Drawn0.refl _ | apply Drawn0.step)⟩

/-! ### spec_scWhite: function 15 -/
def spec_scWhite.f (a0 : Int) : Option (Bool) := if a0 = 32 then (some true) else (some (a0 == 9))
set_option maxHeartbeats 8000000 in
set_option maxRecDepth 100000 in
theorem spec_scWhite.calls (a0 : Int) (r : Bool) (w : World) (h : spec_scWhite.f a0 = some r) :
    Calls Tryd.prog 15 #[.int .i32 a0] w fun e w' => e = .returned (.bool r) ∧ Drawn0 w w' := by
  have H : (if a0 = 32 then (some true) else (some (a0 == 9))) = some r := h
  clear h
  by_cases c2 : a0 = 32
  · rw [if_pos c2] at H
    have c2b0 : (a0 == 32) = true := beq_iff_eq.mpr c2
    have c2b1 : (a0 != 32) = false := bne_eq_false_iff_eq.mpr c2
    clear c2
    obtain rfl := Option.some.inj H
    go_enter Tryd.func15, Tryd.ntmps15
    go_wp2
    go_ret
    exact ⟨by first | rfl | (simp; done) | (simp [*]; done), by repeat (first | exact Drawn0.refl _ | apply Drawn0.step)⟩
  · rw [if_neg c2] at H
    have c2b0 : (a0 == 32) = false := beq_eq_false_iff_ne.mpr c2
    have c2b1 : (a0 != 32) = true := bne_iff_ne.mpr c2
    obtain rfl := Option.some.inj H
    go_enter Tryd.func15, Tryd.ntmps15
    go_wp2
    go_ret
    exact ⟨by first | rfl | (simp; done) | (simp [*]; done), by repeat (first | exact Drawn0.refl _ | apply Drawn0.step)⟩

/-! ### spec_scMarker: function 34 -/
def spec_scMarker.f (l0 : List Int) : Option (Bool) := if (l0.length : Int) ≥ 3 then (if 0 < (l0.length : Int) then (if (rd l0 0) = 45 then (if 1 < (l0.length : Int) then (if (rd l0 1) = (rd l0 0) then (if 2 < (l0.length : Int) then (some ((rd l0 2) == (rd l0 0))) else (none)) else (some false)) else (none)) else (if (rd l0 0) = 46 then (if 1 < (l0.length : Int) then (if (rd l0 1) = (rd l0 0) then (if 2 < (l0.length : Int) then (some ((rd l0 2) == (rd l0 0))) else (none)) else (some false)) else (none)) else (some false))) else (none)) else (some false)
set_option maxHeartbeats 8000000 in
set_option maxRecDepth 100000 in
theorem spec_scMarker.calls (A0 : Option Addr) (c0 : Nat) (l0 : List Int) (r : Bool) (w : World) (hr0 : Kd.C (Kd.int .i32) w A0 l0.length l0) (hc0 : l0.length ≤ c0) (h : spec_scMarker.f l0 = some r) :
    Calls Tryd.prog 34 #[.slice A0 l0.length c0] w fun e w' => e = .returned (.bool r) ∧ Drawn0 w w' := by
  have HR0 := Aside0.mk hr0
  have HC0 := Aside0.mk hc0
  clear hr0 hc0
  have H : (if (l0.length : Int) ≥ 3 then (if 0 < (l0.length : Int) then (if (rd l0 0) = 45 then (if 1 < (l0.length : Int) then (if (rd l0 1) = (rd l0 0) then (if 2 < (l0.length : Int) then (some ((rd l0 2) == (rd l0 0))) else (none)) else (some false)) else (none)) else (if (rd l0 0) = 46 then (if 1 < (l0.length : Int) then (if (rd l0 1) = (rd l0 0) then (if 2 < (l0.length : Int) then (some ((rd l0 2) == (rd l0 0))) else (none)) else (some false)) else (none)) else (some false))) else (none)) else (some false)) = some r := h
  clear h
  by_cases c2 : (l0.length : Int) ≥ 3
  · rw [if_pos c2] at H
    have c2b0 : decide (3 ≤ (l0.length : Int)) = true := decide_eq_true c2
    have c2b1 : decide (3 ≤ l0.length) = true := decide_eq_true (by omega)
    clear c2
    by_cases c3 : 0 < (l0.length : Int)
    · rw [if_pos c3] at H
      have c3b0 : decide (0 < (l0.length : Int)) = true := decide_eq_true c3
      have c3b1 : decide (0 < l0.length) = true := decide_eq_true (by omega)
      clear c3
      by_cases c4 : (rd l0 0) = 45
      · rw [if_pos c4] at H
        have c4b0 : ((rd l0 0) == 45) = true := beq_iff_eq.mpr c4
        have c4b1 : ((rd l0 0) != 45) = false := bne_eq_false_iff_eq.mpr c4
        clear c4
        by_cases c5 : 1 < (l0.length : Int)
        · rw [if_pos c5] at H
          have c5b0 : decide (1 < (l0.length : Int)) = true := decide_eq_true c5
          have c5b1 : decide (1 < l0.length) = true := decide_eq_true (by omega)
          clear c5
          by_cases c6 : (rd l0 1) = (rd l0 0)
          · rw [if_pos c6] at H
            have c6b0 : ((rd l0 1) == (rd l0 0)) = true := beq_iff_eq.mpr c6
            have c6b1 : ((rd l0 1) != (rd l0 0)) = false := bne_eq_false_iff_eq.mpr c6
            clear c6
            by_cases c7 : 2 < (l0.length : Int)
            · rw [if_pos c7] at H
              have c7b0 : decide (2 < (l0.length : Int)) = true := decide_eq_true c7
              have c7b1 : decide (2 < l0.length) = true := decide_eq_true (by omega)
              clear c7
              obtain rfl := Option.some.inj H
              have p137 : 0 ≤ (0 : Int) := (by omega)
              have q137 : 0 < (l0.length : Int) := of_decide_eq_true (by first | (with_reducible assumption) | assumption)
              obtain ⟨ad137, e137, hx137_0⟩ := Kd.at_int HR0.out 0 p137 q137
              cases e137
              have qi137 : (0 < l0.length) = True := eq_true (by omega)
              (try rw [show ((0 : Int)).toNat = 0 from rfl] at hx137_0)
              (try rw [Addr.add_zero'] at hx137_0)
              replace p137 := eq_true p137
              replace q137 := eq_true q137
              have p138 : 0 ≤ (1 : Int) := (by omega)
              have q138 : 1 < (l0.length : Int) := of_decide_eq_true (by first | (with_reducible assumption) | assumption)
              obtain ⟨ad138, e138, hx138_0⟩ := Kd.at_int HR0.out 1 p138 q138
              obtain rfl : ad137 = ad138 := (by injection e138)
              (try simp only [show (1 : Int).toNat = 1 from rfl, Nat.reduceMul, Nat.reduceEqDiff, Go.Addr.add, ↓reduceIte] at hx138_0)
              have qi138 : (1 < l0.length) = True := eq_true (by omega)
              (try rw [show ((1 : Int)).toNat = 1 from rfl] at hx138_0)
              replace p138 := eq_true p138
              replace q138 := eq_true q138
              have p139 : 0 ≤ (0 : Int) := (by omega)
              have q139 : 0 < (l0.length : Int) := of_decide_eq_true (by first | (with_reducible assumption) | assumption)
              obtain ⟨ad139, e139, hx139_0⟩ := Kd.at_int HR0.out 0 p139 q139
              obtain rfl : ad137 = ad139 := (by injection e139)
              have qi139 : (0 < l0.length) = True := eq_true (by omega)
              (try rw [show ((0 : Int)).toNat = 0 from rfl] at hx139_0)
              (try rw [Addr.add_zero'] at hx139_0)
              replace p139 := eq_true p139
              replace q139 := eq_true q139
              have p140 : 0 ≤ (2 : Int) := (by omega)
              have q140 : 2 < (l0.length : Int) := of_decide_eq_true (by first | (with_reducible assumption) | assumption)
              obtain ⟨ad140, e140, hx140_0⟩ := Kd.at_int HR0.out 2 p140 q140
              obtain rfl : ad137 = ad140 := (by injection e140)
              (try simp only [show (2 : Int).toNat = 2 from rfl, Nat.reduceMul, Nat.reduceEqDiff, Go.Addr.add, ↓reduceIte] at hx140_0)
              have qi140 : (2 < l0.length) = True := eq_true (by omega)
              (try rw [show ((2 : Int)).toNat = 2 from rfl] at hx140_0)
              replace p140 := eq_true p140
              replace q140 := eq_true q140
              have p141 : 0 ≤ (0 : Int) := (by omega)
              have q141 : 0 < (l0.length : Int) := of_decide_eq_true (by first | (with_reducible assumption) | assumption)
              obtain ⟨ad141, e141, hx141_0⟩ := Kd.at_int HR0.out 0 p141 q141
              obtain rfl : ad137 = ad141 := (by injection e141)
              have qi141 : (0 < l0.length) = True := eq_true (by omega)
              (try rw [show ((0 : Int)).toNat = 0 from rfl] at hx141_0)
              (try rw [Addr.add_zero'] at hx141_0)
              replace p141 := eq_true p141
              replace q141 := eq_true q141
              go_enter Tryd.func34, Tryd.ntmps34
              go_wp2
              repeat (go_quiet (fail); try go_wp2)
              go_ret
              exact ⟨by first | rfl | (simp; done) | (simp [*]; done), by repeat (first | exact Drawn0.refl _ | apply Drawn0.step)⟩
            · rw [if_neg c7] at H
              exact absurd H (by simp)
          · rw [if_neg c6] at H
            have c6b0 : ((rd l0 1) == (rd l0 0)) = false := beq_eq_false_iff_ne.mpr c6
            have c6b1 : ((rd l0 1) != (rd l0 0)) = true := bne_iff_ne.mpr c6
            obtain rfl := Option.some.inj H
            have p137 : 0 ≤ (0 : Int) := (by omega)
            have q137 : 0 < (l0.length : Int) := of_decide_eq_true (by first | (with_reducible assumption) | assumption)
            obtain ⟨ad137, e137, hx137_0⟩ := Kd.at_int HR0.out 0 p137 q137
            cases e137
            have qi137 : (0 < l0.length) = True := eq_true (by omega)
            (try rw [show ((0 : Int)).toNat = 0 from rfl] at hx137_0)
            (try rw [Addr.add_zero'] at hx137_0)
            replace p137 := eq_true p137
            replace q137 := eq_true q137
            have p138 : 0 ≤ (1 : Int) := (by omega)
            have q138 : 1 < (l0.length : Int) := of_decide_eq_true (by first | (with_reducible assumption) | assumption)
            obtain ⟨ad138, e138, hx138_0⟩ := Kd.at_int HR0.out 1 p138 q138
            obtain rfl : ad137 = ad138 := (by injection e138)
            (try simp only [show (1 : Int).toNat = 1 from rfl, Nat.reduceMul, Nat.reduceEqDiff, Go.Addr.add, ↓reduceIte] at hx138_0)
            have qi138 : (1 < l0.length) = True := eq_true (by omega)
            (try rw [show ((1 : Int)).toNat = 1 from rfl] at hx138_0)
            replace p138 := eq_true p138
            replace q138 := eq_true q138
            have p139 : 0 ≤ (0 : Int) := (by omega)
            have q139 : 0 < (l0.length : Int) := of_decide_eq_true (by first | (with_reducible assumption) | assumption)
            obtain ⟨ad139, e139, hx139_0⟩ := Kd.at_int HR0.out 0 p139 q139
            obtain rfl : ad137 = ad139 := (by injection e139)
            have qi139 : (0 < l0.length) = True := eq_true (by omega)
            (try rw [show ((0 : Int)).toNat = 0 from rfl] at hx139_0)
            (try rw [Addr.add_zero'] at hx139_0)
            replace p139 := eq_true p139
            replace q139 := eq_true q139
            go_enter Tryd.func34, Tryd.ntmps34
            go_wp2
            repeat (go_quiet (fail); try go_wp2)
            go_ret
            exact ⟨by first | rfl | (simp; done) | (simp [*]; done), by repeat (first | exact Drawn0.refl _ | apply Drawn0.step)⟩
        · rw [if_neg c5] at H
          exact absurd H (by simp)
      · rw [if_neg c4] at H
        have c4b0 : ((rd l0 0) == 45) = false := beq_eq_false_iff_ne.mpr c4
        have c4b1 : ((rd l0 0) != 45) = true := bne_iff_ne.mpr c4
        by_cases c8 : (rd l0 0) = 46
        · rw [if_pos c8] at H
          have c8b0 : ((rd l0 0) == 46) = true := beq_iff_eq.mpr c8
          have c8b1 : ((rd l0 0) != 46) = false := bne_eq_false_iff_eq.mpr c8
          clear c8
          by_cases c9 : 1 < (l0.length : Int)
          · rw [if_pos c9] at H
            have c9b0 : decide (1 < (l0.length : Int)) = true := decide_eq_true c9
            have c9b1 : decide (1 < l0.length) = true := decide_eq_true (by omega)
            clear c9
            by_cases c10 : (rd l0 1) = (rd l0 0)
            · rw [if_pos c10] at H
              have c10b0 : ((rd l0 1) == (rd l0 0)) = true := beq_iff_eq.mpr c10
              have c10b1 : ((rd l0 1) != (rd l0 0)) = false := bne_eq_false_iff_eq.mpr c10
              clear c10
              by_cases c11 : 2 < (l0.length : Int)
              · rw [if_pos c11] at H
                have c11b0 : decide (2 < (l0.length : Int)) = true := decide_eq_true c11
                have c11b1 : decide (2 < l0.length) = true := decide_eq_true (by omega)
                clear c11
                obtain rfl := Option.some.inj H
                have p137 : 0 ≤ (0 : Int) := (by omega)
                have q137 : 0 < (l0.length : Int) := of_decide_eq_true (by first | (with_reducible assumption) | assumption)
                obtain ⟨ad137, e137, hx137_0⟩ := Kd.at_int HR0.out 0 p137 q137
                cases e137
                have qi137 : (0 < l0.length) = True := eq_true (by omega)
                (try rw [show ((0 : Int)).toNat = 0 from rfl] at hx137_0)
                (try rw [Addr.add_zero'] at hx137_0)
                replace p137 := eq_true p137
                replace q137 := eq_true q137
                have p142 : 0 ≤ (0 : Int) := (by omega)
                have q142 : 0 < (l0.length : Int) := of_decide_eq_true (by first | (with_reducible assumption) | assumption)
                obtain ⟨ad142, e142, hx142_0⟩ := Kd.at_int HR0.out 0 p142 q142
                obtain rfl : ad137 = ad142 := (by injection e142)
                have qi142 : (0 < l0.length) = True := eq_true (by omega)
                (try rw [show ((0 : Int)).toNat = 0 from rfl] at hx142_0)
                (try rw [Addr.add_zero'] at hx142_0)
                replace p142 := eq_true p142
                replace q142 := eq_true q142
                have p143 : 0 ≤ (1 : Int) := (by omega)
                have q143 : 1 < (l0.length : Int) := of_decide_eq_true (by first | (with_reducible assumption) | assumption)
                obtain ⟨ad143, e143, hx143_0⟩ := Kd.at_int HR0.out 1 p143 q143
                obtain rfl : ad137 = ad143 := (by injection e143)
                (try simp only [show (1 : Int).toNat = 1 from rfl, Nat.reduceMul, Nat.reduceEqDiff, Go.Addr.add, ↓reduceIte] at hx143_0)
                have qi143 : (1 < l0.length) = True := eq_true (by omega)
                (try rw [show ((1 : Int)).toNat = 1 from rfl] at hx143_0)
                replace p143 := eq_true p143
                replace q143 := eq_true q143
                have p144 : 0 ≤ (0 : Int) := (by omega)
                have q144 : 0 < (l0.length : Int) := of_decide_eq_true (by first | (with_reducible assumption) | assumption)
                obtain ⟨ad144, e144, hx144_0⟩ := Kd.at_int HR0.out 0 p144 q144
                obtain rfl : ad137 = ad144 := (by injection e144)
                have qi144 : (0 < l0.length) = True := eq_true (by omega)
                (try rw [show ((0 : Int)).toNat = 0 from rfl] at hx144_0)
                (try rw [Addr.add_zero'] at hx144_0)
                replace p144 := eq_true p144
                replace q144 := eq_true q144
                have p145 : 0 ≤ (2 : Int) := (by omega)
                have q145 : 2 < (l0.length : Int) := of_decide_eq_true (by first | (with_reducible assumption) | assumption)
                obtain ⟨ad145, e145, hx145_0⟩ := Kd.at_int HR0.out 2 p145 q145
                obtain rfl : ad137 = ad145 := (by injection e145)
                (try simp only [show (2 : Int).toNat = 2 from rfl, Nat.reduceMul, Nat.reduceEqDiff, Go.Addr.add, ↓reduceIte] at hx145_0)
                have qi145 : (2 < l0.length) = True := eq_true (by omega)
                (try rw [show ((2 : Int)).toNat = 2 from rfl] at hx145_0)
                replace p145 := eq_true p145
                replace q145 := eq_true q145
                have p146 : 0 ≤ (0 : Int) := (by omega)
                have q146 : 0 < (l0.length : Int) := of_decide_eq_true (by first | (with_reducible assumption) | assumption)
                obtain ⟨ad146, e146, hx146_0⟩ := Kd.at_int HR0.out 0 p146 q146
                obtain rfl : ad137 = ad146 := (by injection e146)
                have qi146 : (0 < l0.length) = True := eq_true (by omega)
                (try rw [show ((0 : Int)).toNat = 0 from rfl] at hx146_0)
                (try rw [Addr.add_zero'] at hx146_0)
                replace p146 := eq_true p146
                replace q146 := eq_true q146
                go_enter Tryd.func34, Tryd.ntmps34
                go_wp2
                repeat (go_quiet (fail); try go_wp2)
                go_ret
                exact ⟨by first | rfl | (simp; done) | (simp [*]; done), by repeat (first | exact Drawn0.refl _ | apply Drawn0.step)⟩
              · rw [if_neg c11] at H
                exact absurd H (by simp)
            · rw [if_neg c10] at H
              have c10b0 : ((rd l0 1) == (rd l0 0)) = false := beq_eq_false_iff_ne.mpr c10
              have c10b1 : ((rd l0 1) != (rd l0 0)) = true := bne_iff_ne.mpr c10
              obtain rfl := Option.some.inj H
              have p137 : 0 ≤ (0 : Int) := (by omega)
              have q137 : 0 < (l0.length : Int) := of_decide_eq_true (by first | (with_reducible assumption) | assumption)
              obtain ⟨ad137, e137, hx137_0⟩ := Kd.at_int HR0.out 0 p137 q137
              cases e137
              have qi137 : (0 < l0.length) = True := eq_true (by omega)
              (try rw [show ((0 : Int)).toNat = 0 from rfl] at hx137_0)
              (try rw [Addr.add_zero'] at hx137_0)
              replace p137 := eq_true p137
              replace q137 := eq_true q137
              have p142 : 0 ≤ (0 : Int) := (by omega)
              have q142 : 0 < (l0.length : Int) := of_decide_eq_true (by first | (with_reducible assumption) | assumption)
              obtain ⟨ad142, e142, hx142_0⟩ := Kd.at_int HR0.out 0 p142 q142
              obtain rfl : ad137 = ad142 := (by injection e142)
              have qi142 : (0 < l0.length) = True := eq_true (by omega)
              (try rw [show ((0 : Int)).toNat = 0 from rfl] at hx142_0)
              (try rw [Addr.add_zero'] at hx142_0)
              replace p142 := eq_true p142
              replace q142 := eq_true q142
              have p143 : 0 ≤ (1 : Int) := (by omega)
              have q143 : 1 < (l0.length : Int) := of_decide_eq_true (by first | (with_reducible assumption) | assumption)
              obtain ⟨ad143, e143, hx143_0⟩ := Kd.at_int HR0.out 1 p143 q143
              obtain rfl : ad137 = ad143 := (by injection e143)
              (try simp only [show (1 : Int).toNat = 1 from rfl, Nat.reduceMul, Nat.reduceEqDiff, Go.Addr.add, ↓reduceIte] at hx143_0)
              have qi143 : (1 < l0.length) = True := eq_true (by omega)
              (try rw [show ((1 : Int)).toNat = 1 from rfl] at hx143_0)
              replace p143 := eq_true p143
              replace q143 := eq_true q143
              have p144 : 0 ≤ (0 : Int) := (by omega)
              have q144 : 0 < (l0.length : Int) := of_decide_eq_true (by first | (with_reducible assumption) | assumption)
              obtain ⟨ad144, e144, hx144_0⟩ := Kd.at_int HR0.out 0 p144 q144
              obtain rfl : ad137 = ad144 := (by injection e144)
              have qi144 : (0 < l0.length) = True := eq_true (by omega)
              (try rw [show ((0 : Int)).toNat = 0 from rfl] at hx144_0)
              (try rw [Addr.add_zero'] at hx144_0)
              replace p144 := eq_true p144
              replace q144 := eq_true q144
              go_enter Tryd.func34, Tryd.ntmps34
              go_wp2
              repeat (go_quiet (fail); try go_wp2)
              go_ret
              exact ⟨by first | rfl | (simp; done) | (simp [*]; done), by repeat (first | exact Drawn0.refl _ | apply Drawn0.step)⟩
          · rw [if_neg c9] at H
            exact absurd H (by simp)
        · rw [if_neg c8] at H
          have c8b0 : ((rd l0 0) == 46) = false := beq_eq_false_iff_ne.mpr c8
          have c8b1 : ((rd l0 0) != 46) = true := bne_iff_ne.mpr c8
          obtain rfl := Option.some.inj H
          have p137 : 0 ≤ (0 : Int) := (by omega)
          have q137 : 0 < (l0.length : Int) := of_decide_eq_true (by first | (with_reducible assumption) | assumption)
          obtain ⟨ad137, e137, hx137_0⟩ := Kd.at_int HR0.out 0 p137 q137
          cases e137
          have qi137 : (0 < l0.length) = True := eq_true (by omega)
          (try rw [show ((0 : Int)).toNat = 0 from rfl] at hx137_0)
          (try rw [Addr.add_zero'] at hx137_0)
          replace p137 := eq_true p137
          replace q137 := eq_true q137
          have p142 : 0 ≤ (0 : Int) := (by omega)
          have q142 : 0 < (l0.length : Int) := of_decide_eq_true (by first | (with_reducible assumption) | assumption)
          obtain ⟨ad142, e142, hx142_0⟩ := Kd.at_int HR0.out 0 p142 q142
          obtain rfl : ad137 = ad142 := (by injection e142)
          have qi142 : (0 < l0.length) = True := eq_true (by omega)
          (try rw [show ((0 : Int)).toNat = 0 from rfl] at hx142_0)
          (try rw [Addr.add_zero'] at hx142_0)
          replace p142 := eq_true p142
          replace q142 := eq_true q142
          go_enter Tryd.func34, Tryd.ntmps34
          go_wp2
          repeat (go_quiet (fail); try go_wp2)
          go_ret
          exact ⟨by first | rfl | (simp; done) | (simp [*]; done), by repeat (first | exact Drawn0.refl _ | apply Drawn0.step)⟩
    · rw [if_neg c3] at H
      exact absurd H (by simp)
  · rw [if_neg c2] at H
    have c2b0 : decide (3 ≤ (l0.length : Int)) = false := decide_eq_false c2
    have c2b1 : decide (3 ≤ l0.length) = false := decide_eq_false (by omega)
    clear c2
    obtain rfl := Option.some.inj H
    go_enter Tryd.func34, Tryd.ntmps34
    go_wp2
    repeat (go_quiet (fail); try go_wp2)
    go_ret
    exact ⟨by first | rfl | (simp; done) | (simp [*]; done), by repeat (first | exact Drawn0.refl _ | apply Drawn0.step)⟩

/-! ### spec_scMarkerAt: function 27 -/
def spec_scMarkerAt.f (l0 : List Int) (a1 : Int) : Option (Bool) := if 0 ≤ a1 then (if a1 ≤ (l0.length : Int) then ((spec_scMarker.f (l0.drop (a1 : Int).toNat)).bind fun t148 => (if t148 = true then (if (wrap64 (a1 + 3)) < (l0.length : Int) then (if 0 ≤ (wrap64 (a1 + 3)) then ((spec_scWhite.f (rd l0 (wrap64 (a1 + 3)))).bind fun t150 => (if t150 = true then (some true) else (some ((rd l0 (wrap64 (a1 + 3))) == 10)))) else (none)) else (some false)) else (some false))) else (none)) else (none)
set_option maxHeartbeats 8000000 in
set_option maxRecDepth 100000 in
theorem spec_scMarkerAt.calls (A0 : Option Addr) (c0 : Nat) (l0 : List Int) (a1 : Int) (r : Bool) (w : World) (hr0 : Kd.C (Kd.int .i32) w A0 l0.length l0) (hc0 : l0.length ≤ c0) (h : spec_scMarkerAt.f l0 a1 = some r) :
    Calls Tryd.prog 27 #[.slice A0 l0.length c0, .int .i64 a1] w fun e w' => e = .returned (.bool r) ∧ Drawn0 w w' := by
  have HR0 := Aside0.mk hr0
  have HC0 := Aside0.mk hc0
  clear hr0 hc0
  have H : (if 0 ≤ a1 then (if a1 ≤ (l0.length : Int) then ((spec_scMarker.f (l0.drop (a1 : Int).toNat)).bind fun t148 => (if t148 = true then (if (wrap64 (a1 + 3)) < (l0.length : Int) then (if 0 ≤ (wrap64 (a1 + 3)) then ((spec_scWhite.f (rd l0 (wrap64 (a1 + 3)))).bind fun t150 => (if t150 = true then (some true) else (some ((rd l0 (wrap64 (a1 + 3))) == 10)))) else (none)) else (some false)) else (some false))) else (none)) else (none)) = some r := h
  clear h
  by_cases c3 : 0 ≤ a1
  · rw [if_pos c3] at H
    have c3b0 := eq_true c3
    have c3b1 : decide (0 ≤ a1) = true := decide_eq_true c3
    clear c3
    by_cases c4 : a1 ≤ (l0.length : Int)
    · rw [if_pos c4] at H
      have c4b0 := eq_true c4
      have c4b1 : decide (a1 ≤ (l0.length : Int)) = true := decide_eq_true c4
      clear c4
      replace H := Option.bind_eq_some_iff.mp H
      obtain ⟨t148, A50, H⟩ := H
      replace H : (if t148 = true then (if (wrap64 (a1 + 3)) < (l0.length : Int) then (if 0 ≤ (wrap64 (a1 + 3)) then ((spec_scWhite.f (rd l0 (wrap64 (a1 + 3)))).bind fun t150 => (if t150 = true then (some true) else (some ((rd l0 (wrap64 (a1 + 3))) == 10)))) else (none)) else (some false)) else (some false)) = some r := H
      have A5 := Aside0.mk A50
      clear A50
      by_cases c6 : t148 = true
      · subst c6
        have H1 : (if (wrap64 (a1 + 3)) < (l0.length : Int) then (if 0 ≤ (wrap64 (a1 + 3)) then ((spec_scWhite.f (rd l0 (wrap64 (a1 + 3)))).bind fun t150 => (if t150 = true then (some true) else (some ((rd l0 (wrap64 (a1 + 3))) == 10)))) else (none)) else (some false)) = some r := by rw [if_pos rfl] at H; exact H
        clear H
        have H := H1
        clear H1
        by_cases c7 : (wrap64 (a1 + 3)) < (l0.length : Int)
        · rw [if_pos c7] at H
          have c7b0 : decide ((wrap64 (a1 + 3)) < (l0.length : Int)) = true := decide_eq_true c7
          clear c7
          obtain ⟨ji8, hji8⟩ : ∃ j_ : Int, (wrap64 (a1 + 3)) = j_ := ⟨_, rfl⟩
          replace H : (if 0 ≤ (ji8) then ((spec_scWhite.f (rd l0 (ji8))).bind fun t150 => (if t150 = true then (some true) else (some ((rd l0 (ji8)) == 10)))) else (none)) = some r := by first | (rw [hji8] at H; exact H) | (simp only [hji8] at H ⊢; exact H)
          (try rw [hji8] at c7b0)
          (try rw [hji8] at A5)
          have hji8w : (IntKind.i64.wrap (a1 + 3)) = ji8 := (i64_w _).trans hji8
          by_cases c9 : 0 ≤ (ji8)
          · rw [if_pos c9] at H
            have c9b0 : decide (0 ≤ (ji8)) = true := decide_eq_true c9
            clear c9
            replace H := Option.bind_eq_some_iff.mp H
            obtain ⟨t150, A100, H⟩ := H
            replace H : (if t150 = true then (some true) else (some ((rd l0 (ji8)) == 10))) = some r := H
            have A10 := Aside0.mk A100
            clear A100
            by_cases c11 : t150 = true
            · subst c11
              have H1 : (some true) = some r := by rw [if_pos rfl] at H; exact H
              clear H
              have H := H1
              clear H1
              obtain rfl := Option.some.inj H
              obtain ⟨i012, hi012, _, hsz12, _⟩ := info_parts info21
              obtain ⟨A12, hcut12, hA12, hC12⟩ := print_drop_of (P := Tryd.prog) (Value.int .i32) 0 32 21 .i64 Tryd.underlying32 hi012 hsz12 A0 c0 l0 a1 (of_decide_eq_true (by first | (with_reducible assumption) | assumption)) (of_decide_eq_true (by first | (with_reducible assumption) | assumption)) HC0.out
              have HR147 := Aside0.mk (Kd.C_of_reads (h1 := fun _ => rfl) (hA12 _ (Kd.reads_of_C HR0.out)))
              have HC147 := Aside0.mk hC12
              clear hA12 hC12 hi012 hsz12
              go_enter Tryd.func27, Tryd.ntmps27
              go_wp2_with (first | ((with_reducible refine gate_callee (f := 34) rfl ?_); refine goesL_ (some 8) rfl rfl Tryd.func34 (by kernel_rfl) rfl #[.slice A12 (l0.drop (a1 : Int).toNat).length (c0 - a1.toNat)] rfl (by (try simp only [List.map_toArray, List.map_cons, List.map_nil]); first | done | (rw [show (l0.drop (a1 : Int).toNat).length = (l0.length - a1.toNat) from List.length_drop] <;> rfl) | rfl | (simp only [List.length_drop, List.length_take]; rfl)) ?_; (with_reducible refine (spec_scMarker.calls _ _ (l0.drop (a1 : Int).toNat) true _ ?side1 ?side2 A5.out).mono ?_); (case side1 => repeat (first | exact HR147.out | (with_reducible refine Kd.C_alloc ?_ _) | (with_reducible refine Kd.C_drewN ?_ _) | (with_reducible refine Kd.C_drew ?_))); (case side2 => exact HC147.out); rintro e w' ⟨rfl, ⟨nd, rfl⟩⟩; refine ⟨_, rfl, ?_⟩; have p149 : 0 ≤ ((ji8) : Int) := of_decide_eq_true (by first | (with_reducible assumption) | assumption); have q149 : (ji8) < (l0.length : Int) := of_decide_eq_true (by first | (with_reducible assumption) | assumption); obtain ⟨ad149, e149, hx149_0⟩ := Kd.at_int HR0.out (ji8) p149 q149; cases e149; replace p149 := eq_true p149; replace q149 := eq_true q149) | (go_at_call 15; (with_reducible refine (spec_scWhite.calls (rd l0 (ji8)) true _ A10.out).mono ?_); rintro e w' ⟨rfl, ⟨nd, rfl⟩⟩))
              go_ret
              exact ⟨by first | rfl | (simp; done) | (simp only [← hji8] <;> (first | rfl | simp)) | (simp [*]; done), by repeat (first | exact Drawn0.refl _ | apply Drawn0.step)⟩
            · replace c11 := Bool.eq_false_iff.mpr c11
              subst c11
              have H1 : (some ((rd l0 (ji8)) == 10)) = some r := by rw [if_neg (show ¬ (false = true) by decide)] at H; exact H
              clear H
              have H := H1
              clear H1
              obtain rfl := Option.some.inj H
              obtain ⟨i013, hi013, _, hsz13, _⟩ := info_parts info21
              obtain ⟨A13, hcut13, hA13, hC13⟩ := print_drop_of (P := Tryd.prog) (Value.int .i32) 0 32 21 .i64 Tryd.underlying32 hi013 hsz13 A0 c0 l0 a1 (of_decide_eq_true (by first | (with_reducible assumption) | assumption)) (of_decide_eq_true (by first | (with_reducible assumption) | assumption)) HC0.out
              have HR147 := Aside0.mk (Kd.C_of_reads (h1 := fun _ => rfl) (hA13 _ (Kd.reads_of_C HR0.out)))
              have HC147 := Aside0.mk hC13
              clear hA13 hC13 hi013 hsz13
              go_enter Tryd.func27, Tryd.ntmps27
              go_wp2_with (first | ((with_reducible refine gate_callee (f := 34) rfl ?_); refine goesL_ (some 8) rfl rfl Tryd.func34 (by kernel_rfl) rfl #[.slice A13 (l0.drop (a1 : Int).toNat).length (c0 - a1.toNat)] rfl (by (try simp only [List.map_toArray, List.map_cons, List.map_nil]); first | done | (rw [show (l0.drop (a1 : Int).toNat).length = (l0.length - a1.toNat) from List.length_drop] <;> rfl) | rfl | (simp only [List.length_drop, List.length_take]; rfl)) ?_; (with_reducible refine (spec_scMarker.calls _ _ (l0.drop (a1 : Int).toNat) true _ ?side1 ?side2 A5.out).mono ?_); (case side1 => repeat (first | exact HR147.out | (with_reducible refine Kd.C_alloc ?_ _) | (with_reducible refine Kd.C_drewN ?_ _) | (with_reducible refine Kd.C_drew ?_))); (case side2 => exact HC147.out); rintro e w' ⟨rfl, ⟨nd, rfl⟩⟩; refine ⟨_, rfl, ?_⟩; have p149 : 0 ≤ ((ji8) : Int) := of_decide_eq_true (by first | (with_reducible assumption) | assumption); have q149 : (ji8) < (l0.length : Int) := of_decide_eq_true (by first | (with_reducible assumption) | assumption); obtain ⟨ad149, e149, hx149_0⟩ := Kd.at_int HR0.out (ji8) p149 q149; cases e149; replace p149 := eq_true p149; replace q149 := eq_true q149) | (go_at_call 15; (with_reducible refine (spec_scWhite.calls (rd l0 (ji8)) false _ A10.out).mono ?_); rintro e w' ⟨rfl, ⟨nd, rfl⟩⟩; have p151 : 0 ≤ ((ji8) : Int) := of_decide_eq_true (by first | (with_reducible assumption) | assumption); have q151 : (ji8) < (l0.length : Int) := of_decide_eq_true (by first | (with_reducible assumption) | assumption); obtain ⟨ad151, e151, hx151_0⟩ := Kd.at_int HR0.out (ji8) p151 q151; obtain rfl : ad149 = ad151 := (by injection e151); replace p151 := eq_true p151; replace q151 := eq_true q151))
              go_ret
              exact ⟨by first | rfl | (simp; done) | (simp only [← hji8] <;> (first | rfl | simp)) | (simp [*]; done), by repeat (first | exact Drawn0.refl _ | apply Drawn0.step)⟩
          · rw [if_neg c9] at H
            exact absurd H (by simp)
        · rw [if_neg c7] at H
          have c7b0 : decide ((wrap64 (a1 + 3)) < (l0.length : Int)) = false := decide_eq_false c7
          clear c7
          obtain rfl := Option.some.inj H
          obtain ⟨i014, hi014, _, hsz14, _⟩ := info_parts info21
          obtain ⟨A14, hcut14, hA14, hC14⟩ := print_drop_of (P := Tryd.prog) (Value.int .i32) 0 32 21 .i64 Tryd.underlying32 hi014 hsz14 A0 c0 l0 a1 (of_decide_eq_true (by first | (with_reducible assumption) | assumption)) (of_decide_eq_true (by first | (with_reducible assumption) | assumption)) HC0.out
          have HR147 := Aside0.mk (Kd.C_of_reads (h1 := fun _ => rfl) (hA14 _ (Kd.reads_of_C HR0.out)))
          have HC147 := Aside0.mk hC14
          clear hA14 hC14 hi014 hsz14
          go_enter Tryd.func27, Tryd.ntmps27
          go_wp2_with (first | ((with_reducible refine gate_callee (f := 34) rfl ?_); refine goesL_ (some 8) rfl rfl Tryd.func34 (by kernel_rfl) rfl #[.slice A14 (l0.drop (a1 : Int).toNat).length (c0 - a1.toNat)] rfl (by (try simp only [List.map_toArray, List.map_cons, List.map_nil]); first | done | (rw [show (l0.drop (a1 : Int).toNat).length = (l0.length - a1.toNat) from List.length_drop] <;> rfl) | rfl | (simp only [List.length_drop, List.length_take]; rfl)) ?_; (with_reducible refine (spec_scMarker.calls _ _ (l0.drop (a1 : Int).toNat) true _ ?side1 ?side2 A5.out).mono ?_); (case side1 => repeat (first | exact HR147.out | (with_reducible refine Kd.C_alloc ?_ _) | (with_reducible refine Kd.C_drewN ?_ _) | (with_reducible refine Kd.C_drew ?_))); (case side2 => exact HC147.out); rintro e w' ⟨rfl, ⟨nd, rfl⟩⟩; refine ⟨_, rfl, ?_⟩))
          go_ret
          exact ⟨by first | rfl | (simp; done) | (simp [*]; done), by repeat (first | exact Drawn0.refl _ | apply Drawn0.step)⟩
      · replace c6 := Bool.eq_false_iff.mpr c6
        subst c6
        have H1 : (some false) = some r := by rw [if_neg (show ¬ (false = true) by decide)] at H; exact H
        clear H
        have H := H1
        clear H1
        obtain rfl := Option.some.inj H
        obtain ⟨i015, hi015, _, hsz15, _⟩ := info_parts info21
        obtain ⟨A15, hcut15, hA15, hC15⟩ := print_drop_of (P := Tryd.prog) (Value.int .i32) 0 32 21 .i64 Tryd.underlying32 hi015 hsz15 A0 c0 l0 a1 (of_decide_eq_true (by first | (with_reducible assumption) | assumption)) (of_decide_eq_true (by first | (with_reducible assumption) | assumption)) HC0.out
        have HR147 := Aside0.mk (Kd.C_of_reads (h1 := fun _ => rfl) (hA15 _ (Kd.reads_of_C HR0.out)))
        have HC147 := Aside0.mk hC15
        clear hA15 hC15 hi015 hsz15
        go_enter Tryd.func27, Tryd.ntmps27
        go_wp2_with (first | ((with_reducible refine gate_callee (f := 34) rfl ?_); refine goesL_ (some 8) rfl rfl Tryd.func34 (by kernel_rfl) rfl #[.slice A15 (l0.drop (a1 : Int).toNat).length (c0 - a1.toNat)] rfl (by (try simp only [List.map_toArray, List.map_cons, List.map_nil]); first | done | (rw [show (l0.drop (a1 : Int).toNat).length = (l0.length - a1.toNat) from List.length_drop] <;> rfl) | rfl | (simp only [List.length_drop, List.length_take]; rfl)) ?_; (with_reducible refine (spec_scMarker.calls _ _ (l0.drop (a1 : Int).toNat) false _ ?side1 ?side2 A5.out).mono ?_); (case side1 => repeat (first | exact HR147.out | (with_reducible refine Kd.C_alloc ?_ _) | (with_reducible refine Kd.C_drewN ?_ _) | (with_reducible refine Kd.C_drew ?_))); (case side2 => exact HC147.out); rintro e w' ⟨rfl, ⟨nd, rfl⟩⟩; refine ⟨_, rfl, ?_⟩))
        go_ret
        exact ⟨by first | rfl | (simp; done) | (simp [*]; done), by repeat (first | exact Drawn0.refl _ | apply Drawn0.step)⟩
    · rw [if_neg c4] at H
      exact absurd H (by simp)
  · rw [if_neg c3] at H
    exact absurd H (by simp)

end Go.Proofs.YtpimdceafnhmlaaDoor.PFnPartQuotesWith
