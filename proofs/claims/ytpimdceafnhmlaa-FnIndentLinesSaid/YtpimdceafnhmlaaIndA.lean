/-
  THE WALKS of scSpaces and Shifted: the lines are those that print.sh wrote for this law, but for one more fact at the end of the first, without which it did not build.
-/
import Derived.Test.YtpimdceafnhmlaaPFnIndentLinesx0
namespace Go.Proofs.Ytpimdceafnhmlaa.Ind
open Go.Proofs.Ytpimdceafnhmlaa.PFnIndentLines Go.RowKit Go.Proofs.YtpimdceafnhmlaaW.PrintWords Go.Proofs.YtpimdceafnhmlaaW.PrintLast Go.Proofs.YtpimdceafnhmlaaW.PrintMore
attribute [local go_sem] max2_int min2_int max_two min_two max_three min_three max_four min_four   -- for this text's walks alone
set_option linter.unusedVariables false
set_option linter.unusedSimpArgs false

/-! ### spec_scSpaces: function 29 -/
def spec_scSpaces.l0 : Nat → List Int → Int → Int → Option (ByteArray)
  | 0, _, _, _ => none
  | k + 1, x3, x9, x10 => if x10 < x9 then (if 0 ≤ x10 then (if x10 < (x3.length : Int) then (spec_scSpaces.l0 k (x3.set (x10 : Int).toNat 32) x9 (wrap64 (x10 + 1))) else (none)) else (none)) else (some (strOfNums x3))
def spec_scSpaces.f (k : Nat) (a0 : Int) : Option (ByteArray) := if 0 ≤ (mx a0 0) then (if (mx a0 0 : Int).toNat ≤ 281474976710656 then ((some (List.replicate (mx a0 0 : Int).toNat 0 : List Int)).bind fun y125 => (spec_scSpaces.l0 k y125 (y125.length : Int) 0)) else (none)) else (none)
theorem spec_scSpaces.mono_l : ∀ k, (∀ y0 y1 y2, LeO (spec_scSpaces.l0 k y0 y1 y2) (spec_scSpaces.l0 (k + 1) y0 y1 y2))
  | 0 => fun _ _ _ r h => by simp [spec_scSpaces.l0] at h
  | k + 1 => by
    have ih0 := spec_scSpaces.mono_l k
    · intro y0 y1 y2
      unfold spec_scSpaces.l0
      repeat' first
      | (with_reducible exact ih0 _ _ _)
      | (with_reducible exact LeO.refl _)
      | (with_reducible exact LeO.none _)
      | (with_reducible refine LeO.ite ?_ ?_)
      | (with_reducible refine LeO.bind ?_ (fun _ => ?_))
      | exact ih0 _ _ _
      | exact LeO.none _
      | refine LeO.ite ?_ ?_
      | refine LeO.bind ?_ (fun _ => ?_)
theorem spec_scSpaces.mono : ∀ a0 k, LeO (spec_scSpaces.f k a0) (spec_scSpaces.f (k + 1) a0) := by
  intro a0 k
  have ih0 := spec_scSpaces.mono_l k
  unfold spec_scSpaces.f
  repeat' first
      | (with_reducible exact ih0 _ _ _)
      | (with_reducible exact LeO.refl _)
      | (with_reducible exact LeO.none _)
      | (with_reducible refine LeO.ite ?_ ?_)
      | (with_reducible refine LeO.bind ?_ (fun _ => ?_))
      | exact ih0 _ _ _
      | exact LeO.none _
      | refine LeO.ite ?_ ?_
      | refine LeO.bind ?_ (fun _ => ?_)
set_option maxHeartbeats 8000000 in
set_option maxRecDepth 100000 in
theorem spec_scSpaces.calls (k : Nat) (a0 : Int) (r : ByteArray) (w : World) (h : spec_scSpaces.f k a0 = some r) :
    Calls Try.prog 29 #[.int .i64 a0] w fun e w' => e = .returned (.string r) ∧ Below w.heap.size w w' := by
  have HB := Aside0.mk (Below.refl w.heap.size w)
  have H : (if 0 ≤ (mx a0 0) then (if (mx a0 0 : Int).toNat ≤ 281474976710656 then ((some (List.replicate (mx a0 0 : Int).toNat 0 : List Int)).bind fun y125 => (spec_scSpaces.l0 k y125 (y125.length : Int) 0)) else (none)) else (none)) = some r := h
  clear h
  obtain ⟨ji2, hji2⟩ : ∃ j_ : Int, (mx a0 0) = j_ := ⟨_, rfl⟩
  replace H : (if 0 ≤ (ji2) then (if (ji2 : Int).toNat ≤ 281474976710656 then ((some (List.replicate (ji2 : Int).toNat 0 : List Int)).bind fun y125 => (spec_scSpaces.l0 k y125 (y125.length : Int) 0)) else (none)) else (none)) = some r := by first | (rw [hji2] at H; exact H) | (simp only [hji2] at H ⊢; exact H)
  (try (have hji2l : 0 ≤ ji2 := by (rw [← hji2]; unfold mx; (repeat' split) <;> omega)))
  (try (have hji2m : 0 ≤ ji2 := by omega))
  have hji2_ : (if a0 < 0 then 0 else a0) = ji2 := hji2
  by_cases c3 : 0 ≤ (ji2)
  · rw [if_pos c3] at H
    have c3b0 := eq_true c3
    have c3b1 : decide (0 ≤ (ji2)) = true := decide_eq_true c3
    clear c3
    by_cases c4 : (ji2 : Int).toNat ≤ 281474976710656
    · rw [if_pos c4] at H
      have c4b0 := eq_true c4
      have c4b1 : decide ((ji2 : Int).toNat ≤ 281474976710656) = true := decide_eq_true c4
      clear c4
      obtain ⟨y125, hy125⟩ : ∃ y_ : List Int, y_ = (List.replicate (ji2 : Int).toNat 0) := ⟨_, rfl⟩
      replace H : (spec_scSpaces.l0 k y125 (y125.length : Int) 0) = some r := by first | (rw [hy125]; with_reducible exact H) | (have H2_ := (Option.bind_some _ _).symm.trans H; rw [hy125]; with_reducible exact H2_) | (have H2_ := (Option.bind_some _ _).symm.trans H; with_reducible exact H2_) | with_reducible exact H | (rw [hy125]; exact H) | exact H
      have Ny125 := Aside0.mk hy125
      clear hy125
      have H' := Aside0.mk H
      clear H
      go_enter Try.func29, Try.ntmps29
      go_wp2_with (first | ((with_reducible refine gate_dst (N := 7) rfl ?_); refine Kd.R_make (Kd.int .u8) _ 5 rfl (N := 7) rfl 28 _ _ rfl ji2 rfl rfl Try.underlying28 (.int .u8 0) 1 info5 rfl (by decide) (by omega) 0 (ok := fun _ => True) (okp := fun _ => True) rfl (fun _ hk => hk) trivial (of_decide_eq_true (by first | (with_reducible assumption) | assumption)) (Nat.le_trans (Nat.mul_le_mul_right _ (of_decide_eq_true (by first | (with_reducible assumption) | assumption) : ji2.toNat ≤ 281474976710656)) (by omega)) (Below.refl _ _) (Nat.le_refl _) ?_; intro v126 w5 ho6 hb hg_ hnew_; clear hg_ hnew_; (first | rw [← Ny125.out] at ho6 | (simp only [Int.reduceToNat] at ho6; rw [← Ny125.out] at ho6)); have n0_ := Aside0.mk (Kd.R_lower ho6 (below_size (by repeat (first | (with_reducible first | exact HB.out | apply below_alloc | apply pw_below_drewN | apply below_drew1) | exact HB.out)))); have n1_ := Aside0.mk (below_step (by repeat (first | (with_reducible first | exact HB.out | apply below_alloc | apply pw_below_drewN | apply below_drew1) | exact HB.out)) hb); clear HB; have HO127 := n0_; have HB := n1_; clear n0_ n1_; clear hb ho6; obtain ⟨Ao7, co7, eo7⟩ := Kd.R_slice HO127.out; subst eo7))
      go_loopg [10] k (fun kq v10 w' => ∃ (x3_1 : List Int) (x10_1 : Int), v10 = .int .i64 x10_1 ∧ Aside0 (spec_scSpaces.l0 kq x3_1 (y125.length : Int) x10_1 = some r) ∧ Aside0 (kq ≤ k) ∧ Aside0 (Kd.R (Kd.int .u8) 5 w' w.heap.size (fun _ => True) (.slice Ao7 y125.length co7) x3_1) ∧ Aside0 (Below w.heap.size w w'))
      case atStart => exact ⟨(y125), (0), (by first | rfl | (simp; done) | (simp [*]; done)), H', ⟨Nat.le_refl _⟩, ⟨by (with_reducible repeat (first | apply Kd.R_alloc | apply Kd.R_drewN | apply Kd.R_drew)); exact HO127.out⟩, ⟨by repeat (first | (with_reducible first | exact HB.out | apply below_alloc | apply pw_below_drewN | apply below_drew1) | exact HB.out)⟩⟩
      case round =>
        clear H'
        try clear c2
        try clear p2
        try clear c3
        try clear c3b0
        try clear c3b1
        try clear c4
        try clear c4b0
        try clear c4b1
        obtain ⟨x3_1, x10_1, rfl, HA, HK1, HO_3, HB⟩ := hrel
        have hl3_1 := (Kd.R_reads' HO_3.out).1
        rw [hl3_1] at HO_3
        (try simp only [hl3_1])
        cases gk with
        | zero => exact absurd HA.out (by simp [spec_scSpaces.l0])
        | succ k1 =>
          have H := HA.out
          clear HA
          simp only [spec_scSpaces.l0] at H
          by_cases c8 : x10_1 < (y125.length : Int)
          · rw [if_pos c8] at H
            have c8b0 : decide (x10_1 < (y125.length : Int)) = true := decide_eq_true c8
            clear c8
            by_cases c9 : 0 ≤ x10_1
            · rw [if_pos c9] at H
              have c9b0 : decide (0 ≤ x10_1) = true := decide_eq_true c9
              clear c9
              by_cases c10 : x10_1 < (x3_1.length : Int)
              · rw [if_pos c10] at H
                have c10b0 : decide (x10_1 < (x3_1.length : Int)) = true := decide_eq_true c10
                clear c10
                obtain ⟨y128, hy128⟩ : ∃ y_ : List Int, y_ = (x3_1.set (x10_1 : Int).toNat 32) := ⟨_, rfl⟩
                replace H : (spec_scSpaces.l0 k1 y128 (y125.length : Int) (wrap64 (x10_1 + 1))) = some r := by first | (rw [hy128]; with_reducible exact H) | (have H2_ := (Option.bind_some _ _).symm.trans H; rw [hy128]; with_reducible exact H2_) | (have H2_ := (Option.bind_some _ _).symm.trans H; with_reducible exact H2_) | with_reducible exact H | (rw [hy128]; exact H) | exact H
                have Ny128 := Aside0.mk hy128
                clear hy128
                have H' := Aside0.mk H
                clear H
                have p11 : 0 ≤ (x10_1 : Int) := of_decide_eq_true (by first | (with_reducible assumption) | assumption)
                have q11 : (x10_1 : Int) < ((x3_1.length : Int) : Int) := of_decide_eq_true (by first | (with_reducible assumption) | assumption)
                obtain ⟨go11, co11, eo11, gb11, gl11, cl11, HG11⟩ := Kd.R_form HO_3.out (by omega)
                (first | cases eo11 | (injection eo11 with ea_ en_ ec_; (first | subst ea_ | (injection ea_ with ea_; subst ea_)); subst ec_; clear en_))
                have GB11 := Aside0.mk gb11
                have GG11 := Aside0.mk HG11
                clear gb11 gl11 HG11
                obtain ⟨hx11_0, hf11_0⟩ := Kd.R_celln 0 HO_3.out (x10_1 : Int) p11 q11
                replace p11 := eq_true p11
                replace q11 := eq_true q11
                have HP12 := Kd.R_putg HO_3.out (x10_1 : Int) 32
                go_wp2_with (first | ((with_reducible refine gate_store (t := 5) (p := 15) rfl ?_); refine store_event (t := 5) (p := 15) (v := ?vo_w13) (w1 := (wr.setCell ⟨go11, (x10_1 : Int).toNat, none⟩ (.int .u8 32))) ?hg ?ho ?hn ?hr ?_; (case ho => rfl); (case hg => rfl); (case hn => rfl); (case hr => first | (go_simp; done) | (go_simp; rfl)); intro w13 hw; have hg : wr.grownBy w13 (some go11) := (by rw [hw]; exact HP12.2); have hp_ : Kd.R (Kd.int .u8) 5 w13 w.heap.size (fun _ => True) (.slice (some ⟨go11, 0, none⟩) x3_1.length co7) y128 := (by rw [hw, Ny128.out]; exact HP12.1); clear HP12; have n0_ := Aside0.mk (hp_); have n1_ := Aside0.mk ((by rw [hw]; exact below_set (HB.out) GB11.out : Below w.heap.size w w13)); clear HO_3; clear HB; have HO_3 := n0_; have HB := n1_; clear n0_ n1_; clear hg hw hp_))
                (try simp only [← hl3_1])
                go_roundg k1
                case measure => have := HK1.out; omega
                case rel => exact ⟨(y128), (wrap64 (x10_1 + 1)), (by first | rfl | (simp; done) | (simp [*]; done)), H', ⟨by have := HK1.out; omega⟩, ⟨by (try simp only [hl3_1]); (with_reducible repeat (first | apply Kd.R_alloc | apply Kd.R_drewN | apply Kd.R_drew)); exact HO_3.out⟩, ⟨by repeat (first | (with_reducible first | exact HB.out | apply below_alloc | apply pw_below_drewN | apply below_drew1) | exact HB.out)⟩⟩
              · rw [if_neg c10] at H
                exact absurd H (by simp)
            · rw [if_neg c9] at H
              exact absurd H (by simp)
          · rw [if_neg c8] at H
            have c8b0 : decide (x10_1 < (y125.length : Int)) = false := decide_eq_false c8
            clear c8
            obtain rfl := Option.some.inj H
            have hcv14 := own_string (P := Try.prog) Try.underlying28 Try.underlying5 Try.underlying9 (Kd.own_of_R HO_3.out)
            have c8b1 : decide (x10_1 < (x3_1.length : Int)) = false := by rw [← hl3_1]; exact c8b0
            go_wp2
            go_ret
            exact ⟨by first | rfl | (simp [errW_none, errW_some] <;> rfl) | (simp only [← hji2]; first | rfl | (simp [errW_none, errW_some] <;> rfl)) | (simp [*, errW_none, errW_some] <;> rfl), by repeat (first | (with_reducible first | exact HB.out | apply below_alloc | apply pw_below_drewN | apply below_drew1) | exact HB.out)⟩
    · rw [if_neg c4] at H
      exact absurd H (by simp)
  · rw [if_neg c3] at H
    exact absurd H (by simp)

/-! ### spec_Shifted: function 19 -/
def spec_Shifted.l0 : Nat → ByteArray → Int → Bool → List Int → Int → Option (ByteArray)
  | 0, _, _, _, _, _ => none
  | k + 1, x0, x1, x2, x7, x8 => if x8 < (x0.size : Int) then (if x8 = 0 then (if x2 = true then (if x8 > 0 then (if 0 ≤ (wrap64 (x8 - 1)) then (if (wrap64 (x8 - 1)) < (x0.size : Int) then (if (bt x0 (wrap64 (x8 - 1))) = 10 then ((spec_scSpaces.f k x1).bind fun t129 => (if x7.length + t129.size < 140737488355328 then ((some (x7 ++ bytesOf t129 : List Int)).bind fun y130 => (if 0 ≤ x8 then (if y130.length < 140737488355328 then (spec_Shifted.l0 k x0 x1 x2 (y130 ++ [bt x0 x8]) (wrap64 (x8 + 1))) else (none)) else (none))) else (none))) else (if 0 ≤ x8 then (if x7.length < 140737488355328 then (spec_Shifted.l0 k x0 x1 x2 (x7 ++ [bt x0 x8]) (wrap64 (x8 + 1))) else (none)) else (none))) else (none)) else (none)) else (if 0 ≤ x8 then (if x7.length < 140737488355328 then (spec_Shifted.l0 k x0 x1 x2 (x7 ++ [bt x0 x8]) (wrap64 (x8 + 1))) else (none)) else (none))) else ((spec_scSpaces.f k x1).bind fun t142 => (if x7.length + t142.size < 140737488355328 then ((some (x7 ++ bytesOf t142 : List Int)).bind fun y143 => (if 0 ≤ x8 then (if y143.length < 140737488355328 then (spec_Shifted.l0 k x0 x1 x2 (y143 ++ [bt x0 x8]) (wrap64 (x8 + 1))) else (none)) else (none))) else (none)))) else (if x8 > 0 then (if 0 ≤ (wrap64 (x8 - 1)) then (if (wrap64 (x8 - 1)) < (x0.size : Int) then (if (bt x0 (wrap64 (x8 - 1))) = 10 then ((spec_scSpaces.f k x1).bind fun t149 => (if x7.length + t149.size < 140737488355328 then ((some (x7 ++ bytesOf t149 : List Int)).bind fun y150 => (if 0 ≤ x8 then (if y150.length < 140737488355328 then (spec_Shifted.l0 k x0 x1 x2 (y150 ++ [bt x0 x8]) (wrap64 (x8 + 1))) else (none)) else (none))) else (none))) else (if 0 ≤ x8 then (if x7.length < 140737488355328 then (spec_Shifted.l0 k x0 x1 x2 (x7 ++ [bt x0 x8]) (wrap64 (x8 + 1))) else (none)) else (none))) else (none)) else (none)) else (if 0 ≤ x8 then (if x7.length < 140737488355328 then (spec_Shifted.l0 k x0 x1 x2 (x7 ++ [bt x0 x8]) (wrap64 (x8 + 1))) else (none)) else (none)))) else (some (strOfNums x7))
def spec_Shifted.f (k : Nat) (a0 : ByteArray) (a1 : Int) (a2 : Bool) : Option (ByteArray) := spec_Shifted.l0 k a0 a1 a2 ([] : List Int) 0
theorem spec_Shifted.mono_l : ∀ k, (∀ y0 y1 y2 y3 y4, LeO (spec_Shifted.l0 k y0 y1 y2 y3 y4) (spec_Shifted.l0 (k + 1) y0 y1 y2 y3 y4))
  | 0 => fun _ _ _ _ _ r h => by simp [spec_Shifted.l0] at h
  | k + 1 => by
    have ih0 := spec_Shifted.mono_l k
    · intro y0 y1 y2 y3 y4
      unfold spec_Shifted.l0
      repeat' first
      | (with_reducible exact ih0 _ _ _ _ _)
      | (with_reducible exact spec_scSpaces.mono _ _)
      | (with_reducible exact LeO.refl _)
      | (with_reducible exact LeO.none _)
      | (with_reducible refine LeO.ite ?_ ?_)
      | (with_reducible refine LeO.bind ?_ (fun _ => ?_))
      | exact ih0 _ _ _ _ _
      | exact spec_scSpaces.mono _ _
      | exact LeO.none _
      | refine LeO.ite ?_ ?_
      | refine LeO.bind ?_ (fun _ => ?_)
theorem spec_Shifted.mono : ∀ a0 a1 a2 k, LeO (spec_Shifted.f k a0 a1 a2) (spec_Shifted.f (k + 1) a0 a1 a2) := by
  intro a0 a1 a2 k
  have ih0 := spec_Shifted.mono_l k
  unfold spec_Shifted.f
  repeat' first
      | (with_reducible exact ih0 _ _ _ _ _)
      | (with_reducible exact spec_scSpaces.mono _ _)
      | (with_reducible exact LeO.refl _)
      | (with_reducible exact LeO.none _)
      | (with_reducible refine LeO.ite ?_ ?_)
      | (with_reducible refine LeO.bind ?_ (fun _ => ?_))
      | exact ih0 _ _ _ _ _
      | exact spec_scSpaces.mono _ _
      | exact LeO.none _
      | refine LeO.ite ?_ ?_
      | refine LeO.bind ?_ (fun _ => ?_)
set_option maxHeartbeats 8000000 in
set_option maxRecDepth 100000 in
theorem spec_Shifted.calls (k : Nat) (a0 : ByteArray) (a1 : Int) (a2 : Bool) (r : ByteArray) (w : World) (h : spec_Shifted.f k a0 a1 a2 = some r) :
    Calls Try.prog 19 #[.string a0, .int .i64 a1, .bool a2] w fun e w' => e = .returned (.string r) ∧ Below w.heap.size w w' := by
  have HB := Aside0.mk (Below.refl w.heap.size w)
  have H : (spec_Shifted.l0 k a0 a1 a2 ([] : List Int) 0) = some r := h
  clear h
  have H' := Aside0.mk H
  clear H
  go_enter Try.func19, Try.ntmps19
  go_wp2
  go_loopg [7, 8] k (fun kq v7 v8 w' => ∃ (x7_1 : List Int) (x8_1 : Int), v8 = .int .i64 x8_1 ∧ Aside0 (spec_Shifted.l0 kq a0 a1 a2 x7_1 x8_1 = some r) ∧ Aside0 (kq ≤ k) ∧ Aside0 (Kd.R (Kd.int .u8) 5 w' w.heap.size (fun _ => True) v7 x7_1) ∧ Aside0 (Below w.heap.size w w'))
  case atStart => exact ⟨(([] : List Int)), (0), (by first | rfl | (simp; done) | (simp [*]; done)), H', ⟨Nat.le_refl _⟩, ⟨by first | exact Kd.R_nil _ _ _ _ _ | exact Kd.N_nil _ _ _ _ _ | exact Kd.V_nil _ _ _ _ _ | exact Kd.Q_nil _ _ _ _ _ | exact Kd.S_nil _ _ _ _ _⟩, ⟨by repeat (first | (with_reducible first | exact HB.out | apply below_alloc | apply pw_below_drewN | apply below_drew1) | exact HB.out)⟩⟩
  case round =>
    clear H'
    try clear c1
    try clear p2
    obtain ⟨x7_1, x8_1, rfl, HA, HK1, HO_7, HB⟩ := hrel
    cases gk with
    | zero => exact absurd HA.out (by simp [spec_Shifted.l0])
    | succ k1 =>
      have H := HA.out
      clear HA
      simp only [spec_Shifted.l0] at H
      by_cases c4 : x8_1 < (a0.size : Int)
      · rw [if_pos c4] at H
        have c4b0 : decide (x8_1 < (a0.size : Int)) = true := decide_eq_true c4
        clear c4
        by_cases c5 : x8_1 = 0
        · rw [if_pos c5] at H
          have c5b0 : (x8_1 == 0) = true := beq_iff_eq.mpr c5
          have c5b1 : (x8_1 != 0) = false := bne_eq_false_iff_eq.mpr c5
          clear c5
          by_cases c6 : a2 = true
          · subst c6
            have H1 : (if x8_1 > 0 then (if 0 ≤ (wrap64 (x8_1 - 1)) then (if (wrap64 (x8_1 - 1)) < (a0.size : Int) then (if (bt a0 (wrap64 (x8_1 - 1))) = 10 then ((spec_scSpaces.f k1 a1).bind fun t129 => (if x7_1.length + t129.size < 140737488355328 then ((some (x7_1 ++ bytesOf t129 : List Int)).bind fun y130 => (if 0 ≤ x8_1 then (if y130.length < 140737488355328 then (spec_Shifted.l0 k1 a0 a1 true (y130 ++ [bt a0 x8_1]) (wrap64 (x8_1 + 1))) else (none)) else (none))) else (none))) else (if 0 ≤ x8_1 then (if x7_1.length < 140737488355328 then (spec_Shifted.l0 k1 a0 a1 true (x7_1 ++ [bt a0 x8_1]) (wrap64 (x8_1 + 1))) else (none)) else (none))) else (none)) else (none)) else (if 0 ≤ x8_1 then (if x7_1.length < 140737488355328 then (spec_Shifted.l0 k1 a0 a1 true (x7_1 ++ [bt a0 x8_1]) (wrap64 (x8_1 + 1))) else (none)) else (none))) = some r := by rw [if_pos rfl] at H; exact H
            clear H
            have H := H1
            clear H1
            by_cases c7 : x8_1 > 0
            · rw [if_pos c7] at H
              have c7b0 : decide (0 < x8_1) = true := decide_eq_true c7
              clear c7
              obtain ⟨ji8, hji8⟩ : ∃ j_ : Int, (wrap64 (x8_1 - 1)) = j_ := ⟨_, rfl⟩
              replace H : (if 0 ≤ (ji8) then (if (ji8) < (a0.size : Int) then (if (bt a0 (ji8)) = 10 then ((spec_scSpaces.f k1 a1).bind fun t129 => (if x7_1.length + t129.size < 140737488355328 then ((some (x7_1 ++ bytesOf t129 : List Int)).bind fun y130 => (if 0 ≤ x8_1 then (if y130.length < 140737488355328 then (spec_Shifted.l0 k1 a0 a1 true (y130 ++ [bt a0 x8_1]) (wrap64 (x8_1 + 1))) else (none)) else (none))) else (none))) else (if 0 ≤ x8_1 then (if x7_1.length < 140737488355328 then (spec_Shifted.l0 k1 a0 a1 true (x7_1 ++ [bt a0 x8_1]) (wrap64 (x8_1 + 1))) else (none)) else (none))) else (none)) else (none)) = some r := by first | (rw [hji8] at H; exact H) | (simp only [hji8] at H ⊢; exact H)
              have hji8w : (IntKind.i64.wrap (x8_1 - 1)) = ji8 := (i64_w _).trans hji8
              by_cases c9 : 0 ≤ (ji8)
              · rw [if_pos c9] at H
                have c9b0 : decide (0 ≤ (ji8)) = true := decide_eq_true c9
                clear c9
                by_cases c10 : (ji8) < (a0.size : Int)
                · rw [if_pos c10] at H
                  have c10b0 : decide ((ji8) < (a0.size : Int)) = true := decide_eq_true c10
                  clear c10
                  by_cases c12 : (bt a0 (ji8)) = 10
                  · rw [if_pos c12] at H
                    have c12b0 : ((bt a0 (ji8)) == 10) = true := beq_iff_eq.mpr c12
                    have c12b1 : ((bt a0 (ji8)) != 10) = false := bne_eq_false_iff_eq.mpr c12
                    clear c12
                    replace H := Option.bind_eq_some_iff.mp H
                    obtain ⟨t129, A130, H⟩ := H
                    replace H : (if x7_1.length + t129.size < 140737488355328 then ((some (x7_1 ++ bytesOf t129 : List Int)).bind fun y130 => (if 0 ≤ x8_1 then (if y130.length < 140737488355328 then (spec_Shifted.l0 k1 a0 a1 true (y130 ++ [bt a0 x8_1]) (wrap64 (x8_1 + 1))) else (none)) else (none))) else (none)) = some r := H
                    have A13 := Aside0.mk A130
                    clear A130
                    by_cases c14 : x7_1.length + t129.size < 140737488355328
                    · rw [if_pos c14] at H
                      have LMc14 := Aside0.mk c14
                      clear c14
                      obtain ⟨y130, hy130⟩ : ∃ y_ : List Int, y_ = (x7_1 ++ bytesOf t129) := ⟨_, rfl⟩
                      replace H : (if 0 ≤ x8_1 then (if y130.length < 140737488355328 then (spec_Shifted.l0 k1 a0 a1 true (y130 ++ [bt a0 x8_1]) (wrap64 (x8_1 + 1))) else (none)) else (none)) = some r := by first | (rw [hy130]; with_reducible exact H) | (have H2_ := (Option.bind_some _ _).symm.trans H; rw [hy130]; with_reducible exact H2_) | (have H2_ := (Option.bind_some _ _).symm.trans H; with_reducible exact H2_) | with_reducible exact H | (rw [hy130]; exact H) | exact H
                      have Ny130 := Aside0.mk hy130
                      clear hy130
                      by_cases c15 : 0 ≤ x8_1
                      · rw [if_pos c15] at H
                        have c15b0 : decide (0 ≤ x8_1) = true := decide_eq_true c15
                        clear c15
                        by_cases c17 : y130.length < 140737488355328
                        · rw [if_pos c17] at H
                          have LMc17 := Aside0.mk c17
                          clear c17
                          obtain ⟨y133, hy133⟩ : ∃ y_ : List Int, y_ = (y130 ++ [bt a0 x8_1]) := ⟨_, rfl⟩
                          replace H : (spec_Shifted.l0 k1 a0 a1 true y133 (wrap64 (x8_1 + 1))) = some r := by first | (rw [hy133]; with_reducible exact H) | (have H2_ := (Option.bind_some _ _).symm.trans H; rw [hy133]; with_reducible exact H2_) | (have H2_ := (Option.bind_some _ _).symm.trans H; with_reducible exact H2_) | with_reducible exact H | (rw [hy133]; exact H) | exact H
                          have Ny133 := Aside0.mk hy133
                          clear hy133
                          have H' := Aside0.mk H
                          clear H
                          have p11 : 0 ≤ ((ji8) : Int) := of_decide_eq_true (by first | (with_reducible assumption) | assumption)
                          have q11 : (ji8) < (a0.size : Int) := of_decide_eq_true (by first | (with_reducible assumption) | assumption)
                          have hx11 := bt_at a0 (ji8)
                          replace p11 := eq_true p11
                          replace q11 := eq_true q11
                          go_wp2_with (first | ((with_reducible refine gate_callee (f := 29) rfl ?_); refine goesL_ (some 34) rfl rfl Try.func29 (by kernel_rfl) rfl #[.int .i64 a1] rfl (by (try simp only [List.map_toArray, List.map_cons, List.map_nil]); first | done | rfl | (simp only [List.length_drop, List.length_take]; rfl)) ?_; (with_reducible refine (spec_scSpaces.calls k1 a1 t129 _ A13.out).mono ?_); rintro e w18 ⟨rfl, hb⟩; refine ⟨_, rfl, ?_⟩; have n0_ := Aside0.mk (Kd.R_below (by (with_reducible repeat (first | apply Kd.R_alloc | apply Kd.R_drewN | apply Kd.R_drew)); exact HO_7.out) hb); have n1_ := Aside0.mk (below_step (by repeat (first | (with_reducible first | exact HB.out | apply below_alloc | apply pw_below_drewN | apply below_drew1) | exact HB.out)) hb); clear HO_7; clear HB; have HO_7 := n0_; have HB := n1_; clear n0_ n1_; (try clear hb); (try clear hb2); (try clear hk); (try clear hi)) | (at_builtin; refine print_append_str (w0 := w) w.heap.size rfl (.tmp 32) _ 28 9 5 rfl Try.underlying28 Try.underlying9 info5 u7 x7_1 t129 rfl rfl ?aO ?aB ?aS ?aL ?_; (case aB => exact (by repeat (first | (with_reducible first | exact HB.out | apply below_alloc | apply pw_below_drewN | apply below_drew1) | exact HB.out))); (case aO => exact (Kd.own_of_R (by (with_reducible repeat (first | apply Kd.R_alloc | apply Kd.R_drewN | apply Kd.R_drew)); exact HO_7.out))); (case aS => exact (below_size (by repeat (first | (with_reducible first | exact HB.out | apply below_alloc | apply pw_below_drewN | apply below_drew1) | exact HB.out)))); (case aL => have := LMc14.out; omega); intro v131 w19 ho0 hb hg; have ho := Kd.R_of_own (h1 := fun _ => rfl) (ok := fun _ => True) ho0 (fun _ _ => trivial); clear ho0; have hat := True.intro; rw [← Ny130.out] at ho; change Kd.R (Kd.int .u8) 5 w19 w.heap.size (fun _ => True) v131 y130 at ho; have n0_ := Aside0.mk (hb); have n1_ := Aside0.mk (ho); clear HB; clear HO_7; have HB := n0_; have HO132 := n1_; clear n0_ n1_; clear ho hb hg hat; have p16 : 0 ≤ (x8_1 : Int) := of_decide_eq_true (by first | (with_reducible assumption) | assumption); have q16 : x8_1 < (a0.size : Int) := of_decide_eq_true (by first | (with_reducible assumption) | assumption); have hx16 := bt_at a0 x8_1; replace p16 := eq_true p16; replace q16 := eq_true q16) | ((with_reducible refine gate_builtin (b := .append) (xs := #[.tmp 36, .tmp 40]) rfl ?_); at_builtin; refine Kd.R_append (Kd.int .u8) (w0 := w) w.heap.size rfl (.tmp 36) (.tmp 40) 28 5 (.int .u8 0) 1 rfl Try.underlying28 info5 rfl (by decide) (by omega) v131 y130 (bt a0 x8_1) [.int .u8 (bt a0 x8_1)] (fun _ => True) (fun _ => False) rfl rfl ?aP (fun _ hk => hk.elim) ?aF ?aO ?aB ?aS ?aL ?_; (case aP => exact rfl); (case aB => exact (by repeat (first | (with_reducible first | exact HB.out | apply below_alloc | apply pw_below_drewN | apply below_drew1) | exact HB.out))); (case aF => exact (fun _ _ => trivial)); (case aO => exact (by (with_reducible repeat (first | apply Kd.R_alloc | apply Kd.R_drewN | apply Kd.R_drew)); exact HO132.out)); (case aS => exact (below_size (by repeat (first | (with_reducible first | exact HB.out | apply below_alloc | apply pw_below_drewN | apply below_drew1) | exact HB.out)))); (case aL => have := LMc17.out; omega); intro v134 w20 ho hb hg hat; rw [← Ny133.out] at ho; have n0_ := Aside0.mk (hb); have n1_ := Aside0.mk (ho); clear HB; clear HO132; have HB := n0_; have HO135 := n1_; clear n0_ n1_; clear ho hb hg hat))
                          go_roundg k1
                          case measure => have := HK1.out; omega
                          case rel => exact ⟨(y133), (wrap64 (x8_1 + 1)), (by first | rfl | (simp; done) | (simp [*]; done)), H', ⟨by have := HK1.out; omega⟩, ⟨by (with_reducible repeat (first | apply Kd.R_alloc | apply Kd.R_drewN | apply Kd.R_drew)); exact HO135.out⟩, ⟨by repeat (first | (with_reducible first | exact HB.out | apply below_alloc | apply pw_below_drewN | apply below_drew1) | exact HB.out)⟩⟩
                        · rw [if_neg c17] at H
                          exact absurd H (by simp)
                      · rw [if_neg c15] at H
                        exact absurd H (by simp)
                    · rw [if_neg c14] at H
                      exact absurd H (by simp)
                  · rw [if_neg c12] at H
                    have c12b0 : ((bt a0 (ji8)) == 10) = false := beq_eq_false_iff_ne.mpr c12
                    have c12b1 : ((bt a0 (ji8)) != 10) = true := bne_iff_ne.mpr c12
                    by_cases c21 : 0 ≤ x8_1
                    · rw [if_pos c21] at H
                      have c21b0 : decide (0 ≤ x8_1) = true := decide_eq_true c21
                      clear c21
                      by_cases c23 : x7_1.length < 140737488355328
                      · rw [if_pos c23] at H
                        have LMc23 := Aside0.mk c23
                        clear c23
                        obtain ⟨y136, hy136⟩ : ∃ y_ : List Int, y_ = (x7_1 ++ [bt a0 x8_1]) := ⟨_, rfl⟩
                        replace H : (spec_Shifted.l0 k1 a0 a1 true y136 (wrap64 (x8_1 + 1))) = some r := by first | (rw [hy136]; with_reducible exact H) | (have H2_ := (Option.bind_some _ _).symm.trans H; rw [hy136]; with_reducible exact H2_) | (have H2_ := (Option.bind_some _ _).symm.trans H; with_reducible exact H2_) | with_reducible exact H | (rw [hy136]; exact H) | exact H
                        have Ny136 := Aside0.mk hy136
                        clear hy136
                        have H' := Aside0.mk H
                        clear H
                        have p11 : 0 ≤ ((ji8) : Int) := of_decide_eq_true (by first | (with_reducible assumption) | assumption)
                        have q11 : (ji8) < (a0.size : Int) := of_decide_eq_true (by first | (with_reducible assumption) | assumption)
                        have hx11 := bt_at a0 (ji8)
                        replace p11 := eq_true p11
                        replace q11 := eq_true q11
                        have p22 : 0 ≤ (x8_1 : Int) := of_decide_eq_true (by first | (with_reducible assumption) | assumption)
                        have q22 : x8_1 < (a0.size : Int) := of_decide_eq_true (by first | (with_reducible assumption) | assumption)
                        have hx22 := bt_at a0 x8_1
                        replace p22 := eq_true p22
                        replace q22 := eq_true q22
                        go_wp2_with (first | ((with_reducible refine gate_builtin (b := .append) (xs := #[.tmp 36, .tmp 40]) rfl ?_); at_builtin; refine Kd.R_append (Kd.int .u8) (w0 := w) w.heap.size rfl (.tmp 36) (.tmp 40) 28 5 (.int .u8 0) 1 rfl Try.underlying28 info5 rfl (by decide) (by omega) u7 x7_1 (bt a0 x8_1) [.int .u8 (bt a0 x8_1)] (fun _ => True) (fun _ => False) rfl rfl ?aP (fun _ hk => hk.elim) ?aF ?aO ?aB ?aS ?aL ?_; (case aP => exact rfl); (case aB => exact (by repeat (first | (with_reducible first | exact HB.out | apply below_alloc | apply pw_below_drewN | apply below_drew1) | exact HB.out))); (case aF => exact (fun _ _ => trivial)); (case aO => exact (by (with_reducible repeat (first | apply Kd.R_alloc | apply Kd.R_drewN | apply Kd.R_drew)); exact HO_7.out)); (case aS => exact (below_size (by repeat (first | (with_reducible first | exact HB.out | apply below_alloc | apply pw_below_drewN | apply below_drew1) | exact HB.out)))); (case aL => have := LMc23.out; omega); intro v137 w24 ho hb hg hat; rw [← Ny136.out] at ho; have n0_ := Aside0.mk (hb); have n1_ := Aside0.mk (ho); clear HB; clear HO_7; have HB := n0_; have HO138 := n1_; clear n0_ n1_; clear ho hb hg hat))
                        go_roundg k1
                        case measure => have := HK1.out; omega
                        case rel => exact ⟨(y136), (wrap64 (x8_1 + 1)), (by first | rfl | (simp; done) | (simp [*]; done)), H', ⟨by have := HK1.out; omega⟩, ⟨by (with_reducible repeat (first | apply Kd.R_alloc | apply Kd.R_drewN | apply Kd.R_drew)); exact HO138.out⟩, ⟨by repeat (first | (with_reducible first | exact HB.out | apply below_alloc | apply pw_below_drewN | apply below_drew1) | exact HB.out)⟩⟩
                      · rw [if_neg c23] at H
                        exact absurd H (by simp)
                    · rw [if_neg c21] at H
                      exact absurd H (by simp)
                · rw [if_neg c10] at H
                  exact absurd H (by simp)
              · rw [if_neg c9] at H
                exact absurd H (by simp)
            · rw [if_neg c7] at H
              have c7b0 : decide (0 < x8_1) = false := decide_eq_false c7
              clear c7
              by_cases c25 : 0 ≤ x8_1
              · rw [if_pos c25] at H
                have c25b0 : decide (0 ≤ x8_1) = true := decide_eq_true c25
                clear c25
                by_cases c27 : x7_1.length < 140737488355328
                · rw [if_pos c27] at H
                  have LMc27 := Aside0.mk c27
                  clear c27
                  obtain ⟨y139, hy139⟩ : ∃ y_ : List Int, y_ = (x7_1 ++ [bt a0 x8_1]) := ⟨_, rfl⟩
                  replace H : (spec_Shifted.l0 k1 a0 a1 true y139 (wrap64 (x8_1 + 1))) = some r := by first | (rw [hy139]; with_reducible exact H) | (have H2_ := (Option.bind_some _ _).symm.trans H; rw [hy139]; with_reducible exact H2_) | (have H2_ := (Option.bind_some _ _).symm.trans H; with_reducible exact H2_) | with_reducible exact H | (rw [hy139]; exact H) | exact H
                  have Ny139 := Aside0.mk hy139
                  clear hy139
                  have H' := Aside0.mk H
                  clear H
                  have p26 : 0 ≤ (x8_1 : Int) := of_decide_eq_true (by first | (with_reducible assumption) | assumption)
                  have q26 : x8_1 < (a0.size : Int) := of_decide_eq_true (by first | (with_reducible assumption) | assumption)
                  have hx26 := bt_at a0 x8_1
                  replace p26 := eq_true p26
                  replace q26 := eq_true q26
                  go_wp2_with (first | ((with_reducible refine gate_builtin (b := .append) (xs := #[.tmp 36, .tmp 40]) rfl ?_); at_builtin; refine Kd.R_append (Kd.int .u8) (w0 := w) w.heap.size rfl (.tmp 36) (.tmp 40) 28 5 (.int .u8 0) 1 rfl Try.underlying28 info5 rfl (by decide) (by omega) u7 x7_1 (bt a0 x8_1) [.int .u8 (bt a0 x8_1)] (fun _ => True) (fun _ => False) rfl rfl ?aP (fun _ hk => hk.elim) ?aF ?aO ?aB ?aS ?aL ?_; (case aP => exact rfl); (case aB => exact (by repeat (first | (with_reducible first | exact HB.out | apply below_alloc | apply pw_below_drewN | apply below_drew1) | exact HB.out))); (case aF => exact (fun _ _ => trivial)); (case aO => exact (by (with_reducible repeat (first | apply Kd.R_alloc | apply Kd.R_drewN | apply Kd.R_drew)); exact HO_7.out)); (case aS => exact (below_size (by repeat (first | (with_reducible first | exact HB.out | apply below_alloc | apply pw_below_drewN | apply below_drew1) | exact HB.out)))); (case aL => have := LMc27.out; omega); intro v140 w28 ho hb hg hat; rw [← Ny139.out] at ho; have n0_ := Aside0.mk (hb); have n1_ := Aside0.mk (ho); clear HB; clear HO_7; have HB := n0_; have HO141 := n1_; clear n0_ n1_; clear ho hb hg hat))
                  go_roundg k1
                  case measure => have := HK1.out; omega
                  case rel => exact ⟨(y139), (wrap64 (x8_1 + 1)), (by first | rfl | (simp; done) | (simp [*]; done)), H', ⟨by have := HK1.out; omega⟩, ⟨by (with_reducible repeat (first | apply Kd.R_alloc | apply Kd.R_drewN | apply Kd.R_drew)); exact HO141.out⟩, ⟨by repeat (first | (with_reducible first | exact HB.out | apply below_alloc | apply pw_below_drewN | apply below_drew1) | exact HB.out)⟩⟩
                · rw [if_neg c27] at H
                  exact absurd H (by simp)
              · rw [if_neg c25] at H
                exact absurd H (by simp)
          · replace c6 := Bool.eq_false_iff.mpr c6
            subst c6
            have H1 : ((spec_scSpaces.f k1 a1).bind fun t142 => (if x7_1.length + t142.size < 140737488355328 then ((some (x7_1 ++ bytesOf t142 : List Int)).bind fun y143 => (if 0 ≤ x8_1 then (if y143.length < 140737488355328 then (spec_Shifted.l0 k1 a0 a1 false (y143 ++ [bt a0 x8_1]) (wrap64 (x8_1 + 1))) else (none)) else (none))) else (none))) = some r := by rw [if_neg (show ¬ (false = true) by decide)] at H; exact H
            clear H
            have H := H1
            clear H1
            replace H := Option.bind_eq_some_iff.mp H
            obtain ⟨t142, A290, H⟩ := H
            replace H : (if x7_1.length + t142.size < 140737488355328 then ((some (x7_1 ++ bytesOf t142 : List Int)).bind fun y143 => (if 0 ≤ x8_1 then (if y143.length < 140737488355328 then (spec_Shifted.l0 k1 a0 a1 false (y143 ++ [bt a0 x8_1]) (wrap64 (x8_1 + 1))) else (none)) else (none))) else (none)) = some r := H
            have A29 := Aside0.mk A290
            clear A290
            by_cases c30 : x7_1.length + t142.size < 140737488355328
            · rw [if_pos c30] at H
              have LMc30 := Aside0.mk c30
              clear c30
              obtain ⟨y143, hy143⟩ : ∃ y_ : List Int, y_ = (x7_1 ++ bytesOf t142) := ⟨_, rfl⟩
              replace H : (if 0 ≤ x8_1 then (if y143.length < 140737488355328 then (spec_Shifted.l0 k1 a0 a1 false (y143 ++ [bt a0 x8_1]) (wrap64 (x8_1 + 1))) else (none)) else (none)) = some r := by first | (rw [hy143]; with_reducible exact H) | (have H2_ := (Option.bind_some _ _).symm.trans H; rw [hy143]; with_reducible exact H2_) | (have H2_ := (Option.bind_some _ _).symm.trans H; with_reducible exact H2_) | with_reducible exact H | (rw [hy143]; exact H) | exact H
              have Ny143 := Aside0.mk hy143
              clear hy143
              by_cases c31 : 0 ≤ x8_1
              · rw [if_pos c31] at H
                have c31b0 : decide (0 ≤ x8_1) = true := decide_eq_true c31
                clear c31
                by_cases c33 : y143.length < 140737488355328
                · rw [if_pos c33] at H
                  have LMc33 := Aside0.mk c33
                  clear c33
                  obtain ⟨y146, hy146⟩ : ∃ y_ : List Int, y_ = (y143 ++ [bt a0 x8_1]) := ⟨_, rfl⟩
                  replace H : (spec_Shifted.l0 k1 a0 a1 false y146 (wrap64 (x8_1 + 1))) = some r := by first | (rw [hy146]; with_reducible exact H) | (have H2_ := (Option.bind_some _ _).symm.trans H; rw [hy146]; with_reducible exact H2_) | (have H2_ := (Option.bind_some _ _).symm.trans H; with_reducible exact H2_) | with_reducible exact H | (rw [hy146]; exact H) | exact H
                  have Ny146 := Aside0.mk hy146
                  clear hy146
                  have H' := Aside0.mk H
                  clear H
                  go_wp2_with (first | ((with_reducible refine gate_callee (f := 29) rfl ?_); refine goesL_ (some 34) rfl rfl Try.func29 (by kernel_rfl) rfl #[.int .i64 a1] rfl (by (try simp only [List.map_toArray, List.map_cons, List.map_nil]); first | done | rfl | (simp only [List.length_drop, List.length_take]; rfl)) ?_; (with_reducible refine (spec_scSpaces.calls k1 a1 t142 _ A29.out).mono ?_); rintro e w34 ⟨rfl, hb⟩; refine ⟨_, rfl, ?_⟩; have n0_ := Aside0.mk (Kd.R_below (by (with_reducible repeat (first | apply Kd.R_alloc | apply Kd.R_drewN | apply Kd.R_drew)); exact HO_7.out) hb); have n1_ := Aside0.mk (below_step (by repeat (first | (with_reducible first | exact HB.out | apply below_alloc | apply pw_below_drewN | apply below_drew1) | exact HB.out)) hb); clear HO_7; clear HB; have HO_7 := n0_; have HB := n1_; clear n0_ n1_; (try clear hb); (try clear hb2); (try clear hk); (try clear hi)) | (at_builtin; refine print_append_str (w0 := w) w.heap.size rfl (.tmp 32) _ 28 9 5 rfl Try.underlying28 Try.underlying9 info5 u7 x7_1 t142 rfl rfl ?aO ?aB ?aS ?aL ?_; (case aB => exact (by repeat (first | (with_reducible first | exact HB.out | apply below_alloc | apply pw_below_drewN | apply below_drew1) | exact HB.out))); (case aO => exact (Kd.own_of_R (by (with_reducible repeat (first | apply Kd.R_alloc | apply Kd.R_drewN | apply Kd.R_drew)); exact HO_7.out))); (case aS => exact (below_size (by repeat (first | (with_reducible first | exact HB.out | apply below_alloc | apply pw_below_drewN | apply below_drew1) | exact HB.out)))); (case aL => have := LMc30.out; omega); intro v144 w35 ho0 hb hg; have ho := Kd.R_of_own (h1 := fun _ => rfl) (ok := fun _ => True) ho0 (fun _ _ => trivial); clear ho0; have hat := True.intro; rw [← Ny143.out] at ho; change Kd.R (Kd.int .u8) 5 w35 w.heap.size (fun _ => True) v144 y143 at ho; have n0_ := Aside0.mk (hb); have n1_ := Aside0.mk (ho); clear HB; clear HO_7; have HB := n0_; have HO145 := n1_; clear n0_ n1_; clear ho hb hg hat; have p32 : 0 ≤ (x8_1 : Int) := of_decide_eq_true (by first | (with_reducible assumption) | assumption); have q32 : x8_1 < (a0.size : Int) := of_decide_eq_true (by first | (with_reducible assumption) | assumption); have hx32 := bt_at a0 x8_1; replace p32 := eq_true p32; replace q32 := eq_true q32) | ((with_reducible refine gate_builtin (b := .append) (xs := #[.tmp 36, .tmp 40]) rfl ?_); at_builtin; refine Kd.R_append (Kd.int .u8) (w0 := w) w.heap.size rfl (.tmp 36) (.tmp 40) 28 5 (.int .u8 0) 1 rfl Try.underlying28 info5 rfl (by decide) (by omega) v144 y143 (bt a0 x8_1) [.int .u8 (bt a0 x8_1)] (fun _ => True) (fun _ => False) rfl rfl ?aP (fun _ hk => hk.elim) ?aF ?aO ?aB ?aS ?aL ?_; (case aP => exact rfl); (case aB => exact (by repeat (first | (with_reducible first | exact HB.out | apply below_alloc | apply pw_below_drewN | apply below_drew1) | exact HB.out))); (case aF => exact (fun _ _ => trivial)); (case aO => exact (by (with_reducible repeat (first | apply Kd.R_alloc | apply Kd.R_drewN | apply Kd.R_drew)); exact HO145.out)); (case aS => exact (below_size (by repeat (first | (with_reducible first | exact HB.out | apply below_alloc | apply pw_below_drewN | apply below_drew1) | exact HB.out)))); (case aL => have := LMc33.out; omega); intro v147 w36 ho hb hg hat; rw [← Ny146.out] at ho; have n0_ := Aside0.mk (hb); have n1_ := Aside0.mk (ho); clear HB; clear HO145; have HB := n0_; have HO148 := n1_; clear n0_ n1_; clear ho hb hg hat))
                  go_roundg k1
                  case measure => have := HK1.out; omega
                  case rel => exact ⟨(y146), (wrap64 (x8_1 + 1)), (by first | rfl | (simp; done) | (simp [*]; done)), H', ⟨by have := HK1.out; omega⟩, ⟨by (with_reducible repeat (first | apply Kd.R_alloc | apply Kd.R_drewN | apply Kd.R_drew)); exact HO148.out⟩, ⟨by repeat (first | (with_reducible first | exact HB.out | apply below_alloc | apply pw_below_drewN | apply below_drew1) | exact HB.out)⟩⟩
                · rw [if_neg c33] at H
                  exact absurd H (by simp)
              · rw [if_neg c31] at H
                exact absurd H (by simp)
            · rw [if_neg c30] at H
              exact absurd H (by simp)
        · rw [if_neg c5] at H
          have c5b0 : (x8_1 == 0) = false := beq_eq_false_iff_ne.mpr c5
          have c5b1 : (x8_1 != 0) = true := bne_iff_ne.mpr c5
          by_cases c37 : x8_1 > 0
          · rw [if_pos c37] at H
            have c37b0 : decide (0 < x8_1) = true := decide_eq_true c37
            clear c37
            obtain ⟨ji38, hji38⟩ : ∃ j_ : Int, (wrap64 (x8_1 - 1)) = j_ := ⟨_, rfl⟩
            replace H : (if 0 ≤ (ji38) then (if (ji38) < (a0.size : Int) then (if (bt a0 (ji38)) = 10 then ((spec_scSpaces.f k1 a1).bind fun t149 => (if x7_1.length + t149.size < 140737488355328 then ((some (x7_1 ++ bytesOf t149 : List Int)).bind fun y150 => (if 0 ≤ x8_1 then (if y150.length < 140737488355328 then (spec_Shifted.l0 k1 a0 a1 a2 (y150 ++ [bt a0 x8_1]) (wrap64 (x8_1 + 1))) else (none)) else (none))) else (none))) else (if 0 ≤ x8_1 then (if x7_1.length < 140737488355328 then (spec_Shifted.l0 k1 a0 a1 a2 (x7_1 ++ [bt a0 x8_1]) (wrap64 (x8_1 + 1))) else (none)) else (none))) else (none)) else (none)) = some r := by first | (rw [hji38] at H; exact H) | (simp only [hji38] at H ⊢; exact H)
            have hji38w : (IntKind.i64.wrap (x8_1 - 1)) = ji38 := (i64_w _).trans hji38
            by_cases c39 : 0 ≤ (ji38)
            · rw [if_pos c39] at H
              have c39b0 : decide (0 ≤ (ji38)) = true := decide_eq_true c39
              clear c39
              by_cases c40 : (ji38) < (a0.size : Int)
              · rw [if_pos c40] at H
                have c40b0 : decide ((ji38) < (a0.size : Int)) = true := decide_eq_true c40
                clear c40
                by_cases c42 : (bt a0 (ji38)) = 10
                · rw [if_pos c42] at H
                  have c42b0 : ((bt a0 (ji38)) == 10) = true := beq_iff_eq.mpr c42
                  have c42b1 : ((bt a0 (ji38)) != 10) = false := bne_eq_false_iff_eq.mpr c42
                  clear c42
                  replace H := Option.bind_eq_some_iff.mp H
                  obtain ⟨t149, A430, H⟩ := H
                  replace H : (if x7_1.length + t149.size < 140737488355328 then ((some (x7_1 ++ bytesOf t149 : List Int)).bind fun y150 => (if 0 ≤ x8_1 then (if y150.length < 140737488355328 then (spec_Shifted.l0 k1 a0 a1 a2 (y150 ++ [bt a0 x8_1]) (wrap64 (x8_1 + 1))) else (none)) else (none))) else (none)) = some r := H
                  have A43 := Aside0.mk A430
                  clear A430
                  by_cases c44 : x7_1.length + t149.size < 140737488355328
                  · rw [if_pos c44] at H
                    have LMc44 := Aside0.mk c44
                    clear c44
                    obtain ⟨y150, hy150⟩ : ∃ y_ : List Int, y_ = (x7_1 ++ bytesOf t149) := ⟨_, rfl⟩
                    replace H : (if 0 ≤ x8_1 then (if y150.length < 140737488355328 then (spec_Shifted.l0 k1 a0 a1 a2 (y150 ++ [bt a0 x8_1]) (wrap64 (x8_1 + 1))) else (none)) else (none)) = some r := by first | (rw [hy150]; with_reducible exact H) | (have H2_ := (Option.bind_some _ _).symm.trans H; rw [hy150]; with_reducible exact H2_) | (have H2_ := (Option.bind_some _ _).symm.trans H; with_reducible exact H2_) | with_reducible exact H | (rw [hy150]; exact H) | exact H
                    have Ny150 := Aside0.mk hy150
                    clear hy150
                    by_cases c45 : 0 ≤ x8_1
                    · rw [if_pos c45] at H
                      have c45b0 : decide (0 ≤ x8_1) = true := decide_eq_true c45
                      clear c45
                      by_cases c47 : y150.length < 140737488355328
                      · rw [if_pos c47] at H
                        have LMc47 := Aside0.mk c47
                        clear c47
                        obtain ⟨y153, hy153⟩ : ∃ y_ : List Int, y_ = (y150 ++ [bt a0 x8_1]) := ⟨_, rfl⟩
                        replace H : (spec_Shifted.l0 k1 a0 a1 a2 y153 (wrap64 (x8_1 + 1))) = some r := by first | (rw [hy153]; with_reducible exact H) | (have H2_ := (Option.bind_some _ _).symm.trans H; rw [hy153]; with_reducible exact H2_) | (have H2_ := (Option.bind_some _ _).symm.trans H; with_reducible exact H2_) | with_reducible exact H | (rw [hy153]; exact H) | exact H
                        have Ny153 := Aside0.mk hy153
                        clear hy153
                        have H' := Aside0.mk H
                        clear H
                        have p41 : 0 ≤ ((ji38) : Int) := of_decide_eq_true (by first | (with_reducible assumption) | assumption)
                        have q41 : (ji38) < (a0.size : Int) := of_decide_eq_true (by first | (with_reducible assumption) | assumption)
                        have hx41 := bt_at a0 (ji38)
                        replace p41 := eq_true p41
                        replace q41 := eq_true q41
                        go_wp2_with (first | ((with_reducible refine gate_callee (f := 29) rfl ?_); refine goesL_ (some 34) rfl rfl Try.func29 (by kernel_rfl) rfl #[.int .i64 a1] rfl (by (try simp only [List.map_toArray, List.map_cons, List.map_nil]); first | done | rfl | (simp only [List.length_drop, List.length_take]; rfl)) ?_; (with_reducible refine (spec_scSpaces.calls k1 a1 t149 _ A43.out).mono ?_); rintro e w48 ⟨rfl, hb⟩; refine ⟨_, rfl, ?_⟩; have n0_ := Aside0.mk (Kd.R_below (by (with_reducible repeat (first | apply Kd.R_alloc | apply Kd.R_drewN | apply Kd.R_drew)); exact HO_7.out) hb); have n1_ := Aside0.mk (below_step (by repeat (first | (with_reducible first | exact HB.out | apply below_alloc | apply pw_below_drewN | apply below_drew1) | exact HB.out)) hb); clear HO_7; clear HB; have HO_7 := n0_; have HB := n1_; clear n0_ n1_; (try clear hb); (try clear hb2); (try clear hk); (try clear hi)) | (at_builtin; refine print_append_str (w0 := w) w.heap.size rfl (.tmp 32) _ 28 9 5 rfl Try.underlying28 Try.underlying9 info5 u7 x7_1 t149 rfl rfl ?aO ?aB ?aS ?aL ?_; (case aB => exact (by repeat (first | (with_reducible first | exact HB.out | apply below_alloc | apply pw_below_drewN | apply below_drew1) | exact HB.out))); (case aO => exact (Kd.own_of_R (by (with_reducible repeat (first | apply Kd.R_alloc | apply Kd.R_drewN | apply Kd.R_drew)); exact HO_7.out))); (case aS => exact (below_size (by repeat (first | (with_reducible first | exact HB.out | apply below_alloc | apply pw_below_drewN | apply below_drew1) | exact HB.out)))); (case aL => have := LMc44.out; omega); intro v151 w49 ho0 hb hg; have ho := Kd.R_of_own (h1 := fun _ => rfl) (ok := fun _ => True) ho0 (fun _ _ => trivial); clear ho0; have hat := True.intro; rw [← Ny150.out] at ho; change Kd.R (Kd.int .u8) 5 w49 w.heap.size (fun _ => True) v151 y150 at ho; have n0_ := Aside0.mk (hb); have n1_ := Aside0.mk (ho); clear HB; clear HO_7; have HB := n0_; have HO152 := n1_; clear n0_ n1_; clear ho hb hg hat; have p46 : 0 ≤ (x8_1 : Int) := of_decide_eq_true (by first | (with_reducible assumption) | assumption); have q46 : x8_1 < (a0.size : Int) := of_decide_eq_true (by first | (with_reducible assumption) | assumption); have hx46 := bt_at a0 x8_1; replace p46 := eq_true p46; replace q46 := eq_true q46) | ((with_reducible refine gate_builtin (b := .append) (xs := #[.tmp 36, .tmp 40]) rfl ?_); at_builtin; refine Kd.R_append (Kd.int .u8) (w0 := w) w.heap.size rfl (.tmp 36) (.tmp 40) 28 5 (.int .u8 0) 1 rfl Try.underlying28 info5 rfl (by decide) (by omega) v151 y150 (bt a0 x8_1) [.int .u8 (bt a0 x8_1)] (fun _ => True) (fun _ => False) rfl rfl ?aP (fun _ hk => hk.elim) ?aF ?aO ?aB ?aS ?aL ?_; (case aP => exact rfl); (case aB => exact (by repeat (first | (with_reducible first | exact HB.out | apply below_alloc | apply pw_below_drewN | apply below_drew1) | exact HB.out))); (case aF => exact (fun _ _ => trivial)); (case aO => exact (by (with_reducible repeat (first | apply Kd.R_alloc | apply Kd.R_drewN | apply Kd.R_drew)); exact HO152.out)); (case aS => exact (below_size (by repeat (first | (with_reducible first | exact HB.out | apply below_alloc | apply pw_below_drewN | apply below_drew1) | exact HB.out)))); (case aL => have := LMc47.out; omega); intro v154 w50 ho hb hg hat; rw [← Ny153.out] at ho; have n0_ := Aside0.mk (hb); have n1_ := Aside0.mk (ho); clear HB; clear HO152; have HB := n0_; have HO155 := n1_; clear n0_ n1_; clear ho hb hg hat))
                        go_roundg k1
                        case measure => have := HK1.out; omega
                        case rel => exact ⟨(y153), (wrap64 (x8_1 + 1)), (by first | rfl | (simp; done) | (simp [*]; done)), H', ⟨by have := HK1.out; omega⟩, ⟨by (with_reducible repeat (first | apply Kd.R_alloc | apply Kd.R_drewN | apply Kd.R_drew)); exact HO155.out⟩, ⟨by repeat (first | (with_reducible first | exact HB.out | apply below_alloc | apply pw_below_drewN | apply below_drew1) | exact HB.out)⟩⟩
                      · rw [if_neg c47] at H
                        exact absurd H (by simp)
                    · rw [if_neg c45] at H
                      exact absurd H (by simp)
                  · rw [if_neg c44] at H
                    exact absurd H (by simp)
                · rw [if_neg c42] at H
                  have c42b0 : ((bt a0 (ji38)) == 10) = false := beq_eq_false_iff_ne.mpr c42
                  have c42b1 : ((bt a0 (ji38)) != 10) = true := bne_iff_ne.mpr c42
                  by_cases c51 : 0 ≤ x8_1
                  · rw [if_pos c51] at H
                    have c51b0 : decide (0 ≤ x8_1) = true := decide_eq_true c51
                    clear c51
                    by_cases c53 : x7_1.length < 140737488355328
                    · rw [if_pos c53] at H
                      have LMc53 := Aside0.mk c53
                      clear c53
                      obtain ⟨y156, hy156⟩ : ∃ y_ : List Int, y_ = (x7_1 ++ [bt a0 x8_1]) := ⟨_, rfl⟩
                      replace H : (spec_Shifted.l0 k1 a0 a1 a2 y156 (wrap64 (x8_1 + 1))) = some r := by first | (rw [hy156]; with_reducible exact H) | (have H2_ := (Option.bind_some _ _).symm.trans H; rw [hy156]; with_reducible exact H2_) | (have H2_ := (Option.bind_some _ _).symm.trans H; with_reducible exact H2_) | with_reducible exact H | (rw [hy156]; exact H) | exact H
                      have Ny156 := Aside0.mk hy156
                      clear hy156
                      have H' := Aside0.mk H
                      clear H
                      have p41 : 0 ≤ ((ji38) : Int) := of_decide_eq_true (by first | (with_reducible assumption) | assumption)
                      have q41 : (ji38) < (a0.size : Int) := of_decide_eq_true (by first | (with_reducible assumption) | assumption)
                      have hx41 := bt_at a0 (ji38)
                      replace p41 := eq_true p41
                      replace q41 := eq_true q41
                      have p52 : 0 ≤ (x8_1 : Int) := of_decide_eq_true (by first | (with_reducible assumption) | assumption)
                      have q52 : x8_1 < (a0.size : Int) := of_decide_eq_true (by first | (with_reducible assumption) | assumption)
                      have hx52 := bt_at a0 x8_1
                      replace p52 := eq_true p52
                      replace q52 := eq_true q52
                      go_wp2_with (first | ((with_reducible refine gate_builtin (b := .append) (xs := #[.tmp 36, .tmp 40]) rfl ?_); at_builtin; refine Kd.R_append (Kd.int .u8) (w0 := w) w.heap.size rfl (.tmp 36) (.tmp 40) 28 5 (.int .u8 0) 1 rfl Try.underlying28 info5 rfl (by decide) (by omega) u7 x7_1 (bt a0 x8_1) [.int .u8 (bt a0 x8_1)] (fun _ => True) (fun _ => False) rfl rfl ?aP (fun _ hk => hk.elim) ?aF ?aO ?aB ?aS ?aL ?_; (case aP => exact rfl); (case aB => exact (by repeat (first | (with_reducible first | exact HB.out | apply below_alloc | apply pw_below_drewN | apply below_drew1) | exact HB.out))); (case aF => exact (fun _ _ => trivial)); (case aO => exact (by (with_reducible repeat (first | apply Kd.R_alloc | apply Kd.R_drewN | apply Kd.R_drew)); exact HO_7.out)); (case aS => exact (below_size (by repeat (first | (with_reducible first | exact HB.out | apply below_alloc | apply pw_below_drewN | apply below_drew1) | exact HB.out)))); (case aL => have := LMc53.out; omega); intro v157 w54 ho hb hg hat; rw [← Ny156.out] at ho; have n0_ := Aside0.mk (hb); have n1_ := Aside0.mk (ho); clear HB; clear HO_7; have HB := n0_; have HO158 := n1_; clear n0_ n1_; clear ho hb hg hat))
                      go_roundg k1
                      case measure => have := HK1.out; omega
                      case rel => exact ⟨(y156), (wrap64 (x8_1 + 1)), (by first | rfl | (simp; done) | (simp [*]; done)), H', ⟨by have := HK1.out; omega⟩, ⟨by (with_reducible repeat (first | apply Kd.R_alloc | apply Kd.R_drewN | apply Kd.R_drew)); exact HO158.out⟩, ⟨by repeat (first | (with_reducible first | exact HB.out | apply below_alloc | apply pw_below_drewN | apply below_drew1) | exact HB.out)⟩⟩
                    · rw [if_neg c53] at H
                      exact absurd H (by simp)
                  · rw [if_neg c51] at H
                    exact absurd H (by simp)
              · rw [if_neg c40] at H
                exact absurd H (by simp)
            · rw [if_neg c39] at H
              exact absurd H (by simp)
          · rw [if_neg c37] at H
            have c37b0 : decide (0 < x8_1) = false := decide_eq_false c37
            clear c37
            by_cases c55 : 0 ≤ x8_1
            · rw [if_pos c55] at H
              have c55b0 : decide (0 ≤ x8_1) = true := decide_eq_true c55
              clear c55
              by_cases c57 : x7_1.length < 140737488355328
              · rw [if_pos c57] at H
                have LMc57 := Aside0.mk c57
                clear c57
                obtain ⟨y159, hy159⟩ : ∃ y_ : List Int, y_ = (x7_1 ++ [bt a0 x8_1]) := ⟨_, rfl⟩
                replace H : (spec_Shifted.l0 k1 a0 a1 a2 y159 (wrap64 (x8_1 + 1))) = some r := by first | (rw [hy159]; with_reducible exact H) | (have H2_ := (Option.bind_some _ _).symm.trans H; rw [hy159]; with_reducible exact H2_) | (have H2_ := (Option.bind_some _ _).symm.trans H; with_reducible exact H2_) | with_reducible exact H | (rw [hy159]; exact H) | exact H
                have Ny159 := Aside0.mk hy159
                clear hy159
                have H' := Aside0.mk H
                clear H
                have p56 : 0 ≤ (x8_1 : Int) := of_decide_eq_true (by first | (with_reducible assumption) | assumption)
                have q56 : x8_1 < (a0.size : Int) := of_decide_eq_true (by first | (with_reducible assumption) | assumption)
                have hx56 := bt_at a0 x8_1
                replace p56 := eq_true p56
                replace q56 := eq_true q56
                go_wp2_with (first | ((with_reducible refine gate_builtin (b := .append) (xs := #[.tmp 36, .tmp 40]) rfl ?_); at_builtin; refine Kd.R_append (Kd.int .u8) (w0 := w) w.heap.size rfl (.tmp 36) (.tmp 40) 28 5 (.int .u8 0) 1 rfl Try.underlying28 info5 rfl (by decide) (by omega) u7 x7_1 (bt a0 x8_1) [.int .u8 (bt a0 x8_1)] (fun _ => True) (fun _ => False) rfl rfl ?aP (fun _ hk => hk.elim) ?aF ?aO ?aB ?aS ?aL ?_; (case aP => exact rfl); (case aB => exact (by repeat (first | (with_reducible first | exact HB.out | apply below_alloc | apply pw_below_drewN | apply below_drew1) | exact HB.out))); (case aF => exact (fun _ _ => trivial)); (case aO => exact (by (with_reducible repeat (first | apply Kd.R_alloc | apply Kd.R_drewN | apply Kd.R_drew)); exact HO_7.out)); (case aS => exact (below_size (by repeat (first | (with_reducible first | exact HB.out | apply below_alloc | apply pw_below_drewN | apply below_drew1) | exact HB.out)))); (case aL => have := LMc57.out; omega); intro v160 w58 ho hb hg hat; rw [← Ny159.out] at ho; have n0_ := Aside0.mk (hb); have n1_ := Aside0.mk (ho); clear HB; clear HO_7; have HB := n0_; have HO161 := n1_; clear n0_ n1_; clear ho hb hg hat))
                go_roundg k1
                case measure => have := HK1.out; omega
                case rel => exact ⟨(y159), (wrap64 (x8_1 + 1)), (by first | rfl | (simp; done) | (simp [*]; done)), H', ⟨by have := HK1.out; omega⟩, ⟨by (with_reducible repeat (first | apply Kd.R_alloc | apply Kd.R_drewN | apply Kd.R_drew)); exact HO161.out⟩, ⟨by repeat (first | (with_reducible first | exact HB.out | apply below_alloc | apply pw_below_drewN | apply below_drew1) | exact HB.out)⟩⟩
              · rw [if_neg c57] at H
                exact absurd H (by simp)
            · rw [if_neg c55] at H
              exact absurd H (by simp)
      · rw [if_neg c4] at H
        have c4b0 : decide (x8_1 < (a0.size : Int)) = false := decide_eq_false c4
        clear c4
        obtain rfl := Option.some.inj H
        have hcv59 := own_string (P := Try.prog) Try.underlying28 Try.underlying5 Try.underlying9 (Kd.own_of_R HO_7.out)
        go_wp2
        go_ret
        exact ⟨by first | rfl | (simp [errW_none, errW_some] <;> rfl) | (simp [*, errW_none, errW_some] <;> rfl), by repeat (first | (with_reducible first | exact HB.out | apply below_alloc | apply pw_below_drewN | apply below_drew1) | exact HB.out)⟩


end Go.Proofs.Ytpimdceafnhmlaa.Ind
