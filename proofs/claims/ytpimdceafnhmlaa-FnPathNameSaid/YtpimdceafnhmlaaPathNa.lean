/-
  THE WALKS of the search functions and of strings.HasPrefix, HasSuffix: the lines are those that print.sh wrote for this law; put together here without the one function whose print did not build.
-/
import Derived.Test.YtpimdceafnhmlaaPFnPathNamex0
namespace Go.Proofs.Ytpimdceafnhmlaa.PathN
open Go.Proofs.Ytpimdceafnhmlaa.PFnPathName Go.RowKit Go.Proofs.YtpimdceafnhmlaaW.PrintWords Go.Proofs.YtpimdceafnhmlaaW.PrintLast Go.Proofs.YtpimdceafnhmlaaW.PrintMore
attribute [local go_sem] max2_int min2_int max_two min_two max_three min_three max_four min_four   -- for this text's walks alone
set_option linter.unusedVariables false
set_option linter.unusedSimpArgs false

/-! ### parser_zzIndex: function 54 -/
def parser_zzIndex.l0 : Nat → ByteArray → ByteArray → Int → Option (Int)
  | 0, _, _, _ => none
  | k + 1, x0, x1, x5 => if (wrap64 (x5 + (x1.size : Int))) ≤ (x0.size : Int) then (if 0 ≤ x5 then (if x5 ≤ (wrap64 (x5 + (x1.size : Int))) then (if (x0.extract (x5 : Int).toNat ((wrap64 (x5 + (x1.size : Int))) : Int).toNat).toList = x1.toList then (some x5) else (parser_zzIndex.l0 k x0 x1 (wrap64 (x5 + 1)))) else (none)) else (none)) else (some (-1))
def parser_zzIndex.f (k : Nat) (a0 : ByteArray) (a1 : ByteArray) : Option (Int) := parser_zzIndex.l0 k a0 a1 0
theorem parser_zzIndex.mono_l : ∀ k, (∀ y0 y1 y2, LeO (parser_zzIndex.l0 k y0 y1 y2) (parser_zzIndex.l0 (k + 1) y0 y1 y2))
  | 0 => fun _ _ _ r h => by simp [parser_zzIndex.l0] at h
  | k + 1 => by
    have ih0 := parser_zzIndex.mono_l k
    · intro y0 y1 y2
      unfold parser_zzIndex.l0
      repeat' first
      | (with_reducible exact ih0 _ _ _)
      | (with_reducible exact LeO.refl _)
      | (with_reducible exact LeO.none _)
      | (with_reducible refine LeO.ite ?_ ?_)
      | (with_reducible refine LeO.bind ?_ (fun _ => ?_))
      | exact ih0 _ _ _
      | exact LeO.none _
      | refine LeO.ite ?_ ?_
      | refine LeO.bind ?_ (fun _ => ?_)
theorem parser_zzIndex.mono : ∀ a0 a1 k, LeO (parser_zzIndex.f k a0 a1) (parser_zzIndex.f (k + 1) a0 a1) := by
  intro a0 a1 k
  have ih0 := parser_zzIndex.mono_l k
  unfold parser_zzIndex.f
  repeat' first
      | (with_reducible exact ih0 _ _ _)
      | (with_reducible exact LeO.refl _)
      | (with_reducible exact LeO.none _)
      | (with_reducible refine LeO.ite ?_ ?_)
      | (with_reducible refine LeO.bind ?_ (fun _ => ?_))
      | exact ih0 _ _ _
      | exact LeO.none _
      | refine LeO.ite ?_ ?_
      | refine LeO.bind ?_ (fun _ => ?_)
set_option maxHeartbeats 8000000 in
set_option maxRecDepth 100000 in
theorem parser_zzIndex.calls (k : Nat) (a0 : ByteArray) (a1 : ByteArray) (r : Int) (w : World) (h : parser_zzIndex.f k a0 a1 = some r) :
    Calls Try.prog 54 #[.string a0, .string a1] w fun e w' => e = .returned (.int .i64 r) ∧ Drawn0 w w' := by
  have H : (parser_zzIndex.l0 k a0 a1 0) = some r := h
  clear h
  have H' := Aside0.mk H
  clear H
  go_enter Try.func54, Try.ntmps54
  go_wp2
  go_loopg [5] k (fun kq v5 w' => ∃ (x5_1 : Int), v5 = .int .i64 x5_1 ∧ Aside0 (parser_zzIndex.l0 kq a0 a1 x5_1 = some r) ∧ Aside0 (kq ≤ k) ∧ Drawn0 w w')
  case atStart => exact ⟨(0), (by first | rfl | (simp; done) | (simp [*]; done)), H', ⟨Nat.le_refl _⟩, by repeat (first | exact Drawn0.refl _ | apply Drawn0.step)⟩
  case round =>
    clear H'
    try clear p2
    obtain ⟨x5_1, rfl, HA, HK1, ⟨m1, rfl⟩⟩ := hrel
    cases gk with
    | zero => exact absurd HA.out (by simp [parser_zzIndex.l0])
    | succ k1 =>
      have H := HA.out
      clear HA
      simp only [parser_zzIndex.l0] at H
      by_cases c3 : (wrap64 (x5_1 + (a1.size : Int))) ≤ (a0.size : Int)
      · rw [if_pos c3] at H
        have c3b0 : decide ((wrap64 (x5_1 + (a1.size : Int))) ≤ (a0.size : Int)) = true := decide_eq_true c3
        clear c3
        by_cases c4 : 0 ≤ x5_1
        · rw [if_pos c4] at H
          have c4b0 := eq_true c4
          have c4b1 : decide (0 ≤ x5_1) = true := decide_eq_true c4
          clear c4
          by_cases c5 : x5_1 ≤ (wrap64 (x5_1 + (a1.size : Int)))
          · rw [if_pos c5] at H
            have c5b0 := eq_true c5
            have c5b1 : decide (x5_1 ≤ (wrap64 (x5_1 + (a1.size : Int)))) = true := decide_eq_true c5
            have c6b0 := eq_true (of_decide_eq_true (by first | (with_reducible assumption) | assumption) : (wrap64 (x5_1 + (a1.size : Int))) ≤ (a0.size : Int))
            by_cases c7 : (a0.extract (x5_1 : Int).toNat ((wrap64 (x5_1 + (a1.size : Int))) : Int).toNat).toList = a1.toList
            · rw [if_pos c7] at H
              have c7b0 : ((a0.extract (x5_1 : Int).toNat ((wrap64 (x5_1 + (a1.size : Int))) : Int).toNat).toList == a1.toList) = true := beq_iff_eq.mpr c7
              have c7b1 : ((a0.extract (x5_1 : Int).toNat ((wrap64 (x5_1 + (a1.size : Int))) : Int).toNat).toList != a1.toList) = false := bne_eq_false_iff_eq.mpr c7
              clear c7
              obtain rfl := Option.some.inj H
              go_wp2
              go_ret
              exact ⟨by first | rfl | (simp; done) | (simp [*]; done), by repeat (first | exact Drawn0.refl _ | apply Drawn0.step)⟩
            · rw [if_neg c7] at H
              have c7b0 : ((a0.extract (x5_1 : Int).toNat ((wrap64 (x5_1 + (a1.size : Int))) : Int).toNat).toList == a1.toList) = false := beq_eq_false_iff_ne.mpr c7
              have c7b1 : ((a0.extract (x5_1 : Int).toNat ((wrap64 (x5_1 + (a1.size : Int))) : Int).toNat).toList != a1.toList) = true := bne_iff_ne.mpr c7
              have H' := Aside0.mk H
              clear H
              go_wp2
              go_roundg k1
              case measure => have := HK1.out; omega
              case rel => exact ⟨(wrap64 (x5_1 + 1)), (by first | rfl | (simp; done) | (simp [*]; done)), H', ⟨by have := HK1.out; omega⟩, by repeat (first | exact Drawn0.refl _ | apply Drawn0.step)⟩
          · rw [if_neg c5] at H
            exact absurd H (by simp)
        · rw [if_neg c4] at H
          exact absurd H (by simp)
      · rw [if_neg c3] at H
        have c3b0 : decide ((wrap64 (x5_1 + (a1.size : Int))) ≤ (a0.size : Int)) = false := decide_eq_false c3
        clear c3
        obtain rfl := Option.some.inj H
        go_wp2
        go_ret
        exact ⟨by first | rfl | (simp; done) | (simp [*]; done), by repeat (first | exact Drawn0.refl _ | apply Drawn0.step)⟩

/-! ### parser_zzContains: function 44 -/
def parser_zzContains.f (k : Nat) (a0 : ByteArray) (a1 : ByteArray) : Option (Bool) := (parser_zzIndex.f k a0 a1).bind fun t173 => (some (decide (t173 ≥ 0)))
theorem parser_zzContains.mono : ∀ a0 a1 k, LeO (parser_zzContains.f k a0 a1) (parser_zzContains.f (k + 1) a0 a1) := by
  intro a0 a1 k
  unfold parser_zzContains.f
  repeat' first
      | (with_reducible exact parser_zzIndex.mono _ _ _)
      | (with_reducible exact LeO.refl _)
      | (with_reducible exact LeO.none _)
      | (with_reducible refine LeO.ite ?_ ?_)
      | (with_reducible refine LeO.bind ?_ (fun _ => ?_))
      | exact parser_zzIndex.mono _ _ _
      | exact LeO.none _
      | refine LeO.ite ?_ ?_
      | refine LeO.bind ?_ (fun _ => ?_)
set_option maxHeartbeats 8000000 in
set_option maxRecDepth 100000 in
theorem parser_zzContains.calls (k : Nat) (a0 : ByteArray) (a1 : ByteArray) (r : Bool) (w : World) (h : parser_zzContains.f k a0 a1 = some r) :
    Calls Try.prog 44 #[.string a0, .string a1] w fun e w' => e = .returned (.bool r) ∧ Drawn0 w w' := by
  have H : ((parser_zzIndex.f k a0 a1).bind fun t173 => (some (decide (t173 ≥ 0)))) = some r := h
  clear h
  replace H := Option.bind_eq_some_iff.mp H
  obtain ⟨t173, A30, H⟩ := H
  replace H : (some (decide (t173 ≥ 0))) = some r := H
  have A3 := Aside0.mk A30
  clear A30
  obtain rfl := Option.some.inj H
  go_enter Try.func44, Try.ntmps44
  go_wp2_with (first | ((with_reducible refine gate_callee (f := 54) rfl ?_); refine goesL_ (some 7) rfl rfl Try.func54 (by kernel_rfl) rfl #[.string a0, .string a1] rfl (by (try simp only [List.map_toArray, List.map_cons, List.map_nil]); first | done | rfl | (simp only [List.length_drop, List.length_take]; rfl)) ?_; (with_reducible refine (parser_zzIndex.calls k a0 a1 t173 _ A3.out).mono ?_); rintro e w' ⟨rfl, ⟨nd, rfl⟩⟩; refine ⟨_, rfl, ?_⟩))
  go_ret
  exact ⟨by first | rfl | (simp; done) | (simp [*]; done), by repeat (first | exact Drawn0.refl _ | apply Drawn0.step)⟩

/-! ### parser_containsPathSpecialChar: function 36 -/
def parser_containsPathSpecialChar.l0 : Nat → ByteArray → List ByteArray → Int → Int → Option (Bool)
  | 0, _, _, _, _ => none
  | k + 1, x0, x5, x6, x7 => if x7 < x6 then (if 0 ≤ x7 then (if x7 < (x5.length : Int) then ((parser_zzContains.f k x0 (rdOf ByteArray.empty x5 x7)).bind fun t178 => (if t178 = true then (some true) else (parser_containsPathSpecialChar.l0 k x0 x5 x6 (wrap64 (x7 + 1))))) else (none)) else (none)) else (some false)
def parser_containsPathSpecialChar.f (k : Nat) (a0 : ByteArray) : Option (Bool) := (some (([(⟨#[36]⟩ : ByteArray), (⟨#[42]⟩ : ByteArray), (⟨#[46]⟩ : ByteArray), (⟨#[91]⟩ : ByteArray), (⟨#[93]⟩ : ByteArray)] : List ByteArray) : List ByteArray)).bind fun y174 => (parser_containsPathSpecialChar.l0 k a0 y174 (y174.length : Int) 0)
theorem parser_containsPathSpecialChar.mono_l : ∀ k, (∀ y0 y1 y2 y3, LeO (parser_containsPathSpecialChar.l0 k y0 y1 y2 y3) (parser_containsPathSpecialChar.l0 (k + 1) y0 y1 y2 y3))
  | 0 => fun _ _ _ _ r h => by simp [parser_containsPathSpecialChar.l0] at h
  | k + 1 => by
    have ih0 := parser_containsPathSpecialChar.mono_l k
    · intro y0 y1 y2 y3
      unfold parser_containsPathSpecialChar.l0
      repeat' first
      | (with_reducible exact ih0 _ _ _ _)
      | (with_reducible exact parser_zzContains.mono _ _ _)
      | (with_reducible exact LeO.refl _)
      | (with_reducible exact LeO.none _)
      | (with_reducible refine LeO.ite ?_ ?_)
      | (with_reducible refine LeO.bind ?_ (fun _ => ?_))
      | exact ih0 _ _ _ _
      | exact parser_zzContains.mono _ _ _
      | exact LeO.none _
      | refine LeO.ite ?_ ?_
      | refine LeO.bind ?_ (fun _ => ?_)
theorem parser_containsPathSpecialChar.mono : ∀ a0 k, LeO (parser_containsPathSpecialChar.f k a0) (parser_containsPathSpecialChar.f (k + 1) a0) := by
  intro a0 k
  have ih0 := parser_containsPathSpecialChar.mono_l k
  unfold parser_containsPathSpecialChar.f
  repeat' first
      | (with_reducible exact ih0 _ _ _ _)
      | (with_reducible exact parser_zzContains.mono _ _ _)
      | (with_reducible exact LeO.refl _)
      | (with_reducible exact LeO.none _)
      | (with_reducible refine LeO.ite ?_ ?_)
      | (with_reducible refine LeO.bind ?_ (fun _ => ?_))
      | exact ih0 _ _ _ _
      | exact parser_zzContains.mono _ _ _
      | exact LeO.none _
      | refine LeO.ite ?_ ?_
      | refine LeO.bind ?_ (fun _ => ?_)
set_option maxHeartbeats 8000000 in
set_option maxRecDepth 100000 in
theorem parser_containsPathSpecialChar.calls (k : Nat) (a0 : ByteArray) (r : Bool) (w : World) (h : parser_containsPathSpecialChar.f k a0 = some r) :
    Calls Try.prog 36 #[.string a0] w fun e w' => e = .returned (.bool r) ∧ Below w.heap.size w w' := by
  have HB := Aside0.mk (Below.refl w.heap.size w)
  have H : ((some (([(⟨#[36]⟩ : ByteArray), (⟨#[42]⟩ : ByteArray), (⟨#[46]⟩ : ByteArray), (⟨#[91]⟩ : ByteArray), (⟨#[93]⟩ : ByteArray)] : List ByteArray) : List ByteArray)).bind fun y174 => (parser_containsPathSpecialChar.l0 k a0 y174 (y174.length : Int) 0)) = some r := h
  clear h
  obtain ⟨y174, hy174⟩ : ∃ y_ : List ByteArray, y_ = (([(⟨#[36]⟩ : ByteArray), (⟨#[42]⟩ : ByteArray), (⟨#[46]⟩ : ByteArray), (⟨#[91]⟩ : ByteArray), (⟨#[93]⟩ : ByteArray)] : List ByteArray)) := ⟨_, rfl⟩
  replace H : (parser_containsPathSpecialChar.l0 k a0 y174 (y174.length : Int) 0) = some r := by first | (rw [hy174]; with_reducible exact H) | (have H2_ := (Option.bind_some _ _).symm.trans H; rw [hy174]; with_reducible exact H2_) | (have H2_ := (Option.bind_some _ _).symm.trans H; with_reducible exact H2_) | with_reducible exact H | (rw [hy174]; exact H) | exact H
  have Ny174 := Aside0.mk hy174
  clear hy174
  have H' := Aside0.mk H
  clear H
  go_enter Try.func36, Try.ntmps36
  go_wp2_with (first | ((with_reducible refine gate_dst (N := 5) rfl ?_); refine Kd.R_lit Kd.string _ 9 ?hg (N := 5) ?hd (xs := ([(⟨#[36]⟩ : ByteArray), (⟨#[42]⟩ : ByteArray), (⟨#[46]⟩ : ByteArray), (⟨#[91]⟩ : ByteArray), (⟨#[93]⟩ : ByteArray)] : List ByteArray)) (inner := [.string (⟨#[36]⟩ : ByteArray), .string (⟨#[42]⟩ : ByteArray), .string (⟨#[46]⟩ : ByteArray), .string (⟨#[91]⟩ : ByteArray), .string (⟨#[93]⟩ : ByteArray)]) (ok := fun _ => True) (okp := fun _ => True) ?hr ?hp (fun _ hk => hk) trivial (Below.refl _ _) (Nat.le_refl _) (by simp) ?_; (case hd => rfl); (case hg => rfl); (case hr => first | (go_simp; done) | (go_simp; rfl)); (case hp => exact (Reps.one (show Kd.M Kd.string _ _ _ (⟨#[36]⟩ : ByteArray) [.string (⟨#[36]⟩ : ByteArray)] from rfl) (Reps.one (show Kd.M Kd.string _ _ _ (⟨#[42]⟩ : ByteArray) [.string (⟨#[42]⟩ : ByteArray)] from rfl) (Reps.one (show Kd.M Kd.string _ _ _ (⟨#[46]⟩ : ByteArray) [.string (⟨#[46]⟩ : ByteArray)] from rfl) (Reps.one (show Kd.M Kd.string _ _ _ (⟨#[91]⟩ : ByteArray) [.string (⟨#[91]⟩ : ByteArray)] from rfl) (Reps.one (show Kd.M Kd.string _ _ _ (⟨#[93]⟩ : ByteArray) [.string (⟨#[93]⟩ : ByteArray)] from rfl) (Reps.none _ _))))))); intro v175 w2 ho3 hb hg_ hnew_; clear hg_ hnew_; (first | rw [← Ny174.out] at ho3 | (simp only [Int.reduceToNat] at ho3; rw [← Ny174.out] at ho3)); have n0_ := Aside0.mk (Kd.R_lower ho3 (below_size (by repeat (first | (with_reducible first | exact HB.out | apply below_alloc | apply pw_below_drewN | apply below_drew1) | exact HB.out)))); have n1_ := Aside0.mk (below_step (by repeat (first | (with_reducible first | exact HB.out | apply below_alloc | apply pw_below_drewN | apply below_drew1) | exact HB.out)) hb); clear HB; have HO176 := n0_; have HB := n1_; clear n0_ n1_; clear hb ho3; obtain ⟨Ao4, co4, eo4⟩ := Kd.R_slice HO176.out; subst eo4))
  go_loopg [7] k (fun kq v7 w' => ∃ (x7_1 : Int), v7 = .int .i64 x7_1 ∧ Aside0 (parser_containsPathSpecialChar.l0 kq a0 y174 (y174.length : Int) x7_1 = some r) ∧ Aside0 (kq ≤ k) ∧ Aside0 (Kd.R Kd.string 9 w' w.heap.size (fun _ => True) (.slice Ao4 y174.length co4) y174) ∧ Aside0 (Below w.heap.size w w'))
  case atStart => exact ⟨(0), (by first | rfl | (simp; done) | (simp [*]; done)), H', ⟨Nat.le_refl _⟩, ⟨by (with_reducible repeat (first | apply Kd.R_alloc | apply Kd.R_drewN | apply Kd.R_drew)); exact HO176.out⟩, ⟨by repeat (first | (with_reducible first | exact HB.out | apply below_alloc | apply pw_below_drewN | apply below_drew1) | exact HB.out)⟩⟩
  case round =>
    clear H'
    try clear p2
    try clear c3
    obtain ⟨x7_1, rfl, HA, HK1, HO_5, HB⟩ := hrel
    cases gk with
    | zero => exact absurd HA.out (by simp [parser_containsPathSpecialChar.l0])
    | succ k1 =>
      have H := HA.out
      clear HA
      simp only [parser_containsPathSpecialChar.l0] at H
      by_cases c5 : x7_1 < (y174.length : Int)
      · rw [if_pos c5] at H
        have c5b0 : decide (x7_1 < (y174.length : Int)) = true := decide_eq_true c5
        clear c5
        by_cases c6 : 0 ≤ x7_1
        · rw [if_pos c6] at H
          have c6b0 : decide (0 ≤ x7_1) = true := decide_eq_true c6
          clear c6
          by_cases c7 : x7_1 < (y174.length : Int)
          · rw [if_pos c7] at H
            have c7b0 : decide (x7_1 < (y174.length : Int)) = true := decide_eq_true c7
            clear c7
            replace H := Option.bind_eq_some_iff.mp H
            obtain ⟨t178, A80, H⟩ := H
            replace H : (if t178 = true then (some true) else (parser_containsPathSpecialChar.l0 k1 a0 y174 (y174.length : Int) (wrap64 (x7_1 + 1)))) = some r := H
            have A8 := Aside0.mk A80
            clear A80
            by_cases c9 : t178 = true
            · subst c9
              have H1 : (some true) = some r := by rw [if_pos rfl] at H; exact H
              clear H
              have H := H1
              clear H1
              obtain rfl := Option.some.inj H
              have p177 : 0 ≤ (x7_1 : Int) := of_decide_eq_true (by first | (with_reducible assumption) | assumption)
              have q177 : x7_1 < (y174.length : Int) := of_decide_eq_true (by first | (with_reducible assumption) | assumption)
              obtain ⟨ad177, e177, hx177_0⟩ := Kd.at_string (Kd.R_reads' HO_5.out).2.2 x7_1 p177 q177
              cases e177
              replace p177 := eq_true p177
              replace q177 := eq_true q177
              go_wp2_with (first | ((with_reducible refine gate_callee (f := 44) rfl ?_); refine goesL_ (some 13) rfl rfl Try.func44 (by kernel_rfl) rfl #[.string a0, .string (rdOf ByteArray.empty y174 x7_1)] rfl (by (try simp only [List.map_toArray, List.map_cons, List.map_nil]); first | done | rfl | (simp only [List.length_drop, List.length_take]; rfl)) ?_; (with_reducible refine (parser_zzContains.calls k1 a0 (rdOf ByteArray.empty y174 x7_1) true _ A8.out).mono ?_); rintro e w' ⟨rfl, ⟨nd, rfl⟩⟩; refine ⟨_, rfl, ?_⟩))
              go_ret
              exact ⟨by first | rfl | (simp [errW_none, errW_some] <;> rfl) | (simp [*, errW_none, errW_some] <;> rfl), by repeat (first | (with_reducible first | exact HB.out | apply below_alloc | apply pw_below_drewN | apply below_drew1) | exact HB.out)⟩
            · replace c9 := Bool.eq_false_iff.mpr c9
              subst c9
              have H1 : (parser_containsPathSpecialChar.l0 k1 a0 y174 (y174.length : Int) (wrap64 (x7_1 + 1))) = some r := by rw [if_neg (show ¬ (false = true) by decide)] at H; exact H
              clear H
              have H := H1
              clear H1
              have H' := Aside0.mk H
              clear H
              have p177 : 0 ≤ (x7_1 : Int) := of_decide_eq_true (by first | (with_reducible assumption) | assumption)
              have q177 : x7_1 < (y174.length : Int) := of_decide_eq_true (by first | (with_reducible assumption) | assumption)
              obtain ⟨ad177, e177, hx177_0⟩ := Kd.at_string (Kd.R_reads' HO_5.out).2.2 x7_1 p177 q177
              cases e177
              replace p177 := eq_true p177
              replace q177 := eq_true q177
              go_wp2_with (first | ((with_reducible refine gate_callee (f := 44) rfl ?_); refine goesL_ (some 13) rfl rfl Try.func44 (by kernel_rfl) rfl #[.string a0, .string (rdOf ByteArray.empty y174 x7_1)] rfl (by (try simp only [List.map_toArray, List.map_cons, List.map_nil]); first | done | rfl | (simp only [List.length_drop, List.length_take]; rfl)) ?_; (with_reducible refine (parser_zzContains.calls k1 a0 (rdOf ByteArray.empty y174 x7_1) false _ A8.out).mono ?_); rintro e w' ⟨rfl, ⟨nd, rfl⟩⟩; refine ⟨_, rfl, ?_⟩))
              go_roundg k1
              case measure => have := HK1.out; omega
              case rel => exact ⟨(wrap64 (x7_1 + 1)), (by first | rfl | (simp; done) | (simp [*]; done)), H', ⟨by have := HK1.out; omega⟩, ⟨by (with_reducible repeat (first | apply Kd.R_alloc | apply Kd.R_drewN | apply Kd.R_drew)); exact HO_5.out⟩, ⟨by repeat (first | (with_reducible first | exact HB.out | apply below_alloc | apply pw_below_drewN | apply below_drew1) | exact HB.out)⟩⟩
          · rw [if_neg c7] at H
            exact absurd H (by simp)
        · rw [if_neg c6] at H
          exact absurd H (by simp)
      · rw [if_neg c5] at H
        have c5b0 : decide (x7_1 < (y174.length : Int)) = false := decide_eq_false c5
        clear c5
        obtain rfl := Option.some.inj H
        go_wp2
        go_ret
        exact ⟨by first | rfl | (simp [errW_none, errW_some] <;> rfl) | (simp [*, errW_none, errW_some] <;> rfl), by repeat (first | (with_reducible first | exact HB.out | apply below_alloc | apply pw_below_drewN | apply below_drew1) | exact HB.out)⟩

/-! ### stringslite_HasPrefix: function 55 -/
def stringslite_HasPrefix.f (a0 : ByteArray) (a1 : ByteArray) : Option (Bool) := if (a0.size : Int) ≥ (a1.size : Int) then (if 0 ≤ (a1.size : Int) then (if (a1.size : Int) ≤ (a0.size : Int) then (some ((a0.extract 0 ((a1.size : Int) : Int).toNat).toList == a1.toList)) else (none)) else (none)) else (some false)
set_option maxHeartbeats 8000000 in
set_option maxRecDepth 100000 in
theorem stringslite_HasPrefix.calls (a0 : ByteArray) (a1 : ByteArray) (r : Bool) (w : World) (h : stringslite_HasPrefix.f a0 a1 = some r) :
    Calls Try.prog 55 #[.string a0, .string a1] w fun e w' => e = .returned (.bool r) ∧ Drawn0 w w' := by
  have H : (if (a0.size : Int) ≥ (a1.size : Int) then (if 0 ≤ (a1.size : Int) then (if (a1.size : Int) ≤ (a0.size : Int) then (some ((a0.extract 0 ((a1.size : Int) : Int).toNat).toList == a1.toList)) else (none)) else (none)) else (some false)) = some r := h
  clear h
  by_cases c3 : (a0.size : Int) ≥ (a1.size : Int)
  · rw [if_pos c3] at H
    have c3b0 : decide ((a1.size : Int) ≤ (a0.size : Int)) = true := decide_eq_true c3
    have c3b1 : decide (a1.size ≤ a0.size) = true := decide_eq_true (Int.ofNat_le.mp c3)
    clear c3
    by_cases c4 : 0 ≤ (a1.size : Int)
    · rw [if_pos c4] at H
      have c4b0 := eq_true c4
      have c4b1 : decide (0 ≤ (a1.size : Int)) = true := decide_eq_true c4
      clear c4
      by_cases c5 : (a1.size : Int) ≤ (a0.size : Int)
      · rw [if_pos c5] at H
        have c5b0 := eq_true c5
        have c5b1 : decide ((a1.size : Int) ≤ (a0.size : Int)) = true := decide_eq_true c5
        clear c5
        obtain rfl := Option.some.inj H
        go_enter Try.func55, Try.ntmps55
        go_wp2
        go_ret
        exact ⟨by first | rfl | (simp; done) | (simp [*]; done), by repeat (first | exact Drawn0.refl _ | apply Drawn0.step)⟩
      · rw [if_neg c5] at H
        exact absurd H (by simp)
    · rw [if_neg c4] at H
      exact absurd H (by simp)
  · rw [if_neg c3] at H
    have c3b0 : decide ((a1.size : Int) ≤ (a0.size : Int)) = false := decide_eq_false c3
    have c3b1 : decide (a1.size ≤ a0.size) = false := decide_eq_false (fun h => c3 (Int.ofNat_le.mpr h))
    clear c3
    obtain rfl := Option.some.inj H
    go_enter Try.func55, Try.ntmps55
    go_wp2
    go_ret
    exact ⟨by first | rfl | (simp; done) | (simp [*]; done), by repeat (first | exact Drawn0.refl _ | apply Drawn0.step)⟩

/-! ### strings_HasPrefix: function 45 -/
def strings_HasPrefix.f (a0 : ByteArray) (a1 : ByteArray) : Option (Bool) := (stringslite_HasPrefix.f a0 a1).bind fun t182 => (some t182)
set_option maxHeartbeats 8000000 in
set_option maxRecDepth 100000 in
theorem strings_HasPrefix.calls (a0 : ByteArray) (a1 : ByteArray) (r : Bool) (w : World) (h : strings_HasPrefix.f a0 a1 = some r) :
    Calls Try.prog 45 #[.string a0, .string a1] w fun e w' => e = .returned (.bool r) ∧ Drawn0 w w' := by
  have H : ((stringslite_HasPrefix.f a0 a1).bind fun t182 => (some t182)) = some r := h
  clear h
  replace H := Option.bind_eq_some_iff.mp H
  obtain ⟨t182, A30, H⟩ := H
  replace H : (some t182) = some r := H
  have A3 := Aside0.mk A30
  clear A30
  obtain rfl := Option.some.inj H
  go_enter Try.func45, Try.ntmps45
  go_wp2_with (first | ((with_reducible refine gate_callee (f := 55) rfl ?_); refine goesL_ (some 7) rfl rfl Try.func55 (by kernel_rfl) rfl #[.string a0, .string a1] rfl (by (try simp only [List.map_toArray, List.map_cons, List.map_nil]); first | done | rfl | (simp only [List.length_drop, List.length_take]; rfl)) ?_; (with_reducible refine (stringslite_HasPrefix.calls a0 a1 t182 _ A3.out).mono ?_); rintro e w' ⟨rfl, ⟨nd, rfl⟩⟩; refine ⟨_, rfl, ?_⟩))
  go_ret
  exact ⟨by first | rfl | (simp; done) | (simp [*]; done), by repeat (first | exact Drawn0.refl _ | apply Drawn0.step)⟩

/-! ### stringslite_HasSuffix: function 56 -/
def stringslite_HasSuffix.f (a0 : ByteArray) (a1 : ByteArray) : Option (Bool) := if (a0.size : Int) ≥ (a1.size : Int) then (if 0 ≤ (wrap64 ((a0.size : Int) - (a1.size : Int))) then (if (wrap64 ((a0.size : Int) - (a1.size : Int))) ≤ (a0.size : Int) then (some ((a0.extract ((wrap64 ((a0.size : Int) - (a1.size : Int))) : Int).toNat a0.size).toList == a1.toList)) else (none)) else (none)) else (some false)
set_option maxHeartbeats 8000000 in
set_option maxRecDepth 100000 in
theorem stringslite_HasSuffix.calls (a0 : ByteArray) (a1 : ByteArray) (r : Bool) (w : World) (h : stringslite_HasSuffix.f a0 a1 = some r) :
    Calls Try.prog 56 #[.string a0, .string a1] w fun e w' => e = .returned (.bool r) ∧ Drawn0 w w' := by
  have H : (if (a0.size : Int) ≥ (a1.size : Int) then (if 0 ≤ (wrap64 ((a0.size : Int) - (a1.size : Int))) then (if (wrap64 ((a0.size : Int) - (a1.size : Int))) ≤ (a0.size : Int) then (some ((a0.extract ((wrap64 ((a0.size : Int) - (a1.size : Int))) : Int).toNat a0.size).toList == a1.toList)) else (none)) else (none)) else (some false)) = some r := h
  clear h
  by_cases c3 : (a0.size : Int) ≥ (a1.size : Int)
  · rw [if_pos c3] at H
    have c3b0 : decide ((a1.size : Int) ≤ (a0.size : Int)) = true := decide_eq_true c3
    have c3b1 : decide (a1.size ≤ a0.size) = true := decide_eq_true (Int.ofNat_le.mp c3)
    clear c3
    obtain ⟨ji4, hji4⟩ : ∃ j_ : Int, (wrap64 ((a0.size : Int) - (a1.size : Int))) = j_ := ⟨_, rfl⟩
    replace H : (if 0 ≤ (ji4) then (if (ji4) ≤ (a0.size : Int) then (some ((a0.extract ((ji4) : Int).toNat a0.size).toList == a1.toList)) else (none)) else (none)) = some r := by first | (rw [hji4] at H; exact H) | (simp only [hji4] at H ⊢; exact H)
    have hji4w : (IntKind.i64.wrap ((a0.size : Int) - (a1.size : Int))) = ji4 := (i64_w _).trans hji4
    by_cases c5 : 0 ≤ (ji4)
    · rw [if_pos c5] at H
      have c5b0 := eq_true c5
      have c5b1 : decide (0 ≤ (ji4)) = true := decide_eq_true c5
      clear c5
      by_cases c6 : (ji4) ≤ (a0.size : Int)
      · rw [if_pos c6] at H
        have c6b0 := eq_true c6
        have c6b1 : decide ((ji4) ≤ (a0.size : Int)) = true := decide_eq_true c6
        clear c6
        obtain rfl := Option.some.inj H
        go_enter Try.func56, Try.ntmps56
        go_wp2
        go_ret
        exact ⟨by first | rfl | (simp; done) | (simp only [← hji4] <;> (first | rfl | simp)) | (simp [*]; done), by repeat (first | exact Drawn0.refl _ | apply Drawn0.step)⟩
      · rw [if_neg c6] at H
        exact absurd H (by simp)
    · rw [if_neg c5] at H
      exact absurd H (by simp)
  · rw [if_neg c3] at H
    have c3b0 : decide ((a1.size : Int) ≤ (a0.size : Int)) = false := decide_eq_false c3
    have c3b1 : decide (a1.size ≤ a0.size) = false := decide_eq_false (fun h => c3 (Int.ofNat_le.mpr h))
    clear c3
    obtain rfl := Option.some.inj H
    go_enter Try.func56, Try.ntmps56
    go_wp2
    go_ret
    exact ⟨by first | rfl | (simp; done) | (simp [*]; done), by repeat (first | exact Drawn0.refl _ | apply Drawn0.step)⟩

/-! ### strings_HasSuffix: function 46 -/
def strings_HasSuffix.f (a0 : ByteArray) (a1 : ByteArray) : Option (Bool) := (stringslite_HasSuffix.f a0 a1).bind fun t183 => (some t183)
set_option maxHeartbeats 8000000 in
set_option maxRecDepth 100000 in
theorem strings_HasSuffix.calls (a0 : ByteArray) (a1 : ByteArray) (r : Bool) (w : World) (h : strings_HasSuffix.f a0 a1 = some r) :
    Calls Try.prog 46 #[.string a0, .string a1] w fun e w' => e = .returned (.bool r) ∧ Drawn0 w w' := by
  have H : ((stringslite_HasSuffix.f a0 a1).bind fun t183 => (some t183)) = some r := h
  clear h
  replace H := Option.bind_eq_some_iff.mp H
  obtain ⟨t183, A30, H⟩ := H
  replace H : (some t183) = some r := H
  have A3 := Aside0.mk A30
  clear A30
  obtain rfl := Option.some.inj H
  go_enter Try.func46, Try.ntmps46
  go_wp2_with (first | ((with_reducible refine gate_callee (f := 56) rfl ?_); refine goesL_ (some 7) rfl rfl Try.func56 (by kernel_rfl) rfl #[.string a0, .string a1] rfl (by (try simp only [List.map_toArray, List.map_cons, List.map_nil]); first | done | rfl | (simp only [List.length_drop, List.length_take]; rfl)) ?_; (with_reducible refine (stringslite_HasSuffix.calls a0 a1 t183 _ A3.out).mono ?_); rintro e w' ⟨rfl, ⟨nd, rfl⟩⟩; refine ⟨_, rfl, ?_⟩))
  go_ret
  exact ⟨by first | rfl | (simp; done) | (simp [*]; done), by repeat (first | exact Drawn0.refl _ | apply Drawn0.step)⟩

/-! ### goccyyaml_zzIndex: function 48 -/
def goccyyaml_zzIndex.l0 : Nat → ByteArray → ByteArray → Int → Option (Int)
  | 0, _, _, _ => none
  | k + 1, x0, x1, x5 => if (wrap64 (x5 + (x1.size : Int))) ≤ (x0.size : Int) then (if 0 ≤ x5 then (if x5 ≤ (wrap64 (x5 + (x1.size : Int))) then (if (x0.extract (x5 : Int).toNat ((wrap64 (x5 + (x1.size : Int))) : Int).toNat).toList = x1.toList then (some x5) else (goccyyaml_zzIndex.l0 k x0 x1 (wrap64 (x5 + 1)))) else (none)) else (none)) else (some (-1))
def goccyyaml_zzIndex.f (k : Nat) (a0 : ByteArray) (a1 : ByteArray) : Option (Int) := goccyyaml_zzIndex.l0 k a0 a1 0
theorem goccyyaml_zzIndex.mono_l : ∀ k, (∀ y0 y1 y2, LeO (goccyyaml_zzIndex.l0 k y0 y1 y2) (goccyyaml_zzIndex.l0 (k + 1) y0 y1 y2))
  | 0 => fun _ _ _ r h => by simp [goccyyaml_zzIndex.l0] at h
  | k + 1 => by
    have ih0 := goccyyaml_zzIndex.mono_l k
    · intro y0 y1 y2
      unfold goccyyaml_zzIndex.l0
      repeat' first
      | (with_reducible exact ih0 _ _ _)
      | (with_reducible exact LeO.refl _)
      | (with_reducible exact LeO.none _)
      | (with_reducible refine LeO.ite ?_ ?_)
      | (with_reducible refine LeO.bind ?_ (fun _ => ?_))
      | exact ih0 _ _ _
      | exact LeO.none _
      | refine LeO.ite ?_ ?_
      | refine LeO.bind ?_ (fun _ => ?_)
theorem goccyyaml_zzIndex.mono : ∀ a0 a1 k, LeO (goccyyaml_zzIndex.f k a0 a1) (goccyyaml_zzIndex.f (k + 1) a0 a1) := by
  intro a0 a1 k
  have ih0 := goccyyaml_zzIndex.mono_l k
  unfold goccyyaml_zzIndex.f
  repeat' first
      | (with_reducible exact ih0 _ _ _)
      | (with_reducible exact LeO.refl _)
      | (with_reducible exact LeO.none _)
      | (with_reducible refine LeO.ite ?_ ?_)
      | (with_reducible refine LeO.bind ?_ (fun _ => ?_))
      | exact ih0 _ _ _
      | exact LeO.none _
      | refine LeO.ite ?_ ?_
      | refine LeO.bind ?_ (fun _ => ?_)
set_option maxHeartbeats 8000000 in
set_option maxRecDepth 100000 in
theorem goccyyaml_zzIndex.calls (k : Nat) (a0 : ByteArray) (a1 : ByteArray) (r : Int) (w : World) (h : goccyyaml_zzIndex.f k a0 a1 = some r) :
    Calls Try.prog 48 #[.string a0, .string a1] w fun e w' => e = .returned (.int .i64 r) ∧ Drawn0 w w' := by
  have H : (goccyyaml_zzIndex.l0 k a0 a1 0) = some r := h
  clear h
  have H' := Aside0.mk H
  clear H
  go_enter Try.func48, Try.ntmps48
  go_wp2
  go_loopg [5] k (fun kq v5 w' => ∃ (x5_1 : Int), v5 = .int .i64 x5_1 ∧ Aside0 (goccyyaml_zzIndex.l0 kq a0 a1 x5_1 = some r) ∧ Aside0 (kq ≤ k) ∧ Drawn0 w w')
  case atStart => exact ⟨(0), (by first | rfl | (simp; done) | (simp [*]; done)), H', ⟨Nat.le_refl _⟩, by repeat (first | exact Drawn0.refl _ | apply Drawn0.step)⟩
  case round =>
    clear H'
    try clear p2
    obtain ⟨x5_1, rfl, HA, HK1, ⟨m1, rfl⟩⟩ := hrel
    cases gk with
    | zero => exact absurd HA.out (by simp [goccyyaml_zzIndex.l0])
    | succ k1 =>
      have H := HA.out
      clear HA
      simp only [goccyyaml_zzIndex.l0] at H
      by_cases c3 : (wrap64 (x5_1 + (a1.size : Int))) ≤ (a0.size : Int)
      · rw [if_pos c3] at H
        have c3b0 : decide ((wrap64 (x5_1 + (a1.size : Int))) ≤ (a0.size : Int)) = true := decide_eq_true c3
        clear c3
        by_cases c4 : 0 ≤ x5_1
        · rw [if_pos c4] at H
          have c4b0 := eq_true c4
          have c4b1 : decide (0 ≤ x5_1) = true := decide_eq_true c4
          clear c4
          by_cases c5 : x5_1 ≤ (wrap64 (x5_1 + (a1.size : Int)))
          · rw [if_pos c5] at H
            have c5b0 := eq_true c5
            have c5b1 : decide (x5_1 ≤ (wrap64 (x5_1 + (a1.size : Int)))) = true := decide_eq_true c5
            have c6b0 := eq_true (of_decide_eq_true (by first | (with_reducible assumption) | assumption) : (wrap64 (x5_1 + (a1.size : Int))) ≤ (a0.size : Int))
            by_cases c7 : (a0.extract (x5_1 : Int).toNat ((wrap64 (x5_1 + (a1.size : Int))) : Int).toNat).toList = a1.toList
            · rw [if_pos c7] at H
              have c7b0 : ((a0.extract (x5_1 : Int).toNat ((wrap64 (x5_1 + (a1.size : Int))) : Int).toNat).toList == a1.toList) = true := beq_iff_eq.mpr c7
              have c7b1 : ((a0.extract (x5_1 : Int).toNat ((wrap64 (x5_1 + (a1.size : Int))) : Int).toNat).toList != a1.toList) = false := bne_eq_false_iff_eq.mpr c7
              clear c7
              obtain rfl := Option.some.inj H
              go_wp2
              go_ret
              exact ⟨by first | rfl | (simp; done) | (simp [*]; done), by repeat (first | exact Drawn0.refl _ | apply Drawn0.step)⟩
            · rw [if_neg c7] at H
              have c7b0 : ((a0.extract (x5_1 : Int).toNat ((wrap64 (x5_1 + (a1.size : Int))) : Int).toNat).toList == a1.toList) = false := beq_eq_false_iff_ne.mpr c7
              have c7b1 : ((a0.extract (x5_1 : Int).toNat ((wrap64 (x5_1 + (a1.size : Int))) : Int).toNat).toList != a1.toList) = true := bne_iff_ne.mpr c7
              have H' := Aside0.mk H
              clear H
              go_wp2
              go_roundg k1
              case measure => have := HK1.out; omega
              case rel => exact ⟨(wrap64 (x5_1 + 1)), (by first | rfl | (simp; done) | (simp [*]; done)), H', ⟨by have := HK1.out; omega⟩, by repeat (first | exact Drawn0.refl _ | apply Drawn0.step)⟩
          · rw [if_neg c5] at H
            exact absurd H (by simp)
        · rw [if_neg c4] at H
          exact absurd H (by simp)
      · rw [if_neg c3] at H
        have c3b0 : decide ((wrap64 (x5_1 + (a1.size : Int))) ≤ (a0.size : Int)) = false := decide_eq_false c3
        clear c3
        obtain rfl := Option.some.inj H
        go_wp2
        go_ret
        exact ⟨by first | rfl | (simp; done) | (simp [*]; done), by repeat (first | exact Drawn0.refl _ | apply Drawn0.step)⟩

/-! ### goccyyaml_zzContains: function 47 -/
def goccyyaml_zzContains.f (k : Nat) (a0 : ByteArray) (a1 : ByteArray) : Option (Bool) := (goccyyaml_zzIndex.f k a0 a1).bind fun t184 => (some (decide (t184 ≥ 0)))
theorem goccyyaml_zzContains.mono : ∀ a0 a1 k, LeO (goccyyaml_zzContains.f k a0 a1) (goccyyaml_zzContains.f (k + 1) a0 a1) := by
  intro a0 a1 k
  unfold goccyyaml_zzContains.f
  repeat' first
      | (with_reducible exact goccyyaml_zzIndex.mono _ _ _)
      | (with_reducible exact LeO.refl _)
      | (with_reducible exact LeO.none _)
      | (with_reducible refine LeO.ite ?_ ?_)
      | (with_reducible refine LeO.bind ?_ (fun _ => ?_))
      | exact goccyyaml_zzIndex.mono _ _ _
      | exact LeO.none _
      | refine LeO.ite ?_ ?_
      | refine LeO.bind ?_ (fun _ => ?_)
set_option maxHeartbeats 8000000 in
set_option maxRecDepth 100000 in
theorem goccyyaml_zzContains.calls (k : Nat) (a0 : ByteArray) (a1 : ByteArray) (r : Bool) (w : World) (h : goccyyaml_zzContains.f k a0 a1 = some r) :
    Calls Try.prog 47 #[.string a0, .string a1] w fun e w' => e = .returned (.bool r) ∧ Drawn0 w w' := by
  have H : ((goccyyaml_zzIndex.f k a0 a1).bind fun t184 => (some (decide (t184 ≥ 0)))) = some r := h
  clear h
  replace H := Option.bind_eq_some_iff.mp H
  obtain ⟨t184, A30, H⟩ := H
  replace H : (some (decide (t184 ≥ 0))) = some r := H
  have A3 := Aside0.mk A30
  clear A30
  obtain rfl := Option.some.inj H
  go_enter Try.func47, Try.ntmps47
  go_wp2_with (first | ((with_reducible refine gate_callee (f := 48) rfl ?_); refine goesL_ (some 7) rfl rfl Try.func48 (by kernel_rfl) rfl #[.string a0, .string a1] rfl (by (try simp only [List.map_toArray, List.map_cons, List.map_nil]); first | done | rfl | (simp only [List.length_drop, List.length_take]; rfl)) ?_; (with_reducible refine (goccyyaml_zzIndex.calls k a0 a1 t184 _ A3.out).mono ?_); rintro e w' ⟨rfl, ⟨nd, rfl⟩⟩; refine ⟨_, rfl, ?_⟩))
  go_ret
  exact ⟨by first | rfl | (simp; done) | (simp [*]; done), by repeat (first | exact Drawn0.refl _ | apply Drawn0.step)⟩

/-! ### goccyyaml_zzReplaceAll: function 39 -/
def goccyyaml_zzReplaceAll.l0 : Nat → ByteArray → ByteArray → ByteArray → List Int → Option (ByteArray)
  | 0, _, _, _, _ => none
  | k + 1, x0, x1, x2, x7 => (goccyyaml_zzIndex.f k x0 x1).bind fun t185 => (if t185 < 0 then (if x7.length + x0.size < 140737488355328 then (some (strOfNums (x7 ++ bytesOf x0))) else (none)) else (if 0 ≤ t185 then (if t185 ≤ (x0.size : Int) then (if x7.length + (x0.extract 0 (t185 : Int).toNat).size < 140737488355328 then ((some (x7 ++ bytesOf (x0.extract 0 (t185 : Int).toNat) : List Int)).bind fun y189 => (if y189.length + x2.size < 140737488355328 then (if 0 ≤ (wrap64 (t185 + (x1.size : Int))) then (if (wrap64 (t185 + (x1.size : Int))) ≤ (x0.size : Int) then (goccyyaml_zzReplaceAll.l0 k (x0.extract ((wrap64 (t185 + (x1.size : Int))) : Int).toNat x0.size) x1 x2 (y189 ++ bytesOf x2)) else (none)) else (none)) else (none))) else (none)) else (none)) else (none)))
def goccyyaml_zzReplaceAll.f (k : Nat) (a0 : ByteArray) (a1 : ByteArray) (a2 : ByteArray) : Option (ByteArray) := goccyyaml_zzReplaceAll.l0 k a0 a1 a2 ([] : List Int)
theorem goccyyaml_zzReplaceAll.mono_l : ∀ k, (∀ y0 y1 y2 y3, LeO (goccyyaml_zzReplaceAll.l0 k y0 y1 y2 y3) (goccyyaml_zzReplaceAll.l0 (k + 1) y0 y1 y2 y3))
  | 0 => fun _ _ _ _ r h => by simp [goccyyaml_zzReplaceAll.l0] at h
  | k + 1 => by
    have ih0 := goccyyaml_zzReplaceAll.mono_l k
    · intro y0 y1 y2 y3
      unfold goccyyaml_zzReplaceAll.l0
      repeat' first
      | (with_reducible exact ih0 _ _ _ _)
      | (with_reducible exact goccyyaml_zzIndex.mono _ _ _)
      | (with_reducible exact LeO.refl _)
      | (with_reducible exact LeO.none _)
      | (with_reducible refine LeO.ite ?_ ?_)
      | (with_reducible refine LeO.bind ?_ (fun _ => ?_))
      | exact ih0 _ _ _ _
      | exact goccyyaml_zzIndex.mono _ _ _
      | exact LeO.none _
      | refine LeO.ite ?_ ?_
      | refine LeO.bind ?_ (fun _ => ?_)
theorem goccyyaml_zzReplaceAll.mono : ∀ a0 a1 a2 k, LeO (goccyyaml_zzReplaceAll.f k a0 a1 a2) (goccyyaml_zzReplaceAll.f (k + 1) a0 a1 a2) := by
  intro a0 a1 a2 k
  have ih0 := goccyyaml_zzReplaceAll.mono_l k
  unfold goccyyaml_zzReplaceAll.f
  repeat' first
      | (with_reducible exact ih0 _ _ _ _)
      | (with_reducible exact goccyyaml_zzIndex.mono _ _ _)
      | (with_reducible exact LeO.refl _)
      | (with_reducible exact LeO.none _)
      | (with_reducible refine LeO.ite ?_ ?_)
      | (with_reducible refine LeO.bind ?_ (fun _ => ?_))
      | exact ih0 _ _ _ _
      | exact goccyyaml_zzIndex.mono _ _ _
      | exact LeO.none _
      | refine LeO.ite ?_ ?_
      | refine LeO.bind ?_ (fun _ => ?_)
set_option maxHeartbeats 8000000 in
set_option maxRecDepth 100000 in
theorem goccyyaml_zzReplaceAll.calls (k : Nat) (a0 : ByteArray) (a1 : ByteArray) (a2 : ByteArray) (r : ByteArray) (w : World) (h : goccyyaml_zzReplaceAll.f k a0 a1 a2 = some r) :
    Calls Try.prog 39 #[.string a0, .string a1, .string a2] w fun e w' => e = .returned (.string r) ∧ Below w.heap.size w w' := by
  have HB := Aside0.mk (Below.refl w.heap.size w)
  have H : (goccyyaml_zzReplaceAll.l0 k a0 a1 a2 ([] : List Int)) = some r := h
  clear h
  have H' := Aside0.mk H
  clear H
  go_enter Try.func39, Try.ntmps39
  go_wp2
  go_loopg [0, 7] k (fun kq v0 v7 w' => ∃ (x0_1 : ByteArray) (x7_1 : List Int), v0 = .string x0_1 ∧ Aside0 (goccyyaml_zzReplaceAll.l0 kq x0_1 a1 a2 x7_1 = some r) ∧ Aside0 (kq ≤ k) ∧ Aside0 (Kd.R (Kd.int .u8) 5 w' w.heap.size (fun _ => True) v7 x7_1) ∧ Aside0 (Below w.heap.size w w'))
  case atStart => exact ⟨(a0), (([] : List Int)), (by first | rfl | (simp; done) | (simp [*]; done)), H', ⟨Nat.le_refl _⟩, ⟨by first | exact Kd.R_nil _ _ _ _ _ | exact Kd.N_nil _ _ _ _ _ | exact Kd.V_nil _ _ _ _ _ | exact Kd.Q_nil _ _ _ _ _ | exact Kd.S_nil _ _ _ _ _⟩, ⟨by repeat (first | (with_reducible first | exact HB.out | apply below_alloc | apply pw_below_drewN | apply below_drew1) | exact HB.out)⟩⟩
  case round =>
    clear H'
    try clear p2
    try clear c3
    obtain ⟨x0_1, x7_1, rfl, HA, HK1, HO_7, HB⟩ := hrel
    cases gk with
    | zero => exact absurd HA.out (by simp [goccyyaml_zzReplaceAll.l0])
    | succ k1 =>
      have H := HA.out
      clear HA
      simp only [goccyyaml_zzReplaceAll.l0] at H
      replace H := Option.bind_eq_some_iff.mp H
      obtain ⟨t185, A40, H⟩ := H
      replace H : (if t185 < 0 then (if x7_1.length + x0_1.size < 140737488355328 then (some (strOfNums (x7_1 ++ bytesOf x0_1))) else (none)) else (if 0 ≤ t185 then (if t185 ≤ (x0_1.size : Int) then (if x7_1.length + (x0_1.extract 0 (t185 : Int).toNat).size < 140737488355328 then ((some (x7_1 ++ bytesOf (x0_1.extract 0 (t185 : Int).toNat) : List Int)).bind fun y189 => (if y189.length + a2.size < 140737488355328 then (if 0 ≤ (wrap64 (t185 + (a1.size : Int))) then (if (wrap64 (t185 + (a1.size : Int))) ≤ (x0_1.size : Int) then (goccyyaml_zzReplaceAll.l0 k1 (x0_1.extract ((wrap64 (t185 + (a1.size : Int))) : Int).toNat x0_1.size) a1 a2 (y189 ++ bytesOf a2)) else (none)) else (none)) else (none))) else (none)) else (none)) else (none))) = some r := H
      have A4 := Aside0.mk A40
      clear A40
      by_cases c5 : t185 < 0
      · rw [if_pos c5] at H
        have c5b0 : decide (t185 < 0) = true := decide_eq_true c5
        clear c5
        by_cases c6 : x7_1.length + x0_1.size < 140737488355328
        · rw [if_pos c6] at H
          have LMc6 := Aside0.mk c6
          clear c6
          obtain ⟨y186, hy186⟩ : ∃ y_ : List Int, y_ = (x7_1 ++ bytesOf x0_1) := ⟨_, rfl⟩
          replace H : (some (strOfNums y186)) = some r := by first | (rw [hy186]; with_reducible exact H) | (have H2_ := (Option.bind_some _ _).symm.trans H; rw [hy186]; with_reducible exact H2_) | (have H2_ := (Option.bind_some _ _).symm.trans H; with_reducible exact H2_) | with_reducible exact H | (rw [hy186]; exact H) | exact H
          have Ny186 := Aside0.mk hy186
          clear hy186
          obtain rfl := Option.some.inj H
          go_wp2_with (first | ((with_reducible refine gate_callee (f := 48) rfl ?_); refine goesL_ (some 11) rfl rfl Try.func48 (by kernel_rfl) rfl #[.string x0_1, .string a1] rfl (by (try simp only [List.map_toArray, List.map_cons, List.map_nil]); first | done | rfl | (simp only [List.length_drop, List.length_take]; rfl)) ?_; (with_reducible refine (goccyyaml_zzIndex.calls k1 x0_1 a1 t185 _ A4.out).mono ?_); rintro e w' ⟨rfl, ⟨nd, rfl⟩⟩; refine ⟨_, rfl, ?_⟩) | (at_builtin; refine print_append_str (w0 := w) w.heap.size rfl (.tmp 14) _ 28 9 5 rfl Try.underlying28 Try.underlying9 info5 u7 x7_1 x0_1 rfl rfl ?aO ?aB ?aS ?aL ?_; (case aB => exact (by repeat (first | (with_reducible first | exact HB.out | apply below_alloc | apply pw_below_drewN | apply below_drew1) | exact HB.out))); (case aO => exact (Kd.own_of_R (by (with_reducible repeat (first | apply Kd.R_alloc | apply Kd.R_drewN | apply Kd.R_drew)); exact HO_7.out))); (case aS => exact (below_size (by repeat (first | (with_reducible first | exact HB.out | apply below_alloc | apply pw_below_drewN | apply below_drew1) | exact HB.out)))); (case aL => have := LMc6.out; omega); intro v187 w7 ho0 hb hg; have ho := Kd.R_of_own (h1 := fun _ => rfl) (ok := fun _ => True) ho0 (fun _ _ => trivial); clear ho0; have hat := True.intro; rw [← Ny186.out] at ho; change Kd.R (Kd.int .u8) 5 w7 w.heap.size (fun _ => True) v187 y186 at ho; have n0_ := Aside0.mk (hb); have n1_ := Aside0.mk (ho); clear HB; clear HO_7; have HB := n0_; have HO188 := n1_; clear n0_ n1_; clear ho hb hg hat; have hcv8 := own_string (P := Try.prog) Try.underlying28 Try.underlying5 Try.underlying9 (Kd.own_of_R HO188.out)))
          go_ret
          exact ⟨by first | rfl | (simp [errW_none, errW_some] <;> rfl) | (simp [*, errW_none, errW_some] <;> rfl), by repeat (first | (with_reducible first | exact HB.out | apply below_alloc | apply pw_below_drewN | apply below_drew1) | exact HB.out)⟩
        · rw [if_neg c6] at H
          exact absurd H (by simp)
      · rw [if_neg c5] at H
        have c5b0 : decide (t185 < 0) = false := decide_eq_false c5
        clear c5
        by_cases c9 : 0 ≤ t185
        · rw [if_pos c9] at H
          have c9b0 := eq_true c9
          have c9b1 : decide (0 ≤ t185) = true := decide_eq_true c9
          clear c9
          by_cases c10 : t185 ≤ (x0_1.size : Int)
          · rw [if_pos c10] at H
            have c10b0 := eq_true c10
            have c10b1 : decide (t185 ≤ (x0_1.size : Int)) = true := decide_eq_true c10
            clear c10
            by_cases c11 : x7_1.length + (x0_1.extract 0 (t185 : Int).toNat).size < 140737488355328
            · rw [if_pos c11] at H
              have LMc11 := Aside0.mk c11
              clear c11
              obtain ⟨y189, hy189⟩ : ∃ y_ : List Int, y_ = (x7_1 ++ bytesOf (x0_1.extract 0 (t185 : Int).toNat)) := ⟨_, rfl⟩
              replace H : (if y189.length + a2.size < 140737488355328 then (if 0 ≤ (wrap64 (t185 + (a1.size : Int))) then (if (wrap64 (t185 + (a1.size : Int))) ≤ (x0_1.size : Int) then (goccyyaml_zzReplaceAll.l0 k1 (x0_1.extract ((wrap64 (t185 + (a1.size : Int))) : Int).toNat x0_1.size) a1 a2 (y189 ++ bytesOf a2)) else (none)) else (none)) else (none)) = some r := by first | (rw [hy189]; with_reducible exact H) | (have H2_ := (Option.bind_some _ _).symm.trans H; rw [hy189]; with_reducible exact H2_) | (have H2_ := (Option.bind_some _ _).symm.trans H; with_reducible exact H2_) | with_reducible exact H | (rw [hy189]; exact H) | exact H
              have Ny189 := Aside0.mk hy189
              clear hy189
              by_cases c12 : y189.length + a2.size < 140737488355328
              · rw [if_pos c12] at H
                have LMc12 := Aside0.mk c12
                clear c12
                obtain ⟨y192, hy192⟩ : ∃ y_ : List Int, y_ = (y189 ++ bytesOf a2) := ⟨_, rfl⟩
                replace H : (if 0 ≤ (wrap64 (t185 + (a1.size : Int))) then (if (wrap64 (t185 + (a1.size : Int))) ≤ (x0_1.size : Int) then (goccyyaml_zzReplaceAll.l0 k1 (x0_1.extract ((wrap64 (t185 + (a1.size : Int))) : Int).toNat x0_1.size) a1 a2 y192) else (none)) else (none)) = some r := by first | (rw [hy192]; with_reducible exact H) | (have H2_ := (Option.bind_some _ _).symm.trans H; rw [hy192]; with_reducible exact H2_) | (have H2_ := (Option.bind_some _ _).symm.trans H; with_reducible exact H2_) | with_reducible exact H | (rw [hy192]; exact H) | exact H
                have Ny192 := Aside0.mk hy192
                clear hy192
                obtain ⟨ji13, hji13⟩ : ∃ j_ : Int, (wrap64 (t185 + (a1.size : Int))) = j_ := ⟨_, rfl⟩
                replace H : (if 0 ≤ (ji13) then (if (ji13) ≤ (x0_1.size : Int) then (goccyyaml_zzReplaceAll.l0 k1 (x0_1.extract ((ji13) : Int).toNat x0_1.size) a1 a2 y192) else (none)) else (none)) = some r := by first | (rw [hji13] at H; exact H) | (simp only [hji13] at H ⊢; exact H)
                (try rw [hji13] at A4)
                have hji13w : (IntKind.i64.wrap (t185 + (a1.size : Int))) = ji13 := (i64_w _).trans hji13
                by_cases c14 : 0 ≤ (ji13)
                · rw [if_pos c14] at H
                  have c14b0 := eq_true c14
                  have c14b1 : decide (0 ≤ (ji13)) = true := decide_eq_true c14
                  clear c14
                  by_cases c15 : (ji13) ≤ (x0_1.size : Int)
                  · rw [if_pos c15] at H
                    have c15b0 := eq_true c15
                    have c15b1 : decide ((ji13) ≤ (x0_1.size : Int)) = true := decide_eq_true c15
                    clear c15
                    have H' := Aside0.mk H
                    clear H
                    go_wp2_with (first | ((with_reducible refine gate_callee (f := 48) rfl ?_); refine goesL_ (some 11) rfl rfl Try.func48 (by kernel_rfl) rfl #[.string x0_1, .string a1] rfl (by (try simp only [List.map_toArray, List.map_cons, List.map_nil]); first | done | rfl | (simp only [List.length_drop, List.length_take]; rfl)) ?_; (with_reducible refine (goccyyaml_zzIndex.calls k1 x0_1 a1 t185 _ A4.out).mono ?_); rintro e w' ⟨rfl, ⟨nd, rfl⟩⟩; refine ⟨_, rfl, ?_⟩) | (at_builtin; refine print_append_str (w0 := w) w.heap.size rfl (.tmp 18) _ 28 9 5 rfl Try.underlying28 Try.underlying9 info5 u7 x7_1 (x0_1.extract 0 (t185 : Int).toNat) rfl rfl ?aO ?aB ?aS ?aL ?_; (case aB => exact (by repeat (first | (with_reducible first | exact HB.out | apply below_alloc | apply pw_below_drewN | apply below_drew1) | exact HB.out))); (case aO => exact (Kd.own_of_R (by (with_reducible repeat (first | apply Kd.R_alloc | apply Kd.R_drewN | apply Kd.R_drew)); exact HO_7.out))); (case aS => exact (below_size (by repeat (first | (with_reducible first | exact HB.out | apply below_alloc | apply pw_below_drewN | apply below_drew1) | exact HB.out)))); (case aL => have := LMc11.out; omega); intro v190 w16 ho0 hb hg; have ho := Kd.R_of_own (h1 := fun _ => rfl) (ok := fun _ => True) ho0 (fun _ _ => trivial); clear ho0; have hat := True.intro; rw [← Ny189.out] at ho; change Kd.R (Kd.int .u8) 5 w16 w.heap.size (fun _ => True) v190 y189 at ho; have n0_ := Aside0.mk (hb); have n1_ := Aside0.mk (ho); clear HB; clear HO_7; have HB := n0_; have HO191 := n1_; clear n0_ n1_; clear ho hb hg hat) | (at_builtin; refine print_append_str (w0 := w) w.heap.size rfl (.tmp 22) _ 28 9 5 rfl Try.underlying28 Try.underlying9 info5 v190 y189 a2 rfl rfl ?aO ?aB ?aS ?aL ?_; (case aB => exact (by repeat (first | (with_reducible first | exact HB.out | apply below_alloc | apply pw_below_drewN | apply below_drew1) | exact HB.out))); (case aO => exact (Kd.own_of_R (by (with_reducible repeat (first | apply Kd.R_alloc | apply Kd.R_drewN | apply Kd.R_drew)); exact HO191.out))); (case aS => exact (below_size (by repeat (first | (with_reducible first | exact HB.out | apply below_alloc | apply pw_below_drewN | apply below_drew1) | exact HB.out)))); (case aL => have := LMc12.out; omega); intro v193 w17 ho0 hb hg; have ho := Kd.R_of_own (h1 := fun _ => rfl) (ok := fun _ => True) ho0 (fun _ _ => trivial); clear ho0; have hat := True.intro; rw [← Ny192.out] at ho; change Kd.R (Kd.int .u8) 5 w17 w.heap.size (fun _ => True) v193 y192 at ho; have n0_ := Aside0.mk (hb); have n1_ := Aside0.mk (ho); clear HB; clear HO191; have HB := n0_; have HO194 := n1_; clear n0_ n1_; clear ho hb hg hat))
                    go_roundg k1
                    case measure => have := HK1.out; omega
                    case rel => exact ⟨(x0_1.extract ((ji13) : Int).toNat x0_1.size), (y192), (by first | rfl | (simp; done) | (simp only [← hji13] <;> (first | rfl | simp)) | (simp [*]; done)), H', ⟨by have := HK1.out; omega⟩, ⟨by (with_reducible repeat (first | apply Kd.R_alloc | apply Kd.R_drewN | apply Kd.R_drew)); exact HO194.out⟩, ⟨by repeat (first | (with_reducible first | exact HB.out | apply below_alloc | apply pw_below_drewN | apply below_drew1) | exact HB.out)⟩⟩
                  · rw [if_neg c15] at H
                    exact absurd H (by simp)
                · rw [if_neg c14] at H
                  exact absurd H (by simp)
              · rw [if_neg c12] at H
                exact absurd H (by simp)
            · rw [if_neg c11] at H
              exact absurd H (by simp)
          · rw [if_neg c10] at H
            exact absurd H (by simp)
        · rw [if_neg c9] at H
          exact absurd H (by simp)


end Go.Proofs.Ytpimdceafnhmlaa.PathN
