/-
  THE WALKS of Invalid and of FnPartInvalid itself.
-/
import Derived.Test.YtpimdceafnhmlaaInvC
namespace Go.Proofs.Ytpimdceafnhmlaa.Inv
open Go.RowKit Go.Proofs.YtpimdceafnhmlaaW.PrintWords Go.Proofs.YtpimdceafnhmlaaW.PrintLast Go.Proofs.YtpimdceafnhmlaaW.PrintMore
open Go.Proofs.Ytpimdceafnhmlaa.Str Go.Proofs.Ytpimdceafnhmlaa.PFnPartInvalid
attribute [local go_sem] max2_int min2_int max_two min_two max_three min_three max_four min_four

/-- The place of the first invalid kind; -1: there is none. -/
def firstBad : List Int → Int
  | [] => -1
  | k :: t => if k = 33 then 0 else if firstBad t < 0 then -1 else firstBad t + 1

theorem firstBad_cases : ∀ ks : List Int, (firstBad ks = -1 ∧ ∀ (j : Nat) (k : Int), ks[j]? = some k → k ≠ 33) ∨ (∃ i : Nat, firstBad ks = i ∧ ks[i]? = some 33 ∧ ∀ (j : Nat) (k : Int), j < i → ks[j]? = some k → k ≠ 33)
  | [] => .inl ⟨rfl, fun j k h => by simp at h⟩
  | k :: t => by
    by_cases hk : k = 33
    · subst hk
      exact .inr ⟨0, by simp [firstBad], rfl, fun j k h => by omega⟩
    · rcases firstBad_cases t with ⟨h1, h2⟩ | ⟨i, h1, h2, h3⟩
      · refine .inl ⟨by simp [firstBad, hk, h1], fun j k' h => ?_⟩
        cases j with
        | zero => simp at h; rw [← h]; exact hk
        | succ j => exact h2 j k' (by simpa using h)
      · refine .inr ⟨i + 1, ?_, by simpa using h2, fun j k' hj h => ?_⟩
        · rw [firstBad, if_neg hk, if_neg (by omega), h1]
          omega
        · cases j with
          | zero => simp at h; rw [← h]; exact hk
          | succ j => exact h3 j k' (by omega) (by simpa using h)

theorem firstBad_snoc (k : Int) : ∀ ks : List Int, firstBad (ks ++ [k]) = if firstBad ks < 0 then (if k = 33 then (ks.length : Int) else -1) else firstBad ks
  | [] => by
    by_cases hk : k = 33 <;> simp [firstBad, hk]
  | q :: t => by
    rw [List.cons_append, firstBad, firstBad, firstBad_snoc k t]
    by_cases hq : q = 33
    · simp [hq]
    · rcases firstBad_cases t with ⟨h1, _⟩ | ⟨i, h1, _, _⟩
      · by_cases hk : k = 33
        · simp [hq, h1, hk]; omega
        · simp [hq, h1, hk]
      · have : ¬ (i : Int) < 0 := by omega
        have h2 : ¬ (i : Int) + 1 < 0 := by omega
        simp [hq, h1, this, h2]
theorem firstBad_range (ks : List Int) : -1 ≤ firstBad ks ∧ firstBad ks ≤ ks.length := by
  rcases firstBad_cases ks with ⟨h, _⟩ | ⟨i, h, h2, _⟩
  · omega
  · have := (List.getElem?_eq_some_iff.1 h2).1
    omega

set_option maxRecDepth 100000 in
set_option maxHeartbeats 1000000 in
theorem Invalid_any (s : ByteArray) (A : Option Addr) (g c : Nat) (ks : List Int) (w : World) (hn : ks.length ≤ 1000) (hA : 0 < ks.length → A = some ⟨g, 0, none⟩ ∧ g < w.heap.size) (ht : Toks w s g ks) :
    Calls Try.prog 13 #[.slice A ks.length c] w fun e w' => e = .returned (.int .i64 (firstBad ks)) ∧ Below w.heap.size w w' := by
  have HM := Lib.hid (made_any s A g c ks w hn hA ht)
  clear hA ht
  rcases firstBad_cases ks with ⟨h1, h2⟩ | ⟨i, h1, h2, h3⟩
  · rw [h1]
    have H2 := Lib.hid h2
    clear h1 h2
    go_enter Try.func13, Try.ntmps13
    go_wp2_with fail
    refine HM.out.mono ?_
    rintro e w1 ⟨v, rfl, ho, hb⟩
    obtain ⟨A2, c2, g2, B2, rfl, hA2, hat⟩ := ho.at_
    go_wp2_with fail
    refine (inv_none A2 c2 g2 B2 ks _ hn hA2 hat H2.out).mono ?_
    rintro e w2 ⟨rfl, rfl⟩
    go_wp2_with fail
    refine (index_none A2 _ c2 _).mono ?_
    rintro e w2 ⟨rfl, rfl⟩
    go_wp2_with fail
    go_ret
    exact ⟨rfl, hb⟩
  · rw [h1]
    have H2 := Lib.hid h2
    have H3 := Lib.hid h3
    have hil : i < ks.length := (List.getElem?_eq_some_iff.1 h2).1
    clear h1 h2 h3
    go_enter Try.func13, Try.ntmps13
    go_wp2_with fail
    refine HM.out.mono ?_
    rintro e w1 ⟨v, rfl, ho, hb⟩
    obtain ⟨A2, c2, g2, B2, rfl, hA2, hat⟩ := ho.at_
    have ha := hA2 (by omega)
    subst ha
    clear hA2
    go_wp2_with fail
    refine (inv_some c2 g2 B2 ks i _ hn hat H2.out H3.out).mono ?_
    rintro e w2 ⟨rfl, rfl⟩
    go_wp2_with fail
    refine (index_some c2 g2 B2 ks i _ hn hat H2.out H3.out).mono ?_
    rintro e w2 ⟨rfl, rfl⟩
    go_wp2_with fail
    go_ret
    exact ⟨rfl, hb⟩

theorem lxToken_any (k c : Int) (s : ByteArray) (w : World) : Calls Try.prog 12 #[.int .i64 k, .string s, .int .i64 c] w fun e w' => e = .returned (.agg (tokC s k c).toArray) ∧ Below w.heap.size w w' :=
  laws_lxToken.calls k s c _ _ _ _ _ _ _ _ _ _ _ _ _ w rfl

end Go.Proofs.Ytpimdceafnhmlaa.Inv
