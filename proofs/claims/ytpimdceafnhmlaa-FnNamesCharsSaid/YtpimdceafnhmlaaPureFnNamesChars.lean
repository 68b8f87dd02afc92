/-
  PROVED: for any two ints, FnNamesChars answers true: two different character types from 0 to 3 have two different names. No condition on the input.
-/
import Derived.Test.YtpimdceafnhmlaaPFnNamesCharsx1
namespace Go.Proofs.Ytpimdceafnhmlaa.Pure
open Go.RowKit Go.Proofs.Ytpimdceafnhmlaa.PFnNamesChars Go.Proofs.YtpimdceafnhmlaaW.PrintWords Go.Proofs.YtpimdceafnhmlaaW.PrintLast

theorem FnNamesChars : laws_FnNamesChars.Pure := by
  intro a b _ _
  unfold laws_FnNamesChars.f
  by_cases h0 : a < 0
  · rw [if_pos h0]
  rw [if_neg h0]
  by_cases h1 : a > 3
  · rw [if_pos h1]
  rw [if_neg h1]
  by_cases h2 : b < 0
  · rw [if_pos h2]
  rw [if_neg h2]
  by_cases h3 : b > 3
  · rw [if_pos h3]
  rw [if_neg h3]
  by_cases h4 : a = b
  · rw [if_pos h4]
  rw [if_neg h4]
  have ha : a = 0 ∨ a = 1 ∨ a = 2 ∨ a = 3 := by omega
  have hb : b = 0 ∨ b = 1 ∨ b = 2 ∨ b = 3 := by omega
  rcases ha with rfl | rfl | rfl | rfl <;> rcases hb with rfl | rfl | rfl | rfl <;> first | exact absurd rfl h4 | rfl | decide +kernel

end Go.Proofs.Ytpimdceafnhmlaa.Pure
