/-
  THE WALKS of position, made, InvalidToken and index.
-/
import Derived.Test.YtpimdceafnhmlaaPFnPartInvalidx1
import Derived.Test.YtpimdceafnhmlaaStr
import Derived.Outline
import Derived.Lib.Hide
import Derived.Deep.RegionHeld3
import Derived.Deep.RegionWith
namespace Go.Proofs.Ytpimdceafnhmlaa.Inv
open Go.RowKit Go.Proofs.YtpimdceafnhmlaaW.PrintWords Go.Proofs.YtpimdceafnhmlaaW.PrintLast Go.Proofs.YtpimdceafnhmlaaW.PrintMore
open Go.Proofs.Ytpimdceafnhmlaa.Str Go.Proofs.Ytpimdceafnhmlaa.PFnPartInvalid
attribute [local go_sem] max2_int min2_int max_two min_two max_three min_three max_four min_four

def sm (n : Int) : Int := if n < 0 then 0 else if n > 200 then 0 else n
theorem small_any (n : Int) (w : World) : Calls Try.prog 28 #[.int .i64 n] w fun e w' => e = .returned (.int .i64 (sm n)) ∧ w = w' := by
  by_cases h0 : n < 0
  · have hs : sm n = 0 := by unfold sm; rw [if_pos h0]
    rw [hs]
    go_enter Try.func28, Try.ntmps28
    go_wp2
    go_ret
    exact ⟨rfl, rfl⟩
  · by_cases h1 : n > 200
    · have hs : sm n = 0 := by unfold sm; rw [if_neg h0, if_pos h1]
      rw [hs]
      go_enter Try.func28, Try.ntmps28
      go_wp2
      go_ret
      exact ⟨rfl, rfl⟩
    · have hs : sm n = n := by unfold sm; rw [if_neg h0, if_neg h1]
      rw [hs]
      go_enter Try.func28, Try.ntmps28
      go_wp2
      go_ret
      exact ⟨rfl, rfl⟩

def PtrEnd (w : World) (e : Ending) (w' : World) : Prop := ∃ x, e = .returned (.pointer x) ∧ Below w.heap.size w w'

set_option maxRecDepth 100000 in
set_option maxHeartbeats 1000000 in
theorem position_any (l c o i v : Int) (w : World) : Calls Try.prog 31 #[.agg #[.int .i64 l, .int .i64 c, .int .i64 o, .int .i64 i, .int .i64 v]] w (PtrEnd w) := by
  by_cases hm : sm c < 1
  all_goals
    go_enter Try.func31, Try.ntmps31
    go_wp2_with fail
    go_region_held3 (fun w' => w'.cell? ⟨w.heap.size, 0, none⟩ = some (.int .i64 l) ∧ w'.cell? ⟨w.heap.size, 1, none⟩ = some (.int .i64 c) ∧ w'.cell? ⟨w.heap.size, 2, none⟩ = some (.int .i64 o) ∧ w'.cell? ⟨w.heap.size, 3, none⟩ = some (.int .i64 i) ∧ w'.cell? ⟨w.heap.size, 4, none⟩ = some (.int .i64 v)) (go_keep)
      (first | (go_at_call 28; refine (small_any _ _).mono ?_; rintro e w' ⟨rfl, rfl⟩))
    all_goals (go_wp2; go_ret; exact ⟨_, rfl, by repeat (first | exact Below.refl _ _ | apply Below.drew | refine Below.alloc ?_ (by simp) _)⟩)

end Go.Proofs.Ytpimdceafnhmlaa.Inv
