/-
  PROVED: FnPartIndent answers true for every digit, sign and choice: the row (which lists three tables and two sentinels of Go's libraries) and its card.
-/
import Derived.Test.YtpimdceafnhmlaaDoorCards
import Derived.Test.YtpimdceafnhmlaaDoorTie
import Derived.Test.YtpimdceafnhmlaaDoorHdrD
import Derived.Deep.DeepHandedRow
import Derived.Deep.DeepWitnessRowRef
import Derived.Lib.LaidIn
import Derived.Stop.LaidErr
import Derived.LaidMore
import Derived.ProofKit
import Derived.OpenShut
import Derived.SizedLaws
namespace Go.Proofs.YtpimdceafnhmlaaDoor.fnPartIndent
open Go.Shelf
open Go.ChangeShapes Go.WideShapes Go.ChangeAt Go.RowKit Go.Lib
open Go.ChangeMaps (open_string shut_string)
set_option linter.unusedVariables false

theorem own : ownKnob Tryd.prog.godebug = none := by kernel_rfl

theorem gE : Tryd.prog.globalNamed "strconv.ErrSyntax" = some 6 := by kernel_rfl
theorem gEType : (Tryd.prog.globals[6]?).map (·.type) = some 43 := by kernel_rfl
theorem star : "*" ++ "errors.errorString" = "*errors.errorString" := by decide
theorem row66 (u : TypeId) (h : Tryd.prog.typeName? 3 u = some "*errors.errorString") : u = 66 :=
  typeName_ptr_named (nm := "errors.errorString") (by rw [star]; kernel_rfl) (by kernel_rfl) (by decide) u (by rw [star]; exact h)
theorem cells68 : Tryd.prog.cellsOf 68 = 1 := by kernel_rfl
theorem cells9 : Tryd.prog.cellsOf 9 = 1 := by kernel_rfl
/-- WHAT THE ROW's LIST GIVES: the variable ErrSyntax holds an error. -/
theorem syntax_cell {W : World} (hL : laidMet Tryd.prog Rows.fnPartIndentRow.laid W) : ∃ a : Addr, W.cell? ⟨6, 0, none⟩ = some (.iface 66 (.pointer (some a))) := by
  obtain ⟨a, s, hv, _, _, _⟩ := laid_sentinel hL.tail.tail.tail.tail gE gEType Tryd.underlying43 row66 Tryd.underlying66 Tryd.underlying68 rfl rfl Tryd.underlying9 cells68 cells9
  refine ⟨a, ?_⟩
  rw [World.var?_cell gE hv 0]
  rfl

/-- The heap that the tie's own run leaves meets the row's list. -/
theorem laid_met (os : Os) (args : Array Value) : laidMet Tryd.prog Rows.fnPartIndentRow.laid ((World.doorLaid Tryd.prog 72 os).forCall (fun _ _ => 0) ⟨#[], args, []⟩).memory :=
  laidMet_of_run' 8 (by kernel_rfl) (by kernel_rfl)

theorem witness_row (os : Os) {H : Type} (enc : TypeId × Value → H) :
    (OpenSpec.ofChange Rows.fnPartIndentSpec).preRow enc Tryd.prog Tryd.f4 Rows.fnPartIndentRow.domain false Rows.fnPartIndentRow.laid ((World.doorLaid Tryd.prog 72 os).forCall (fun _ _ => 0) ⟨#[], #[.int .u8 0, .int .i64 0, .bool false], []⟩).memory #[.int .u8 0, .int .i64 0, .bool false] := by
  have hw : (DataW.whole enc Tryd.prog ((World.doorLaid Tryd.prog 72 os).forCall (fun _ _ => 0) ⟨#[], #[.int .u8 0, .int .i64 0, .bool false], []⟩).memory Tryd.f4.params.toList (OpenSpec.ofChange Rows.fnPartIndentSpec).vars false #[Value.int .u8 0, Value.int .i64 0, Value.bool false].toList 8).map (fun x => (x.1, x.2.1)) =
      some ([.lit (.int .u8 0), .lit (.int .i64 0), .lit (.bool false)], []) := by kernel_rfl
  obtain ⟨⟨x1, x2, x3⟩, hx, hx1⟩ := Option.map_eq_some_iff.1 hw
  simp only [Prod.mk.injEq] at hx1
  obtain ⟨rfl, rfl⟩ := hx1
  exact OpenSpec.preRow_of_cond 8 hx (by kernel_rfl) (fun k hk => by cases hk) (by kernel_rfl) (laid_met os _)

set_option maxRecDepth 100000 in
set_option maxHeartbeats 2000000 in
theorem lifted (os : Os) (started : os.Started) (H : Type) (enc : TypeId × Value → H) (F : Stop.Interp) :
    ReturnsInHanded {} Tryd.checked os 4 .any ((OpenSpec.ofChange Rows.fnPartIndentSpec).preRow enc Tryd.prog Tryd.f4 Rows.fnPartIndentRow.domain false Rows.fnPartIndentRow.laid) (((OpenSpec.ofChange Rows.fnPartIndentSpec).at F).post enc Tryd.prog Tryd.f4 false true false false) := by
  refine returnsInHanded_of_row (C := Tryd.checked) (s := OpenSpec.ofChange Rows.fnPartIndentSpec) own started (by kernel_rfl) Tryd.func4
    (witness_row_atRef (enc := enc) (C := Tryd.checked) false (World.doorLaid Tryd.prog 72 os) #[.int .u8 0, .int .i64 0, .bool false] rfl (by kernel_rfl) (by kernel_rfl) (by kernel_rfl) (witness_row os enc)) ?_
  intro W base args ds gs before hval0 hW hcnd0 _ _ hL _ _
  have hval : ∀ (j : Nat) t v, Tryd.f4.params[j]? = some t → args[j]? = some v → Value.okWide Tryd.prog W .any base t v := hval0
  have hW' := hW
  obtain ⟨p, q, hA0, hV0, rfl, _, _⟩ := hW
  have hA : DataW.TrodAll enc Tryd.prog W 0 (fun _ => true) true Tryd.f4.params.toList args.toList ds p := hA0
  rw [Tryd.params4] at hA hval
  obtain ⟨v0, vs0, d0, ds0, p0, q0, hargs, rfl, rfl, h0, r0⟩ := trodAll_cons hA
  obtain ⟨v1, vs1, d1, ds1, p1, q1, rfl, rfl, rfl, h1, r1⟩ := trodAll_cons r0
  obtain ⟨v2, vs2, d2, ds2, p2, q2, rfl, rfl, rfl, h2, r2⟩ := trodAll_cons r1
  obtain ⟨rfl, rfl, rfl⟩ := trodAll_nil r2
  obtain rfl : args = #[v0, v1, v2] := by cases args; simp_all
  obtain ⟨rfl, rfl⟩ := trodVars_none hV0
  obtain ⟨a0, rfl, rfl, rfl, w0⟩ := open_int Tryd.underlying5 (hval 0 5 v0 rfl rfl) h0
  obtain ⟨a1, rfl, rfl, rfl, w1⟩ := open_int Tryd.underlying3 (hval 1 3 v1 rfl rfl) h1
  obtain ⟨a2, rfl, rfl, rfl⟩ := open_bool Tryd.underlying4 (hval 2 4 v2 rfl rfl) h2
  clear hA0 hV0 hval0
  obtain ⟨ea, hE⟩ := syntax_cell hL
  have r0 : 0 ≤ a0 ∧ a0 ≤ 255 := by simp [Lit.wf, IntKind.min, IntKind.max, IntKind.bits, IntKind.signed] at w0; omega
  refine (Hdr.law_any a0 a1 a2 r0.1 r0.2 W _ hE (.inr ⟨_, _, rfl⟩)).mono ?_
  rintro e W' ⟨rfl, bel⟩
  exact ⟨_, rfl, _, _, _, [], _, [], hW', trodAll_mk1 (shut_bool Tryd.underlying4 _), (trodAll_cons_mk (shut_int Tryd.underlying5 w0) (trodAll_cons_mk (shut_int Tryd.underlying3 w1) (trodAll_cons_mk (shut_bool Tryd.underlying4 _) trodAll_mk0))), rfl, bel.frame _, fun h => by cases h⟩

theorem said : Rows.FnPartIndentSaid :=
  OpenClaim.holds_of_cond 4 Tryd.f4 rfl rfl rfl rfl rfl rfl rfl ⟨rfl, rfl, rfl, rfl, rfl⟩ rfl rfl rfl rfl rfl (by kernel_rfl) Tryd.func4 (by kernel_rfl)
    (of_decide_eq_true (by kernel_rfl)) (by unfold Func.isWrapper; first | (rw [if_pos (by decide +kernel)]; kernel_rfl) | (rw [if_neg (by decide +kernel)]; exact ⟨rfl, rfl⟩))
    (fun os started H enc _ F => by rw [OpenClaim.pre_eq_preRow]; exact lifted os started H enc F)

theorem plain (f : FuncId) (fn : Func) (hf : Tryd.pinned.checked.prog.funcNamed "given.example/pub-palinode/laws.FnPartIndent" = some f) (hfn : Tryd.pinned.checked.prog.funcs[f]? = some fn) :
    true = Tryd.pinned.checked.prog.looks [] ∧ ∀ (j : Nat) t, fn.params[j]? = some t → Tryd.pinned.checked.prog.wantsStandIn t = false := by
  obtain rfl : f = 4 := Option.some.inj ((show Tryd.prog.funcNamed "given.example/pub-palinode/laws.FnPartIndent" = some 4 by kernel_rfl).symm.trans hf) |>.symm
  obtain rfl : fn = Tryd.f4 := (Option.some.inj (Tryd.func4.symm.trans hfn)).symm
  refine ⟨by kernel_rfl, fun j t ht => ?_⟩
  rw [Tryd.params4] at ht
  have h : t = 5 ∨ t = 3 ∨ t = 4 := by simpa using Array.mem_of_getElem? ht
  rcases h with rfl | rfl | rfl
  · exact (show Tryd.prog.wantsStandIn 5 = false by kernel_rfl)
  · exact (show Tryd.prog.wantsStandIn 3 = false by kernel_rfl)
  · exact (show Tryd.prog.wantsStandIn 4 = false by kernel_rfl)

/-- THE CARD. -/
theorem card : Rows.FnPartIndentCardSaid :=
  Claim7.holds_tied_plain_at .later [] _ _ _ _ said (fun _ h => by cases h) (by kernel_rfl) (fun _ h => by cases h) fnPartIndent_row_tie rfl ⟨rfl, rfl⟩ (by kernel_rfl) rfl plain (by kernel_rfl)
#print axioms card
end Go.Proofs.YtpimdceafnhmlaaDoor.fnPartIndent
namespace Go.Proofs.YtpimdceafnhmlaaDoor
/-- The card, under a short name, for the claim. -/
theorem fnPartIndent_holds : Rows.FnPartIndentCardSaid := fnPartIndent.card
end Go.Proofs.YtpimdceafnhmlaaDoor
