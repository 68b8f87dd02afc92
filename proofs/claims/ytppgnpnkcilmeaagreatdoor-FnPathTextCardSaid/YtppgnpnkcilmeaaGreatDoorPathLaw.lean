/-
  PROVED: FnPathText answers true for every digit, sign and choice: the row (which lists three tables and two sentinels of Go's libraries) and its card.
-/
import Derived.Test.YtppgnpnkcilmeaaGreatDoorCards
import Derived.Test.YtppgnpnkcilmeaaGreatDoorTie
import Derived.Test.YtppgnpnkcilmeaaGreatDoorLaw
import Derived.OpenVars
import Derived.Lib.LaidTab
import Derived.Deep.DeepHandedRow
import Derived.Deep.DeepWitnessRowRef
import Derived.Lib.LaidIn
import Derived.Stop.LaidErr
import Derived.LaidMore
import Derived.ProofKit
import Derived.OpenShut
import Derived.SizedLaws
namespace Go.Proofs.YtppgnpnkcilmeaaGreatDoor.fnPathText
open Go.Shelf
open Go.ChangeShapes Go.WideShapes Go.ChangeAt Go.RowKit Go.Lib
open Go.ChangeMaps (open_string shut_string)
set_option linter.unusedVariables false

theorem own : ownKnob Tryz.prog.godebug = none := by kernel_rfl

theorem gTab : Tryz.prog.globalNamed "internal/strconv.uint64pow10" = some 5 := by kernel_rfl
theorem gTabTy : (Tryz.prog.globals[5]?).map (·.type) = some 123 := by kernel_rfl
theorem pow10_eq : (Rows.laid_internal_strconv_uint64pow10 : DataW Unit) = Lib.tabData .u64 Lib.pow10Tab := by kernel_rfl
theorem laidOut : laidOutB Tryz.prog = true := by kernel_rfl

/-- The heap that the tie's own run leaves meets the row's list. -/
theorem laid_met (os : Os) (args : Array Value) : laidMet Tryz.prog Rows.fnPathTextRow.laid ((World.doorLaid Tryz.prog 119 os).forCall (fun _ _ => 0) ⟨#[], args, []⟩).memory :=
  laidMet_of_run' 8 (by kernel_rfl) (by kernel_rfl)

theorem witness_row (os : Os) {H : Type} (enc : TypeId × Value → H) :
    (OpenSpec.ofChange Rows.fnPathTextSpec).preRow enc Tryz.prog Tryz.f3 Rows.fnPathTextRow.domain false Rows.fnPathTextRow.laid ((World.doorLaid Tryz.prog 119 os).forCall (fun _ _ => 0) ⟨#[], #[.slice none 0 0], []⟩).memory #[.slice none 0 0] := by
  have hw : (DataW.whole enc Tryz.prog ((World.doorLaid Tryz.prog 119 os).forCall (fun _ _ => 0) ⟨#[], #[.slice none 0 0], []⟩).memory Tryz.f3.params.toList (OpenSpec.ofChange Rows.fnPathTextSpec).vars false #[Value.slice none 0 0].toList 8).isSome = true := by kernel_rfl
  obtain ⟨x, hx⟩ := Option.isSome_iff_exists.1 hw
  exact OpenSpec.preRow_of_cond 8 hx rfl (fun k hk => by cases hk) (by kernel_rfl) (laid_met os _)

set_option maxRecDepth 100000 in
set_option maxHeartbeats 2000000 in
theorem lifted (os : Os) (started : os.Started) (H : Type) (enc : TypeId × Value → H) (F : Stop.Interp) :
    ReturnsInHanded {} Tryz.checked os 3 .any ((OpenSpec.ofChange Rows.fnPathTextSpec).preRow enc Tryz.prog Tryz.f3 Rows.fnPathTextRow.domain false Rows.fnPathTextRow.laid) (((OpenSpec.ofChange Rows.fnPathTextSpec).at F).post enc Tryz.prog Tryz.f3 false true false false) := by
  refine returnsInHanded_of_row (C := Tryz.checked) (s := OpenSpec.ofChange Rows.fnPathTextSpec) own started (by kernel_rfl) Tryz.func3
    (witness_row_atRef (enc := enc) (C := Tryz.checked) false (World.doorLaid Tryz.prog 119 os) #[.slice none 0 0] rfl (by kernel_rfl) (by kernel_rfl) (by kernel_rfl) (witness_row os enc)) ?_
  intro W base args ds gs before hval0 hW hcnd0 _ _ hL _ _
  have hval : ∀ (j : Nat) t v, Tryz.f3.params[j]? = some t → args[j]? = some v → Value.okWide Tryz.prog W .any base t v := hval0
  have hW' := hW
  obtain ⟨p, q, hA0, hV0, rfl, _, _⟩ := hW
  have hA : DataW.TrodAll enc Tryz.prog W 0 (fun _ => true) true Tryz.f3.params.toList args.toList ds p := hA0
  rw [Tryz.params3] at hA hval
  obtain ⟨v0, d0, rfl, rfl, h0⟩ := trodAll_one hA
  obtain ⟨A, c, xs, rfl, hc, hC, hf2⟩ := Pth.open_steps (hval 0 22 v0 rfl rfl) h0
  have hTab : Pth.Tab W := Lib.tabIs_of_head gTab gTabTy Tryz.underlying123 Tryz.underlying97 (by kernel_rfl) (by kernel_rfl) (by rw [← pow10_eq]; exact hL.tail.tail)
  refine (Pth.law_any A c xs W hC hc hf2 hTab).mono ?_
  rintro e W' ⟨rfl, bel⟩
  have hv' := Below.trodVars laidOut bel (by kernel_rfl : varsRowed Tryz.prog ["given.example/pub-palinode/pub/goccyyaml.ErrInvalidPathString", "given.example/pub-palinode/pub/goccyyaml.ErrInvalidQuery", "given.example/pub-palinode/pub/goccyyaml.ErrNotFoundNode"] = true) hV0
  have hp : ∀ x ∈ p, x.block < W.heap.size := by
    obtain ⟨fuel, hf⟩ := h0
    exact DataW.trod_lt fuel 22 _ _ hf
  obtain ⟨g1, g2, g3, rfl⟩ : ∃ g1 g2 g3, gs = [g1, g2, g3] := by
    rcases gs with _ | ⟨g1, _ | ⟨g2, _ | ⟨g3, _ | ⟨g4, gt⟩⟩⟩⟩
    · exact hV0.elim
    · obtain ⟨_, _, _, _, _, _, _, _, _, _, h, _⟩ := hV0; exact h.elim
    · obtain ⟨_, _, _, _, _, _, _, _, _, _, h, _⟩ := hV0; obtain ⟨_, _, _, _, _, _, _, _, _, _, h, _⟩ := h; exact h.elim
    · exact ⟨g1, g2, g3, rfl⟩
    · obtain ⟨_, _, _, _, _, _, _, _, _, _, h, _⟩ := hV0; obtain ⟨_, _, _, _, _, _, _, _, _, _, h, _⟩ := h; obtain ⟨_, _, _, _, _, _, _, _, _, _, h, _⟩ := h; exact h.elim
  exact ⟨_, rfl, _, _, _, [], p, q, hW', trodAll_mk1 (shut_bool Tryz.underlying4 _), trodAll_mk1 (Below.trod laidOut (by kernel_rfl) (of_decide_eq_true (by kernel_rfl)) h0 bel hp), hv', bel.frame _, fun h => by cases h⟩

theorem said : Rows.FnPathTextSaid :=
  OpenClaim.holds_of_cond 3 Tryz.f3 rfl rfl rfl rfl rfl rfl rfl ⟨rfl, rfl, rfl, rfl, rfl⟩ rfl rfl rfl rfl rfl (by kernel_rfl) Tryz.func3 (by kernel_rfl)
    (of_decide_eq_true (by kernel_rfl)) (by unfold Func.isWrapper; first | (rw [if_pos (by decide +kernel)]; kernel_rfl) | (rw [if_neg (by decide +kernel)]; exact ⟨rfl, rfl⟩))
    (fun os started H enc _ F => by rw [OpenClaim.pre_eq_preRow]; exact lifted os started H enc F)

theorem plain (f : FuncId) (fn : Func) (hf : Tryz.pinned.checked.prog.funcNamed "given.example/pub-palinode/laws.FnPathText" = some f) (hfn : Tryz.pinned.checked.prog.funcs[f]? = some fn) :
    true = Tryz.pinned.checked.prog.looks [] ∧ ∀ (j : Nat) t, fn.params[j]? = some t → Tryz.pinned.checked.prog.wantsStandIn t = false := by
  obtain rfl : f = 3 := Option.some.inj ((show Tryz.prog.funcNamed "given.example/pub-palinode/laws.FnPathText" = some 3 by kernel_rfl).symm.trans hf) |>.symm
  obtain rfl : fn = Tryz.f3 := (Option.some.inj (Tryz.func3.symm.trans hfn)).symm
  refine ⟨by kernel_rfl, fun j t ht => ?_⟩
  rw [Tryz.params3] at ht
  obtain rfl : t = 22 := by simpa using Array.mem_of_getElem? ht
  exact (show Tryz.prog.wantsStandIn 22 = false by kernel_rfl)

/-- THE CARD. -/
theorem card : Rows.FnPathTextCardSaid :=
  Claim7.holds_tied_plain_at .later [] _ _ _ _ said (fun _ h => by cases h) (by kernel_rfl) (fun _ h => by cases h) fnPathText_row_tie rfl ⟨rfl, rfl⟩ (by kernel_rfl) rfl plain (by kernel_rfl)
#print axioms card
end Go.Proofs.YtppgnpnkcilmeaaGreatDoor.fnPathText
namespace Go.Proofs.YtppgnpnkcilmeaaGreatDoor
/-- The card, under a short name, for the claim. -/
theorem fnPathText_holds : Rows.FnPathTextCardSaid := fnPathText.card
end Go.Proofs.YtppgnpnkcilmeaaGreatDoor
