/-
  PROVED: FnPartQuotesWith answers true for every text: the row (which lists six tables of Go's libraries) and its card.
-/
import Derived.Test.YtpimdceafnhmlaaDoorCards
import Derived.Test.YtpimdceafnhmlaaDoorTie
import Derived.Test.YtpimdceafnhmlaaDoorQuoD
import Derived.PinnedBridge
import Derived.Deep.DeepHandedRow
import Derived.Deep.DeepWitnessRowRef
import Derived.Lib.LaidIn
import Derived.Lib.LaidSlice
import Derived.Lib.LaidU8
import Derived.ProofKit
import Derived.OpenShut
import Derived.SizedLaws
namespace Go.Proofs.YtpimdceafnhmlaaDoor.fnPartQuotesWith
open Go.Shelf
open Go.ChangeShapes Go.WideShapes Go.ChangeAt Go.RowKit Go.Lib
open Go.ChangeMaps (open_string shut_string)
set_option linter.unusedVariables false

theorem own : ownKnob Tryd.prog.godebug = none := by kernel_rfl
theorem accept_eq : Rows.laid_unicode_utf8_acceptRanges = Lib.acceptData := by kernel_rfl

/-- THE WITNESS: the settled world with four blocks more (the four tables' rows), the six variables holding what their initialisers lay. -/
noncomputable def laidWorld (os : Os) : World :=
  let N := (World.settled Tryd.prog os).heap.size
  let T := Lib.goPrintTabs
  let w0 := World.holding Tryd.prog os ⟨#[
    .cells (intCellsOf .u16 T.p16) 79, .cells (intCellsOf .u16 T.n16) 79, .cells (intCellsOf .u32 T.p32) 83, .cells (intCellsOf .u16 T.n32) 79], #[], []⟩
  let put (h : Array Obj) (g : Nat) (cs : Array Value) : Array Obj := h.modify g fun
    | .cells _ t frozen => .cells cs t frozen
    | o => o
  let h1 := put w0.heap 0 (Lib.firstTab.map fun z => Value.int .u8 z).toArray
  let h2 := put h1 1 ((List.range 16).flatMap fun i => [Value.int .u8 (Lib.accLo i), Value.int .u8 (Lib.accHi i)]).toArray
  let h3 := put h2 2 #[.slice (some ⟨N, 0, none⟩) T.p16.length T.p16.length]
  let h4 := put h3 3 #[.slice (some ⟨N + 1, 0, none⟩) T.n16.length T.n16.length]
  let h5 := put h4 4 #[.slice (some ⟨N + 2, 0, none⟩) T.p32.length T.p32.length]
  let h6 := put h5 5 #[.slice (some ⟨N + 3, 0, none⟩) T.n32.length T.n32.length]
  { w0 with heap := h6 }

noncomputable abbrev N0 : Nat := (World.settled Tryd.prog default).heap.size
theorem pieceA (os : Os) (args : Array Value) : LaidIn Tryd.prog ((laidWorld os).forCall (fun _ _ => 0) ⟨#[], args, []⟩).memory [("unicode/utf8.acceptRanges", Rows.laid_unicode_utf8_acceptRanges)] [1] := by
  rw [accept_eq]
  exact LaidIn.of_run [1] 8 (by kernel_rfl) (by kernel_rfl) (by kernel_rfl) (by kernel_rfl)
theorem pieceF (os : Os) (args : Array Value) : LaidIn Tryd.prog ((laidWorld os).forCall (fun _ _ => 0) ⟨#[], args, []⟩).memory [("unicode/utf8.first", Rows.laid_unicode_utf8_first)] [0] := by
  unfold Rows.laid_unicode_utf8_first
  rw [Pinned.utf8First_eq]
  exact LaidIn.of_run [0] 8 (by kernel_rfl) (by kernel_rfl) (by kernel_rfl) (by kernel_rfl)
set_option maxRecDepth 1000000 in
theorem piece2 (os : Os) (args : Array Value) : LaidIn Tryd.prog ((laidWorld os).forCall (fun _ _ => 0) ⟨#[], args, []⟩).memory [("strconv.isPrint16", Rows.laid_strconv_isPrint16)] [2, N0] := by
  unfold Rows.laid_strconv_isPrint16
  rw [Pinned.isPrint16_eq]
  exact laidIn_slice (t := 80) (e := 79) (te := 79) Lib.goPrintTabs.p16 N0 (by kernel_rfl) (by kernel_rfl) (by kernel_rfl) (by kernel_rfl) (by kernel_rfl) (by kernel_rfl) (by kernel_rfl) (by kernel_rfl) (of_decide_eq_true (by kernel_rfl)) (of_decide_eq_true (by kernel_rfl))
set_option maxRecDepth 1000000 in
theorem piece3 (os : Os) (args : Array Value) : LaidIn Tryd.prog ((laidWorld os).forCall (fun _ _ => 0) ⟨#[], args, []⟩).memory [("strconv.isNotPrint16", Rows.laid_strconv_isNotPrint16)] [3, N0 + 1] := by
  unfold Rows.laid_strconv_isNotPrint16
  rw [Pinned.isNotPrint16_eq]
  exact laidIn_slice (t := 80) (e := 79) (te := 79) Lib.goPrintTabs.n16 (N0 + 1) (by kernel_rfl) (by kernel_rfl) (by kernel_rfl) (by kernel_rfl) (by kernel_rfl) (by kernel_rfl) (by kernel_rfl) (by kernel_rfl) (of_decide_eq_true (by kernel_rfl)) (of_decide_eq_true (by kernel_rfl))
set_option maxRecDepth 1000000 in
theorem piece4 (os : Os) (args : Array Value) : LaidIn Tryd.prog ((laidWorld os).forCall (fun _ _ => 0) ⟨#[], args, []⟩).memory [("strconv.isPrint32", Rows.laid_strconv_isPrint32)] [4, N0 + 2] := by
  unfold Rows.laid_strconv_isPrint32
  rw [Pinned.isPrint32_eq]
  exact laidIn_slice (t := 84) (e := 83) (te := 83) Lib.goPrintTabs.p32 (N0 + 2) (by kernel_rfl) (by kernel_rfl) (by kernel_rfl) (by kernel_rfl) (by kernel_rfl) (by kernel_rfl) (by kernel_rfl) (by kernel_rfl) (of_decide_eq_true (by kernel_rfl)) (of_decide_eq_true (by kernel_rfl))
set_option maxRecDepth 1000000 in
theorem piece5 (os : Os) (args : Array Value) : LaidIn Tryd.prog ((laidWorld os).forCall (fun _ _ => 0) ⟨#[], args, []⟩).memory [("strconv.isNotPrint32", Rows.laid_strconv_isNotPrint32)] [5, N0 + 3] := by
  unfold Rows.laid_strconv_isNotPrint32
  rw [Pinned.isNotPrint32_eq]
  exact laidIn_slice (t := 80) (e := 79) (te := 79) Lib.goPrintTabs.n32 (N0 + 3) (by kernel_rfl) (by kernel_rfl) (by kernel_rfl) (by kernel_rfl) (by kernel_rfl) (by kernel_rfl) (by kernel_rfl) (by kernel_rfl) (of_decide_eq_true (by kernel_rfl)) (of_decide_eq_true (by kernel_rfl))
/-- THE PIECES JOINED, in the row's order. -/
theorem laid_met (os : Os) (args : Array Value) : laidMet Tryd.prog Rows.fnPartQuotesWithRow.laid ((laidWorld os).forCall (fun _ _ => 0) ⟨#[], args, []⟩).memory :=
  ((((((pieceA os args).append (piece3 os args) (by kernel_rfl)).append (piece5 os args) (by kernel_rfl)).append (piece2 os args) (by kernel_rfl)).append (piece4 os args) (by kernel_rfl)).append (pieceF os args) (by kernel_rfl)).met

theorem witness_row (os : Os) {H : Type} (enc : TypeId × Value → H) :
    (OpenSpec.ofChange Rows.fnPartQuotesWithSpec).preRow enc Tryd.prog Tryd.f3 Rows.fnPartQuotesWithRow.domain false Rows.fnPartQuotesWithRow.laid ((laidWorld os).forCall (fun _ _ => 0) ⟨#[], #[.string ⟨#[]⟩], []⟩).memory #[.string ⟨#[]⟩] := by
  have hw : (DataW.whole enc Tryd.prog ((laidWorld os).forCall (fun _ _ => 0) ⟨#[], #[.string ⟨#[]⟩], []⟩).memory Tryd.f3.params.toList (OpenSpec.ofChange Rows.fnPartQuotesWithSpec).vars false #[Value.string ⟨#[]⟩].toList 8).map (fun x => (x.1, x.2.1)) =
      some ([.lit (.string [])], []) := by kernel_rfl
  obtain ⟨⟨x1, x2, x3⟩, hx, hx1⟩ := Option.map_eq_some_iff.1 hw
  simp only [Prod.mk.injEq] at hx1
  obtain ⟨rfl, rfl⟩ := hx1
  exact OpenSpec.preRow_of_cond 8 hx (by kernel_rfl) (fun k hk => by cases hk) (by kernel_rfl) (laid_met os _)

set_option maxRecDepth 100000 in
set_option maxHeartbeats 2000000 in
theorem lifted (os : Os) (started : os.Started) (H : Type) (enc : TypeId × Value → H) (F : Stop.Interp) :
    ReturnsInHanded {} Tryd.checked os 3 .any ((OpenSpec.ofChange Rows.fnPartQuotesWithSpec).preRow enc Tryd.prog Tryd.f3 Rows.fnPartQuotesWithRow.domain false Rows.fnPartQuotesWithRow.laid) (((OpenSpec.ofChange Rows.fnPartQuotesWithSpec).at F).post enc Tryd.prog Tryd.f3 false true false false) := by
  refine returnsInHanded_of_row (C := Tryd.checked) (s := OpenSpec.ofChange Rows.fnPartQuotesWithSpec) own started (by kernel_rfl) Tryd.func3
    (witness_row_atRef (enc := enc) (C := Tryd.checked) false (laidWorld os) #[.string ⟨#[]⟩] rfl (by kernel_rfl) (by kernel_rfl) (by kernel_rfl) (witness_row os enc)) ?_
  intro W base args ds gs before hval0 hW hcnd0 _ _ hL _ _
  have hval : ∀ (j : Nat) t v, Tryd.f3.params[j]? = some t → args[j]? = some v → Value.okWide Tryd.prog W .any base t v := hval0
  have hW' := hW
  obtain ⟨p, q, hA0, hV0, rfl, _, _⟩ := hW
  have hA : DataW.TrodAll enc Tryd.prog W 0 (fun _ => true) true Tryd.f3.params.toList args.toList ds p := hA0
  rw [Tryd.params3] at hA hval
  obtain ⟨v0, d0, rfl, rfl, h0⟩ := trodAll_one hA
  obtain ⟨rfl, rfl⟩ := trodVars_none hV0
  obtain ⟨s, rfl, rfl, rfl, ws⟩ := open_string Tryd.underlying9 (hval 0 9 v0 rfl rfl) h0
  clear hA0 hV0 hval0
  have hA1 : ("unicode/utf8.acceptRanges", Lib.acceptData) ∈ Rows.fnPartQuotesWithRow.laid := by
    rw [← accept_eq]
    exact .head _
  have hF1 : ("unicode/utf8.first", Lib.firstData) ∈ Rows.fnPartQuotesWithRow.laid := by
    rw [← Pinned.utf8First_eq]
    exact .tail _ (.tail _ (.tail _ (.tail _ (.tail _ (.head _)))))
  have hU : Lib.Utf8Tabs (Tryd.lays196_ren.g 3) (Tryd.lays196_ren.g 4) W :=
    utf8Tabs_of_reads (ρ := Tryd.lays260_ren) { Tryd.lays260 with } ⟨by kernel_rfl, by kernel_rfl, by kernel_rfl, by kernel_rfl, by kernel_rfl, by kernel_rfl, by kernel_rfl⟩ (Lib.laidMet.reads hL hF1) (Lib.laidMet.reads hL hA1)
  refine (Quo.law_any s W (by unfold maxLen at ws; omega) hU).mono ?_
  rintro e W' ⟨rfl, bel⟩
  exact ⟨_, rfl, _, _, _, [], [], [], hW', trodAll_mk1 (shut_bool Tryd.underlying4 _), trodAll_mk1 (shut_string Tryd.underlying9 ws), rfl, bel.frame _, fun h => by cases h⟩

theorem said : Rows.FnPartQuotesWithSaid :=
  OpenClaim.holds_of_cond 3 Tryd.f3 rfl rfl rfl rfl rfl rfl rfl ⟨rfl, rfl, rfl, rfl, rfl⟩ rfl rfl rfl rfl rfl (by kernel_rfl) Tryd.func3 (by kernel_rfl)
    (of_decide_eq_true (by kernel_rfl)) (by unfold Func.isWrapper; first | (rw [if_pos (by decide +kernel)]; kernel_rfl) | (rw [if_neg (by decide +kernel)]; exact ⟨rfl, rfl⟩))
    (fun os started H enc _ F => by rw [OpenClaim.pre_eq_preRow]; exact lifted os started H enc F)

theorem plain (f : FuncId) (fn : Func) (hf : Tryd.pinned.checked.prog.funcNamed "given.example/pub-palinode/laws.FnPartQuotesWith" = some f) (hfn : Tryd.pinned.checked.prog.funcs[f]? = some fn) :
    true = Tryd.pinned.checked.prog.looks [] ∧ ∀ (j : Nat) t, fn.params[j]? = some t → Tryd.pinned.checked.prog.wantsStandIn t = false := by
  obtain rfl : f = 3 := Option.some.inj ((show Tryd.prog.funcNamed "given.example/pub-palinode/laws.FnPartQuotesWith" = some 3 by kernel_rfl).symm.trans hf) |>.symm
  obtain rfl : fn = Tryd.f3 := (Option.some.inj (Tryd.func3.symm.trans hfn)).symm
  refine ⟨by kernel_rfl, fun j t ht => ?_⟩
  rw [Tryd.params3] at ht
  obtain rfl : t = 9 := by simpa using Array.mem_of_getElem? ht
  exact (show Tryd.prog.wantsStandIn 9 = false by kernel_rfl)

/-- THE CARD. -/
theorem card : Rows.FnPartQuotesWithCardSaid :=
  Claim7.holds_tied_plain_at .later [] _ _ _ _ said (fun _ h => by cases h) (by kernel_rfl) (fun _ h => by cases h) fnPartQuotesWith_row_tie rfl ⟨rfl, rfl⟩ (by kernel_rfl) rfl plain (by kernel_rfl)
#print axioms card
end Go.Proofs.YtpimdceafnhmlaaDoor.fnPartQuotesWith
namespace Go.Proofs.YtpimdceafnhmlaaDoor
/-- The card, under a short name, for the claim. -/
theorem fnPartQuotesWith_holds : Rows.FnPartQuotesWithCardSaid := fnPartQuotesWith.card
end Go.Proofs.YtpimdceafnhmlaaDoor
