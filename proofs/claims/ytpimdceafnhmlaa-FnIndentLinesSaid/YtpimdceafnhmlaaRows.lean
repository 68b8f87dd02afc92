/-
  No cell of these rows narrows 'for every input' (looked for: loops, veiled, ifaces, maps, wideKeys, modest, calm, conditions, laid).
  DERIVED. THE GIVEN ROWS OF THIS SEAT. 5 by the template 'for every input the law returns true; each argument reads behind the call as it read before'; 0 by the template 'total and deterministic' (their statements: YtpimdceafnhmlaaTotals.lean).
  GIVEN WITH THE SEED: the statements are not yours to turn. If you find one false, say at which input.
  Laid BY PROGRAM, IN A SANDBOX (cutbox-rows.mjs): the forced cells as the released guide's own fill.sh prints them over the translation 315bd5862e0162ae… (all of the seat's roots in one cut). By AI agents, Wed Nov 11 2026. No macro, syntax, notation, axiom, sorry.
-/
import Derived.Test.YtpimdceafnhmlaaChecked
import GoSem.Claim
import GoSem.ClaimJoined
import GoSem.ClaimMapViews
import Derived.JoinedTies
import Derived.KernelRfl
namespace Go.Proofs.Ytpimdceafnhmlaa
/- THE CELL 'sum', in the pinned program and in every row, IS THE sha256 OF THE DUMP (.gsa) THAT YtpimdceafnhmlaaProg.lean LOADS. Nothing in Lean hashes anything: it is a label: what it is worth is what the hold of that sum in a sandbox is worth. -/
noncomputable def Try.pinned : Pinned := { name := "ytpimdceafnhmlaa", sum := "315bd5862e0162ae04e4de9213cbb412c820ae9093382de7c0d25fbe7e6002e7", checked := Try.checked }
namespace Rows
def none {H : Type} : Left H := { results := [], args := [] }

/-- 'laws.FnNamesChars': WHATEVER THE INPUT: true; the input reads as it did. -/
def fnNamesCharsSpec : ChangeSpec := { name := "fnNamesChars", fn := fun _ => fun
  | [d1, d2] => { results := [.lit (.bool true)], args := [d1, d2] }
  | _ => none }
def fnNamesCharsRow : OpenClaim := { program := "ytpimdceafnhmlaa", sum := "315bd5862e0162ae04e4de9213cbb412c820ae9093382de7c0d25fbe7e6002e7", func := "given.example/pub-palinode/laws.FnNamesChars", spec := "fnNamesChars", apart := false }
def FnNamesCharsSaid : Prop := fnNamesCharsRow.holds Try.pinned (OpenSpec.ofChange fnNamesCharsSpec)

/-- ITS FALSE NEIGHBOUR: 'it returns false'. Refute it at one input. -/
def fnNamesCharsWrong : ChangeSpec := { name := "fnNamesChars", fn := fun _ => fun
  | [d1, d2] => { results := [.lit (.bool false)], args := [d1, d2] }
  | _ => none }
def FnNamesCharsWrongFalsely : Prop := fnNamesCharsRow.holds Try.pinned (OpenSpec.ofChange fnNamesCharsWrong)

/-- 'laws.FnBreakNormal': WHATEVER THE INPUT: true; the input reads as it did. -/
def fnBreakNormalSpec : ChangeSpec := { name := "fnBreakNormal", fn := fun _ => fun
  | [d] => { results := [.lit (.bool true)], args := [d] }
  | _ => none }
def fnBreakNormalRow : OpenClaim := { program := "ytpimdceafnhmlaa", sum := "315bd5862e0162ae04e4de9213cbb412c820ae9093382de7c0d25fbe7e6002e7", func := "given.example/pub-palinode/laws.FnBreakNormal", spec := "fnBreakNormal", apart := false }
def FnBreakNormalSaid : Prop := fnBreakNormalRow.holds Try.pinned (OpenSpec.ofChange fnBreakNormalSpec)

/-- ITS FALSE NEIGHBOUR: 'it returns false'. Refute it at one input. -/
def fnBreakNormalWrong : ChangeSpec := { name := "fnBreakNormal", fn := fun _ => fun
  | [d] => { results := [.lit (.bool false)], args := [d] }
  | _ => none }
def FnBreakNormalWrongFalsely : Prop := fnBreakNormalRow.holds Try.pinned (OpenSpec.ofChange fnBreakNormalWrong)

/-- 'laws.FnPartInvalid': WHATEVER THE INPUT: true; the input reads as it did. -/
def fnPartInvalidSpec : ChangeSpec := { name := "fnPartInvalid", fn := fun _ => fun
  | [d] => { results := [.lit (.bool true)], args := [d] }
  | _ => none }
def fnPartInvalidRow : OpenClaim := { program := "ytpimdceafnhmlaa", sum := "315bd5862e0162ae04e4de9213cbb412c820ae9093382de7c0d25fbe7e6002e7", func := "given.example/pub-palinode/laws.FnPartInvalid", spec := "fnPartInvalid", apart := false }
def FnPartInvalidSaid : Prop := fnPartInvalidRow.holds Try.pinned (OpenSpec.ofChange fnPartInvalidSpec)

/-- ITS FALSE NEIGHBOUR: 'it returns false'. Refute it at one input. -/
def fnPartInvalidWrong : ChangeSpec := { name := "fnPartInvalid", fn := fun _ => fun
  | [d] => { results := [.lit (.bool false)], args := [d] }
  | _ => none }
def FnPartInvalidWrongFalsely : Prop := fnPartInvalidRow.holds Try.pinned (OpenSpec.ofChange fnPartInvalidWrong)

/-- 'laws.FnPathName': WHATEVER THE INPUT: true; the input reads as it did. -/
def fnPathNameSpec : ChangeSpec := { name := "fnPathName", fn := fun _ => fun
  | [d1, d2, d3] => { results := [.lit (.bool true)], args := [d1, d2, d3] }
  | _ => none }
def fnPathNameRow : OpenClaim := { program := "ytpimdceafnhmlaa", sum := "315bd5862e0162ae04e4de9213cbb412c820ae9093382de7c0d25fbe7e6002e7", func := "given.example/pub-palinode/laws.FnPathName", spec := "fnPathName", apart := false }
def FnPathNameSaid : Prop := fnPathNameRow.holds Try.pinned (OpenSpec.ofChange fnPathNameSpec)

/-- ITS FALSE NEIGHBOUR: 'it returns false'. Refute it at one input. -/
def fnPathNameWrong : ChangeSpec := { name := "fnPathName", fn := fun _ => fun
  | [d1, d2, d3] => { results := [.lit (.bool false)], args := [d1, d2, d3] }
  | _ => none }
def FnPathNameWrongFalsely : Prop := fnPathNameRow.holds Try.pinned (OpenSpec.ofChange fnPathNameWrong)

/-- 'laws.FnIndentLines': WHATEVER THE INPUT: true; the input reads as it did. -/
def fnIndentLinesSpec : ChangeSpec := { name := "fnIndentLines", fn := fun _ => fun
  | [d1, d2, d3] => { results := [.lit (.bool true)], args := [d1, d2, d3] }
  | _ => none }
def fnIndentLinesRow : OpenClaim := { program := "ytpimdceafnhmlaa", sum := "315bd5862e0162ae04e4de9213cbb412c820ae9093382de7c0d25fbe7e6002e7", func := "given.example/pub-palinode/laws.FnIndentLines", spec := "fnIndentLines", inPlace := ["internal/abi.NoEscape", "internal/bytealg.MakeNoZero"], apart := false }
def FnIndentLinesSaid : Prop := fnIndentLinesRow.holds Try.pinned (OpenSpec.ofChange fnIndentLinesSpec)

/-- ITS FALSE NEIGHBOUR: 'it returns false'. Refute it at one input. -/
def fnIndentLinesWrong : ChangeSpec := { name := "fnIndentLines", fn := fun _ => fun
  | [d1, d2, d3] => { results := [.lit (.bool false)], args := [d1, d2, d3] }
  | _ => none }
def FnIndentLinesWrongFalsely : Prop := fnIndentLinesRow.holds Try.pinned (OpenSpec.ofChange fnIndentLinesWrong)

/- THE SECOND FORM. 'bulk': how many values and letters a reading holds, each counted each time it is reached (what is shared counts as often as it is met; a slice's spare places count too). A statement '..UptoSaid' is the law's where the arguments, and the package variables that the reading takes, are together of bulk at most 1048576: NARROWER than '..Said'. Prove '..Said' where nothing that the law and all that it calls make is longer than what came in: it says more and counts as full. Else prove '..UptoSaid'. A law counts once. -/
mutual
def uptoBulk {H : Type} : DataW H → Nat
  | .lit (.string bytes) => bytes.length + 1
  | .lit _ => 1
  | .nil => 1
  | .ptr d => uptoBulk d + 1
  | .slice elems spare => uptoBulkAll elems + uptoBulkAll spare + 1
  | .agg parts => uptoBulkAll parts + 1
  | .iface _ d => uptoBulk d + 1
  | .map entries => uptoBulkEntries entries + 1
  | .held _ => 1
def uptoBulkAll {H : Type} : List (DataW H) → Nat
  | [] => 0
  | d :: r => uptoBulk d + uptoBulkAll r
def uptoBulkEntries {H : Type} : List (Lit × DataW H) → Nat
  | [] => 0
  | x :: r => uptoBulkEntry x + uptoBulkEntries r
def uptoBulkEntry {H : Type} : Lit × DataW H → Nat
  | (.string bytes, d) => bytes.length + uptoBulk d + 1
  | (_, d) => uptoBulk d + 1
 end
def uptoSmall : (H : Type) → List (DataW H) → Bool := fun _ ds => decide (uptoBulkAll ds ≤ 1048576)
def OpenSpec.upto (s : _root_.Go.ChangeSpec) : _root_.Go.OpenSpec := { _root_.Go.OpenSpec.ofChange s with cond := some uptoSmall }

/-- 'laws.FnNamesChars', WHERE WHAT IT READS IS OF BULK AT MOST 1048576: true; the input reads as it did. -/
def fnNamesCharsUptoRow : OpenClaim := { program := "ytpimdceafnhmlaa", sum := "315bd5862e0162ae04e4de9213cbb412c820ae9093382de7c0d25fbe7e6002e7", func := "given.example/pub-palinode/laws.FnNamesChars", spec := "fnNamesChars", apart := false, narrowed := true }
def FnNamesCharsUptoSaid : Prop := fnNamesCharsUptoRow.holds Try.pinned (OpenSpec.upto fnNamesCharsSpec)

/-- 'laws.FnBreakNormal', WHERE WHAT IT READS IS OF BULK AT MOST 1048576: true; the input reads as it did. -/
def fnBreakNormalUptoRow : OpenClaim := { program := "ytpimdceafnhmlaa", sum := "315bd5862e0162ae04e4de9213cbb412c820ae9093382de7c0d25fbe7e6002e7", func := "given.example/pub-palinode/laws.FnBreakNormal", spec := "fnBreakNormal", apart := false, narrowed := true }
def FnBreakNormalUptoSaid : Prop := fnBreakNormalUptoRow.holds Try.pinned (OpenSpec.upto fnBreakNormalSpec)

/-- 'laws.FnPartInvalid', WHERE WHAT IT READS IS OF BULK AT MOST 1048576: true; the input reads as it did. -/
def fnPartInvalidUptoRow : OpenClaim := { program := "ytpimdceafnhmlaa", sum := "315bd5862e0162ae04e4de9213cbb412c820ae9093382de7c0d25fbe7e6002e7", func := "given.example/pub-palinode/laws.FnPartInvalid", spec := "fnPartInvalid", apart := false, narrowed := true }
def FnPartInvalidUptoSaid : Prop := fnPartInvalidUptoRow.holds Try.pinned (OpenSpec.upto fnPartInvalidSpec)

/-- 'laws.FnPathName', WHERE WHAT IT READS IS OF BULK AT MOST 1048576: true; the input reads as it did. -/
def fnPathNameUptoRow : OpenClaim := { program := "ytpimdceafnhmlaa", sum := "315bd5862e0162ae04e4de9213cbb412c820ae9093382de7c0d25fbe7e6002e7", func := "given.example/pub-palinode/laws.FnPathName", spec := "fnPathName", apart := false, narrowed := true }
def FnPathNameUptoSaid : Prop := fnPathNameUptoRow.holds Try.pinned (OpenSpec.upto fnPathNameSpec)

/-- 'laws.FnIndentLines', WHERE WHAT IT READS IS OF BULK AT MOST 1048576: true; the input reads as it did. -/
def fnIndentLinesUptoRow : OpenClaim := { program := "ytpimdceafnhmlaa", sum := "315bd5862e0162ae04e4de9213cbb412c820ae9093382de7c0d25fbe7e6002e7", func := "given.example/pub-palinode/laws.FnIndentLines", spec := "fnIndentLines", inPlace := ["internal/abi.NoEscape", "internal/bytealg.MakeNoZero"], apart := false, narrowed := true }
def FnIndentLinesUptoSaid : Prop := fnIndentLinesUptoRow.holds Try.pinned (OpenSpec.upto fnIndentLinesSpec)

end Rows
end Go.Proofs.Ytpimdceafnhmlaa
