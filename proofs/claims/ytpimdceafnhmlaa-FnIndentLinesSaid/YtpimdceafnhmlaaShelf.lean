/-
  THE CONTRACTS of strings.Join and strings.Repeat at this translation: laid by the shelf's own command in plain words.
-/
import Derived.Shelf.Strings.OnBuilder
import Derived.Shelf.Strings.Repeat
import Derived.Test.YtpimdceafnhmlaaProg
namespace Go.Proofs
open Go.Shelf
def Try.lays156_ren : Go.Shelf.Ren := ⟨fun | 156 => 42 | 165 => 50 | 166 => 51 | 169 => 53 | 240 => 59 | 241 => 60 | 276 => 61 | 277 => 62 | n => n, fun | 31 => 71 | 9 => 9 | 3 => 3 | 4 => 4 | 0 => 0 | 20 => 20 | 72 => 80 | 76 => 84 | 70 => 78 | 37 => 28 | 75 => 83 | 127 => 93 | 164 => 94 | 5 => 5 | 80 => 41 | n => n, fun | n => n⟩
theorem Try.lays156 : Go.Proofs.Lays.n156 Try.prog Try.lays156_ren := {
  mixed := by kernel_rfl
  f156 := Try.func42.trans (congrArg some (by kernel_rfl))
  f165 := Try.func50.trans (congrArg some (by kernel_rfl))
  f166 := Try.func51.trans (congrArg some (by kernel_rfl))
  f169 := Try.func53.trans (congrArg some (by kernel_rfl))
  f240 := Try.func59.trans (congrArg some (by kernel_rfl))
  f241 := Try.func60.trans (congrArg some (by kernel_rfl))
  f276 := Try.func61.trans (congrArg some (by kernel_rfl))
  f277 := Try.func62.trans (congrArg some (by kernel_rfl))
  t0 := Try.underlying0
  a0 := Try.isAgg0
  z0 := Try.sizeOf0
  v0 := Try.zeroValue0
  t3 := Try.underlying3
  a3 := Try.isAgg3
  z3 := Try.sizeOf3
  v3 := Try.zeroValue3
  t4 := Try.underlying4
  a4 := Try.isAgg4
  z4 := Try.sizeOf4
  v4 := Try.zeroValue4
  t9 := Try.underlying9
  a9 := Try.isAgg9
  z9 := Try.sizeOf9
  v9 := Try.zeroValue9
  t20 := Try.underlying20
  a20 := Try.isAgg20
  z20 := Try.sizeOf20
  v20 := Try.zeroValue20
  t31 := Try.underlying71
  a31 := Try.isAgg71
  z31 := Try.sizeOf71
  v31 := Try.zeroValue71
  t37 := Try.underlying28
  a37 := Try.isAgg28
  z37 := Try.sizeOf28
  v37 := Try.zeroValue28
  t70 := Try.underlying78
  a70 := Try.isAgg78
  z70 := Try.sizeOf78
  v70 := Try.zeroValue78
  t72 := Try.underlying80
  a72 := Try.isAgg80
  z72 := Try.sizeOf80
  v72 := Try.zeroValue80
  t75 := Try.underlying83
  a75 := Try.isAgg83
  z75 := Try.sizeOf83
  v75 := Try.zeroValue83
  t76 := Try.underlying84
  a76 := Try.isAgg84
  z76 := Try.sizeOf84
  v76 := Try.zeroValue84
  t127 := Try.underlying93
  a127 := Try.isAgg93
  z127 := Try.sizeOf93
  v127 := Try.zeroValue93
  t164 := Try.underlying94
  a164 := Try.isAgg94
  z164 := Try.sizeOf94
  v164 := Try.zeroValue94 }
theorem Try.Builder_Extra_156 : Builder.Extra Try.prog Try.lays156_ren := {
  sizeBuilder := by kernel_rfl
  liesBuilder := by kernel_rfl
  t5 := Try.underlying5
  a5 := Try.isAgg5
  z5 := Try.sizeOf5
  v5 := Try.zeroValue5
  infoByte := by kernel_rfl
  cellsByte := by kernel_rfl
  sizeByte := by kernel_rfl
  neB5 := by decide }
open Go.RowKit in
theorem Try.strings_Join_none (a : Option Addr) (c : Nat) (sep : ByteArray) (w : World) :
    Calls Try.prog 42 #[.slice a 0 c, .string sep] w fun e w' => e = .returned (.string ⟨#[]⟩) ∧ w' = w := Any.strings_Join_none Try.lays156 Try.Builder_Extra_156 a c sep w
open Go.RowKit in
theorem Try.strings_Join (bk o c : Nat) (xs : List ByteArray) (sep : ByteArray) (w : World) (hcells : ∀ (j : Nat) x, xs[j]? = some x → w.cell? ⟨bk, o + j, none⟩ = some (.string x)) (hbk : bk < w.heap.size) (hN : xs.length ≤ 140737488355328) (hcap : xs.length ≤ c) (hlen : (Lib.join (xs.map (·.data.toList)) sep.data.toList).length ≤ 140737488355328) :
    Calls Try.prog 42 #[.slice (some ⟨bk, o, none⟩) xs.length c, .string sep] w fun e w' => e = .returned (.string ⟨(Lib.join (xs.map (·.data.toList)) sep.data.toList).toArray⟩) ∧ Below w.heap.size w w' := Any.strings_Join Try.lays156 Try.Builder_Extra_156 bk o c xs sep w hcells hbk hN hcap hlen
def Try.lays105_ren : Go.Shelf.Ren := ⟨fun | 105 => 40 | 212 => 49 | 99 => 45 | 165 => 50 | 166 => 51 | 170 => 52 | 169 => 53 | 263 => 57 | 264 => 58 | 206 => 55 | 240 => 59 | 241 => 60 | 276 => 61 | 277 => 62 | n => n, fun | 9 => 9 | 3 => 3 | 4 => 4 | 20 => 20 | 0 => 0 | 46 => 75 | 109 => 76 | 5 => 5 | 72 => 80 | 76 => 84 | 51 => 87 | 146 => 88 | 53 => 90 | 148 => 91 | 70 => 78 | 37 => 28 | 75 => 83 | 127 => 93 | 164 => 94 | 80 => 41 | n => n, fun | n => n⟩
theorem Try.lays105 : Go.Proofs.Lays.n105 Try.prog Try.lays105_ren := {
  mixed := by kernel_rfl
  f99 := Try.func45.trans (congrArg some (by kernel_rfl))
  f105 := Try.func40.trans (congrArg some (by kernel_rfl))
  f165 := Try.func50.trans (congrArg some (by kernel_rfl))
  f166 := Try.func51.trans (congrArg some (by kernel_rfl))
  f169 := Try.func53.trans (congrArg some (by kernel_rfl))
  f170 := Try.func52.trans (congrArg some (by kernel_rfl))
  f206 := Try.func55.trans (congrArg some (by kernel_rfl))
  f212 := Try.func49.trans (congrArg some (by kernel_rfl))
  f240 := Try.func59.trans (congrArg some (by kernel_rfl))
  f241 := Try.func60.trans (congrArg some (by kernel_rfl))
  f263 := Try.func57.trans (congrArg some (by kernel_rfl))
  f264 := Try.func58.trans (congrArg some (by kernel_rfl))
  f276 := Try.func61.trans (congrArg some (by kernel_rfl))
  f277 := Try.func62.trans (congrArg some (by kernel_rfl))
  t0 := Try.underlying0
  a0 := Try.isAgg0
  z0 := Try.sizeOf0
  v0 := Try.zeroValue0
  t3 := Try.underlying3
  a3 := Try.isAgg3
  z3 := Try.sizeOf3
  v3 := Try.zeroValue3
  t4 := Try.underlying4
  a4 := Try.isAgg4
  z4 := Try.sizeOf4
  v4 := Try.zeroValue4
  t5 := Try.underlying5
  a5 := Try.isAgg5
  z5 := Try.sizeOf5
  v5 := Try.zeroValue5
  t9 := Try.underlying9
  a9 := Try.isAgg9
  z9 := Try.sizeOf9
  v9 := Try.zeroValue9
  t20 := Try.underlying20
  a20 := Try.isAgg20
  z20 := Try.sizeOf20
  v20 := Try.zeroValue20
  t37 := Try.underlying28
  a37 := Try.isAgg28
  z37 := Try.sizeOf28
  v37 := Try.zeroValue28
  t46 := Try.underlying75
  a46 := Try.isAgg75
  z46 := Try.sizeOf75
  v46 := Try.zeroValue75
  t51 := Try.underlying87
  a51 := Try.isAgg87
  z51 := Try.sizeOf87
  v51 := Try.zeroValue87
  t53 := Try.underlying90
  a53 := Try.isAgg90
  z53 := Try.sizeOf90
  v53 := Try.zeroValue90
  t70 := Try.underlying78
  a70 := Try.isAgg78
  z70 := Try.sizeOf78
  v70 := Try.zeroValue78
  t72 := Try.underlying80
  a72 := Try.isAgg80
  z72 := Try.sizeOf80
  v72 := Try.zeroValue80
  t75 := Try.underlying83
  a75 := Try.isAgg83
  z75 := Try.sizeOf83
  v75 := Try.zeroValue83
  t76 := Try.underlying84
  a76 := Try.isAgg84
  z76 := Try.sizeOf84
  v76 := Try.zeroValue84
  t109 := Try.underlying76
  a109 := Try.isAgg76
  z109 := Try.sizeOf76
  v109 := Try.zeroValue76
  t127 := Try.underlying93
  a127 := Try.isAgg93
  z127 := Try.sizeOf93
  v127 := Try.zeroValue93
  t146 := Try.underlying88
  a146 := Try.isAgg88
  z146 := Try.sizeOf88
  v146 := Try.zeroValue88
  t148 := Try.underlying91
  a148 := Try.isAgg91
  z148 := Try.sizeOf91
  v148 := Try.zeroValue91
  t164 := Try.underlying94
  a164 := Try.isAgg94
  z164 := Try.sizeOf94
  v164 := Try.zeroValue94 }
theorem Try.Builder_Extra_105 : Builder.Extra Try.prog Try.lays105_ren := {
  sizeBuilder := by kernel_rfl
  liesBuilder := by kernel_rfl
  t5 := Try.underlying5
  a5 := Try.isAgg5
  z5 := Try.sizeOf5
  v5 := Try.zeroValue5
  infoByte := by kernel_rfl
  cellsByte := by kernel_rfl
  sizeByte := by kernel_rfl
  neB5 := by decide }
open Go.RowKit Go.Lib in
theorem Try.strings_Repeat (s : ByteArray) (c : Nat) (w : World) (hc : c ≤ 9223372036854775807) (hlen : s.size * c ≤ 140737488355328) :
    Calls Try.prog 40 #[.string s, .int .i64 c] w fun e w' => e = .returned (.string ⟨(Lib.repeatL s.data.toList c).toArray⟩) ∧ Below w.heap.size w w' := Any.strings_Repeat Try.lays105 Try.Builder_Extra_105 s c w hc hlen
end Go.Proofs
