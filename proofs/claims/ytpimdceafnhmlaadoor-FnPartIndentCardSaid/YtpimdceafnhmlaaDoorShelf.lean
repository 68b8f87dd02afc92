/-
  THE CONTRACTS of utf8.ValidString, strconv.ParseInt, strings.TrimPrefix and TrimSuffix at this translation: laid by the commands of the shelf, in plain words.
-/
import Derived.Shelf.Unicode.ValidAny
import Derived.Shelf.Strconv.Itoa0
import Derived.Shelf.Strconv.Itoa1
import Derived.Shelf.LaysM
import Derived.Shelf.Strconv.Itoa2
import Derived.Shelf.Strconv.Itoa3
import Derived.Shelf.Strconv.ParseIntEmpty
import Derived.Shelf.Strconv.Clone
import Derived.Shelf.Strconv.SyntaxError
import Derived.Shelf.LaysC
import Derived.Shelf.Strconv.ToError
import Derived.Shelf.Strconv.Lower
import Derived.Shelf.Strconv.ParseUint10
import Derived.Shelf.Strconv.ParseUint10Empty
import Derived.Shelf.Strconv.ParseUint10Any
import Derived.Shelf.Strconv.ParseInt10
import Derived.Shelf.Strconv.RangeError
import Derived.Shelf.Strconv.ToErrorRange
import Derived.Shelf.Strconv.ParseUintEmpty
import Derived.Shelf.Strconv.ParseUint10b64
import Derived.Shelf.Strconv.ParseUint10b32
import Derived.Shelf.Strconv.ParseUint10b16
import Derived.Shelf.Strconv.ParseUint10b8
import Derived.Shelf.Strconv.ParseUint10At
import Derived.Shelf.Strconv.ParseInt10At64
import Derived.Shelf.Strconv.ParseInt10At32
import Derived.Shelf.Strconv.ParseInt10At16
import Derived.Shelf.Strconv.ParseInt10At8
import Derived.Shelf.Strconv.ParseInt10All
import Derived.Shelf.Strconv.ParseIntPublic10
import Derived.Shelf.Strings.Prefix
import Derived.Shelf.Unicode.Decode
import Derived.Shelf.Unicode.DecodeSlow
import Derived.Shelf.Unicode.DecodeAny
import Derived.Test.YtpimdceafnhmlaaDoorProg
namespace Go.Proofs
open Go.Shelf
def Tryd.lays196_ren : Go.Shelf.Ren := ⟨fun | 196 => 19 | 259 => 26 | n => n, fun | 9 => 9 | 4 => 4 | 3 => 3 | 5 => 5 | 12 => 12 | 119 => 52 | 0 => 0 | 46 => 56 | 139 => 55 | 138 => 54 | 53 => 64 | n => n, fun | 3 => 0 | 4 => 1 | n => n⟩
theorem Tryd.lays196 : Go.Proofs.Lays.n196 Tryd.prog Tryd.lays196_ren := {
  mixed := by kernel_rfl
  f196 := Tryd.func19.trans (congrArg some (by kernel_rfl))
  f259 := Tryd.func26.trans (congrArg some (by kernel_rfl))
  t0 := Tryd.underlying0
  a0 := Tryd.isAgg0
  z0 := Tryd.sizeOf0
  v0 := Tryd.zeroValue0
  t3 := Tryd.underlying3
  a3 := Tryd.isAgg3
  z3 := Tryd.sizeOf3
  v3 := Tryd.zeroValue3
  t4 := Tryd.underlying4
  a4 := Tryd.isAgg4
  z4 := Tryd.sizeOf4
  v4 := Tryd.zeroValue4
  t5 := Tryd.underlying5
  a5 := Tryd.isAgg5
  z5 := Tryd.sizeOf5
  v5 := Tryd.zeroValue5
  t9 := Tryd.underlying9
  a9 := Tryd.isAgg9
  z9 := Tryd.sizeOf9
  v9 := Tryd.zeroValue9
  t12 := Tryd.underlying12
  a12 := Tryd.isAgg12
  z12 := Tryd.sizeOf12
  v12 := Tryd.zeroValue12
  t46 := Tryd.underlying56
  a46 := Tryd.isAgg56
  z46 := Tryd.sizeOf56
  v46 := Tryd.zeroValue56
  t53 := Tryd.underlying64
  a53 := Tryd.isAgg64
  z53 := Tryd.sizeOf64
  v53 := Tryd.zeroValue64
  t119 := Tryd.underlying52
  a119 := Tryd.isAgg52
  z119 := Tryd.sizeOf52
  t138 := Tryd.underlying54
  a138 := Tryd.isAgg54
  z138 := Tryd.sizeOf54
  v138 := Tryd.zeroValue54
  t139 := Tryd.underlying55
  a139 := Tryd.isAgg55
  z139 := Tryd.sizeOf55
  v139 := Tryd.zeroValue55
  g3 := by kernel_rfl
  g4 := by kernel_rfl }
theorem Tryd.utf8_ValidString (s : ByteArray) (w : World) (hs : s.size ≤ 9223372036854775807) (hT : Go.Lib.Utf8Tabs (Tryd.lays196_ren.g 3) (Tryd.lays196_ren.g 4) w) :
    Calls Tryd.prog 19 #[.string s] w fun e w' => e = .returned (.bool (Go.Lib.validD s.data.toList)) ∧ Go.RowKit.Below w.heap.size w w' := Any.utf8_ValidString Tryd.lays196 s w hs hT
def Tryd.laysC174_ren : Go.Shelf.Ren := ⟨fun | 174 => 31 | 247 => 37 | 245 => 38 | 287 => 44 | 279 => 45 | 280 => 46 | 281 => 47 | 282 => 48 | 321 => 52 | 322 => 53 | 316 => 54 | 171 => 55 | 205 => 30 | 243 => 56 | 246 => 57 | 283 => 58 | 284 => 59 | 285 => 60 | 286 => 61 | 129 => 63 | 317 => 62 | 318 => 64 | 319 => 65 | 320 => 66 | 337 => 67 | 338 => 68 | n => n, fun | 9 => 9 | 3 => 3 | 2 => 2 | 75 => 43 | 85 => 59 | 4 => 4 | 167 => 73 | 5 => 5 | 53 => 64 | 175 => 74 | 46 => 56 | 168 => 76 | 37 => 28 | 0 => 0 | 210 => 89 | 21 => 21 | 127 => 90 | 145 => 68 | 143 => 66 | 171 => 92 | 173 => 95 | 212 => 99 | 51 => 83 | 20 => 20 | 213 => 100 | 232 => 104 | 233 => 105 | 80 => 106 | n => n, fun | 15 => 6 | 16 => 7 | 17 => 8 | 18 => 9 | 19 => 10 | n => n⟩
theorem Tryd.laysC174 : Go.Proofs.LaysC.n174 Tryd.prog Tryd.laysC174_ren := {
  mixed := by kernel_rfl
  f129 := Tryd.func63.trans (congrArg some (by kernel_rfl))
  f171 := Tryd.func55.trans (congrArg some (by kernel_rfl))
  f174 := Tryd.func31.trans (congrArg some (by kernel_rfl))
  f205 := Tryd.func30.trans (congrArg some (by kernel_rfl))
  f243 := Tryd.func56.trans (congrArg some (by kernel_rfl))
  f245 := Tryd.func38.trans (congrArg some (by kernel_rfl))
  f246 := Tryd.func57.trans (congrArg some (by kernel_rfl))
  f247 := Tryd.func37.trans (congrArg some (by kernel_rfl))
  f279 := Tryd.func45.trans (congrArg some (by kernel_rfl))
  f280 := Tryd.func46.trans (congrArg some (by kernel_rfl))
  f281 := Tryd.func47.trans (congrArg some (by kernel_rfl))
  f282 := Tryd.func48.trans (congrArg some (by kernel_rfl))
  f283 := Tryd.func58.trans (congrArg some (by kernel_rfl))
  f284 := Tryd.func59.trans (congrArg some (by kernel_rfl))
  f285 := Tryd.func60.trans (congrArg some (by kernel_rfl))
  f286 := Tryd.func61.trans (congrArg some (by kernel_rfl))
  f287 := Tryd.func44.trans (congrArg some (by kernel_rfl))
  f316 := Tryd.func54.trans (congrArg some (by kernel_rfl))
  f317 := Tryd.func62.trans (congrArg some (by kernel_rfl))
  f318 := Tryd.func64.trans (congrArg some (by kernel_rfl))
  f319 := Tryd.func65.trans (congrArg some (by kernel_rfl))
  f320 := Tryd.func66.trans (congrArg some (by kernel_rfl))
  f321 := Tryd.func52.trans (congrArg some (by kernel_rfl))
  f322 := Tryd.func53.trans (congrArg some (by kernel_rfl))
  f337 := Tryd.func67.trans (congrArg some (by kernel_rfl))
  f338 := Tryd.func68.trans (congrArg some (by kernel_rfl))
  t0 := Tryd.underlying0
  a0 := Tryd.isAgg0
  z0 := Tryd.sizeOf0
  v0 := Tryd.zeroValue0
  t2 := Tryd.underlying2
  a2 := Tryd.isAgg2
  z2 := Tryd.sizeOf2
  v2 := Tryd.zeroValue2
  t3 := Tryd.underlying3
  a3 := Tryd.isAgg3
  z3 := Tryd.sizeOf3
  v3 := Tryd.zeroValue3
  t4 := Tryd.underlying4
  a4 := Tryd.isAgg4
  z4 := Tryd.sizeOf4
  v4 := Tryd.zeroValue4
  t5 := Tryd.underlying5
  a5 := Tryd.isAgg5
  z5 := Tryd.sizeOf5
  v5 := Tryd.zeroValue5
  t9 := Tryd.underlying9
  a9 := Tryd.isAgg9
  z9 := Tryd.sizeOf9
  v9 := Tryd.zeroValue9
  t20 := Tryd.underlying20
  a20 := Tryd.isAgg20
  z20 := Tryd.sizeOf20
  v20 := Tryd.zeroValue20
  t21 := Tryd.underlying21
  a21 := Tryd.isAgg21
  z21 := Tryd.sizeOf21
  v21 := Tryd.zeroValue21
  t37 := Tryd.underlying28
  a37 := Tryd.isAgg28
  z37 := Tryd.sizeOf28
  v37 := Tryd.zeroValue28
  t46 := Tryd.underlying56
  a46 := Tryd.isAgg56
  z46 := Tryd.sizeOf56
  v46 := Tryd.zeroValue56
  t51 := Tryd.underlying83
  a51 := Tryd.isAgg83
  z51 := Tryd.sizeOf83
  v51 := Tryd.zeroValue83
  t53 := Tryd.underlying64
  a53 := Tryd.isAgg64
  z53 := Tryd.sizeOf64
  v53 := Tryd.zeroValue64
  t75 := Tryd.underlying43
  a75 := Tryd.isAgg43
  z75 := Tryd.sizeOf43
  v75 := Tryd.zeroValue43
  t85 := Tryd.underlying59
  a85 := Tryd.isAgg59
  z85 := Tryd.sizeOf59
  v85 := Tryd.zeroValue59
  t127 := Tryd.underlying90
  a127 := Tryd.isAgg90
  z127 := Tryd.sizeOf90
  v127 := Tryd.zeroValue90
  t143 := Tryd.underlying66
  a143 := Tryd.isAgg66
  z143 := Tryd.sizeOf66
  v143 := Tryd.zeroValue66
  t145 := Tryd.underlying68
  a145 := Tryd.isAgg68
  z145 := Tryd.sizeOf68
  v145 := Tryd.zeroValue68
  t167 := Tryd.underlying73
  a167 := Tryd.isAgg73
  z167 := Tryd.sizeOf73
  v167 := Tryd.zeroValue73
  t168 := Tryd.underlying76
  a168 := Tryd.isAgg76
  z168 := Tryd.sizeOf76
  v168 := Tryd.zeroValue76
  t171 := Tryd.underlying92
  a171 := Tryd.isAgg92
  z171 := Tryd.sizeOf92
  v171 := Tryd.zeroValue92
  t173 := Tryd.underlying95
  a173 := Tryd.isAgg95
  z173 := Tryd.sizeOf95
  v173 := Tryd.zeroValue95
  t175 := Tryd.underlying74
  a175 := Tryd.isAgg74
  z175 := Tryd.sizeOf74
  v175 := Tryd.zeroValue74
  t210 := Tryd.underlying89
  a210 := Tryd.isAgg89
  z210 := Tryd.sizeOf89
  v210 := Tryd.zeroValue89
  t212 := Tryd.underlying99
  a212 := Tryd.isAgg99
  z212 := Tryd.sizeOf99
  v212 := Tryd.zeroValue99
  t213 := Tryd.underlying100
  a213 := Tryd.isAgg100
  z213 := Tryd.sizeOf100
  t232 := Tryd.underlying104
  a232 := Tryd.isAgg104
  z232 := Tryd.sizeOf104
  v232 := Tryd.zeroValue104
  t233 := Tryd.underlying105
  a233 := Tryd.isAgg105
  z233 := Tryd.sizeOf105
  v233 := Tryd.zeroValue105
  g15 := by kernel_rfl
  g16 := by kernel_rfl
  g17 := by kernel_rfl
  g18 := by kernel_rfl
  g19 := by kernel_rfl
  t80 := Tryd.underlying106
  a80 := Tryd.isAgg106
  z80 := Tryd.sizeOf106
  v80 := Tryd.zeroValue106
  i0 := by kernel_rfl
  i2 := by kernel_rfl
  i3 := by kernel_rfl
  i4 := by kernel_rfl
  i5 := by kernel_rfl
  i9 := by kernel_rfl
  i20 := by kernel_rfl
  i21 := by kernel_rfl
  i37 := by kernel_rfl
  i46 := by kernel_rfl
  i51 := by kernel_rfl
  i53 := by kernel_rfl
  i75 := by kernel_rfl
  i80 := by kernel_rfl
  i85 := by kernel_rfl
  i127 := by kernel_rfl
  i143 := by kernel_rfl
  i145 := by kernel_rfl
  i167 := by kernel_rfl
  i168 := by kernel_rfl
  i171 := by kernel_rfl
  i173 := by kernel_rfl
  i175 := by kernel_rfl
  i210 := by kernel_rfl
  i212 := by kernel_rfl
  i232 := by kernel_rfl
  i233 := by kernel_rfl
  m15 := by kernel_rfl
  m16 := by kernel_rfl
  m17 := by kernel_rfl
  m18 := by kernel_rfl
  m19 := by kernel_rfl
  c0 := by kernel_rfl
  c2 := by kernel_rfl
  c3 := by kernel_rfl
  c4 := by kernel_rfl
  c5 := by kernel_rfl
  c9 := by kernel_rfl
  c20 := by kernel_rfl
  c21 := by kernel_rfl
  c37 := by kernel_rfl
  c46 := by kernel_rfl
  c51 := by kernel_rfl
  c53 := by kernel_rfl
  c75 := by kernel_rfl
  c80 := by kernel_rfl
  c85 := by kernel_rfl
  c127 := by kernel_rfl
  c143 := by kernel_rfl
  c145 := by kernel_rfl
  c167 := by kernel_rfl
  c168 := by kernel_rfl
  c171 := by kernel_rfl
  c173 := by kernel_rfl
  c175 := by kernel_rfl
  c210 := by kernel_rfl
  c212 := by kernel_rfl
  c213 := by kernel_rfl
  c232 := by kernel_rfl
  c233 := by kernel_rfl }
open Go.RowKit in
theorem Tryd.strconv_ParseInt_10_at64_ok (s : ByteArray) (hmax : s.size ≤ 9223372036854775806) (v : Int) (h : Lib.parseIntB 64 s.data.toList = .ok v) (w : World) :
    Calls Tryd.prog 31 #[.string s, .int .i64 10, .int .i64 64] w fun e w' => e = .returned (.tuple #[.int .i64 v, .nilIface]) ∧ (w' = w ∨ ∃ t, w' = Lib.bytesWorld w 5 t) := Any.strconv_ParseInt_10_at64_ok Tryd.laysC174 s hmax v h w
def Tryd.lays101_ren : Go.Shelf.Ren := ⟨fun | 101 => 28 | 208 => 35 | 206 => 42 | n => n, fun | 9 => 9 | 4 => 4 | 3 => 3 | n => n, fun | n => n⟩
theorem Tryd.lays101 : Go.Proofs.Lays.n101 Tryd.prog Tryd.lays101_ren := {
  mixed := by kernel_rfl
  f101 := Tryd.func28.trans (congrArg some (by kernel_rfl))
  f206 := Tryd.func42.trans (congrArg some (by kernel_rfl))
  f208 := Tryd.func35.trans (congrArg some (by kernel_rfl))
  t3 := Tryd.underlying3
  a3 := Tryd.isAgg3
  z3 := Tryd.sizeOf3
  v3 := Tryd.zeroValue3
  t4 := Tryd.underlying4
  a4 := Tryd.isAgg4
  z4 := Tryd.sizeOf4
  v4 := Tryd.zeroValue4
  t9 := Tryd.underlying9
  a9 := Tryd.isAgg9
  z9 := Tryd.sizeOf9
  v9 := Tryd.zeroValue9 }
open Go.RowKit Go.Lib in
theorem Tryd.strings_TrimPrefix (s p : ByteArray) (w : World) :
    Calls Tryd.prog 28 #[.string s, .string p] w fun e w' => e = .returned (.string ⟨(Lib.trimPrefix s.data.toList p.data.toList).toArray⟩) ∧ w' = w := Any.strings_TrimPrefix Tryd.lays101 s p w
def Tryd.lays102_ren : Go.Shelf.Ren := ⟨fun | 102 => 29 | 209 => 36 | 207 => 43 | n => n, fun | 9 => 9 | 4 => 4 | 3 => 3 | n => n, fun | n => n⟩
theorem Tryd.lays102 : Go.Proofs.Lays.n102 Tryd.prog Tryd.lays102_ren := {
  mixed := by kernel_rfl
  f102 := Tryd.func29.trans (congrArg some (by kernel_rfl))
  f207 := Tryd.func43.trans (congrArg some (by kernel_rfl))
  f209 := Tryd.func36.trans (congrArg some (by kernel_rfl))
  t3 := Tryd.underlying3
  a3 := Tryd.isAgg3
  z3 := Tryd.sizeOf3
  v3 := Tryd.zeroValue3
  t4 := Tryd.underlying4
  a4 := Tryd.isAgg4
  z4 := Tryd.sizeOf4
  v4 := Tryd.zeroValue4
  t9 := Tryd.underlying9
  a9 := Tryd.isAgg9
  z9 := Tryd.sizeOf9
  v9 := Tryd.zeroValue9 }
open Go.RowKit Go.Lib in
theorem Tryd.strings_TrimSuffix (s p : ByteArray) (w : World) (hs : s.size ≤ 9223372036854775807) :
    Calls Tryd.prog 29 #[.string s, .string p] w fun e w' => e = .returned (.string ⟨(Lib.trimSuffix s.data.toList p.data.toList).toArray⟩) ∧ w' = w := Any.strings_TrimSuffix Tryd.lays102 s p w hs
def Tryd.lays260_ren : Go.Shelf.Ren := ⟨fun | 260 => 39 | n => n, fun | 9 => 9 | 21 => 21 | 3 => 3 | 4 => 4 | 5 => 5 | 119 => 52 | 0 => 0 | 46 => 56 | 139 => 55 | 138 => 54 | n => n, fun | 3 => 0 | 4 => 1 | n => n⟩
theorem Tryd.lays260 : Go.Proofs.Lays.n260 Tryd.prog Tryd.lays260_ren := {
  mixed := by kernel_rfl
  f260 := Tryd.func39.trans (congrArg some (by kernel_rfl))
  t0 := Tryd.underlying0
  a0 := Tryd.isAgg0
  z0 := Tryd.sizeOf0
  v0 := Tryd.zeroValue0
  t3 := Tryd.underlying3
  a3 := Tryd.isAgg3
  z3 := Tryd.sizeOf3
  v3 := Tryd.zeroValue3
  t4 := Tryd.underlying4
  a4 := Tryd.isAgg4
  z4 := Tryd.sizeOf4
  v4 := Tryd.zeroValue4
  t5 := Tryd.underlying5
  a5 := Tryd.isAgg5
  z5 := Tryd.sizeOf5
  v5 := Tryd.zeroValue5
  t9 := Tryd.underlying9
  a9 := Tryd.isAgg9
  z9 := Tryd.sizeOf9
  v9 := Tryd.zeroValue9
  t21 := Tryd.underlying21
  a21 := Tryd.isAgg21
  z21 := Tryd.sizeOf21
  v21 := Tryd.zeroValue21
  t46 := Tryd.underlying56
  a46 := Tryd.isAgg56
  z46 := Tryd.sizeOf56
  v46 := Tryd.zeroValue56
  t119 := Tryd.underlying52
  a119 := Tryd.isAgg52
  z119 := Tryd.sizeOf52
  t138 := Tryd.underlying54
  a138 := Tryd.isAgg54
  z138 := Tryd.sizeOf54
  v138 := Tryd.zeroValue54
  t139 := Tryd.underlying55
  a139 := Tryd.isAgg55
  z139 := Tryd.sizeOf55
  v139 := Tryd.zeroValue55
  g3 := by kernel_rfl
  g4 := by kernel_rfl }
end Go.Proofs
