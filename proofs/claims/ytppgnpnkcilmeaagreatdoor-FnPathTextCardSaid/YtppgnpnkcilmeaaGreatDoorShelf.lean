/-
  THE CONTRACTS of strconv.ParseInt and of what FormatUint calls at this translation: laid by the commands of the shelf, in plain words.
-/
import Derived.Shelf.Strings.Builder1
import Derived.Shelf.Strings.Builder2
import Derived.Shelf.Strings.OnBuilder
import Derived.Shelf.Strings.BuilderF
import Derived.Shelf.Strings.BuilderK
import Derived.Shelf.Strings.Builder2Cap
import Derived.Shelf.Strconv.Itoa0
import Derived.Shelf.Strconv.Itoa1
import Derived.Shelf.LaysM
import Derived.Shelf.Strconv.Itoa2
import Derived.Shelf.Strconv.Itoa3
import Derived.Shelf.Strconv.ParseIntEmpty
import Derived.Shelf.Strconv.Clone
import Derived.Shelf.Strconv.SyntaxError
import Derived.Shelf.LaysC
import Derived.Shelf.Strconv.ToError
import Derived.Shelf.Strconv.Lower
import Derived.Shelf.Strconv.ParseUint10
import Derived.Shelf.Strconv.ParseUint10Empty
import Derived.Shelf.Strconv.ParseUint10Any
import Derived.Shelf.Strconv.ParseInt10
import Derived.Shelf.Strconv.RangeError
import Derived.Shelf.Strconv.ToErrorRange
import Derived.Shelf.Strconv.ParseUintEmpty
import Derived.Shelf.Strconv.ParseUint10b64
import Derived.Shelf.Strconv.ParseUint10b32
import Derived.Shelf.Strconv.ParseUint10b16
import Derived.Shelf.Strconv.ParseUint10b8
import Derived.Shelf.Strconv.ParseUint10At
import Derived.Shelf.Strconv.ParseInt10At64
import Derived.Shelf.Strconv.ParseInt10At32
import Derived.Shelf.Strconv.ParseInt10At16
import Derived.Shelf.Strconv.ParseInt10At8
import Derived.Shelf.Strconv.ParseInt10All
import Derived.Shelf.Strconv.ParseIntPublic10
import Derived.Shelf.Strings.Prefix
import Derived.Shelf.Strings.BuilderCap
import Derived.Test.YtppgnpnkcilmeaaGreatDoorProg
namespace Go.Proofs
open Go.Shelf
def Tryz.lays283_ren : Go.Shelf.Ren := ⟨fun | 283 => 46 | n => n, fun | 3 => 3 | 9 => 9 | 4 => 4 | n => n, fun | n => n⟩
theorem Tryz.lays283 : Go.Proofs.Lays.n283 Tryz.prog Tryz.lays283_ren := {
  mixed := by kernel_rfl
  f283 := Tryz.func46.trans (congrArg some (by kernel_rfl))
  t3 := Tryz.underlying3
  a3 := Tryz.isAgg3
  z3 := Tryz.sizeOf3
  v3 := Tryz.zeroValue3
  t4 := Tryz.underlying4
  a4 := Tryz.isAgg4
  z4 := Tryz.sizeOf4
  v4 := Tryz.zeroValue4
  t9 := Tryz.underlying9
  a9 := Tryz.isAgg9
  z9 := Tryz.sizeOf9
  v9 := Tryz.zeroValue9 }
open Go.Lib in
theorem Tryz.internal_strconv_small (i : Nat) (h : i < 100) (w : World) :
    Calls Tryz.prog 46 #[.int .i64 i] w fun e w' => e = .returned (.string ⟨(Lib.decDigits i).toArray⟩) ∧ w' = w := Any.internal_strconv_small Tryz.lays283 i h w
def Tryz.laysM284_ren : Go.Shelf.Ren := ⟨fun | 284 => 47 | 129 => 51 | 317 => 50 | 318 => 52 | n => n, fun | 53 => 97 | 3 => 3 | 212 => 123 | 0 => 0 | 4 => 4 | 46 => 32 | 5 => 5 | 9 => 9 | n => n, fun | 17 => 5 | n => n⟩
theorem Tryz.laysM284 : Go.Proofs.LaysM.n284 Tryz.prog Tryz.laysM284_ren := {
  mixed := by kernel_rfl
  f129 := Tryz.func51.trans (congrArg some (by kernel_rfl))
  f284 := Tryz.func47.trans (congrArg some (by kernel_rfl))
  f317 := Tryz.func50.trans (congrArg some (by kernel_rfl))
  f318 := Tryz.func52.trans (congrArg some (by kernel_rfl))
  t0 := Tryz.underlying0
  a0 := Tryz.isAgg0
  z0 := Tryz.sizeOf0
  v0 := Tryz.zeroValue0
  t3 := Tryz.underlying3
  a3 := Tryz.isAgg3
  z3 := Tryz.sizeOf3
  v3 := Tryz.zeroValue3
  t4 := Tryz.underlying4
  a4 := Tryz.isAgg4
  z4 := Tryz.sizeOf4
  v4 := Tryz.zeroValue4
  t5 := Tryz.underlying5
  a5 := Tryz.isAgg5
  z5 := Tryz.sizeOf5
  v5 := Tryz.zeroValue5
  t9 := Tryz.underlying9
  a9 := Tryz.isAgg9
  z9 := Tryz.sizeOf9
  v9 := Tryz.zeroValue9
  t46 := Tryz.underlying32
  a46 := Tryz.isAgg32
  z46 := Tryz.sizeOf32
  v46 := Tryz.zeroValue32
  t53 := Tryz.underlying97
  a53 := Tryz.isAgg97
  z53 := Tryz.sizeOf97
  v53 := Tryz.zeroValue97
  t212 := Tryz.underlying123
  a212 := Tryz.isAgg123
  z212 := Tryz.sizeOf123
  v212 := Tryz.zeroValue123
  g17 := by kernel_rfl
  i0 := by kernel_rfl
  i3 := by kernel_rfl
  i4 := by kernel_rfl
  i5 := by kernel_rfl
  i9 := by kernel_rfl
  i46 := by kernel_rfl
  i53 := by kernel_rfl
  i212 := by kernel_rfl
  m17 := by kernel_rfl }
open Go.Lib in
theorem Tryz.internal_strconv_numDigits (u : Nat) (h1 : 1 ≤ u) (h2 : u < 18446744073709551616) (w : World) (htab : Lib.TabIs Tryz.prog w "internal/strconv.uint64pow10" .u64 Lib.pow10Tab) :
    Calls Tryz.prog 47 #[.int .u64 u] w fun e w' => e = .returned (.int .i64 (Lib.nDigits u)) ∧ w' = w := Any.internal_strconv_numDigits Tryz.laysM284 u h1 h2 w htab
def Tryz.lays285_ren : Go.Shelf.Ren := ⟨fun | 285 => 48 | n => n, fun | 37 => 45 | 53 => 97 | 3 => 3 | 4 => 4 | 51 => 124 | 9 => 9 | 5 => 5 | 0 => 0 | n => n, fun | n => n⟩
theorem Tryz.lays285 : Go.Proofs.Lays.n285 Tryz.prog Tryz.lays285_ren := {
  mixed := by kernel_rfl
  f285 := Tryz.func48.trans (congrArg some (by kernel_rfl))
  t0 := Tryz.underlying0
  a0 := Tryz.isAgg0
  z0 := Tryz.sizeOf0
  v0 := Tryz.zeroValue0
  t3 := Tryz.underlying3
  a3 := Tryz.isAgg3
  z3 := Tryz.sizeOf3
  v3 := Tryz.zeroValue3
  t4 := Tryz.underlying4
  a4 := Tryz.isAgg4
  z4 := Tryz.sizeOf4
  v4 := Tryz.zeroValue4
  t5 := Tryz.underlying5
  a5 := Tryz.isAgg5
  z5 := Tryz.sizeOf5
  v5 := Tryz.zeroValue5
  t9 := Tryz.underlying9
  a9 := Tryz.isAgg9
  z9 := Tryz.sizeOf9
  v9 := Tryz.zeroValue9
  t37 := Tryz.underlying45
  a37 := Tryz.isAgg45
  z37 := Tryz.sizeOf45
  v37 := Tryz.zeroValue45
  t51 := Tryz.underlying124
  a51 := Tryz.isAgg124
  z51 := Tryz.sizeOf124
  v51 := Tryz.zeroValue124
  t53 := Tryz.underlying97
  a53 := Tryz.isAgg97
  z53 := Tryz.sizeOf97
  v53 := Tryz.zeroValue97 }
open Go.RowKit Go.Sort Go.Lib in
theorem Tryz.internal_strconv_formatBase10 (blk off cap : Nat) (u : Nat) (d : Array UInt8) (w : World) (hH : Holds (fun (b : UInt8) => Value.int .u8 (b.toNat : Int)) w blk off d) (hu : u < 10 ^ d.size) (hu64 : u < 18446744073709551616) (hsz : d.size < 4611686018427387904) :
    Calls Tryz.prog 48 #[.slice (some ⟨blk, off, none⟩) d.size cap, .int .u64 u] w fun e w' =>
      e = .returned (.tuple #[]) ∧ ∃ (n v' : Nat) (dk : Array UInt8), w' = (putRow (fun (b : UInt8) => Value.int .u8 (b.toNat : Int)) w blk off dk).drewN n ∧ FmtInv d.size u 0 v' dk := Any.internal_strconv_formatBase10 Tryz.lays285 blk off cap u d w hH hu hu64 hsz
def Tryz.laysC174_ren : Go.Shelf.Ren := ⟨fun | 174 => 25 | 247 => 30 | 245 => 31 | 287 => 34 | 279 => 35 | 280 => 36 | 281 => 37 | 282 => 38 | 321 => 39 | 322 => 40 | 316 => 41 | 171 => 43 | 205 => 42 | 243 => 44 | 246 => 45 | 283 => 46 | 284 => 47 | 285 => 48 | 286 => 49 | 129 => 51 | 317 => 50 | 318 => 52 | 319 => 53 | 320 => 54 | 337 => 55 | 338 => 56 | n => n, fun | 9 => 9 | 3 => 3 | 2 => 2 | 75 => 40 | 85 => 67 | 4 => 4 | 167 => 96 | 5 => 5 | 53 => 97 | 175 => 98 | 46 => 32 | 168 => 100 | 37 => 45 | 0 => 0 | 210 => 109 | 21 => 21 | 127 => 111 | 145 => 114 | 143 => 112 | 171 => 116 | 173 => 119 | 212 => 123 | 51 => 124 | 20 => 20 | 213 => 125 | 232 => 129 | 233 => 130 | 80 => 44 | n => n, fun | 15 => 3 | 16 => 4 | 17 => 5 | 18 => 6 | 19 => 7 | n => n⟩
theorem Tryz.laysC174 : Go.Proofs.LaysC.n174 Tryz.prog Tryz.laysC174_ren := {
  mixed := by kernel_rfl
  f129 := Tryz.func51.trans (congrArg some (by kernel_rfl))
  f171 := Tryz.func43.trans (congrArg some (by kernel_rfl))
  f174 := Tryz.func25.trans (congrArg some (by kernel_rfl))
  f205 := Tryz.func42.trans (congrArg some (by kernel_rfl))
  f243 := Tryz.func44.trans (congrArg some (by kernel_rfl))
  f245 := Tryz.func31.trans (congrArg some (by kernel_rfl))
  f246 := Tryz.func45.trans (congrArg some (by kernel_rfl))
  f247 := Tryz.func30.trans (congrArg some (by kernel_rfl))
  f279 := Tryz.func35.trans (congrArg some (by kernel_rfl))
  f280 := Tryz.func36.trans (congrArg some (by kernel_rfl))
  f281 := Tryz.func37.trans (congrArg some (by kernel_rfl))
  f282 := Tryz.func38.trans (congrArg some (by kernel_rfl))
  f283 := Tryz.func46.trans (congrArg some (by kernel_rfl))
  f284 := Tryz.func47.trans (congrArg some (by kernel_rfl))
  f285 := Tryz.func48.trans (congrArg some (by kernel_rfl))
  f286 := Tryz.func49.trans (congrArg some (by kernel_rfl))
  f287 := Tryz.func34.trans (congrArg some (by kernel_rfl))
  f316 := Tryz.func41.trans (congrArg some (by kernel_rfl))
  f317 := Tryz.func50.trans (congrArg some (by kernel_rfl))
  f318 := Tryz.func52.trans (congrArg some (by kernel_rfl))
  f319 := Tryz.func53.trans (congrArg some (by kernel_rfl))
  f320 := Tryz.func54.trans (congrArg some (by kernel_rfl))
  f321 := Tryz.func39.trans (congrArg some (by kernel_rfl))
  f322 := Tryz.func40.trans (congrArg some (by kernel_rfl))
  f337 := Tryz.func55.trans (congrArg some (by kernel_rfl))
  f338 := Tryz.func56.trans (congrArg some (by kernel_rfl))
  t0 := Tryz.underlying0
  a0 := Tryz.isAgg0
  z0 := Tryz.sizeOf0
  v0 := Tryz.zeroValue0
  t2 := Tryz.underlying2
  a2 := Tryz.isAgg2
  z2 := Tryz.sizeOf2
  v2 := Tryz.zeroValue2
  t3 := Tryz.underlying3
  a3 := Tryz.isAgg3
  z3 := Tryz.sizeOf3
  v3 := Tryz.zeroValue3
  t4 := Tryz.underlying4
  a4 := Tryz.isAgg4
  z4 := Tryz.sizeOf4
  v4 := Tryz.zeroValue4
  t5 := Tryz.underlying5
  a5 := Tryz.isAgg5
  z5 := Tryz.sizeOf5
  v5 := Tryz.zeroValue5
  t9 := Tryz.underlying9
  a9 := Tryz.isAgg9
  z9 := Tryz.sizeOf9
  v9 := Tryz.zeroValue9
  t20 := Tryz.underlying20
  a20 := Tryz.isAgg20
  z20 := Tryz.sizeOf20
  v20 := Tryz.zeroValue20
  t21 := Tryz.underlying21
  a21 := Tryz.isAgg21
  z21 := Tryz.sizeOf21
  v21 := Tryz.zeroValue21
  t37 := Tryz.underlying45
  a37 := Tryz.isAgg45
  z37 := Tryz.sizeOf45
  v37 := Tryz.zeroValue45
  t46 := Tryz.underlying32
  a46 := Tryz.isAgg32
  z46 := Tryz.sizeOf32
  v46 := Tryz.zeroValue32
  t51 := Tryz.underlying124
  a51 := Tryz.isAgg124
  z51 := Tryz.sizeOf124
  v51 := Tryz.zeroValue124
  t53 := Tryz.underlying97
  a53 := Tryz.isAgg97
  z53 := Tryz.sizeOf97
  v53 := Tryz.zeroValue97
  t75 := Tryz.underlying40
  a75 := Tryz.isAgg40
  z75 := Tryz.sizeOf40
  v75 := Tryz.zeroValue40
  t85 := Tryz.underlying67
  a85 := Tryz.isAgg67
  z85 := Tryz.sizeOf67
  v85 := Tryz.zeroValue67
  t127 := Tryz.underlying111
  a127 := Tryz.isAgg111
  z127 := Tryz.sizeOf111
  v127 := Tryz.zeroValue111
  t143 := Tryz.underlying112
  a143 := Tryz.isAgg112
  z143 := Tryz.sizeOf112
  v143 := Tryz.zeroValue112
  t145 := Tryz.underlying114
  a145 := Tryz.isAgg114
  z145 := Tryz.sizeOf114
  v145 := Tryz.zeroValue114
  t167 := Tryz.underlying96
  a167 := Tryz.isAgg96
  z167 := Tryz.sizeOf96
  v167 := Tryz.zeroValue96
  t168 := Tryz.underlying100
  a168 := Tryz.isAgg100
  z168 := Tryz.sizeOf100
  v168 := Tryz.zeroValue100
  t171 := Tryz.underlying116
  a171 := Tryz.isAgg116
  z171 := Tryz.sizeOf116
  v171 := Tryz.zeroValue116
  t173 := Tryz.underlying119
  a173 := Tryz.isAgg119
  z173 := Tryz.sizeOf119
  v173 := Tryz.zeroValue119
  t175 := Tryz.underlying98
  a175 := Tryz.isAgg98
  z175 := Tryz.sizeOf98
  v175 := Tryz.zeroValue98
  t210 := Tryz.underlying109
  a210 := Tryz.isAgg109
  z210 := Tryz.sizeOf109
  v210 := Tryz.zeroValue109
  t212 := Tryz.underlying123
  a212 := Tryz.isAgg123
  z212 := Tryz.sizeOf123
  v212 := Tryz.zeroValue123
  t213 := Tryz.underlying125
  a213 := Tryz.isAgg125
  z213 := Tryz.sizeOf125
  t232 := Tryz.underlying129
  a232 := Tryz.isAgg129
  z232 := Tryz.sizeOf129
  v232 := Tryz.zeroValue129
  t233 := Tryz.underlying130
  a233 := Tryz.isAgg130
  z233 := Tryz.sizeOf130
  v233 := Tryz.zeroValue130
  g15 := by kernel_rfl
  g16 := by kernel_rfl
  g17 := by kernel_rfl
  g18 := by kernel_rfl
  g19 := by kernel_rfl
  t80 := Tryz.underlying44
  a80 := Tryz.isAgg44
  z80 := Tryz.sizeOf44
  v80 := Tryz.zeroValue44
  i0 := by kernel_rfl
  i2 := by kernel_rfl
  i3 := by kernel_rfl
  i4 := by kernel_rfl
  i5 := by kernel_rfl
  i9 := by kernel_rfl
  i20 := by kernel_rfl
  i21 := by kernel_rfl
  i37 := by kernel_rfl
  i46 := by kernel_rfl
  i51 := by kernel_rfl
  i53 := by kernel_rfl
  i75 := by kernel_rfl
  i80 := by kernel_rfl
  i85 := by kernel_rfl
  i127 := by kernel_rfl
  i143 := by kernel_rfl
  i145 := by kernel_rfl
  i167 := by kernel_rfl
  i168 := by kernel_rfl
  i171 := by kernel_rfl
  i173 := by kernel_rfl
  i175 := by kernel_rfl
  i210 := by kernel_rfl
  i212 := by kernel_rfl
  i232 := by kernel_rfl
  i233 := by kernel_rfl
  m15 := by kernel_rfl
  m16 := by kernel_rfl
  m17 := by kernel_rfl
  m18 := by kernel_rfl
  m19 := by kernel_rfl
  c0 := by kernel_rfl
  c2 := by kernel_rfl
  c3 := by kernel_rfl
  c4 := by kernel_rfl
  c5 := by kernel_rfl
  c9 := by kernel_rfl
  c20 := by kernel_rfl
  c21 := by kernel_rfl
  c37 := by kernel_rfl
  c46 := by kernel_rfl
  c51 := by kernel_rfl
  c53 := by kernel_rfl
  c75 := by kernel_rfl
  c80 := by kernel_rfl
  c85 := by kernel_rfl
  c127 := by kernel_rfl
  c143 := by kernel_rfl
  c145 := by kernel_rfl
  c167 := by kernel_rfl
  c168 := by kernel_rfl
  c171 := by kernel_rfl
  c173 := by kernel_rfl
  c175 := by kernel_rfl
  c210 := by kernel_rfl
  c212 := by kernel_rfl
  c213 := by kernel_rfl
  c232 := by kernel_rfl
  c233 := by kernel_rfl }
open Go.RowKit in
theorem Tryz.strconv_ParseInt_10_at64_ok (s : ByteArray) (hmax : s.size ≤ 9223372036854775806) (v : Int) (h : Lib.parseIntB 64 s.data.toList = .ok v) (w : World) :
    Calls Tryz.prog 25 #[.string s, .int .i64 10, .int .i64 64] w fun e w' => e = .returned (.tuple #[.int .i64 v, .nilIface]) ∧ (w' = w ∨ ∃ t, w' = Lib.bytesWorld w 5 t) := Any.strconv_ParseInt_10_at64_ok Tryz.laysC174 s hmax v h w
end Go.Proofs
