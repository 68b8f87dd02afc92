/-
  THE WALK of FnPartIndent, one text for each of its ways (written by wip/genhdr.py).
-/
import Derived.Test.YtpimdceafnhmlaaDoorHdrB
import Derived.RegionTactic
import Derived.Laws.BytesArg
namespace Go.Proofs.YtpimdceafnhmlaaDoor.Hdr
open Go.RowKit Go.Proofs.YtpimdceafnhmlaaDoorW.PrintWords Go.Proofs.YtpimdceafnhmlaaDoorW.PrintLast Go.Proofs.YtpimdceafnhmlaaDoorW.PrintMore
open Go.Proofs.YtpimdceafnhmlaaDoor.PFnPartIndent Go.Proofs.YtpimdceafnhmlaaDoor.Str
set_option linter.unusedVariables false

/-- What both doors say of a text, from a world on. -/
def Good (s : ByteArray) (v : Int) (w : World) : Prop := Passes s ∧ ∀ w', Below w.heap.size w w' → Tells s v w'
theorem cv (w : World) (z : Int) (X : ByteArray) (hX : strOfNums [z] = X) :
    (convert 28 9 (.slice (some ⟨w.heap.size, 0, none⟩) 1 1)).run Tryd.prog (w.alloc (.cells #[.int .u8 z] 5)) = .ok (.string X) (w.alloc (.cells #[.int .u8 z] 5)) := by
  rw [← hX]
  refine run_convert_bytes_arg _ 28 5 Tryd.underlying28 Tryd.underlying5 w.heap.size 0 1 1 [z] rfl (fun i hi => ?_) 9 Tryd.underlying9
  obtain rfl : i = 0 := by omega
  have h1 := blk_cell (heap_alloc_new w (.cells #[.int .u8 z] 5)) 0
  exact h1

set_option maxRecDepth 100000 in
set_option maxHeartbeats 1000000 in
theorem law_pn (digit : Int) (h0 : 0 ≤ digit) (h1 : digit ≤ 255) (sign : Int) (hs1 : (sign == 1) = false) (hs2 : (sign == 2) = false) (turned : Bool) (w : World) (hd : 0 < digit % 10) (X : ByteArray) (hX : strOfNums [48 + digit % 10] = X) (hXs : X.size = 1) (hG : Good X (digit % 10) w) :
    Calls Tryd.prog 4 #[.int .u8 digit, .int .i64 sign, .bool turned] w fun e w' => e = .returned (.bool true) ∧ Below w.heap.size w w' := by
  have HP := Lib.hid hG.1
  have HI := Lib.hid hG.2
  have hcv := cv w _ X hX
  clear hG hX
  go_enter Tryd.func4, Tryd.ntmps4
  go_wp2_with fail
  refine (right_any _ HP.out _).mono ?_
  rintro e w1 ⟨rfl, hb1⟩
  have x1 : Below w.heap.size w w1 := ((Below.refl _ _).alloc (Nat.le_refl _) _).trans (hb1.mono (by simp))
  clear hb1
  go_wp2_with fail
  refine (indent_any _ _ _ (HI.out _ x1)).mono ?_
  rintro e w2 ⟨rfl, hb2⟩
  have x2 := x1.trans (hb2.mono x1.size)
  clear hb2
  go_wp2_with fail
  go_ret
  exact ⟨rfl, x2⟩

set_option maxRecDepth 100000 in
set_option maxHeartbeats 1000000 in
theorem law_p1 (digit : Int) (h0 : 0 ≤ digit) (h1 : digit ≤ 255) (w : World) (hd : 0 < digit % 10) (X : ByteArray) (hX : strOfNums [48 + digit % 10] = X) (hXs : X.size = 1) (Y : ByteArray) (hY : X ++ ⟨#[45]⟩ = Y) (hG : Good Y (digit % 10) w) :
    Calls Tryd.prog 4 #[.int .u8 digit, .int .i64 1, .bool false] w fun e w' => e = .returned (.bool true) ∧ Below w.heap.size w w' := by
  have HP := Lib.hid hG.1
  have HI := Lib.hid hG.2
  have hcv := cv w _ X hX
  clear hG hX
  go_enter Tryd.func4, Tryd.ntmps4
  go_wp2_with fail
  refine (right_any _ HP.out _).mono ?_
  rintro e w1 ⟨rfl, hb1⟩
  have x1 : Below w.heap.size w w1 := ((Below.refl _ _).alloc (Nat.le_refl _) _).trans (hb1.mono (by simp))
  clear hb1
  go_wp2_with fail
  refine (indent_any _ _ _ (HI.out _ x1)).mono ?_
  rintro e w2 ⟨rfl, hb2⟩
  have x2 := x1.trans (hb2.mono x1.size)
  clear hb2
  go_wp2_with fail
  go_ret
  exact ⟨rfl, x2⟩

set_option maxRecDepth 100000 in
set_option maxHeartbeats 1000000 in
theorem law_p1t (digit : Int) (h0 : 0 ≤ digit) (h1 : digit ≤ 255) (w : World) (hd : 0 < digit % 10) (X : ByteArray) (hX : strOfNums [48 + digit % 10] = X) (hXs : X.size = 1) (Y : ByteArray) (hY : X ++ ⟨#[45]⟩ = Y) (hYs : Y.size = 2) (M N Z : ByteArray) (hM : Y.extract 1 2 = M) (hN : Y.extract 0 1 = N) (hMs : M.size = 1) (hNs : N.size = 1) (hZ : M ++ N = Z) (hG : Good Z (digit % 10) w) :
    Calls Tryd.prog 4 #[.int .u8 digit, .int .i64 1, .bool true] w fun e w' => e = .returned (.bool true) ∧ Below w.heap.size w w' := by
  have HP := Lib.hid hG.1
  have HI := Lib.hid hG.2
  have hcv := cv w _ X hX
  clear hG hX
  go_enter Tryd.func4, Tryd.ntmps4
  go_wp2_with fail
  go_region
  go_wp2_with fail
  refine (right_any _ HP.out _).mono ?_
  rintro e w1 ⟨rfl, hb1⟩
  have x1 : Below w.heap.size w w1 := (((Below.refl _ _).alloc (Nat.le_refl _) _).drew).trans (hb1.mono (by simp))
  clear hb1
  go_wp2_with fail
  refine (indent_any _ _ _ (HI.out _ x1)).mono ?_
  rintro e w2 ⟨rfl, hb2⟩
  have x2 := x1.trans (hb2.mono x1.size)
  clear hb2
  go_wp2_with fail
  go_ret
  exact ⟨rfl, x2⟩

set_option maxRecDepth 100000 in
set_option maxHeartbeats 1000000 in
theorem law_p2 (digit : Int) (h0 : 0 ≤ digit) (h1 : digit ≤ 255) (w : World) (hd : 0 < digit % 10) (X : ByteArray) (hX : strOfNums [48 + digit % 10] = X) (hXs : X.size = 1) (Y : ByteArray) (hY : X ++ ⟨#[43]⟩ = Y) (hG : Good Y (digit % 10) w) :
    Calls Tryd.prog 4 #[.int .u8 digit, .int .i64 2, .bool false] w fun e w' => e = .returned (.bool true) ∧ Below w.heap.size w w' := by
  have HP := Lib.hid hG.1
  have HI := Lib.hid hG.2
  have hcv := cv w _ X hX
  clear hG hX
  go_enter Tryd.func4, Tryd.ntmps4
  go_wp2_with fail
  refine (right_any _ HP.out _).mono ?_
  rintro e w1 ⟨rfl, hb1⟩
  have x1 : Below w.heap.size w w1 := ((Below.refl _ _).alloc (Nat.le_refl _) _).trans (hb1.mono (by simp))
  clear hb1
  go_wp2_with fail
  refine (indent_any _ _ _ (HI.out _ x1)).mono ?_
  rintro e w2 ⟨rfl, hb2⟩
  have x2 := x1.trans (hb2.mono x1.size)
  clear hb2
  go_wp2_with fail
  go_ret
  exact ⟨rfl, x2⟩

set_option maxRecDepth 100000 in
set_option maxHeartbeats 1000000 in
theorem law_p2t (digit : Int) (h0 : 0 ≤ digit) (h1 : digit ≤ 255) (w : World) (hd : 0 < digit % 10) (X : ByteArray) (hX : strOfNums [48 + digit % 10] = X) (hXs : X.size = 1) (Y : ByteArray) (hY : X ++ ⟨#[43]⟩ = Y) (hYs : Y.size = 2) (M N Z : ByteArray) (hM : Y.extract 1 2 = M) (hN : Y.extract 0 1 = N) (hMs : M.size = 1) (hNs : N.size = 1) (hZ : M ++ N = Z) (hG : Good Z (digit % 10) w) :
    Calls Tryd.prog 4 #[.int .u8 digit, .int .i64 2, .bool true] w fun e w' => e = .returned (.bool true) ∧ Below w.heap.size w w' := by
  have HP := Lib.hid hG.1
  have HI := Lib.hid hG.2
  have hcv := cv w _ X hX
  clear hG hX
  go_enter Tryd.func4, Tryd.ntmps4
  go_wp2_with fail
  go_region
  go_wp2_with fail
  refine (right_any _ HP.out _).mono ?_
  rintro e w1 ⟨rfl, hb1⟩
  have x1 : Below w.heap.size w w1 := (((Below.refl _ _).alloc (Nat.le_refl _) _).drew).trans (hb1.mono (by simp))
  clear hb1
  go_wp2_with fail
  refine (indent_any _ _ _ (HI.out _ x1)).mono ?_
  rintro e w2 ⟨rfl, hb2⟩
  have x2 := x1.trans (hb2.mono x1.size)
  clear hb2
  go_wp2_with fail
  go_ret
  exact ⟨rfl, x2⟩

set_option maxRecDepth 100000 in
set_option maxHeartbeats 1000000 in
theorem law_zn (digit : Int) (h0 : 0 ≤ digit) (h1 : digit ≤ 255) (sign : Int) (hs1 : (sign == 1) = false) (hs2 : (sign == 2) = false) (turned : Bool) (w : World) (hd : digit % 10 = 0) (hG : Good (⟨#[]⟩ : ByteArray) 0 w) :
    Calls Tryd.prog 4 #[.int .u8 digit, .int .i64 sign, .bool turned] w fun e w' => e = .returned (.bool true) ∧ Below w.heap.size w w' := by
  have HP := Lib.hid hG.1
  have HI := Lib.hid hG.2
  clear hG
  go_enter Tryd.func4, Tryd.ntmps4
  go_wp2_with fail
  refine (right_any _ HP.out _).mono ?_
  rintro e w1 ⟨rfl, hb1⟩
  have x1 : Below w.heap.size w w1 := (Below.refl _ _).trans (hb1.mono (by simp))
  clear hb1
  go_wp2_with fail
  refine (indent_any _ _ _ (HI.out _ x1)).mono ?_
  rintro e w2 ⟨rfl, hb2⟩
  have x2 := x1.trans (hb2.mono x1.size)
  clear hb2
  go_wp2_with fail
  go_ret
  exact ⟨rfl, x2⟩

set_option maxRecDepth 100000 in
set_option maxHeartbeats 1000000 in
theorem law_z1 (digit : Int) (h0 : 0 ≤ digit) (h1 : digit ≤ 255) (w : World) (hd : digit % 10 = 0) (Y : ByteArray) (hY : (⟨#[]⟩ : ByteArray) ++ ⟨#[45]⟩ = Y) (hG : Good Y 0 w) :
    Calls Tryd.prog 4 #[.int .u8 digit, .int .i64 1, .bool false] w fun e w' => e = .returned (.bool true) ∧ Below w.heap.size w w' := by
  have HP := Lib.hid hG.1
  have HI := Lib.hid hG.2
  clear hG
  go_enter Tryd.func4, Tryd.ntmps4
  go_wp2_with fail
  refine (right_any _ HP.out _).mono ?_
  rintro e w1 ⟨rfl, hb1⟩
  have x1 : Below w.heap.size w w1 := (Below.refl _ _).trans (hb1.mono (by simp))
  clear hb1
  go_wp2_with fail
  refine (indent_any _ _ _ (HI.out _ x1)).mono ?_
  rintro e w2 ⟨rfl, hb2⟩
  have x2 := x1.trans (hb2.mono x1.size)
  clear hb2
  go_wp2_with fail
  go_ret
  exact ⟨rfl, x2⟩

set_option maxRecDepth 100000 in
set_option maxHeartbeats 1000000 in
theorem law_z1t (digit : Int) (h0 : 0 ≤ digit) (h1 : digit ≤ 255) (w : World) (hd : digit % 10 = 0) (Y : ByteArray) (hY : (⟨#[]⟩ : ByteArray) ++ ⟨#[45]⟩ = Y) (hYs : Y.size = 1) (M Z : ByteArray) (hM : Y.extract 0 1 = M) (hMs : M.size = 1) (hZ : M ++ ByteArray.empty = Z) (hG : Good Z 0 w) :
    Calls Tryd.prog 4 #[.int .u8 digit, .int .i64 1, .bool true] w fun e w' => e = .returned (.bool true) ∧ Below w.heap.size w w' := by
  have HP := Lib.hid hG.1
  have HI := Lib.hid hG.2
  clear hG
  go_enter Tryd.func4, Tryd.ntmps4
  go_wp2_with fail
  go_region
  go_wp2_with fail
  refine (right_any _ HP.out _).mono ?_
  rintro e w1 ⟨rfl, hb1⟩
  have x1 : Below w.heap.size w w1 := ((Below.refl _ _).drew).trans (hb1.mono (by simp))
  clear hb1
  go_wp2_with fail
  refine (indent_any _ _ _ (HI.out _ x1)).mono ?_
  rintro e w2 ⟨rfl, hb2⟩
  have x2 := x1.trans (hb2.mono x1.size)
  clear hb2
  go_wp2_with fail
  go_ret
  exact ⟨rfl, x2⟩

set_option maxRecDepth 100000 in
set_option maxHeartbeats 1000000 in
theorem law_z2 (digit : Int) (h0 : 0 ≤ digit) (h1 : digit ≤ 255) (w : World) (hd : digit % 10 = 0) (Y : ByteArray) (hY : (⟨#[]⟩ : ByteArray) ++ ⟨#[43]⟩ = Y) (hG : Good Y 0 w) :
    Calls Tryd.prog 4 #[.int .u8 digit, .int .i64 2, .bool false] w fun e w' => e = .returned (.bool true) ∧ Below w.heap.size w w' := by
  have HP := Lib.hid hG.1
  have HI := Lib.hid hG.2
  clear hG
  go_enter Tryd.func4, Tryd.ntmps4
  go_wp2_with fail
  refine (right_any _ HP.out _).mono ?_
  rintro e w1 ⟨rfl, hb1⟩
  have x1 : Below w.heap.size w w1 := (Below.refl _ _).trans (hb1.mono (by simp))
  clear hb1
  go_wp2_with fail
  refine (indent_any _ _ _ (HI.out _ x1)).mono ?_
  rintro e w2 ⟨rfl, hb2⟩
  have x2 := x1.trans (hb2.mono x1.size)
  clear hb2
  go_wp2_with fail
  go_ret
  exact ⟨rfl, x2⟩

set_option maxRecDepth 100000 in
set_option maxHeartbeats 1000000 in
theorem law_z2t (digit : Int) (h0 : 0 ≤ digit) (h1 : digit ≤ 255) (w : World) (hd : digit % 10 = 0) (Y : ByteArray) (hY : (⟨#[]⟩ : ByteArray) ++ ⟨#[43]⟩ = Y) (hYs : Y.size = 1) (M Z : ByteArray) (hM : Y.extract 0 1 = M) (hMs : M.size = 1) (hZ : M ++ ByteArray.empty = Z) (hG : Good Z 0 w) :
    Calls Tryd.prog 4 #[.int .u8 digit, .int .i64 2, .bool true] w fun e w' => e = .returned (.bool true) ∧ Below w.heap.size w w' := by
  have HP := Lib.hid hG.1
  have HI := Lib.hid hG.2
  clear hG
  go_enter Tryd.func4, Tryd.ntmps4
  go_wp2_with fail
  go_region
  go_wp2_with fail
  refine (right_any _ HP.out _).mono ?_
  rintro e w1 ⟨rfl, hb1⟩
  have x1 : Below w.heap.size w w1 := ((Below.refl _ _).drew).trans (hb1.mono (by simp))
  clear hb1
  go_wp2_with fail
  refine (indent_any _ _ _ (HI.out _ x1)).mono ?_
  rintro e w2 ⟨rfl, hb2⟩
  have x2 := x1.trans (hb2.mono x1.size)
  clear hb2
  go_wp2_with fail
  go_ret
  exact ⟨rfl, x2⟩

end Go.Proofs.YtpimdceafnhmlaaDoor.Hdr