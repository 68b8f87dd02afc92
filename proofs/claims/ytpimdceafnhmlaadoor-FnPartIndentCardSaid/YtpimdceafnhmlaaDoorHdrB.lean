/-
  THE WALKS of the check of a header's indicators, and of the doors.
-/
import Derived.Test.YtpimdceafnhmlaaDoorHdrA
import Derived.Test.YtpimdceafnhmlaaDoorStr
namespace Go.Proofs.YtpimdceafnhmlaaDoor.Hdr
open Go.RowKit Go.Proofs.YtpimdceafnhmlaaDoorW.PrintWords Go.Proofs.YtpimdceafnhmlaaDoorW.PrintLast Go.Proofs.YtpimdceafnhmlaaDoorW.PrintMore
open Go.Proofs.YtpimdceafnhmlaaDoor.PFnPartIndent

set_option maxRecDepth 100000 in
theorem check_nothing (w : World) (rc : Value) : Calls Tryd.prog 23 #[rc, .string ⟨#[]⟩] w fun e w' => e = .returned .nilIface ∧ Below w.heap.size w w' := by
  go_enter Tryd.func23, Tryd.ntmps23
  go_wp2_with fail
  go_ret
  exact ⟨rfl, Below.refl _ _⟩

set_option maxRecDepth 100000 in
theorem check_signs (s : ByteArray) (hs : s.size ≠ 0) (hL : Left s ⟨#[]⟩) (w : World) (rc : Value) : Calls Tryd.prog 23 #[rc, .string s] w fun e w' => e = .returned .nilIface ∧ Below w.heap.size w w' := by
  obtain ⟨a, b, c, h1, h2, h3, h4⟩ := hL.ex
  have H1 := Lib.hid h1
  have H2 := Lib.hid h2
  have H3 := Lib.hid h3
  have H4 := Lib.hid h4
  have hne : ((s.size : Int) == 0) = false := beq_eq_false_iff_ne.2 (by omega)
  clear h1 h2 h3 h4 hL hs
  go_enter Tryd.func23, Tryd.ntmps23
  go_wp2_with fail
  refine (strings_TrimPrefix.calls _ _ _ _ H1.out).mono ?_
  rintro e w1 ⟨rfl, hb1⟩
  have x1 := hb1.below
  clear hb1
  go_wp2_with fail
  refine (strings_TrimPrefix.calls _ _ _ _ H2.out).mono ?_
  rintro e w2 ⟨rfl, hb2⟩
  have x2 := x1.trans (hb2.below.mono x1.size)
  clear x1 hb2
  go_wp2_with fail
  refine (strings_TrimSuffix.calls _ _ _ _ H3.out).mono ?_
  rintro e w3 ⟨rfl, hb3⟩
  have x3 := x2.trans (hb3.below.mono x2.size)
  clear x2 hb3
  go_wp2_with fail
  refine (strings_TrimSuffix.calls _ _ _ _ H4.out).mono ?_
  rintro e w4 ⟨rfl, hb4⟩
  have x4 := x3.trans (hb4.below.mono x3.size)
  clear x3 hb4
  go_wp2_with fail
  go_ret
  exact ⟨rfl, x4⟩

set_option maxRecDepth 100000 in
theorem check_number (s d : ByteArray) (v : Int) (hs : s.size ≠ 0) (hL : Left s d) (hd0 : d.size ≠ 0) (hd : d.size ≤ 1000) (hz : (d.toList == [48]) = false) (hv : ¬ v > 9) (hp : Lib.parseIntB 64 d.data.toList = .ok v) (w : World) (rc : Value) :
    Calls Tryd.prog 23 #[rc, .string s] w fun e w' => e = .returned .nilIface ∧ Below w.heap.size w w' := by
  obtain ⟨a, b, c, h1, h2, h3, h4⟩ := hL.ex
  have H1 := Lib.hid h1
  have H2 := Lib.hid h2
  have H3 := Lib.hid h3
  have H4 := Lib.hid h4
  have H5 := Lib.hid (parse_ok d v hd hp)
  have hne : ((s.size : Int) == 0) = false := beq_eq_false_iff_ne.2 (by omega)
  have hne2 : ((d.size : Int) == 0) = false := beq_eq_false_iff_ne.2 (by omega)
  clear h1 h2 h3 h4 hL hs hp hd0 hd
  go_enter Tryd.func23, Tryd.ntmps23
  go_wp2_with fail
  refine (strings_TrimPrefix.calls _ _ _ _ H1.out).mono ?_
  rintro e w1 ⟨rfl, hb1⟩
  have x1 := hb1.below
  clear hb1
  go_wp2_with fail
  refine (strings_TrimPrefix.calls _ _ _ _ H2.out).mono ?_
  rintro e w2 ⟨rfl, hb2⟩
  have x2 := x1.trans (hb2.below.mono x1.size)
  clear x1 hb2
  go_wp2_with fail
  refine (strings_TrimSuffix.calls _ _ _ _ H3.out).mono ?_
  rintro e w3 ⟨rfl, hb3⟩
  have x3 := x2.trans (hb3.below.mono x2.size)
  clear x2 hb3
  go_wp2_with fail
  refine (strings_TrimSuffix.calls _ _ _ _ H4.out).mono ?_
  rintro e w4 ⟨rfl, hb4⟩
  have x4 := x3.trans (hb4.below.mono x3.size)
  clear x3 hb4
  go_wp2_with fail
  refine (H5.out _).mono ?_
  rintro e w5 ⟨rfl, hb5⟩
  have x5 := x4.trans (hb5.mono x4.size)
  clear x4 hb5
  go_wp2_with fail
  go_ret
  exact ⟨rfl, x5⟩

/-- The check lets it pass. -/
def Passes (s : ByteArray) : Prop := ∀ (w : World) (rc : Value), Calls Tryd.prog 23 #[rc, .string s] w fun e w' => e = .returned .nilIface ∧ Below w.heap.size w w'

set_option maxRecDepth 100000 in
theorem right_any (s : ByteArray) (h : Passes s) (w : World) : Calls Tryd.prog 9 #[.string s] w fun e w' => e = .returned (.bool true) ∧ Below w.heap.size w w' := by
  have H := Lib.hid h
  clear h
  have h16 : ∀ w, Calls Tryd.prog 16 #[.string s] w fun e w' => e = .returned (.bool true) ∧ Below w.heap.size w w' := by
    intro w
    go_enter Tryd.func16, Tryd.ntmps16
    go_wp2_with fail
    refine (H.out _ _).mono ?_
    rintro e w1 ⟨rfl, hb⟩
    go_wp2_with fail
    go_ret
    exact ⟨rfl, ((Below.refl _ _).alloc (Nat.le_refl _) _).trans (hb.mono (by simp))⟩
  have H2 := Lib.hid h16
  clear h16 H
  go_enter Tryd.func9, Tryd.ntmps9
  go_wp2_with fail
  refine (H2.out _).mono ?_
  rintro e w1 ⟨rfl, hb⟩
  go_wp2_with fail
  go_ret
  exact ⟨rfl, hb⟩

/-- The number that is read, in a world. -/
def Tells (s : ByteArray) (v : Int) (w : World) : Prop := Calls Tryd.prog 24 #[.string s] w fun e w' => e = .returned (.int .i64 v) ∧ Below w.heap.size w w'
set_option maxRecDepth 100000 in
theorem indent_any (s : ByteArray) (v : Int) (w : World) (h : Tells s v w) : Calls Tryd.prog 10 #[.string s] w fun e w' => e = .returned (.int .i64 v) ∧ Below w.heap.size w w' := by
  have H := Lib.hid h
  clear h
  have h17 : Calls Tryd.prog 17 #[.string s] w fun e w' => e = .returned (.int .i64 v) ∧ Below w.heap.size w w' := by
    go_enter Tryd.func17, Tryd.ntmps17
    go_wp2_with fail
    refine H.out.mono ?_
    rintro e w1 ⟨rfl, hb⟩
    go_wp2_with fail
    go_ret
    exact ⟨rfl, hb⟩
  have H2 := Lib.hid h17
  clear h17 H
  go_enter Tryd.func10, Tryd.ntmps10
  go_wp2_with fail
  refine H2.out.mono ?_
  rintro e w1 ⟨rfl, hb⟩
  go_wp2_with fail
  go_ret
  exact ⟨rfl, hb⟩

end Go.Proofs.YtpimdceafnhmlaaDoor.Hdr
