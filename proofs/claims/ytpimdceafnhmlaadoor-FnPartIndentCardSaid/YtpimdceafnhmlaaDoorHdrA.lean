/-
  THE WALKS of the header's indicators: what is left of a text without the chomping signs ('left'), its number, and the check.
-/
import Derived.Test.YtpimdceafnhmlaaDoorPFnPartIndentx1
import Derived.Test.YtpimdceafnhmlaaDoorShelf
import Derived.Lib.Hide
namespace Go.Proofs.YtpimdceafnhmlaaDoor.Hdr
open Go.RowKit Go.Proofs.YtpimdceafnhmlaaDoorW.PrintWords Go.Proofs.YtpimdceafnhmlaaDoorW.PrintLast Go.Proofs.YtpimdceafnhmlaaDoorW.PrintMore
open Go.Proofs.YtpimdceafnhmlaaDoor.PFnPartIndent

theorem bytesWorld_below (w : World) (t : TypeId) (s : ByteArray) : Below w.heap.size w (Lib.bytesWorld w t s) := bytes_below (Below.refl _ _) (Nat.le_refl _) t s

/-- strconv.ParseInt(s, 10, 64) at a text that spells a number. -/
theorem parse_ok (s : ByteArray) (v : Int) (hs : s.size ≤ 1000) (h : Lib.parseIntB 64 s.data.toList = .ok v) (w : World) :
    Calls Tryd.prog 31 #[.string s, .int .i64 10, .int .i64 64] w fun e w' => e = .returned (.tuple #[.int .i64 v, .nilIface]) ∧ Below w.heap.size w w' := by
  refine (Tryd.strconv_ParseInt_10_at64_ok s (by omega) v h w).mono ?_
  rintro e w1 ⟨rfl, rfl | ⟨t, rfl⟩⟩
  · exact ⟨rfl, Below.refl _ _⟩
  · exact ⟨rfl, bytesWorld_below w 5 t⟩

def synErr (w : World) (e : Ending) (w' : World) : Prop := ∃ N, e = .returned (.tuple #[.int .i64 0, .iface 76 (.pointer (some ⟨N, 0, none⟩))]) ∧ Below w.heap.size w w'
theorem parse_empty (w : World) (ev : Value) (hv : w.cell? ⟨6, 0, none⟩ = some ev) (hev : ev = .nilIface ∨ ∃ te pe, ev = .iface te pe) :
    Calls Tryd.prog 31 #[.string ⟨#[]⟩, .int .i64 10, .int .i64 64] w (synErr w) := by
  refine (Any.strconv_ParseInt_10_at64_syntax Tryd.laysC174 (⟨#[]⟩ : ByteArray) (by decide) (by kernel_rfl) ev w hv hev).mono ?_
  rintro e w1 ⟨N, rfl, _, _, hb⟩
  exact ⟨N, rfl, hb⟩

/-- What is left without the signs at both ends. -/
structure Left (s d : ByteArray) : Prop where
  ex : ∃ a b c, strings_TrimPrefix.f s ⟨#[45]⟩ = some a ∧ strings_TrimPrefix.f a ⟨#[43]⟩ = some b ∧ strings_TrimSuffix.f b ⟨#[45]⟩ = some c ∧ strings_TrimSuffix.f c ⟨#[43]⟩ = some d

set_option maxRecDepth 100000 in
theorem first_ok (s d : ByteArray) (v : Int) (hL : Left s d) (hd : d.size ≤ 1000) (hp : Lib.parseIntB 64 d.data.toList = .ok v) (w : World) :
    Calls Tryd.prog 24 #[.string s] w fun e w' => e = .returned (.int .i64 v) ∧ Below w.heap.size w w' := by
  obtain ⟨a, b, c, h1, h2, h3, h4⟩ := hL.ex
  have H1 := Lib.hid h1
  have H2 := Lib.hid h2
  have H3 := Lib.hid h3
  have H4 := Lib.hid h4
  have H5 := Lib.hid (parse_ok d v hd hp)
  clear hp h1 h2 h3 h4 hL hd
  go_enter Tryd.func24, Tryd.ntmps24
  go_wp2_with fail
  refine (strings_TrimPrefix.calls _ _ _ _ H1.out).mono ?_
  rintro e w1 ⟨rfl, hb1⟩
  have x1 := hb1.below
  clear hb1
  go_wp2_with fail
  refine (strings_TrimPrefix.calls _ _ _ _ H2.out).mono ?_
  rintro e w2 ⟨rfl, hb2⟩
  have x2 := x1.trans (hb2.below.mono x1.size)
  clear x1 hb2
  go_wp2_with fail
  refine (strings_TrimSuffix.calls _ _ _ _ H3.out).mono ?_
  rintro e w3 ⟨rfl, hb3⟩
  have x3 := x2.trans (hb3.below.mono x2.size)
  clear x2 hb3
  go_wp2_with fail
  refine (strings_TrimSuffix.calls _ _ _ _ H4.out).mono ?_
  rintro e w4 ⟨rfl, hb4⟩
  have x4 := x3.trans (hb4.below.mono x3.size)
  clear x3 hb4
  go_wp2_with fail
  refine (H5.out _).mono ?_
  rintro e w5 ⟨rfl, hb5⟩
  have x5 := x4.trans (hb5.mono x4.size)
  clear x4 hb5
  go_wp2_with fail
  go_ret
  exact ⟨rfl, x5⟩

theorem cell_below {w w' : World} (h : Below w.heap.size w w') {a : Addr} {v : Value} (hc : w.cell? a = some v) : w'.cell? a = some v := by
  rcases Nat.lt_or_ge a.block w.heap.size with h1 | h1
  · rw [h.cell h1]; exact hc
  · exfalso
    have h2 : w.heap[a.block]? = none := Array.getElem?_eq_none h1
    simp [World.cell?, h2] at hc
set_option maxRecDepth 100000 in
theorem first_empty (s : ByteArray) (hL : Left s ⟨#[]⟩) (w : World) (ev : Value) (hv : w.cell? ⟨6, 0, none⟩ = some ev) (hev : ev = .nilIface ∨ ∃ te pe, ev = .iface te pe) :
    Calls Tryd.prog 24 #[.string s] w fun e w' => e = .returned (.int .i64 0) ∧ Below w.heap.size w w' := by
  obtain ⟨a, b, c, h1, h2, h3, h4⟩ := hL.ex
  have H1 := Lib.hid h1
  have H2 := Lib.hid h2
  have H3 := Lib.hid h3
  have H4 := Lib.hid h4
  have HV := Lib.hid hv
  clear h1 h2 h3 h4 hL hv
  go_enter Tryd.func24, Tryd.ntmps24
  go_wp2_with fail
  refine (strings_TrimPrefix.calls _ _ _ _ H1.out).mono ?_
  rintro e w1 ⟨rfl, hb1⟩
  have x1 := hb1.below
  clear hb1
  go_wp2_with fail
  refine (strings_TrimPrefix.calls _ _ _ _ H2.out).mono ?_
  rintro e w2 ⟨rfl, hb2⟩
  have x2 := x1.trans (hb2.below.mono x1.size)
  clear x1 hb2
  go_wp2_with fail
  refine (strings_TrimSuffix.calls _ _ _ _ H3.out).mono ?_
  rintro e w3 ⟨rfl, hb3⟩
  have x3 := x2.trans (hb3.below.mono x2.size)
  clear x2 hb3
  go_wp2_with fail
  refine (strings_TrimSuffix.calls _ _ _ _ H4.out).mono ?_
  rintro e w4 ⟨rfl, hb4⟩
  have x4 := x3.trans (hb4.below.mono x3.size)
  clear x3 hb4
  go_wp2_with fail
  refine (parse_empty _ ev (cell_below x4 HV.out) hev).mono ?_
  rintro e w5 ⟨N, rfl, hb5⟩
  have x5 := x4.trans (hb5.mono x4.size)
  clear x4 hb5
  go_wp2_with fail
  go_ret
  exact ⟨rfl, x5⟩


end Go.Proofs.YtpimdceafnhmlaaDoor.Hdr
