/-
  FnPartIndent's walk, for every input: the plain facts at ten digits, and the ways joined.
-/
import Derived.Test.YtpimdceafnhmlaaDoorHdrC
namespace Go.Proofs.YtpimdceafnhmlaaDoor.Hdr
open Go.RowKit Go.Proofs.YtpimdceafnhmlaaDoorW.PrintWords Go.Proofs.YtpimdceafnhmlaaDoorW.PrintLast Go.Proofs.YtpimdceafnhmlaaDoorW.PrintMore
open Go.Proofs.YtpimdceafnhmlaaDoor.PFnPartIndent Go.Proofs.YtpimdceafnhmlaaDoor.Str

def chain (s : ByteArray) : Option ByteArray :=
  (strings_TrimPrefix.f s ⟨#[45]⟩).bind fun a => (strings_TrimPrefix.f a ⟨#[43]⟩).bind fun b => (strings_TrimSuffix.f b ⟨#[45]⟩).bind fun c => strings_TrimSuffix.f c ⟨#[43]⟩
theorem left_of {s d : ByteArray} (h : chain s = some d) : Left s d := by
  unfold chain at h
  obtain ⟨a, h1, h⟩ := Option.bind_eq_some_iff.1 h
  obtain ⟨b, h2, h⟩ := Option.bind_eq_some_iff.1 h
  obtain ⟨c, h3, h⟩ := Option.bind_eq_some_iff.1 h
  exact ⟨a, b, c, h1, h2, h3, h⟩

/-- The digit's character. -/
def dg (n : Nat) : ByteArray := ⟨#[UInt8.ofNat (48 + n)]⟩
def dgs (n : Nat) (a b : List UInt8) : ByteArray := ⟨(a ++ UInt8.ofNat (48 + n) :: b).toArray⟩

theorem chains : ∀ n : Fin 10, chain (dg n) = some (dg n) ∧ chain (dgs n [] [45]) = some (dg n) ∧ chain (dgs n [45] []) = some (dg n) ∧ chain (dgs n [] [43]) = some (dg n) ∧ chain (dgs n [43] []) = some (dg n) := by
  decide +kernel
theorem chain0 : chain ⟨#[]⟩ = some ⟨#[]⟩ ∧ chain ⟨#[45]⟩ = some ⟨#[]⟩ ∧ chain ⟨#[43]⟩ = some ⟨#[]⟩ := by decide +kernel
theorem parses : ∀ n : Nat, n < 10 → Lib.parseIntB 64 (dg n).data.toList = .ok (n : Int)
  | 0, _ => by kernel_rfl
  | 1, _ => by kernel_rfl
  | 2, _ => by kernel_rfl
  | 3, _ => by kernel_rfl
  | 4, _ => by kernel_rfl
  | 5, _ => by kernel_rfl
  | 6, _ => by kernel_rfl
  | 7, _ => by kernel_rfl
  | 8, _ => by kernel_rfl
  | 9, _ => by kernel_rfl
  | n + 10, h => by omega
theorem not_zero : ∀ n : Fin 10, n ≠ 0 → ((dg n).toList == [48]) = false := by decide +kernel

theorem good_number (n : Nat) (h0 : 0 < n) (h1 : n < 10) (s : ByteArray) (hs : s.size ≠ 0) (hc : chain s = some (dg n)) (w : World) : Good s (n : Int) w := by
  refine ⟨fun w' rc => ?_, fun w' _ => ?_⟩
  · exact check_number s (dg n) n hs (left_of hc) (by simp [dg, ByteArray.size]) (by simp [dg, ByteArray.size]) (not_zero ⟨n, h1⟩ (by intro h; have := congrArg Fin.val h; simp at this; omega)) (by omega) (parses n h1) w' rc
  · exact first_ok s (dg n) n (left_of hc) (by simp [dg, ByteArray.size]) (parses n h1) w'

theorem good_none (s : ByteArray) (hs : s.size = 0 → s = ⟨#[]⟩) (hc : chain s = some ⟨#[]⟩) (w : World) (ev : Value) (hv : w.cell? ⟨6, 0, none⟩ = some ev) (hev : ev = .nilIface ∨ ∃ te pe, ev = .iface te pe) : Good s 0 w := by
  refine ⟨fun w' rc => ?_, fun w' hb => ?_⟩
  · by_cases h : s.size = 0
    · rw [hs h]
      exact check_nothing w' rc
    · exact check_signs s h (left_of hc) w' rc
  · exact first_empty s (left_of hc) w' ev (cell_below hb hv) hev

theorem law_any (digit sign : Int) (turned : Bool) (h0 : 0 ≤ digit) (h1 : digit ≤ 255) (w : World) (ev : Value) (hv : w.cell? ⟨6, 0, none⟩ = some ev) (hev : ev = .nilIface ∨ ∃ te pe, ev = .iface te pe) :
    Calls Tryd.prog 4 #[.int .u8 digit, .int .i64 sign, .bool turned] w fun e w' => e = .returned (.bool true) ∧ Below w.heap.size w w' := by
  obtain ⟨n, hn⟩ : ∃ n : Nat, digit % 10 = (n : Int) := ⟨(digit % 10).toNat, by omega⟩
  have hn1 : n < 10 := by omega
  by_cases hz : n = 0
  · subst hz
    have hd : digit % 10 = 0 := by omega
    obtain ⟨c0, c1, c2⟩ := chain0
    have g0 := good_none ⟨#[]⟩ (fun _ => rfl) c0 w ev hv hev
    have g1 := good_none ⟨#[45]⟩ (fun h => by cases h) c1 w ev hv hev
    have g2 := good_none ⟨#[43]⟩ (fun h => by cases h) c2 w ev hv hev
    by_cases s1 : sign = 1
    · subst s1
      cases turned
      · exact law_z1 digit h0 h1 w hd ⟨#[45]⟩ (by decide) g1
      · exact law_z1t digit h0 h1 w hd ⟨#[45]⟩ (by decide) rfl ⟨#[45]⟩ ⟨#[45]⟩ (by decide) rfl (by decide) g1
    by_cases s2 : sign = 2
    · subst s2
      cases turned
      · exact law_z2 digit h0 h1 w hd ⟨#[43]⟩ (by decide) g2
      · exact law_z2t digit h0 h1 w hd ⟨#[43]⟩ (by decide) rfl ⟨#[43]⟩ ⟨#[43]⟩ (by decide) rfl (by decide) g2
    exact law_zn digit h0 h1 sign (beq_eq_false_iff_ne.2 s1) (beq_eq_false_iff_ne.2 s2) turned w hd g0
  · have hd : 0 < digit % 10 := by omega
    obtain ⟨c0, c1, c2, c3, c4⟩ := chains ⟨n, hn1⟩
    have hX : strOfNums [48 + digit % 10] = dg n := by
      rw [hn]
      unfold strOfNums dg
      rw [List.map_cons, List.map_nil, show ((48 : Int) + n).toNat = 48 + n by omega]
    have g0 := good_number n (by omega) hn1 _ (by simp [dg, ByteArray.size]) c0 w
    have g1 := good_number n (by omega) hn1 _ (by simp [dgs, ByteArray.size]) c1 w
    have g2 := good_number n (by omega) hn1 _ (by simp [dgs, ByteArray.size]) c2 w
    have g3 := good_number n (by omega) hn1 _ (by simp [dgs, ByteArray.size]) c3 w
    have g4 := good_number n (by omega) hn1 _ (by simp [dgs, ByteArray.size]) c4 w
    rw [← hn] at g0 g1 g2 g3 g4
    by_cases s1 : sign = 1
    · subst s1
      cases turned
      · exact law_p1 digit h0 h1 w hd (dg n) hX rfl (dgs n [] [45]) rfl g1
      · exact law_p1t digit h0 h1 w hd (dg n) hX rfl (dgs n [] [45]) rfl rfl ⟨#[45]⟩ (dg n) (dgs n [45] []) rfl rfl rfl rfl rfl g2
    by_cases s2 : sign = 2
    · subst s2
      cases turned
      · exact law_p2 digit h0 h1 w hd (dg n) hX rfl (dgs n [] [43]) rfl g3
      · exact law_p2t digit h0 h1 w hd (dg n) hX rfl (dgs n [] [43]) rfl rfl ⟨#[43]⟩ (dg n) (dgs n [43] []) rfl rfl rfl rfl rfl g4
    exact law_pn digit h0 h1 sign (beq_eq_false_iff_ne.2 s1) (beq_eq_false_iff_ne.2 s2) turned w hd (dg n) hX rfl g0

end Go.Proofs.YtpimdceafnhmlaaDoor.Hdr
