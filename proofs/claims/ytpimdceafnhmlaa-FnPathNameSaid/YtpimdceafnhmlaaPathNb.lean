/-
  THE WALKS of normalizePath, of PathBuilder's methods and of FnPathName itself.
-/
import Derived.Test.YtpimdceafnhmlaaPathNc
import Derived.Outline
import Derived.Lib.Hide
namespace Go.Proofs.Ytpimdceafnhmlaa.PathN
open Go.RowKit Go.Proofs.YtpimdceafnhmlaaW.PrintWords Go.Proofs.YtpimdceafnhmlaaW.PrintLast Go.Proofs.YtpimdceafnhmlaaW.PrintMore
open Go.Proofs.Ytpimdceafnhmlaa.Str Go.Proofs.Ytpimdceafnhmlaa.Names Go.Proofs.Ytpimdceafnhmlaa.PFnPathName

abbrev q39 : ByteArray := ⟨#[39]⟩

set_option maxRecDepth 100000 in
theorem normalizePath_yes (k : Nat) (a0 : ByteArray) (w : World) (hs : a0.size ≤ 1000) (h : parser_containsPathSpecialChar.f k a0 = some true) :
    Calls Try.prog 32 #[.string a0] w fun e w' => e = .returned (.string (q39 ++ a0 ++ q39)) ∧ Below w.heap.size w w' := by
  have H := Lib.hid h
  clear h
  go_enter Try.func32, Try.ntmps32
  go_wp2_with (go_at_call 36; refine (parser_containsPathSpecialChar.calls k a0 true _ H.out).mono ?_; rintro e w' ⟨rfl, hb⟩)
  go_ret
  exact ⟨rfl, hb⟩

set_option maxRecDepth 100000 in
theorem normalizePath_no (k : Nat) (a0 : ByteArray) (w : World) (h : parser_containsPathSpecialChar.f k a0 = some false) :
    Calls Try.prog 32 #[.string a0] w fun e w' => e = .returned (.string a0) ∧ Below w.heap.size w w' := by
  have H := Lib.hid h
  clear h
  go_enter Try.func32, Try.ntmps32
  go_wp2_with (go_at_call 36; refine (parser_containsPathSpecialChar.calls k a0 false _ H.out).mono ?_; rintro e w' ⟨rfl, hb⟩)
  go_ret
  exact ⟨rfl, hb⟩

theorem PathName_of (a0 r : ByteArray) (w : World) (h : ∀ w, Calls Try.prog 32 #[.string a0] w fun e w' => e = .returned (.string r) ∧ Below w.heap.size w w') :
    Calls Try.prog 15 #[.string a0] w fun e w' => e = .returned (.string r) ∧ Below w.heap.size w w' := by
  have H := Lib.hid h
  clear h
  have h25 : ∀ w, Calls Try.prog 25 #[.string a0] w fun e w' => e = .returned (.string r) ∧ Below w.heap.size w w' := by
    intro w
    go_enter Try.func25, Try.ntmps25
    go_wp2_with (go_at_call 32; refine (H.out _).mono ?_; rintro e w' ⟨rfl, hb⟩)
    go_ret
    exact ⟨rfl, hb⟩
  have H2 := Lib.hid h25
  clear h25
  go_enter Try.func15, Try.ntmps15
  go_wp2_with (go_at_call 25; refine (H2.out _).mono ?_; rintro e w' ⟨rfl, hb⟩)
  go_ret
  exact ⟨rfl, hb⟩

theorem enclosed_no (p : Value) (s : ByteArray) (w : World) (h : strings_HasPrefix.f s q39 = some false) :
    Calls Try.prog 37 #[p, .string s] w fun e w' => e = .returned (.bool false) ∧ Below w.heap.size w w' := by
  have H := Lib.hid h
  clear h
  go_enter Try.func37, Try.ntmps37
  go_wp2_with (go_at_call 45; refine (strings_HasPrefix.calls s q39 false _ H.out).mono ?_; rintro e w' ⟨rfl, hb⟩)
  go_ret
  exact ⟨rfl, hb.below⟩

theorem reserved_dot (p : Value) (k : Nat) (s : ByteArray) (w : World) (h : goccyyaml_zzContains.f k s ⟨#[46]⟩ = some true) :
    Calls Try.prog 38 #[p, .string s] w fun e w' => e = .returned (.bool true) ∧ Below w.heap.size w w' := by
  have H := Lib.hid h
  clear h
  go_enter Try.func38, Try.ntmps38
  go_wp2_with (go_at_call 47; refine (goccyyaml_zzContains.calls k s _ true _ H.out).mono ?_; rintro e w' ⟨rfl, hb⟩)
  go_ret
  exact ⟨rfl, hb.below⟩

theorem reserved_rest (p : Value) (k : Nat) (s : ByteArray) (b : Bool) (w : World) (h : goccyyaml_zzContains.f k s ⟨#[46]⟩ = some false) (h2 : goccyyaml_zzContains.f k s ⟨#[42]⟩ = some b) :
    Calls Try.prog 38 #[p, .string s] w fun e w' => e = .returned (.bool b) ∧ Below w.heap.size w w' := by
  have H := Lib.hid h
  have H2 := Lib.hid h2
  clear h h2
  cases b
  all_goals
    go_enter Try.func38, Try.ntmps38
    go_wp2_with fail
    refine (goccyyaml_zzContains.calls k s _ false _ H.out).mono ?_
    rintro e w' ⟨rfl, hb⟩
    go_wp2_with fail
    refine (goccyyaml_zzContains.calls k s _ _ _ H2.out).mono ?_
    rintro e w' ⟨rfl, hb2⟩
    go_wp2_with fail
    go_ret
    exact ⟨rfl, hb.below.trans (hb2.below.mono hb.below.size)⟩

/-- What normalizeSelectorName's first two tests need. -/
structure Sel (s : ByteArray) (b : Bool) : Prop where
  pre : strings_HasPrefix.f s q39 = some false
  res : ∃ k, goccyyaml_zzContains.f k s ⟨#[46]⟩ = some true ∧ b = true ∨ goccyyaml_zzContains.f k s ⟨#[46]⟩ = some false ∧ goccyyaml_zzContains.f k s ⟨#[42]⟩ = some b

theorem reserved_any (p : Value) (s : ByteArray) (b : Bool) (w : World) (h : Sel s b) :
    Calls Try.prog 38 #[p, .string s] w fun e w' => e = .returned (.bool b) ∧ Below w.heap.size w w' := by
  obtain ⟨k, ⟨h1, rfl⟩ | ⟨h1, h2⟩⟩ := h.res
  · exact reserved_dot p k s w h1
  · exact reserved_rest p k s b w h1 h2

theorem normName_no (p : Value) (s : ByteArray) (w : World) (h : Sel s false) :
    Calls Try.prog 33 #[p, .string s] w fun e w' => e = .returned (.string s) ∧ Below w.heap.size w w' := by
  go_enter Try.func33, Try.ntmps33
  go_wp2_with fail
  refine (enclosed_no _ s _ h.pre).mono ?_
  rintro e w' ⟨rfl, hb⟩
  go_wp2_with fail
  refine (reserved_any _ s false _ h).mono ?_
  rintro e w' ⟨rfl, hb2⟩
  go_wp2_with fail
  go_ret
  exact ⟨rfl, hb.trans (hb2.mono hb.size)⟩

theorem normName_yes (p : Value) (s : ByteArray) (k : Nat) (w : World) (hs : s.size ≤ 1000) (h : Sel s true) (hr : goccyyaml_zzReplaceAll.f k s q39 ⟨#[92, 39]⟩ = some s) :
    Calls Try.prog 33 #[p, .string s] w fun e w' => e = .returned (.string (q39 ++ s ++ q39)) ∧ Below w.heap.size w w' := by
  have HR := Lib.hid hr
  clear hr
  go_enter Try.func33, Try.ntmps33
  go_wp2_with fail
  refine (enclosed_no _ s _ h.pre).mono ?_
  rintro e w' ⟨rfl, hb⟩
  go_wp2_with fail
  refine (reserved_any _ s true _ h).mono ?_
  rintro e w' ⟨rfl, hb2⟩
  go_wp2_with fail
  refine (goccyyaml_zzReplaceAll.calls k s _ _ s _ HR.out).mono ?_
  rintro e w' ⟨rfl, hb3⟩
  go_wp2_with fail
  go_ret
  exact ⟨rfl, (hb.trans (hb2.mono hb.size)).trans (hb3.mono (Nat.le_trans hb.size hb2.size))⟩

theorem Selector_of (a0 r : ByteArray) (w : World) (h : ∀ p w, Calls Try.prog 33 #[p, .string a0] w fun e w' => e = .returned (.string r) ∧ Below w.heap.size w w') :
    Calls Try.prog 16 #[.string a0] w fun e w' => e = .returned (.string r) ∧ Below w.heap.size w w' := by
  have H := Lib.hid h
  clear h
  have h26 : ∀ w, Calls Try.prog 26 #[.string a0] w fun e w' => e = .returned (.string r) ∧ Below w.heap.size w w' := by
    intro w
    go_enter Try.func26, Try.ntmps26
    go_wp2_with (go_at_call 33; refine (H.out _ _).mono ?_; rintro e w' ⟨rfl, hb⟩)
    go_ret
    exact ⟨rfl, ((Below.refl _ _).alloc (Nat.le_refl _) _).trans (hb.mono (by simp))⟩
  have H2 := Lib.hid h26
  clear h26
  go_enter Try.func16, Try.ntmps16
  go_wp2_with (go_at_call 26; refine (H2.out _).mono ?_; rintro e w' ⟨rfl, hb⟩)
  go_ret
  exact ⟨rfl, hb⟩


/-- A name, as trName makes it. -/
def NameS (s : ByteArray) : Prop := ∃ l, s = B l ∧ IsName l
theorem NameS.size {s : ByteArray} (h : NameS s) : s.size ≤ 9 := by
  obtain ⟨l, rfl, hl⟩ := h
  rw [B_size]; exact hl.len

theorem trName_any (s : ByteArray) (w : World) (hs : s.size ≤ 2147483647) :
    Calls Try.prog 14 #[.string s] w fun e w' => ∃ r, NameS r ∧ e = .returned (.string r) ∧ Below w.heap.size w w' := by
  obtain ⟨k, r, h, hr⟩ := trName_eq s (by omega)
  exact (laws_trName.calls k s (B r) w h).mono fun e w' ⟨he, hb⟩ => ⟨B r, ⟨r, rfl, hr⟩, he, hb⟩

theorem not_okc {l : List UInt8} (h : IsName l) (c : UInt8) (hc : ¬ okc (c.toNat : Int)) : c ∉ l := fun hm => hc (h.all c hm)
theorem name_plain {l : List UInt8} (h : IsName l) : (36 : UInt8) ∉ l ∧ (42 : UInt8) ∉ l ∧ (46 : UInt8) ∉ l ∧ (91 : UInt8) ∉ l ∧ (93 : UInt8) ∉ l ∧ (39 : UInt8) ∉ l :=
  ⟨not_okc h _ (by decide), not_okc h _ (by decide), not_okc h _ (by decide), not_okc h _ (by decide), not_okc h _ (by decide), not_okc h _ (by decide)⟩
theorem B_append (a b : List UInt8) : B a ++ B b = B (a ++ b) := B_ext (by rw [ByteArray.data_append]; simp [B])

theorem name_path (s : ByteArray) (w : World) (h : NameS s) : Calls Try.prog 15 #[.string s] w fun e w' => e = .returned (.string s) ∧ Below w.heap.size w w' := by
  obtain ⟨l, rfl, hl⟩ := h
  obtain ⟨h1, h2, h3, h4, h5, _⟩ := name_plain hl
  have hlen := hl.len
  refine PathName_of _ _ w fun w => normalizePath_no 100 _ w ?_
  rw [special_eq l (by omega) 100 (by omega)]
  simp [special, h1, h2, h3, h4, h5]
theorem name_sel (s : ByteArray) (w : World) (h : NameS s) : Calls Try.prog 16 #[.string s] w fun e w' => e = .returned (.string s) ∧ Below w.heap.size w w' := by
  obtain ⟨l, rfl, hl⟩ := h
  obtain ⟨h1, h2, h3, h4, h5, _⟩ := name_plain hl
  obtain ⟨t, ht⟩ := hl.head
  have hlen := hl.len
  refine Selector_of _ _ w fun p w => normName_no p _ w ⟨prefix_no l 120 t ht (by decide), 100, .inr ⟨?_, ?_⟩⟩
  · exact (goccyyaml_contains l 46 (by omega) 100 (by omega)).trans (by simp [h3])
  · exact (goccyyaml_contains l 42 (by omega) 100 (by omega)).trans (by simp [h2])

/-- Two names and a point or a star between them. -/
theorem sep_path (a b : ByteArray) (c : UInt8) (w : World) (hc : c = 46 ∨ c = 42) (ha : NameS a) (hb : NameS b) :
    Calls Try.prog 15 #[.string (a ++ ⟨#[c]⟩ ++ b)] w fun e w' => e = .returned (.string (q39 ++ a ++ ⟨#[c]⟩ ++ b ++ q39)) ∧ Below w.heap.size w w' := by
  obtain ⟨l, rfl, hl⟩ := ha
  obtain ⟨m, rfl, hm⟩ := hb
  have hlen := hl.len
  have hlen2 := hm.len
  have e : B l ++ ⟨#[c]⟩ ++ B m = B (l ++ [c] ++ m) := by
    rw [show (⟨#[c]⟩ : ByteArray) = B [c] from rfl, B_append, B_append]
  have e2 : q39 ++ B l ++ ⟨#[c]⟩ ++ B m ++ q39 = q39 ++ (B l ++ ⟨#[c]⟩ ++ B m) ++ q39 := by simp [ByteArray.append_assoc]
  rw [e2, e]
  refine PathName_of _ _ w fun w => normalizePath_yes 100 _ w (by rw [B_size]; simp; omega) ?_
  rw [special_eq _ (by simp; omega) 100 (by simp; omega)]
  rcases hc with rfl | rfl <;> simp [special]
theorem sep_sel (a b : ByteArray) (c : UInt8) (w : World) (hc : c = 46 ∨ c = 42) (ha : NameS a) (hb : NameS b) :
    Calls Try.prog 16 #[.string (a ++ ⟨#[c]⟩ ++ b)] w fun e w' => e = .returned (.string (q39 ++ a ++ ⟨#[c]⟩ ++ b ++ q39)) ∧ Below w.heap.size w w' := by
  obtain ⟨l, rfl, hl⟩ := ha
  obtain ⟨m, rfl, hm⟩ := hb
  have hlen := hl.len
  have hlen2 := hm.len
  obtain ⟨h1, h2, h3, h4, h5, h6⟩ := name_plain hl
  obtain ⟨g1, g2, g3, g4, g5, g6⟩ := name_plain hm
  obtain ⟨t, ht⟩ := hl.head
  have e : B l ++ ⟨#[c]⟩ ++ B m = B (l ++ [c] ++ m) := by
    rw [show (⟨#[c]⟩ : ByteArray) = B [c] from rfl, B_append, B_append]
  have e2 : q39 ++ B l ++ ⟨#[c]⟩ ++ B m ++ q39 = q39 ++ (B l ++ ⟨#[c]⟩ ++ B m) ++ q39 := by simp [ByteArray.append_assoc]
  have hl3 : (l ++ [c] ++ m).length ≤ 20 := by simp; omega
  rw [e2, e]
  refine Selector_of _ _ w fun p w => normName_yes p _ 100 w (by rw [B_size]; omega) ⟨prefix_no _ 120 (t ++ [c] ++ m) (by rw [ht]; rfl) (by decide), 100, ?_⟩ ?_
  · rcases hc with rfl | rfl
    · exact .inl ⟨(goccyyaml_contains _ 46 (by omega) 100 (by omega)).trans (by simp), rfl⟩
    · exact .inr ⟨(goccyyaml_contains _ 46 (by omega) 100 (by omega)).trans (by simp [h3, g3]), (goccyyaml_contains _ 42 (by omega) 100 (by omega)).trans (by simp)⟩
  · refine replaceAll_none _ [39] [92, 39] (by omega) (by simp) (by simp) (idx_none_of (c := 39) (by simp) ?_) 100 (by omega)
    rcases hc with rfl | rfl <;> simp [h6, g6]

theorem four {w w1 w2 w3 w4 : World} (b1 : Below w.heap.size w w1) (b2 : Below w1.heap.size w1 w2) (b3 : Below w2.heap.size w2 w3) (b4 : Below w3.heap.size w3 w4) : Below w.heap.size w w4 :=
  (b1.trans (b2.mono b1.size)).trans ((b3.mono (Nat.le_trans b1.size b2.size)).trans (b4.mono (Nat.le_trans (Nat.le_trans b1.size b2.size) b3.size)))

set_option maxRecDepth 100000 in
set_option maxHeartbeats 1000000 in
theorem law_any (a b : ByteArray) (n : Int) (w : World) (h0 : 0 ≤ n) (h1 : n ≤ 255) (ha : a.size ≤ 140737488351232) (hb : b.size ≤ 140737488351232) :
    Calls Try.prog 6 #[.string a, .string b, .int .u8 n] w fun e w' => e = .returned (.bool true) ∧ Below w.heap.size w w' := by
  by_cases hba : 2147483647 < a.size
  · go_enter Try.func6, Try.ntmps6
    go_wp2_with fail
    go_ret
    exact ⟨rfl, Below.refl _ _⟩
  by_cases hbb : 2147483647 < b.size
  · go_enter Try.func6, Try.ntmps6
    go_wp2_with fail
    go_ret
    exact ⟨rfl, Below.refl _ _⟩
  have hn : n % 3 = 0 ∨ n % 3 = 1 ∨ n % 3 = 2 := by omega
  rcases hn with hn | hn | hn
  · have HN := Lib.hid hn
    have hq : (n % 3 == 0) = true := by simp [hn]
    clear hn
    go_enter Try.func6, Try.ntmps6
    go_wp2_with fail
    refine (trName_any a _ (by omega)).mono ?_
    rintro e w1 ⟨a1, ha1, rfl, b1⟩
    go_wp2_with fail
    refine (trName_any b _ (by omega)).mono ?_
    rintro e w2 ⟨a2, ha2, rfl, b2⟩
    go_wp2_with fail
    refine (name_path a1 _ ha1).mono ?_
    rintro e w3 ⟨rfl, b3⟩
    go_wp2_with fail
    refine (name_sel a1 _ ha1).mono ?_
    rintro e w4 ⟨rfl, b4⟩
    go_wp2_with fail
    go_ret
    exact ⟨rfl, four b1 b2 b3 b4⟩
  · have hq : (n % 3 == 0) = false := by simp [hn]
    have hq2 : (n % 3 == 1) = true := by simp [hn]
    clear hn
    go_enter Try.func6, Try.ntmps6
    go_wp2_with fail
    refine (trName_any a _ (by omega)).mono ?_
    rintro e w1 ⟨a1, ha1, rfl, b1⟩
    have z1 := ha1.size
    go_wp2_with fail
    refine (trName_any b _ (by omega)).mono ?_
    rintro e w2 ⟨a2, ha2, rfl, b2⟩
    have z2 := ha2.size
    go_wp2_with fail
    refine (sep_path a1 a2 46 _ (.inl rfl) ha1 ha2).mono ?_
    rintro e w3 ⟨rfl, b3⟩
    go_wp2_with fail
    refine (sep_sel a1 a2 46 _ (.inl rfl) ha1 ha2).mono ?_
    rintro e w4 ⟨rfl, b4⟩
    go_wp2_with fail
    go_ret
    exact ⟨rfl, four b1 b2 b3 b4⟩
  · have hq : (n % 3 == 0) = false := by simp [hn]
    have hq2 : (n % 3 == 1) = false := by simp [hn]
    clear hn
    go_enter Try.func6, Try.ntmps6
    go_wp2_with fail
    refine (trName_any a _ (by omega)).mono ?_
    rintro e w1 ⟨a1, ha1, rfl, b1⟩
    have z1 := ha1.size
    go_wp2_with fail
    refine (trName_any b _ (by omega)).mono ?_
    rintro e w2 ⟨a2, ha2, rfl, b2⟩
    have z2 := ha2.size
    go_wp2_with fail
    refine (sep_path a1 a2 42 _ (.inr rfl) ha1 ha2).mono ?_
    rintro e w3 ⟨rfl, b3⟩
    go_wp2_with fail
    refine (sep_sel a1 a2 42 _ (.inr rfl) ha1 ha2).mono ?_
    rintro e w4 ⟨rfl, b4⟩
    go_wp2_with fail
    go_ret
    exact ⟨rfl, four b1 b2 b3 b4⟩

end Go.Proofs.Ytpimdceafnhmlaa.PathN
