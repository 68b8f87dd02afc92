/-
  PLAIN LAWS of the searches for a path's special characters, over lists of bytes.
-/
import Derived.Test.YtpimdceafnhmlaaPathNa
import Derived.Test.YtpimdceafnhmlaaNames
namespace Go.Proofs.Ytpimdceafnhmlaa.PathN
open Go.RowKit Go.Proofs.YtpimdceafnhmlaaW.PrintWords Go.Proofs.YtpimdceafnhmlaaW.PrintLast Go.Proofs.YtpimdceafnhmlaaW.PrintMore
open Go.Proofs.Ytpimdceafnhmlaa.Str Go.Proofs.Ytpimdceafnhmlaa.Names

theorem idx_one {c : UInt8} : ∀ {l : List UInt8}, c ∈ l → ∃ i, idx [c] l = some i
  | d :: t, h => by
    by_cases hd : List.isPrefixOf [c] (d :: t) = true
    · exact ⟨0, by rw [idx, if_pos hd]⟩
    · have hne : c ≠ d := by
        rintro rfl
        exact hd (by simp [List.isPrefixOf])
      have ht : c ∈ t := by
        rcases List.mem_cons.1 h with e | e
        · exact absurd e hne
        · exact e
      obtain ⟨i, hi⟩ := idx_one ht
      exact ⟨i + 1, by rw [idx, if_neg hd, hi]; rfl⟩

theorem parser_zzIndex_at (l sub : List UInt8) (hs : 0 < sub.length) (hm : l.length + sub.length ≤ 9223372036854775806) (d : Nat) : ∀ (k i : Nat), i ≤ l.length → l.length - i = d → d < k →
    parser_zzIndex.l0 k (B l) (B sub) (i : Int) = some (match idx sub (l.drop i) with | none => -1 | some j => (i : Int) + j) := by
  induction d with
  | zero =>
    intro k i h0 h1 hk
    obtain ⟨k, rfl⟩ : ∃ m, k = m + 1 := ⟨k - 1, by omega⟩
    have hi : i = l.length := by omega
    simp only [parser_zzIndex.l0, B_size]
    rw [wrap_id (by omega) (by omega), if_neg (by omega), List.drop_of_length_le (by omega)]
    rfl
  | succ d ih =>
    intro k i h0 h1 hk
    obtain ⟨k, rfl⟩ : ∃ m, k = m + 1 := ⟨k - 1, by omega⟩
    have hi : i < l.length := by omega
    simp only [parser_zzIndex.l0, B_size]
    rw [wrap_id (x := (i : Int) + sub.length) (by omega) (by omega)]
    by_cases hfit : i + sub.length ≤ l.length
    · rw [if_pos (by omega), if_pos (by omega), if_pos (by omega)]
      have e1 : ((i : Int)).toNat = i := by omega
      have e2 : ((i : Int) + (sub.length : Int)).toNat = i + sub.length := by omega
      rw [e1, e2, B_extract, B_toList, B_toList, Nat.add_sub_cancel_left, idx_drop hi]
      by_cases hp : (l.drop i).take sub.length = sub
      · rw [if_pos hp, if_pos hp]
        simp
      · rw [if_neg hp, if_neg hp, wrap_id (by omega) (by omega), show (i : Int) + 1 = ((i + 1 : Nat) : Int) from by omega, ih k (i + 1) (by omega) (by omega) (by omega)]
        cases idx sub (l.drop (i + 1)) with
        | none => rfl
        | some j =>
          show some (((i + 1 : Nat) : Int) + (j : Int)) = some ((i : Int) + ((j + 1 : Nat) : Int))
          rw [show ((i + 1 : Nat) : Int) + (j : Int) = (i : Int) + ((j + 1 : Nat) : Int) from by omega]
    · rw [if_neg (by omega), idx_short (by rw [List.length_drop]; omega)]

theorem parser_zzIndex_eq (l sub : List UInt8) (hs : 0 < sub.length) (hm : l.length + sub.length ≤ 9223372036854775806) (k : Nat) (hk : l.length < k) :
    parser_zzIndex.f k (B l) (B sub) = some (match idx sub l with | none => -1 | some j => (j : Int)) := by
  unfold parser_zzIndex.f
  have h := parser_zzIndex_at l sub hs hm l.length k 0 (by omega) (by omega) hk
  simp only [Int.natCast_zero, List.drop_zero, Int.zero_add] at h
  exact h

theorem goccyyaml_zzIndex_at (l sub : List UInt8) (hs : 0 < sub.length) (hm : l.length + sub.length ≤ 9223372036854775806) (d : Nat) : ∀ (k i : Nat), i ≤ l.length → l.length - i = d → d < k →
    goccyyaml_zzIndex.l0 k (B l) (B sub) (i : Int) = some (match idx sub (l.drop i) with | none => -1 | some j => (i : Int) + j) := by
  induction d with
  | zero =>
    intro k i h0 h1 hk
    obtain ⟨k, rfl⟩ : ∃ m, k = m + 1 := ⟨k - 1, by omega⟩
    have hi : i = l.length := by omega
    simp only [goccyyaml_zzIndex.l0, B_size]
    rw [wrap_id (by omega) (by omega), if_neg (by omega), List.drop_of_length_le (by omega)]
    rfl
  | succ d ih =>
    intro k i h0 h1 hk
    obtain ⟨k, rfl⟩ : ∃ m, k = m + 1 := ⟨k - 1, by omega⟩
    have hi : i < l.length := by omega
    simp only [goccyyaml_zzIndex.l0, B_size]
    rw [wrap_id (x := (i : Int) + sub.length) (by omega) (by omega)]
    by_cases hfit : i + sub.length ≤ l.length
    · rw [if_pos (by omega), if_pos (by omega), if_pos (by omega)]
      have e1 : ((i : Int)).toNat = i := by omega
      have e2 : ((i : Int) + (sub.length : Int)).toNat = i + sub.length := by omega
      rw [e1, e2, B_extract, B_toList, B_toList, Nat.add_sub_cancel_left, idx_drop hi]
      by_cases hp : (l.drop i).take sub.length = sub
      · rw [if_pos hp, if_pos hp]
        simp
      · rw [if_neg hp, if_neg hp, wrap_id (by omega) (by omega), show (i : Int) + 1 = ((i + 1 : Nat) : Int) from by omega, ih k (i + 1) (by omega) (by omega) (by omega)]
        cases idx sub (l.drop (i + 1)) with
        | none => rfl
        | some j =>
          show some (((i + 1 : Nat) : Int) + (j : Int)) = some ((i : Int) + ((j + 1 : Nat) : Int))
          rw [show ((i + 1 : Nat) : Int) + (j : Int) = (i : Int) + ((j + 1 : Nat) : Int) from by omega]
    · rw [if_neg (by omega), idx_short (by rw [List.length_drop]; omega)]

theorem goccyyaml_zzIndex_eq (l sub : List UInt8) (hs : 0 < sub.length) (hm : l.length + sub.length ≤ 9223372036854775806) (k : Nat) (hk : l.length < k) :
    goccyyaml_zzIndex.f k (B l) (B sub) = some (match idx sub l with | none => -1 | some j => (j : Int)) := by
  unfold goccyyaml_zzIndex.f
  have h := goccyyaml_zzIndex_at l sub hs hm l.length k 0 (by omega) (by omega) hk
  simp only [Int.natCast_zero, List.drop_zero, Int.zero_add] at h
  exact h

theorem parser_contains (l : List UInt8) (c : UInt8) (hm : l.length ≤ 1000) (k : Nat) (hk : l.length < k) : parser_zzContains.f k (B l) (B [c]) = some (decide (c ∈ l)) := by
  unfold parser_zzContains.f
  rw [parser_zzIndex_eq l [c] (by simp) (by simp; omega) k hk]
  by_cases hc : c ∈ l
  · obtain ⟨i, hi⟩ := idx_one hc
    rw [hi]
    simp [hc]
  · rw [idx_none_of (c := c) (by simp) hc]
    simp [hc]

theorem goccyyaml_contains (l : List UInt8) (c : UInt8) (hm : l.length ≤ 1000) (k : Nat) (hk : l.length < k) : goccyyaml_zzContains.f k (B l) (B [c]) = some (decide (c ∈ l)) := by
  unfold goccyyaml_zzContains.f
  rw [goccyyaml_zzIndex_eq l [c] (by simp) (by simp; omega) k hk]
  by_cases hc : c ∈ l
  · obtain ⟨i, hi⟩ := idx_one hc
    rw [hi]
    simp [hc]
  · rw [idx_none_of (c := c) (by simp) hc]
    simp [hc]

theorem special_step (l : List UInt8) (hm : l.length ≤ 1000) (L : List ByteArray) (n i k : Nat) (c : UInt8) (hL : L[i]? = some (B [c])) (hn : L.length = n) (hn2 : n ≤ 100) (hk : l.length < k) :
    parser_containsPathSpecialChar.l0 (k + 1) (B l) L (n : Int) (i : Int) = if c ∈ l then some true else parser_containsPathSpecialChar.l0 k (B l) L (n : Int) ((i + 1 : Nat) : Int) := by
  have hi : i < n := by
    have := (List.getElem?_eq_some_iff.1 hL).1
    omega
  have hr : rdOf ByteArray.empty L (i : Int) = B [c] := by
    unfold rdOf
    rw [Int.toNat_natCast, List.getD_eq_getElem?_getD, hL]
    rfl
  simp only [parser_containsPathSpecialChar.l0]
  rw [if_pos (by omega), if_pos (by omega), if_pos (by omega), hr, parser_contains l c hm k hk, wrap_id (by omega) (by omega)]
  simp only [Option.bind_some]
  by_cases hc : c ∈ l
  · rw [if_pos (by simpa using hc), if_pos hc]
  · rw [if_neg (by simpa using hc), if_neg hc]
    rfl

/-- $ * . [ ] -/
def special (l : List UInt8) : Bool := decide ((36 : UInt8) ∈ l) || decide ((42 : UInt8) ∈ l) || decide ((46 : UInt8) ∈ l) || decide ((91 : UInt8) ∈ l) || decide ((93 : UInt8) ∈ l)
theorem special_eq (l : List UInt8) (hm : l.length ≤ 1000) (k : Nat) (hk : l.length + 6 < k) : parser_containsPathSpecialChar.f k (B l) = some (special l) := by
  obtain ⟨k, rfl⟩ : ∃ m, k = m + 6 := ⟨k - 6, by omega⟩
  unfold parser_containsPathSpecialChar.f
  simp only [Option.bind_some]
  have e : ([(⟨#[36]⟩ : ByteArray), (⟨#[42]⟩ : ByteArray), (⟨#[46]⟩ : ByteArray), (⟨#[91]⟩ : ByteArray), (⟨#[93]⟩ : ByteArray)] : List ByteArray) = [B [36], B [42], B [46], B [91], B [93]] := rfl
  rw [e]
  have s0 := special_step l hm [B [36], B [42], B [46], B [91], B [93]] 5 0 (k + 5) 36 rfl rfl (by omega) (by omega)
  have s1 := special_step l hm [B [36], B [42], B [46], B [91], B [93]] 5 1 (k + 4) 42 rfl rfl (by omega) (by omega)
  have s2 := special_step l hm [B [36], B [42], B [46], B [91], B [93]] 5 2 (k + 3) 46 rfl rfl (by omega) (by omega)
  have s3 := special_step l hm [B [36], B [42], B [46], B [91], B [93]] 5 3 (k + 2) 91 rfl rfl (by omega) (by omega)
  have s4 := special_step l hm [B [36], B [42], B [46], B [91], B [93]] 5 4 (k + 1) 93 rfl rfl (by omega) (by omega)
  have s5 : parser_containsPathSpecialChar.l0 (k + 1) (B l) [B [36], B [42], B [46], B [91], B [93]] ((5 : Nat) : Int) ((4 + 1 : Nat) : Int) = some false := by
    simp only [parser_containsPathSpecialChar.l0]
    rw [if_neg (by omega)]
  show parser_containsPathSpecialChar.l0 (k + 5 + 1) (B l) [B [36], B [42], B [46], B [91], B [93]] ((5 : Nat) : Int) ((0 : Nat) : Int) = _
  rw [s0, s1, s2, s3, s4, s5]
  unfold special
  by_cases h0 : (36 : UInt8) ∈ l
  · simp [h0]
  by_cases h1 : (42 : UInt8) ∈ l
  · simp [h0, h1]
  by_cases h2 : (46 : UInt8) ∈ l
  · simp [h0, h1, h2]
  by_cases h3 : (91 : UInt8) ∈ l
  · simp [h0, h1, h2, h3]
  by_cases h4 : (93 : UInt8) ∈ l
  · simp [h0, h1, h2, h3, h4]
  simp [h0, h1, h2, h3, h4]

/-- Nothing to replace. -/
theorem replaceAll_none (l old new : List UInt8) (hm : l.length ≤ 1000) (h0 : 0 < old.length) (h1 : old.length ≤ 10) (hn : idx old l = none) (k : Nat) (hk : l.length + 1 < k) :
    goccyyaml_zzReplaceAll.f k (B l) (B old) (B new) = some (B l) := by
  obtain ⟨k, rfl⟩ : ∃ m, k = m + 1 := ⟨k - 1, by omega⟩
  unfold goccyyaml_zzReplaceAll.f
  simp only [goccyyaml_zzReplaceAll.l0]
  have hz : goccyyaml_zzIndex.f k (B l) (B old) = some (-1) := by rw [goccyyaml_zzIndex_eq l old h0 (by omega) k (by omega), hn]
  rw [hz]
  simp only [Option.bind_some]
  rw [if_pos (by omega), if_pos (by rw [B_size]; simp; omega), bytesOf_B, List.nil_append, str_ints]

theorem prefix_no (l : List UInt8) (c : UInt8) (t : List UInt8) (hl : l = c :: t) (hc : c ≠ 39) : strings_HasPrefix.f (B l) (B [39]) = some false := by
  subst hl
  unfold strings_HasPrefix.f stringslite_HasPrefix.f
  simp only [B_size, List.length_cons, List.length_nil]
  rw [if_pos (by omega), if_pos (by omega), if_pos (by omega), B_extract, B_toList, B_toList]
  simp
  exact hc

end Go.Proofs.Ytpimdceafnhmlaa.PathN
