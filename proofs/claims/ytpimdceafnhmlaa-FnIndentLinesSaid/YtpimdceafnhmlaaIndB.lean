/-
  PLAIN LAWS for FnIndentLines: a text's lines, each with spaces ahead of it, put together again, are the text with spaces behind each line feed.
-/
import Derived.Test.YtpimdceafnhmlaaPFnIndentLinesx1
import Derived.Test.YtpimdceafnhmlaaIndA
import Derived.Test.YtpimdceafnhmlaaStr
import Derived.Lib.Join
namespace Go.Proofs.Ytpimdceafnhmlaa.Ind
open Go.RowKit Go.Proofs.Ytpimdceafnhmlaa.PFnIndentLines Go.Proofs.YtpimdceafnhmlaaW.PrintWords Go.Proofs.YtpimdceafnhmlaaW.PrintLast
open Go.Proofs.Ytpimdceafnhmlaa.Str

theorem zzIndex_at (l sub : List UInt8) (hs : 0 < sub.length) (hm : l.length + sub.length ≤ 9223372036854775806) (d : Nat) : ∀ (k i : Nat), i ≤ l.length → l.length - i = d → d < k →
    format_zzIndex.l0 k (B l) (B sub) (i : Int) = some (match idx sub (l.drop i) with | none => -1 | some j => (i : Int) + j) := by
  induction d with
  | zero =>
    intro k i h0 h1 hk
    obtain ⟨k, rfl⟩ : ∃ m, k = m + 1 := ⟨k - 1, by omega⟩
    have hi : i = l.length := by omega
    simp only [format_zzIndex.l0, B_size]
    rw [wrap_id (by omega) (by omega), if_neg (by omega), List.drop_of_length_le (by omega)]
    rfl
  | succ d ih =>
    intro k i h0 h1 hk
    obtain ⟨k, rfl⟩ : ∃ m, k = m + 1 := ⟨k - 1, by omega⟩
    have hi : i < l.length := by omega
    simp only [format_zzIndex.l0, B_size]
    rw [wrap_id (x := (i : Int) + sub.length) (by omega) (by omega)]
    by_cases hfit : i + sub.length ≤ l.length
    · rw [if_pos (by omega), if_pos (by omega), if_pos (by omega)]
      have e1 : ((i : Int)).toNat = i := by omega
      have e2 : ((i : Int) + (sub.length : Int)).toNat = i + sub.length := by omega
      rw [e1, e2, B_extract, B_toList, B_toList, Nat.add_sub_cancel_left, idx_drop hi]
      by_cases hp : (l.drop i).take sub.length = sub
      · rw [if_pos hp, if_pos hp]
        simp
      · rw [if_neg hp, if_neg hp, wrap_id (by omega) (by omega), show (i : Int) + 1 = ((i + 1 : Nat) : Int) from by omega, ih k (i + 1) (by omega) (by omega) (by omega)]
        cases idx sub (l.drop (i + 1)) with
        | none => rfl
        | some j =>
          show some (((i + 1 : Nat) : Int) + (j : Int)) = some ((i : Int) + ((j + 1 : Nat) : Int))
          rw [show ((i + 1 : Nat) : Int) + (j : Int) = (i : Int) + ((j + 1 : Nat) : Int) from by omega]
    · rw [if_neg (by omega), idx_short (by rw [List.length_drop]; omega)]

theorem zzIndex_eq (l sub : List UInt8) (hs : 0 < sub.length) (hm : l.length + sub.length ≤ 9223372036854775806) (k : Nat) (hk : l.length < k) :
    format_zzIndex.f k (B l) (B sub) = some (match idx sub l with | none => -1 | some j => (j : Int)) := by
  unfold format_zzIndex.f
  have h := zzIndex_at l sub hs hm l.length k 0 (by omega) (by omega) hk
  simp only [Int.natCast_zero, List.drop_zero, Int.zero_add] at h
  exact h

/-- What is put together of a text in which each old piece is a new one. -/
structure Repl (old new : List UInt8) (R : List UInt8 → List UInt8) : Prop where
  none_ : ∀ l, idx old l = none → R l = l
  some_ : ∀ l i, idx old l = some i → R l = l.take i ++ new ++ R (l.drop (i + old.length))

theorem replaceAll_at {old new : List UInt8} {R : List UInt8 → List UInt8} (hR : Repl old new R) (h0 : 0 < old.length) (hno : new.length ≤ old.length) (ho : old.length ≤ 2) (n : Nat) :
    ∀ (k : Nat) (l acc : List UInt8), l.length = n → 2 * n + 2 < k → acc.length + n ≤ 8589934592 →
    format_zzReplaceAll.l0 k (B l) (B old) (B new) (ints acc) = some (B (acc ++ R l)) := by
  induction n using Nat.strongRecOn with
  | ind n ih =>
    intro k l acc hn hk hacc
    obtain ⟨k, rfl⟩ : ∃ m, k = m + 1 := ⟨k - 1, by omega⟩
    simp only [format_zzReplaceAll.l0]
    have hz := zzIndex_eq l old h0 (by omega) k (by omega)
    cases hi : idx old l with
    | none =>
      rw [hi] at hz
      replace hz : format_zzIndex.f k (B l) (B old) = some (-1) := hz
      rw [hz]
      simp only [Option.bind_some]
      rw [if_pos (by omega), if_pos (by rw [ints_length, B_size]; omega), bytesOf_B, ← ints_append, str_ints, hR.none_ l hi]
    | some i =>
      obtain ⟨hfit, _⟩ := idx_some hi
      have e1 : ((i : Int)).toNat = i := by omega
      rw [hi] at hz
      replace hz : format_zzIndex.f k (B l) (B old) = some (i : Int) := hz
      rw [hz]
      simp only [Option.bind_some]
      rw [if_neg (by omega), if_pos (by omega), if_pos (by rw [B_size]; omega), e1, B_upto]
      rw [if_pos (by rw [ints_length, B_size, List.length_take]; omega)]
      rw [bytesOf_B, bytesOf_B, ← ints_append, ← ints_append]
      have hl2 : ((acc ++ l.take i).length : Nat) ≤ acc.length + i := by rw [List.length_append, List.length_take]; omega
      have hw : wrap64 ((i : Int) + ((B old).size : Int)) = ((i + old.length : Nat) : Int) := by
        rw [B_size, wrap_id (by omega) (by omega)]; omega
      rw [hw, if_pos (by rw [ints_length, B_size]; omega), if_pos (by omega), if_pos (by rw [B_size]; omega), Int.toNat_natCast, B_from]
      rw [ih (l.length - (i + old.length)) (by omega) k (l.drop (i + old.length)) (acc ++ l.take i ++ new) (by rw [List.length_drop]) (by omega) (by rw [List.length_append]; omega)]
      rw [hR.some_ l i hi]
      simp [List.append_assoc]

theorem replaceAll_eq {old new : List UInt8} {R : List UInt8 → List UInt8} (hR : Repl old new R) (h0 : 0 < old.length) (hno : new.length ≤ old.length) (ho : old.length ≤ 2) (l : List UInt8) (k : Nat) (hk : 2 * l.length + 2 < k) (hl : l.length ≤ 8589934592) :
    format_zzReplaceAll.f k (B l) (B old) (B new) = some (B (R l)) := by
  unfold format_zzReplaceAll.f
  have h := replaceAll_at hR h0 hno ho l.length k l [] rfl hk (by simpa using hl)
  simpa [ints] using h

/-- CR to LF. -/
def unCr (l : List UInt8) : List UInt8 := l.map fun c => if c = 13 then 10 else c
/-- CR LF to LF. -/
def unCrLf : List UInt8 → List UInt8
  | [] => []
  | [c] => [c]
  | c :: d :: t => if c = 13 ∧ d = 10 then 10 :: unCrLf t else c :: unCrLf (d :: t)

theorem unCr_repl : Repl [13] [10] unCr := by
  constructor
  · intro l
    induction l with
    | nil => intro _; rfl
    | cons c t ih =>
      intro h
      rw [idx] at h
      by_cases hc : c = 13
      · subst hc
        rw [if_pos (by rfl)] at h
        cases h
      · have hp : ¬ List.isPrefixOf [13] (c :: t) = true := by
          simp only [List.isPrefixOf, Bool.and_true]
          intro hb
          exact hc (beq_iff_eq.1 hb).symm
        rw [if_neg hp] at h
        have ht : idx [13] t = none := by simpa using h
        simp only [unCr, List.map_cons, if_neg hc]
        exact congrArg _ (ih ht)
  · intro l
    induction l with
    | nil => intro i h; simp [idx] at h
    | cons c t ih =>
      intro i h
      rw [idx] at h
      by_cases hc : c = 13
      · subst hc
        rw [if_pos (by rfl)] at h
        obtain rfl := Option.some.inj h
        simp [unCr]
      · have hp : ¬ List.isPrefixOf [13] (c :: t) = true := by
          simp only [List.isPrefixOf, Bool.and_true]
          intro hb
          exact hc (beq_iff_eq.1 hb).symm
        rw [if_neg hp] at h
        cases hq : idx [13] t with
        | none => rw [hq] at h; simp at h
        | some j =>
          rw [hq] at h
          simp at h
          subst h
          have := ih j hq
          simp only [unCr, List.map_cons, if_neg hc] at this ⊢
          rw [this]
          simp

theorem pre2 (c d : UInt8) (t : List UInt8) : List.isPrefixOf [13, 10] (c :: d :: t) = true ↔ c = 13 ∧ d = 10 := by
  simp only [List.isPrefixOf, Bool.and_true, Bool.and_eq_true, beq_iff_eq]
  exact ⟨fun h => ⟨h.1.symm, h.2.symm⟩, fun h => ⟨h.1.symm, h.2.symm⟩⟩
theorem unCrLf_repl : Repl [13, 10] [10] unCrLf := by
  constructor
  · intro l
    induction l with
    | nil => intro _; rfl
    | cons c t ih =>
      intro h
      rw [idx] at h
      cases t with
      | nil => rfl
      | cons d t =>
        by_cases hc : c = 13 ∧ d = 10
        · rw [if_pos ((pre2 c d t).2 hc)] at h
          cases h
        · rw [if_neg (fun hp => hc ((pre2 c d t).1 hp))] at h
          rw [unCrLf, if_neg hc, ih (by simpa using h)]
  · intro l
    induction l with
    | nil => intro i h; simp [idx] at h
    | cons c t ih =>
      intro i h
      rw [idx] at h
      cases t with
      | nil => simp [idx, List.isPrefixOf] at h
      | cons d t =>
        by_cases hc : c = 13 ∧ d = 10
        · rw [if_pos ((pre2 c d t).2 hc)] at h
          obtain rfl := Option.some.inj h
          rw [unCrLf, if_pos hc]
          simp
        · rw [if_neg (fun hp => hc ((pre2 c d t).1 hp))] at h
          cases hq : idx [13, 10] (d :: t) with
          | none => rw [hq] at h; simp at h
          | some j =>
            rw [hq] at h
            simp at h
            subst h
            rw [unCrLf, if_neg hc, ih j hq]
            simp

def nm (l : List UInt8) : List UInt8 := unCr (unCrLf l)
theorem unCrLf_length (l : List UInt8) : (unCrLf l).length ≤ l.length := by
  induction l using unCrLf.induct with
  | case1 => simp [unCrLf]
  | case2 c => simp [unCrLf]
  | case3 c d t h ih => rw [unCrLf, if_pos h]; simp; omega
  | case4 c d t h ih => rw [unCrLf, if_neg h]; simp at ih ⊢; omega
theorem unCr_length (l : List UInt8) : (unCr l).length = l.length := by simp [unCr]
theorem nm_length (l : List UInt8) : (nm l).length ≤ l.length := by rw [nm, unCr_length]; exact unCrLf_length l
theorem unCr_no (l : List UInt8) : (13 : UInt8) ∉ unCr l := by
  unfold unCr
  intro h
  obtain ⟨c, _, hc⟩ := List.mem_map.1 h
  by_cases h13 : c = 13
  · rw [if_pos h13] at hc; exact absurd hc (by decide)
  · rw [if_neg h13] at hc; exact h13 hc
theorem nm_no (l : List UInt8) : (13 : UInt8) ∉ nm l := unCr_no _
theorem nm_id {l : List UInt8} (h : (13 : UInt8) ∉ l) : nm l = l := by
  rw [nm, unCrLf_repl.none_ l (idx_none_of (c := 13) (by simp) h), unCr_repl.none_ l (idx_none_of (c := 13) (by simp) h)]

theorem normal_eq (l : List UInt8) (k : Nat) (hk : 2 * l.length + 2 < k) (hl : l.length ≤ 8589934592) : format_normalizeNewLineChars.f k (B l) = some (B (nm l)) := by
  unfold format_normalizeNewLineChars.f
  have h1 := replaceAll_eq unCrLf_repl (by simp) (by simp) (by simp) l k hk hl
  have h2 := replaceAll_eq unCr_repl (by simp) (by simp) (by simp) (unCrLf l) k (by have := unCrLf_length l; omega) (by have := unCrLf_length l; omega)
  have e1 : (⟨#[13, 10]⟩ : ByteArray) = B [13, 10] := rfl
  have e2 : (⟨#[10]⟩ : ByteArray) = B [10] := rfl
  have e3 : (⟨#[13]⟩ : ByteArray) = B [13] := rfl
  rw [e1, e2, e3, h1]
  simp only [Option.bind_some]
  rw [h2]
  rfl

theorem has_at (l : List UInt8) (c : UInt8) (hl : l.length ≤ 9223372036854775805) (d : Nat) : ∀ (k i : Nat), i ≤ l.length → l.length - i = d → 3 * d < k →
    spec_Has.l0 k (B l) (B [c]) (i : Int) = some (decide (c ∈ l.drop i)) := by
  induction d with
  | zero =>
    intro k i h0 h1 hk
    obtain ⟨k, rfl⟩ : ∃ m, k = m + 1 := ⟨k - 1, by omega⟩
    simp only [spec_Has.l0]
    rw [B_size, if_neg (by omega), List.drop_of_length_le (by omega)]
    simp
  | succ d ih =>
    intro k i h0 h1 hk
    obtain ⟨k, rfl⟩ : ∃ m, k = m + 3 := ⟨k - 3, by omega⟩
    have hi : i < l.length := by omega
    simp only [spec_Has.l0]
    rw [B_size, if_pos (by omega)]
    rw [spec_Has.l1]
    have hb1 : bt (B [c]) 0 = (c.toNat : Int) := bt_B [c] 0 (by simp)
    rw [B_size, B_size, bt_B l i hi, hb1]
    rw [if_pos (by simp), if_pos (by omega), if_pos (by omega), if_pos (by omega)]
    rw [List.drop_eq_getElem_cons hi]
    by_cases hc : l[i] = c
    · rw [if_pos (by rw [hc])]
      simp [hc]
    · rw [if_neg (fun h => hc (UInt8.toNat_inj.1 (by omega)))]
      rw [spec_Has.l1, B_size, wrap_id (by omega) (by omega), if_neg (by simp), wrap_id (by omega) (by omega), show (i : Int) + 1 = ((i + 1 : Nat) : Int) from by omega, ih k (i + 1) (by omega) (by omega) (by omega)]
      simp only [List.mem_cons, Option.some.injEq, decide_eq_decide]
      exact ⟨Or.inr, fun h => h.resolve_left (fun e => hc e.symm)⟩

theorem has_eq (l : List UInt8) (c : UInt8) (k : Nat) (hk : 3 * l.length < k) (hl : l.length ≤ 9223372036854775805) : spec_Has.f k (B l) (B [c]) = some (decide (c ∈ l)) := by
  unfold spec_Has.f
  have h := has_at l c hl l.length k 0 (by omega) (by omega) hk
  simpa using h


/-- A text's lines: what stands between its line feeds. -/
def lines : List UInt8 → List (List UInt8)
  | [] => [[]]
  | c :: t => if c = 10 then [] :: lines t else match lines t with
    | [] => [[c]]
    | h :: r => (c :: h) :: r

theorem lines_ne (l : List UInt8) : lines l ≠ [] := by
  cases l with
  | nil => simp [lines]
  | cons c t =>
    rw [lines]
    by_cases h : c = 10
    · rw [if_pos h]; simp
    · rw [if_neg h]
      cases lines t <;> simp

theorem lines_none : ∀ l : List UInt8, idx [10] l = none → lines l = [l]
  | [], _ => rfl
  | c :: t, h => by
    rw [idx] at h
    by_cases hc : c = 10
    · subst hc
      rw [if_pos (by rfl)] at h
      cases h
    · have hp : ¬ List.isPrefixOf [10] (c :: t) = true := by
        simp only [List.isPrefixOf, Bool.and_true]
        intro hb
        exact hc (beq_iff_eq.1 hb).symm
      rw [if_neg hp] at h
      rw [lines, if_neg hc, lines_none t (by simpa using h)]

theorem lines_some : ∀ (l : List UInt8) (i : Nat), idx [10] l = some i → lines l = l.take i :: lines (l.drop (i + 1))
  | [], i, h => by simp [idx] at h
  | c :: t, i, h => by
    rw [idx] at h
    by_cases hc : c = 10
    · subst hc
      rw [if_pos (by rfl)] at h
      obtain rfl := Option.some.inj h
      rw [lines, if_pos rfl]
      rfl
    · have hp : ¬ List.isPrefixOf [10] (c :: t) = true := by
        simp only [List.isPrefixOf, Bool.and_true]
        intro hb
        exact hc (beq_iff_eq.1 hb).symm
      rw [if_neg hp] at h
      cases hq : idx [10] t with
      | none => rw [hq] at h; simp at h
      | some j =>
        rw [hq] at h
        simp at h
        subst h
        rw [lines, if_neg hc, lines_some t j hq]
        rfl

theorem lines_length (l : List UInt8) : (lines l).length ≤ l.length + 1 := by
  induction l with
  | nil => simp [lines]
  | cons c t ih =>
    rw [lines]
    by_cases h : c = 10
    · rw [if_pos h]; simp; omega
    · rw [if_neg h]
      cases hl : lines t with
      | nil => simp
      | cons x r => rw [hl] at ih; simp at ih ⊢; omega

theorem zzSplit_at (n : Nat) : ∀ (k : Nat) (l : List UInt8) (acc : List ByteArray), l.length = n → 2 * n + 2 < k → acc.length + n < 8589934592 → n ≤ 8589934592 →
    format_zzSplit.l0 k (B l) (B [10]) acc = some (acc ++ (lines l).map B) := by
  induction n using Nat.strongRecOn with
  | ind n ih =>
    intro k l acc hn hk hacc hm
    obtain ⟨k, rfl⟩ : ∃ m, k = m + 1 := ⟨k - 1, by omega⟩
    simp only [format_zzSplit.l0]
    have hz := zzIndex_eq l [10] (by simp) (by simp; omega) k (by omega)
    cases hi : idx [10] l with
    | none =>
      rw [hi] at hz
      replace hz : format_zzIndex.f k (B l) (B [10]) = some (-1) := hz
      rw [hz]
      simp only [Option.bind_some]
      rw [if_pos (by omega), if_pos (by omega), lines_none l hi]
      rfl
    | some i =>
      obtain ⟨hfit, _⟩ := idx_some hi
      have e1 : ((i : Int)).toNat = i := by omega
      simp only [List.length_cons, List.length_nil] at hfit
      rw [hi] at hz
      replace hz : format_zzIndex.f k (B l) (B [10]) = some (i : Int) := hz
      rw [hz]
      simp only [Option.bind_some]
      have hw : wrap64 ((i : Int) + ((B [10]).size : Int)) = ((i + 1 : Nat) : Int) := by
        rw [B_size, wrap_id (by omega) (by simp; omega)]; simp
      rw [if_neg (by omega), if_pos (by omega), if_pos (by rw [B_size]; omega), hw, if_pos (by omega), if_pos (by omega), if_pos (by rw [B_size]; omega), e1, B_upto, Int.toNat_natCast, B_from]
      rw [ih (l.length - (i + 1)) (by omega) k (l.drop (i + 1)) (acc ++ [B (l.take i)]) (by rw [List.length_drop]) (by omega) (by rw [List.length_append]; simp; omega) (by omega)]
      rw [lines_some l i hi]
      simp

theorem zzSplit_eq (l : List UInt8) (k : Nat) (hk : 2 * l.length + 2 < k) (hl : l.length ≤ 2147483647) : format_zzSplit.f k (B l) (B [10]) = some ((lines l).map B) := by
  unfold format_zzSplit.f
  have h := zzSplit_at l.length k l [] rfl hk (by simp; omega) (by omega)
  simpa using h

/-- Is a line empty? (e: nothing of the line stands ahead) -/
def hollow (e : Bool) : List UInt8 → Bool
  | [] => e
  | c :: t => if c = 10 ∧ e = true then true else hollow (decide (c = 10)) t

theorem hollow_at (l : List UInt8) (hl : l.length ≤ 9223372036854775805) (d : Nat) : ∀ (k i : Nat) (e : Bool), i ≤ l.length → l.length - i = d → d < k →
    spec_Hollow.l0 k (B l) e (i : Int) = some (hollow e (l.drop i)) := by
  induction d with
  | zero =>
    intro k i e h0 h1 hk
    obtain ⟨k, rfl⟩ : ∃ m, k = m + 1 := ⟨k - 1, by omega⟩
    simp only [spec_Hollow.l0]
    rw [B_size, if_neg (by omega), List.drop_of_length_le (by omega)]
    rfl
  | succ d ih =>
    intro k i e h0 h1 hk
    obtain ⟨k, rfl⟩ : ∃ m, k = m + 1 := ⟨k - 1, by omega⟩
    have hi : i < l.length := by omega
    simp only [spec_Hollow.l0]
    rw [B_size, if_pos (by omega), if_pos (by omega), bt_B l i hi, wrap_id (by omega) (by omega), show (i : Int) + 1 = ((i + 1 : Nat) : Int) from by omega, List.drop_eq_getElem_cons hi, hollow]
    have hd : ((l[i].toNat : Int) == 10) = decide (l[i] = 10) := by
      rw [Bool.eq_iff_iff, beq_iff_eq, decide_eq_true_iff]
      constructor
      · intro h
        exact UInt8.toNat_inj.1 (by have h' := h; simp; omega)
      · intro h
        rw [h]; rfl
    rw [hd]
    by_cases hc : l[i] = 10
    · rw [if_pos (by rw [hc]; rfl)]
      cases e with
      | true => rw [if_pos rfl, if_pos ⟨hc, rfl⟩]
      | false => rw [if_neg (by simp), if_neg (by simp), ih k (i + 1) _ (by omega) (by omega) (by omega)]
    · rw [if_neg (fun h => hc (UInt8.toNat_inj.1 (by have h' := h; simp; omega))), if_neg (fun h => hc h.1), ih k (i + 1) _ (by omega) (by omega) (by omega)]

theorem hollow_eq (l : List UInt8) (k : Nat) (hk : l.length < k) (hl : l.length ≤ 9223372036854775805) : spec_Hollow.f k (B l) = some (hollow true l) := by
  unfold spec_Hollow.f
  have h := hollow_at l hl l.length k 0 true (by omega) (by omega) hk
  simpa using h

/-- Spaces behind each line feed, and (b) at the beginning. -/
def shift (sp : List UInt8) (b : Bool) : List UInt8 → List UInt8
  | [] => []
  | c :: t => (if b = true then sp else []) ++ c :: shift sp (decide (c = 10)) t

/-- A line with spaces ahead of it; an empty one, and one that stays, as it is. -/
def pre (sp : List UInt8) (b : Bool) (line : List UInt8) : List UInt8 := if line = [] ∨ b = false then line else sp ++ line
/-- The lines with spaces ahead; the first one if b. -/
def pres (sp : List UInt8) (b : Bool) : List (List UInt8) → List (List UInt8)
  | [] => []
  | h :: r => pre sp b h :: r.map (pre sp true)

theorem join_cons2 (x y : List UInt8) (r : List (List UInt8)) (sep : List UInt8) : Lib.join (x :: y :: r) sep = x ++ sep ++ Lib.join (y :: r) sep := by
  rw [Lib.join_cons, Lib.join_cons, Lib.joinTail, Lib.joinTail]
  simp

theorem shift_lines (sp : List UInt8) : ∀ (l : List UInt8) (b e : Bool), (b = true → e = true) → hollow e l = false → Lib.join (pres sp b (lines l)) [10] = shift sp b l
  | [], b, e, _, _ => by
    simp [lines, pres, pre, shift, Lib.join_one]
  | c :: t, b, e, hbe, hh => by
    rw [hollow] at hh
    rw [lines, shift]
    by_cases hc : c = 10
    · have he : e = false := by
        cases e with
        | false => rfl
        | true => rw [if_pos ⟨hc, rfl⟩] at hh; cases hh
      have hb : b = false := by
        cases b with
        | false => rfl
        | true => have := hbe rfl; rw [he] at this; cases this
      rw [if_neg (by rw [he]; simp)] at hh
      rw [if_pos hc, hb]
      have ih := shift_lines sp t true (decide (c = 10)) (fun _ => by simp [hc]) hh
      obtain ⟨h, r, hl⟩ : ∃ h r, lines t = h :: r := by
        cases hl : lines t with
        | nil => exact absurd hl (lines_ne t)
        | cons h r => exact ⟨h, r, rfl⟩
      rw [hl] at ih ⊢
      simp only [pres] at ih ⊢
      rw [List.map_cons, join_cons2, ih]
      simp [pre, hc]
    · rw [if_neg (fun h => hc h.1)] at hh
      rw [if_neg hc]
      have ih := shift_lines sp t false (decide (c = 10)) (fun h => by cases h) hh
      obtain ⟨h, r, hl⟩ : ∃ h r, lines t = h :: r := by
        cases hl : lines t with
        | nil => exact absurd hl (lines_ne t)
        | cons h r => exact ⟨h, r, rfl⟩
      rw [hl] at ih ⊢
      simp only [pres] at ih ⊢
      have e1 : pre sp false h = h := by simp [pre]
      have e2 : pre sp b (c :: h) = (if b = true then sp else []) ++ c :: h := by
        cases b <;> simp [pre]
      rw [e1] at ih
      rw [show decide (c = 10) = false from decide_eq_false hc, ← ih, e2, Lib.join_cons, Lib.join_cons]
      simp

theorem shift_length (sp : List UInt8) (b : Bool) : ∀ l : List UInt8, (shift sp b l).length ≤ l.length * (sp.length + 1)
  | [] => by simp [shift]
  | c :: t => by
    have ih := shift_length sp (decide (c = 10)) t
    rw [shift, List.length_append, List.length_cons, List.length_cons]
    have : (if b = true then sp else []).length ≤ sp.length := by split <;> simp
    rw [Nat.add_mul]
    omega

end Go.Proofs.Ytpimdceafnhmlaa.Ind
