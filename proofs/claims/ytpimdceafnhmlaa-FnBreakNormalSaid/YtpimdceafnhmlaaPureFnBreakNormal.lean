/-
  PROVED: for every text, FnBreakNormal answers true: the text with its line breaks made line feeds has no carriage return, is made no other by doing it again, and is the text itself if that has none, also when the text's line feeds were turned into CR LF or CR. No condition on the input.
-/
import Derived.Test.YtpimdceafnhmlaaPFnBreakNormalx2
import Derived.Test.YtpimdceafnhmlaaStr
namespace Go.Proofs.Ytpimdceafnhmlaa.Pure
open Go.RowKit Go.Proofs.Ytpimdceafnhmlaa.PFnBreakNormal Go.Proofs.YtpimdceafnhmlaaW.PrintWords Go.Proofs.YtpimdceafnhmlaaW.PrintLast
open Go.Proofs.Ytpimdceafnhmlaa.Str

theorem zzIndex_at (l sub : List UInt8) (hs : 0 < sub.length) (hm : l.length + sub.length ≤ 9223372036854775806) (d : Nat) : ∀ (k i : Nat), i ≤ l.length → l.length - i = d → d < k →
    format_zzIndex.l0 k (B l) (B sub) (i : Int) = some (match idx sub (l.drop i) with | none => -1 | some j => (i : Int) + j) := by
  induction d with
  | zero =>
    intro k i h0 h1 hk
    obtain ⟨k, rfl⟩ : ∃ m, k = m + 1 := ⟨k - 1, by omega⟩
    have hi : i = l.length := by omega
    simp only [format_zzIndex.l0, B_size]
    rw [wrap_id (by omega) (by omega), if_neg (by omega), List.drop_of_length_le (by omega)]
    rfl
  | succ d ih =>
    intro k i h0 h1 hk
    obtain ⟨k, rfl⟩ : ∃ m, k = m + 1 := ⟨k - 1, by omega⟩
    have hi : i < l.length := by omega
    simp only [format_zzIndex.l0, B_size]
    rw [wrap_id (x := (i : Int) + sub.length) (by omega) (by omega)]
    by_cases hfit : i + sub.length ≤ l.length
    · rw [if_pos (by omega), if_pos (by omega), if_pos (by omega)]
      have e1 : ((i : Int)).toNat = i := by omega
      have e2 : ((i : Int) + (sub.length : Int)).toNat = i + sub.length := by omega
      rw [e1, e2, B_extract, B_toList, B_toList, Nat.add_sub_cancel_left, idx_drop hi]
      by_cases hp : (l.drop i).take sub.length = sub
      · rw [if_pos hp, if_pos hp]
        simp
      · rw [if_neg hp, if_neg hp, wrap_id (by omega) (by omega), show (i : Int) + 1 = ((i + 1 : Nat) : Int) from by omega, ih k (i + 1) (by omega) (by omega) (by omega)]
        cases idx sub (l.drop (i + 1)) with
        | none => rfl
        | some j =>
          show some (((i + 1 : Nat) : Int) + (j : Int)) = some ((i : Int) + ((j + 1 : Nat) : Int))
          rw [show ((i + 1 : Nat) : Int) + (j : Int) = (i : Int) + ((j + 1 : Nat) : Int) from by omega]
    · rw [if_neg (by omega), idx_short (by rw [List.length_drop]; omega)]

theorem zzIndex_eq (l sub : List UInt8) (hs : 0 < sub.length) (hm : l.length + sub.length ≤ 9223372036854775806) (k : Nat) (hk : l.length < k) :
    format_zzIndex.f k (B l) (B sub) = some (match idx sub l with | none => -1 | some j => (j : Int)) := by
  unfold format_zzIndex.f
  have h := zzIndex_at l sub hs hm l.length k 0 (by omega) (by omega) hk
  simp only [Int.natCast_zero, List.drop_zero, Int.zero_add] at h
  exact h

/-- What is put together of a text in which each old piece is a new one. -/
structure Repl (old new : List UInt8) (R : List UInt8 → List UInt8) : Prop where
  none_ : ∀ l, idx old l = none → R l = l
  some_ : ∀ l i, idx old l = some i → R l = l.take i ++ new ++ R (l.drop (i + old.length))

theorem replaceAll_at {old new : List UInt8} {R : List UInt8 → List UInt8} (hR : Repl old new R) (h0 : 0 < old.length) (hno : new.length ≤ old.length) (ho : old.length ≤ 2) (n : Nat) :
    ∀ (k : Nat) (l acc : List UInt8), l.length = n → 2 * n + 2 < k → acc.length + n ≤ 8589934592 →
    format_zzReplaceAll.l0 k (B l) (B old) (B new) (ints acc) = some (B (acc ++ R l)) := by
  induction n using Nat.strongRecOn with
  | ind n ih =>
    intro k l acc hn hk hacc
    obtain ⟨k, rfl⟩ : ∃ m, k = m + 1 := ⟨k - 1, by omega⟩
    simp only [format_zzReplaceAll.l0]
    have hz := zzIndex_eq l old h0 (by omega) k (by omega)
    cases hi : idx old l with
    | none =>
      rw [hi] at hz
      replace hz : format_zzIndex.f k (B l) (B old) = some (-1) := hz
      rw [hz]
      simp only [Option.bind_some]
      rw [if_pos (by omega), if_pos (by rw [ints_length, B_size]; omega), bytesOf_B, ← ints_append, str_ints, hR.none_ l hi]
    | some i =>
      obtain ⟨hfit, _⟩ := idx_some hi
      have e1 : ((i : Int)).toNat = i := by omega
      rw [hi] at hz
      replace hz : format_zzIndex.f k (B l) (B old) = some (i : Int) := hz
      rw [hz]
      simp only [Option.bind_some]
      rw [if_neg (by omega), if_pos (by omega), if_pos (by rw [B_size]; omega), e1, B_upto]
      rw [if_pos (by rw [ints_length, B_size, List.length_take]; omega)]
      rw [bytesOf_B, bytesOf_B, ← ints_append, ← ints_append]
      have hl2 : ((acc ++ l.take i).length : Nat) ≤ acc.length + i := by rw [List.length_append, List.length_take]; omega
      have hw : wrap64 ((i : Int) + ((B old).size : Int)) = ((i + old.length : Nat) : Int) := by
        rw [B_size, wrap_id (by omega) (by omega)]; omega
      rw [hw, if_pos (by rw [ints_length, B_size]; omega), if_pos (by omega), if_pos (by rw [B_size]; omega), Int.toNat_natCast, B_from]
      rw [ih (l.length - (i + old.length)) (by omega) k (l.drop (i + old.length)) (acc ++ l.take i ++ new) (by rw [List.length_drop]) (by omega) (by rw [List.length_append]; omega)]
      rw [hR.some_ l i hi]
      simp [List.append_assoc]

theorem replaceAll_eq {old new : List UInt8} {R : List UInt8 → List UInt8} (hR : Repl old new R) (h0 : 0 < old.length) (hno : new.length ≤ old.length) (ho : old.length ≤ 2) (l : List UInt8) (k : Nat) (hk : 2 * l.length + 2 < k) (hl : l.length ≤ 8589934592) :
    format_zzReplaceAll.f k (B l) (B old) (B new) = some (B (R l)) := by
  unfold format_zzReplaceAll.f
  have h := replaceAll_at hR h0 hno ho l.length k l [] rfl hk (by simpa using hl)
  simpa [ints] using h

/-- CR to LF. -/
def unCr (l : List UInt8) : List UInt8 := l.map fun c => if c = 13 then 10 else c
/-- CR LF to LF. -/
def unCrLf : List UInt8 → List UInt8
  | [] => []
  | [c] => [c]
  | c :: d :: t => if c = 13 ∧ d = 10 then 10 :: unCrLf t else c :: unCrLf (d :: t)

theorem unCr_repl : Repl [13] [10] unCr := by
  constructor
  · intro l
    induction l with
    | nil => intro _; rfl
    | cons c t ih =>
      intro h
      rw [idx] at h
      by_cases hc : c = 13
      · subst hc
        rw [if_pos (by rfl)] at h
        cases h
      · have hp : ¬ List.isPrefixOf [13] (c :: t) = true := by
          simp only [List.isPrefixOf, Bool.and_true]
          intro hb
          exact hc (beq_iff_eq.1 hb).symm
        rw [if_neg hp] at h
        have ht : idx [13] t = none := by simpa using h
        simp only [unCr, List.map_cons, if_neg hc]
        exact congrArg _ (ih ht)
  · intro l
    induction l with
    | nil => intro i h; simp [idx] at h
    | cons c t ih =>
      intro i h
      rw [idx] at h
      by_cases hc : c = 13
      · subst hc
        rw [if_pos (by rfl)] at h
        obtain rfl := Option.some.inj h
        simp [unCr]
      · have hp : ¬ List.isPrefixOf [13] (c :: t) = true := by
          simp only [List.isPrefixOf, Bool.and_true]
          intro hb
          exact hc (beq_iff_eq.1 hb).symm
        rw [if_neg hp] at h
        cases hq : idx [13] t with
        | none => rw [hq] at h; simp at h
        | some j =>
          rw [hq] at h
          simp at h
          subst h
          have := ih j hq
          simp only [unCr, List.map_cons, if_neg hc] at this ⊢
          rw [this]
          simp

theorem pre2 (c d : UInt8) (t : List UInt8) : List.isPrefixOf [13, 10] (c :: d :: t) = true ↔ c = 13 ∧ d = 10 := by
  simp only [List.isPrefixOf, Bool.and_true, Bool.and_eq_true, beq_iff_eq]
  exact ⟨fun h => ⟨h.1.symm, h.2.symm⟩, fun h => ⟨h.1.symm, h.2.symm⟩⟩
theorem unCrLf_repl : Repl [13, 10] [10] unCrLf := by
  constructor
  · intro l
    induction l with
    | nil => intro _; rfl
    | cons c t ih =>
      intro h
      rw [idx] at h
      cases t with
      | nil => rfl
      | cons d t =>
        by_cases hc : c = 13 ∧ d = 10
        · rw [if_pos ((pre2 c d t).2 hc)] at h
          cases h
        · rw [if_neg (fun hp => hc ((pre2 c d t).1 hp))] at h
          rw [unCrLf, if_neg hc, ih (by simpa using h)]
  · intro l
    induction l with
    | nil => intro i h; simp [idx] at h
    | cons c t ih =>
      intro i h
      rw [idx] at h
      cases t with
      | nil => simp [idx, List.isPrefixOf] at h
      | cons d t =>
        by_cases hc : c = 13 ∧ d = 10
        · rw [if_pos ((pre2 c d t).2 hc)] at h
          obtain rfl := Option.some.inj h
          rw [unCrLf, if_pos hc]
          simp
        · rw [if_neg (fun hp => hc ((pre2 c d t).1 hp))] at h
          cases hq : idx [13, 10] (d :: t) with
          | none => rw [hq] at h; simp at h
          | some j =>
            rw [hq] at h
            simp at h
            subst h
            rw [unCrLf, if_neg hc, ih j hq]
            simp

def nm (l : List UInt8) : List UInt8 := unCr (unCrLf l)
theorem unCrLf_length (l : List UInt8) : (unCrLf l).length ≤ l.length := by
  induction l using unCrLf.induct with
  | case1 => simp [unCrLf]
  | case2 c => simp [unCrLf]
  | case3 c d t h ih => rw [unCrLf, if_pos h]; simp; omega
  | case4 c d t h ih => rw [unCrLf, if_neg h]; simp at ih ⊢; omega
theorem unCr_length (l : List UInt8) : (unCr l).length = l.length := by simp [unCr]
theorem nm_length (l : List UInt8) : (nm l).length ≤ l.length := by rw [nm, unCr_length]; exact unCrLf_length l
theorem unCr_no (l : List UInt8) : (13 : UInt8) ∉ unCr l := by
  unfold unCr
  intro h
  obtain ⟨c, _, hc⟩ := List.mem_map.1 h
  by_cases h13 : c = 13
  · rw [if_pos h13] at hc; exact absurd hc (by decide)
  · rw [if_neg h13] at hc; exact h13 hc
theorem nm_no (l : List UInt8) : (13 : UInt8) ∉ nm l := unCr_no _
theorem nm_id {l : List UInt8} (h : (13 : UInt8) ∉ l) : nm l = l := by
  rw [nm, unCrLf_repl.none_ l (idx_none_of (c := 13) (by simp) h), unCr_repl.none_ l (idx_none_of (c := 13) (by simp) h)]

theorem normal_eq (l : List UInt8) (k : Nat) (hk : 2 * l.length + 2 < k) (hl : l.length ≤ 8589934592) : impl_Normal.f k (B l) = some (B (nm l)) := by
  unfold impl_Normal.f format_ZzNormal.f format_normalizeNewLineChars.f
  have h1 := replaceAll_eq unCrLf_repl (by simp) (by simp) (by simp) l k hk hl
  have h2 := replaceAll_eq unCr_repl (by simp) (by simp) (by simp) (unCrLf l) k (by have := unCrLf_length l; omega) (by have := unCrLf_length l; omega)
  have e1 : (⟨#[13, 10]⟩ : ByteArray) = B [13, 10] := rfl
  have e2 : (⟨#[10]⟩ : ByteArray) = B [10] := rfl
  have e3 : (⟨#[13]⟩ : ByteArray) = B [13] := rfl
  rw [e1, e2, e3, h1]
  simp only [Option.bind_some]
  rw [h2]
  rfl

theorem has_at (l : List UInt8) (c : UInt8) (hl : l.length ≤ 9223372036854775805) (d : Nat) : ∀ (k i : Nat), i ≤ l.length → l.length - i = d → 3 * d < k →
    spec_Has.l0 k (B l) (B [c]) (i : Int) = some (decide (c ∈ l.drop i)) := by
  induction d with
  | zero =>
    intro k i h0 h1 hk
    obtain ⟨k, rfl⟩ : ∃ m, k = m + 1 := ⟨k - 1, by omega⟩
    simp only [spec_Has.l0]
    rw [B_size, if_neg (by omega), List.drop_of_length_le (by omega)]
    simp
  | succ d ih =>
    intro k i h0 h1 hk
    obtain ⟨k, rfl⟩ : ∃ m, k = m + 3 := ⟨k - 3, by omega⟩
    have hi : i < l.length := by omega
    simp only [spec_Has.l0]
    rw [B_size, if_pos (by omega)]
    rw [spec_Has.l1]
    have hb1 : bt (B [c]) 0 = (c.toNat : Int) := bt_B [c] 0 (by simp)
    rw [B_size, B_size, bt_B l i hi, hb1]
    rw [if_pos (by simp), if_pos (by omega), if_pos (by omega), if_pos (by omega)]
    rw [List.drop_eq_getElem_cons hi]
    by_cases hc : l[i] = c
    · rw [if_pos (by rw [hc])]
      simp [hc]
    · rw [if_neg (fun h => hc (UInt8.toNat_inj.1 (by omega)))]
      rw [spec_Has.l1, B_size, wrap_id (by omega) (by omega), if_neg (by simp), wrap_id (by omega) (by omega), show (i : Int) + 1 = ((i + 1 : Nat) : Int) from by omega, ih k (i + 1) (by omega) (by omega) (by omega)]
      simp only [List.mem_cons, Option.some.injEq, decide_eq_decide]
      exact ⟨Or.inr, fun h => h.resolve_left (fun e => hc e.symm)⟩

theorem has_eq (l : List UInt8) (c : UInt8) (k : Nat) (hk : 3 * l.length < k) (hl : l.length ≤ 9223372036854775805) : spec_Has.f k (B l) (B [c]) = some (decide (c ∈ l)) := by
  unfold spec_Has.f
  have h := has_at l c hl l.length k 0 (by omega) (by omega) hk
  simpa using h

/-- Each LF as CR LF, or as CR. -/
def brk (both : Bool) (l : List UInt8) : List UInt8 := l.flatMap fun c => if c = 10 then (if both = true then [13, 10] else [13]) else [c]
theorem brk_cons (both : Bool) (c : UInt8) (t : List UInt8) : brk both (c :: t) = (if c = 10 then (if both = true then [13, 10] else [13]) else [c]) ++ brk both t := rfl
theorem brk_length (both : Bool) (l : List UInt8) : (brk both l).length ≤ 2 * l.length := by
  induction l with
  | nil => simp [brk]
  | cons c t ih =>
    rw [brk_cons, List.length_append, List.length_cons]
    have : (if c = 10 then (if both = true then [13, 10] else [13]) else [c] : List UInt8).length ≤ 2 := by
      split
      · split <;> simp
      · simp
    omega

theorem broken_at (l : List UInt8) (both : Bool) (d : Nat) : ∀ (k i : Nat) (acc : List UInt8), i ≤ l.length → l.length - i = d → d < k → acc.length + 2 * d ≤ 8589934592 → l.length ≤ 8589934592 →
    spec_Broken.l0 k (B l) both (ints acc) (i : Int) = some (B (acc ++ brk both (l.drop i))) := by
  induction d with
  | zero =>
    intro k i acc h0 h1 hk _ _
    obtain ⟨k, rfl⟩ : ∃ m, k = m + 1 := ⟨k - 1, by omega⟩
    simp only [spec_Broken.l0]
    rw [B_size, if_neg (by omega), List.drop_of_length_le (by omega), str_ints]
    simp [brk]
  | succ d ih =>
    intro k i acc h0 h1 hk hacc hl
    obtain ⟨k, rfl⟩ : ∃ m, k = m + 1 := ⟨k - 1, by omega⟩
    have hi : i < l.length := by omega
    simp only [spec_Broken.l0]
    rw [B_size, if_pos (by omega), if_pos (by omega), bt_B l i hi, wrap_id (by omega) (by omega), show (i : Int) + 1 = ((i + 1 : Nat) : Int) from by omega, List.drop_eq_getElem_cons hi, brk_cons]
    by_cases hc : l[i] = 10
    · rw [if_pos (by rw [hc]; rfl), if_pos hc]
      cases both with
      | true =>
        simp only [Option.bind_some, if_true]
        rw [if_pos (by rw [ints_length]; simp; omega)]
        rw [show ([13, 10] : List Int) = ints [13, 10] from rfl, ← ints_append, ih k (i + 1) _ (by omega) (by omega) (by omega) (by simp; omega) hl]
        simp
      | false =>
        simp only [Bool.false_eq_true, if_false]
        rw [if_pos (by rw [ints_length]; omega)]
        rw [show ([13] : List Int) = ints [13] from rfl, ← ints_append, ih k (i + 1) _ (by omega) (by omega) (by omega) (by simp; omega) hl]
        simp
    · rw [if_neg (fun h => hc (UInt8.toNat_inj.1 (by have h' := h; simp; omega))), if_neg hc]
      rw [if_pos (by rw [ints_length]; omega)]
      rw [show ([(l[i].toNat : Int)] : List Int) = ints [l[i]] from rfl, ← ints_append, ih k (i + 1) _ (by omega) (by omega) (by omega) (by simp; omega) hl]
      simp

theorem broken_eq (l : List UInt8) (both : Bool) (k : Nat) (hk : l.length < k) (hl : l.length ≤ 2147483647) : spec_Broken.f k (B l) both = some (B (brk both l)) := by
  unfold spec_Broken.f
  have h := broken_at l both l.length k 0 [] (by omega) (by omega) hk (by simp; omega) (by omega)
  simpa [ints] using h

theorem unCrLf_brk {l : List UInt8} (h : (13 : UInt8) ∉ l) : unCrLf (brk true l) = l := by
  induction l with
  | nil => rfl
  | cons c t ih =>
    have hc : c ≠ 13 := fun e => h (by simp [e])
    have ht : (13 : UInt8) ∉ t := fun e => h (by simp [e])
    rw [brk_cons]
    by_cases h10 : c = 10
    · subst h10
      simp [unCrLf, ih ht]
    · rw [if_neg h10]
      have hq := ih ht
      cases hb : brk true t with
      | nil => rw [hb] at hq; simp [unCrLf] at hq ⊢; exact hq
      | cons d u =>
        rw [hb] at hq
        simp only [List.cons_append, List.nil_append]
        rw [unCrLf, if_neg (fun e => hc e.1), hq]
theorem unCr_brk {l : List UInt8} (h : (13 : UInt8) ∉ l) : unCr (brk false l) = l := by
  induction l with
  | nil => rfl
  | cons c t ih =>
    have hc : c ≠ 13 := fun e => h (by simp [e])
    have ht : (13 : UInt8) ∉ t := fun e => h (by simp [e])
    rw [brk_cons]
    have hq := ih ht
    unfold unCr at hq ⊢
    by_cases h10 : c = 10
    · subst h10
      simp [hq]
    · rw [if_neg h10]
      simp [hc, hq]
theorem brk_no10 (l : List UInt8) : (10 : UInt8) ∉ brk false l := by
  unfold brk
  intro h
  obtain ⟨c, _, hc⟩ := List.mem_flatMap.1 h
  by_cases h10 : c = 10
  · rw [if_pos h10] at hc; simp at hc
  · rw [if_neg h10] at hc; simp at hc; exact h10 hc.symm
theorem nm_brk (both : Bool) {l : List UInt8} (h : (13 : UInt8) ∉ l) : nm (brk both l) = l := by
  cases both with
  | true => rw [nm, unCrLf_brk h, unCr_repl.none_ l (idx_none_of (c := 13) (by simp) h)]
  | false => rw [nm, unCrLf_repl.none_ _ (idx_none_of (c := 10) (by simp) (brk_no10 l)), unCr_brk h]

theorem FnBreakNormal : laws_FnBreakNormal.Pure := by
  intro s _
  obtain ⟨l, rfl⟩ : ∃ l, s = B l := ⟨_, eq_B s⟩
  by_cases hbig : l.length > 2147483647
  · refine ⟨0, ?_⟩
    unfold laws_FnBreakNormal.f
    rw [B_size, if_pos (by omega)]
  have hl : l.length ≤ 2147483647 := by omega
  have hn := nm_length l
  obtain ⟨k, hk⟩ : ∃ k, k = 10 * l.length + 100 := ⟨_, rfl⟩
  have e13 : (⟨#[13]⟩ : ByteArray) = B [13] := rfl
  refine ⟨k + 1, ?_⟩
  unfold laws_FnBreakNormal.f
  rw [B_size, if_neg (by omega), normal_eq l (k + 1) (by omega) (by omega)]
  simp only [Option.bind_some]
  rw [e13, has_eq (nm l) 13 (k + 1) (by omega) (by omega)]
  simp only [Option.bind_some]
  rw [if_neg (by simpa using nm_no l), normal_eq (nm l) (k + 1) (by omega) (by omega)]
  simp only [Option.bind_some]
  rw [nm_id (nm_no l)]
  simp only [bne_self_eq_false]
  rw [laws_FnBreakNormal.j0]
  simp only [Bool.false_eq_true, if_false]
  rw [e13, has_eq l 13 k (by omega) (by omega)]
  simp only [Option.bind_some]
  by_cases h13 : (13 : UInt8) ∈ l
  · rw [if_pos (by simpa using h13)]
  rw [if_neg (by simpa using h13), nm_id h13, if_pos rfl, broken_eq l true k (by omega) hl]
  simp only [Option.bind_some]
  have hb := brk_length true l
  rw [normal_eq (brk true l) k (by omega) (by omega)]
  simp only [Option.bind_some]
  rw [nm_brk true h13, if_pos rfl, broken_eq l false k (by omega) hl]
  simp only [Option.bind_some]
  have hb2 := brk_length false l
  rw [normal_eq (brk false l) k (by omega) (by omega)]
  simp only [Option.bind_some]
  rw [nm_brk false h13]
  simp

end Go.Proofs.Ytpimdceafnhmlaa.Pure
