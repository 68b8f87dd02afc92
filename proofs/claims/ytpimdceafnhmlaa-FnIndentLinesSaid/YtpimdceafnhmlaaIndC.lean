/-
  PLAIN LAWS of scSpaces and Shifted.
-/
import Derived.Test.YtpimdceafnhmlaaIndB
namespace Go.Proofs.Ytpimdceafnhmlaa.Ind
open Go.RowKit Go.Proofs.Ytpimdceafnhmlaa.PFnIndentLines Go.Proofs.YtpimdceafnhmlaaW.PrintWords Go.Proofs.YtpimdceafnhmlaaW.PrintLast Go.Proofs.YtpimdceafnhmlaaW.PrintMore
open Go.Proofs.Ytpimdceafnhmlaa.Str

/-- n spaces. -/
def spc (n : Nat) : List UInt8 := List.replicate n 32
theorem spc_length (n : Nat) : (spc n).length = n := by simp [spc]

theorem scSpaces_at (n : Nat) (hn : n ≤ 1000) (d : Nat) : ∀ (k i : Nat), i + d = n → d < k →
    spec_scSpaces.l0 k (ints (List.replicate i 32 ++ List.replicate d 0)) (n : Int) (i : Int) = some (B (spc n)) := by
  induction d with
  | zero =>
    intro k i h hk
    obtain ⟨k, rfl⟩ : ∃ m, k = m + 1 := ⟨k - 1, by omega⟩
    simp only [spec_scSpaces.l0]
    rw [if_neg (by omega), str_ints]
    simp [spc, ← h]
  | succ d ih =>
    intro k i h hk
    obtain ⟨k, rfl⟩ : ∃ m, k = m + 1 := ⟨k - 1, by omega⟩
    simp only [spec_scSpaces.l0]
    rw [if_pos (by omega), if_pos (by omega), if_pos (by rw [ints_length]; simp; omega), wrap_id (by omega) (by omega), show (i : Int) + 1 = ((i + 1 : Nat) : Int) from by omega]
    have e : (ints (List.replicate i 32 ++ List.replicate (d + 1) 0)).set (i : Int).toNat 32 = ints (List.replicate (i + 1) 32 ++ List.replicate d 0) := by
      rw [Int.toNat_natCast]
      unfold ints
      rw [List.map_append, List.map_append, List.set_append_right _ _ (by simp), List.replicate_succ, List.replicate_succ']
      simp
    rw [e]
    exact ih k (i + 1) (by omega) (by omega)

theorem scSpaces_eq (n : Nat) (hn : n ≤ 1000) (k : Nat) (hk : n < k) : spec_scSpaces.f k (n : Int) = some (B (spc n)) := by
  have hm : mx (n : Int) 0 = (n : Int) := by
    unfold mx
    rw [if_neg (by omega)]
  unfold spec_scSpaces.f
  rw [hm, if_pos (by omega), if_pos (by omega)]
  simp only [Option.bind_some]
  have h := scSpaces_at n hn n k 0 (by omega) hk
  simp only [List.replicate_zero, List.nil_append] at h
  rw [Int.toNat_natCast, List.length_replicate, show (List.replicate n 0 : List Int) = ints (List.replicate n 0) from by simp [ints]]
  exact h

/-- Is the place i of l a line's beginning at which spaces go? -/
def flag (l : List UInt8) (first : Bool) (i : Nat) : Bool := if i = 0 then !first else decide (l.getD (i - 1) 0 = 10)

theorem flag_succ (l : List UInt8) (first : Bool) (i : Nat) (h : i < l.length) : flag l first (i + 1) = decide (l[i] = 10) := by
  unfold flag
  rw [if_neg (by omega), Nat.add_sub_cancel, List.getD_eq_getElem?_getD, List.getElem?_eq_getElem h]
  rfl

theorem shifted_at (l : List UInt8) (n : Nat) (first : Bool) (hn : n ≤ 200) (hl : l.length ≤ 2147483647) (d : Nat) : ∀ (k i : Nat) (acc : List UInt8), i ≤ l.length → l.length - i = d → d + 1000 < k → acc.length ≤ i * 201 →
    spec_Shifted.l0 k (B l) (n : Int) first (ints acc) (i : Int) = some (B (acc ++ shift (spc n) (flag l first i) (l.drop i))) := by
  induction d with
  | zero =>
    intro k i acc h0 h1 hk _
    obtain ⟨k, rfl⟩ : ∃ m, k = m + 1 := ⟨k - 1, by omega⟩
    simp only [spec_Shifted.l0]
    rw [B_size, if_neg (by omega), List.drop_of_length_le (by omega), str_ints]
    simp [shift]
  | succ d ih =>
    intro k i acc h0 h1 hk hacc
    obtain ⟨k, rfl⟩ : ∃ m, k = m + 1 := ⟨k - 1, by omega⟩
    have hi : i < l.length := by omega
    have hs := scSpaces_eq n (by omega) k (by omega)
    have hsl := spc_length n
    have e1 : wrap64 ((i : Int) + 1) = ((i + 1 : Nat) : Int) := by rw [wrap_id (by omega) (by omega)]; omega
    have no : flag l first i = false → (if 0 ≤ (i : Int) then (if (ints acc).length < 140737488355328 then (spec_Shifted.l0 k (B l) (n : Int) first (ints acc ++ [bt (B l) (i : Int)]) (wrap64 ((i : Int) + 1))) else none) else none) = some (B (acc ++ shift (spc n) (flag l first i) (l.drop i))) := by
      intro hf
      rw [if_pos (by omega), if_pos (by rw [ints_length]; omega), bt_B l i hi, e1, show ([(l[i].toNat : Int)] : List Int) = ints [l[i]] from rfl, ← ints_append]
      rw [ih k (i + 1) _ (by omega) (by omega) (by omega) (by rw [List.length_append]; simp; omega), flag_succ l first i hi, hf]
      rw [List.drop_eq_getElem_cons hi, shift]
      simp
    have yes : flag l first i = true → ((spec_scSpaces.f k (n : Int)).bind fun t142 => (if (ints acc).length + t142.size < 140737488355328 then ((some (ints acc ++ bytesOf t142 : List Int)).bind fun y143 => (if 0 ≤ (i : Int) then (if y143.length < 140737488355328 then (spec_Shifted.l0 k (B l) (n : Int) first (y143 ++ [bt (B l) (i : Int)]) (wrap64 ((i : Int) + 1))) else none) else none)) else none)) = some (B (acc ++ shift (spc n) (flag l first i) (l.drop i))) := by
      intro hf
      rw [hs]
      simp only [Option.bind_some]
      rw [if_pos (by rw [ints_length, B_size]; omega), if_pos (by omega), bytesOf_B, ← ints_append, if_pos (by rw [ints_length, List.length_append]; omega), bt_B l i hi, e1, show ([(l[i].toNat : Int)] : List Int) = ints [l[i]] from rfl, ← ints_append]
      rw [ih k (i + 1) _ (by omega) (by omega) (by omega) (by rw [List.length_append, List.length_append]; simp; omega), flag_succ l first i hi, hf]
      rw [List.drop_eq_getElem_cons hi, shift]
      simp
    simp only [spec_Shifted.l0]
    rw [B_size, if_pos (by omega)]
    by_cases hi0 : i = 0
    · subst hi0
      rw [if_pos (by rfl)]
      cases first with
      | true =>
        rw [if_pos rfl, if_neg (by omega)]
        exact no rfl
      | false =>
        rw [if_neg (by simp)]
        exact yes rfl
    · have hb : wrap64 ((i : Int) - 1) = ((i - 1 : Nat) : Int) := by rw [wrap_id (by omega) (by omega)]; omega
      rw [if_neg (by omega), if_pos (by omega), hb, if_pos (by omega), if_pos (by omega), bt_B l (i - 1) (by omega)]
      have hfl : flag l first i = decide (l[i - 1] = 10) := by
        have h := flag_succ l first (i - 1) (by omega)
        rw [show i - 1 + 1 = i from by omega] at h
        exact h
      by_cases hc : l[i - 1] = 10
      · rw [if_pos (by rw [hc]; rfl)]
        exact yes (by rw [hfl]; exact decide_eq_true hc)
      · rw [if_neg (fun h => hc (UInt8.toNat_inj.1 (by have h' := h; simp; omega)))]
        exact no (by rw [hfl]; exact decide_eq_false hc)

theorem shifted_eq (l : List UInt8) (n : Nat) (first : Bool) (hn : n ≤ 200) (hl : l.length ≤ 2147483647) (k : Nat) (hk : l.length + 1000 < k) :
    spec_Shifted.f k (B l) (n : Int) first = some (B (shift (spc n) (!first) l)) := by
  unfold spec_Shifted.f
  have h := shifted_at l n first hn hl l.length k 0 [] (by omega) (by omega) hk (by simp)
  simpa [flag, ints] using h

end Go.Proofs.Ytpimdceafnhmlaa.Ind
