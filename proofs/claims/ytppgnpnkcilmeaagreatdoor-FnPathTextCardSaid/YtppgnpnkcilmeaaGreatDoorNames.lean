/-
  PLAIN LAW: what trName makes of a text: at most nine bytes, the first an x, each a letter, a digit, _ or -.
-/
import Derived.Test.YtppgnpnkcilmeaaGreatDoorPFnPathTextx2
import Derived.Test.YtppgnpnkcilmeaaGreatDoorStr
namespace Go.Proofs.YtppgnpnkcilmeaaGreatDoor.Names
open Go.RowKit Go.Proofs.YtppgnpnkcilmeaaGreatDoor.PFnPathText Go.Proofs.YtppgnpnkcilmeaaGreatDoorW.PrintWords Go.Proofs.YtppgnpnkcilmeaaGreatDoorW.PrintLast
open Go.Proofs.YtppgnpnkcilmeaaGreatDoor.Str

/-- A letter, a digit, _ or -. -/
def okc (c : Int) : Prop := (97 ≤ c ∧ c ≤ 122) ∨ (65 ≤ c ∧ c ≤ 90) ∨ (48 ≤ c ∧ c ≤ 57) ∨ c = 95 ∨ c = 45
instance (c : Int) : Decidable (okc c) := by unfold okc; exact inferInstance

theorem j1_eq (k : Nat) (x0 : ByteArray) (x3 : List Int) (i : Int) (h0 : 0 ≤ i) (h1 : i < (x0.size : Int)) (hl : x3.length < 140737488355328) :
    laws_trName.j1 (k + 1) x0 x3 i true = if okc (bt x0 i) then laws_trName.l0 k x0 (x3 ++ [bt x0 i]) (wrap64 (i + 1)) else laws_trName.l0 k x0 x3 (wrap64 (i + 1)) := by
  simp only [laws_trName.j1, if_true, if_pos h0, if_pos h1, if_pos hl]
  generalize laws_trName.l0 k x0 (x3 ++ [bt x0 i]) (wrap64 (i + 1)) = A
  generalize laws_trName.l0 k x0 x3 (wrap64 (i + 1)) = C
  generalize bt x0 i = c
  by_cases hk : okc c
  · rw [if_pos hk]
    unfold okc at hk
    repeat' split
    all_goals first | rfl | (exfalso; omega)
  · rw [if_neg hk]
    unfold okc at hk
    repeat' split
    all_goals first | rfl | (exfalso; omega)

/-- A name: x, then at most eight letters, digits, _ and -. -/
structure IsName (l : List UInt8) : Prop where
  head : ∃ t, l = 120 :: t
  len : l.length ≤ 9
  all : ∀ c ∈ l, okc (c.toNat : Int)

theorem trName_at (l : List UInt8) (hl : l.length ≤ 9223372036854775805) (d : Nat) : ∀ (k i : Nat) (acc : List UInt8), i ≤ l.length → l.length - i = d → 2 * d + 1 < k → IsName acc →
    ∃ r, laws_trName.l0 k (B l) (ints acc) (i : Int) = some (B r) ∧ IsName r := by
  induction d with
  | zero =>
    intro k i acc h0 h1 hk ha
    obtain ⟨k, rfl⟩ : ∃ m, k = m + 2 := ⟨k - 2, by omega⟩
    refine ⟨acc, ?_, ha⟩
    simp only [laws_trName.l0]
    rw [B_size, if_neg (by omega), laws_trName.j1]
    simp only [Bool.false_eq_true, if_false]
    rw [str_ints]
  | succ d ih =>
    intro k i acc h0 h1 hk ha
    obtain ⟨k, rfl⟩ : ∃ m, k = m + 2 := ⟨k - 2, by omega⟩
    have hi : i < l.length := by omega
    have e1 : wrap64 ((i : Int) + 1) = ((i + 1 : Nat) : Int) := by rw [wrap_id (by omega) (by omega)]; omega
    rw [laws_trName.l0, B_size, if_pos (by omega), ints_length]
    by_cases h9 : acc.length < 9
    · rw [show decide ((acc.length : Int) < 9) = true from decide_eq_true (by omega), j1_eq _ _ _ _ (by omega) (by rw [B_size]; omega) (by rw [ints_length]; omega), bt_B l i hi, e1]
      by_cases hc : okc (l[i].toNat : Int)
      · rw [if_pos hc, show ([(l[i].toNat : Int)] : List Int) = ints [l[i]] from rfl, ← ints_append]
        refine ih k (i + 1) _ (by omega) (by omega) (by omega) ⟨?_, by rw [List.length_append]; simp; omega, ?_⟩
        · obtain ⟨t, rfl⟩ := ha.head
          exact ⟨t ++ [l[i]], rfl⟩
        · intro c hm
          rcases List.mem_append.1 hm with hm | hm
          · exact ha.all c hm
          · rw [List.mem_singleton.1 hm]; exact hc
      · rw [if_neg hc]
        exact ih k (i + 1) acc (by omega) (by omega) (by omega) ha
    · refine ⟨acc, ?_, ha⟩
      rw [show decide ((acc.length : Int) < 9) = false from decide_eq_false (by omega), laws_trName.j1]
      simp only [Bool.false_eq_true, if_false]
      rw [str_ints]

theorem trName_eq (s : ByteArray) (hs : s.size ≤ 9223372036854775805) : ∃ k r, laws_trName.f k s = some (B r) ∧ IsName r := by
  obtain ⟨l, rfl⟩ : ∃ l, s = B l := ⟨_, eq_B s⟩
  rw [B_size] at hs
  obtain ⟨r, h, hr⟩ := trName_at l hs l.length (2 * l.length + 2) 0 [120] (by omega) (by omega) (by omega) ⟨⟨[], rfl⟩, by simp, by intro c hc; rw [List.mem_singleton.1 hc]; decide⟩
  refine ⟨2 * l.length + 2, r, ?_, hr⟩
  unfold laws_trName.f
  exact h

end Go.Proofs.YtppgnpnkcilmeaaGreatDoor.Names
