/-
  PLAIN LAW: what trSteps makes of a list: at most eight steps, each a good one.
-/
import Derived.Test.YtppgnpnkcilmeaaGreatDoorNames
import Derived.Test.YtppgnpnkcilmeaaGreatDoorTrs
import Derived.Test.YtppgnpnkcilmeaaGreatDoorPof
import Derived.Test.YtppgnpnkcilmeaaGreatDoorPlo
namespace Go.Proofs.YtppgnpnkcilmeaaGreatDoor.Pth
open Go.RowKit Go.Proofs.YtppgnpnkcilmeaaGreatDoorW.PrintWords Go.Proofs.YtppgnpnkcilmeaaGreatDoorW.PrintLast
open Go.Proofs.YtppgnpnkcilmeaaGreatDoor.Str Go.Proofs.YtppgnpnkcilmeaaGreatDoor.PFnPathText Go.Proofs.YtppgnpnkcilmeaaGreatDoor.Trs
set_option linter.unusedVariables false

def GoodS (x : S34) : Prop := OkS x ∧ (toStp x).good
theorem name_mono {k k' : Nat} (h : k ≤ k') (s r : ByteArray) (e : laws_trName.f k s = some r) : laws_trName.f k' s = some r := by
  induction h with
  | refl => exact e
  | step _ ih => exact laws_trName.mono _ _ _ ih
theorem nameC_of {n : List UInt8} (h : Names.IsName n) : NameC n := by
  refine { ne := by obtain ⟨t, rfl⟩ := h.head; simp, len := h.len, chr := fun c hc => ?_ }
  have := h.all c hc
  unfold Names.okc at this
  unfold okc
  omega

theorem good_name (z : Int) (hz : z = 0 ∨ z = 3) (n : List UInt8) (h : Names.IsName n) : GoodS ⟨z, B n, 0⟩ := by
  have hs : (B n).size ≤ 9 := by rw [B_size]; exact h.len
  refine ⟨⟨by simp only; omega, hs, by simp, by simp⟩, ?_⟩
  rcases hz with rfl | rfl
  · show NameC (B n).data.toList
    rw [B_data]; exact nameC_of h
  · show NameC (B n).data.toList
    rw [B_data]; exact nameC_of h
theorem good_num (z : Int) (hz : z = 1 ∨ z = 2) (i : Int) (h0 : 0 ≤ i) (h1 : i < 1000000) : GoodS ⟨z, ⟨#[]⟩, i⟩ := by
  refine ⟨⟨by simp only; omega, by simp only; decide, h0, h1⟩, ?_⟩
  rcases hz with rfl | rfl
  · show i.toNat < 1000000
    omega
  · trivial

theorem steps_at (xs : List S34) (K : Nat) (hK : ∀ x ∈ xs, 0 ≤ x.f2 ∧ ∃ r, laws_trName.f K x.f1 = some (B r) ∧ Names.IsName r) (hx : xs.length ≤ 4294967296) (d : Nat) :
    ∀ (k : Nat) (acc : List S34), acc.length ≤ xs.length → xs.length - acc.length = d → K + 2 * d + 2 < k → acc.length ≤ 8 → (∀ x ∈ acc, GoodS x) →
    ∃ r, laws_trSteps.l0 k xs acc (acc.length : Int) = some r ∧ r.length ≤ 8 ∧ ∀ x ∈ r, GoodS x := by
  induction d with
  | zero =>
    intro k acc h1 h2 h3 h4 h5
    obtain ⟨k, rfl⟩ : ∃ m, k = m + 2 := ⟨k - 2, by omega⟩
    refine ⟨acc, ?_, h4, h5⟩
    rw [laws_trSteps.l0, if_neg (by omega), laws_trSteps.j1]
    simp
  | succ d ih =>
    intro k acc h1 h2 h3 h4 h5
    obtain ⟨k, rfl⟩ : ∃ m, k = m + 2 := ⟨k - 2, by omega⟩
    rw [laws_trSteps.l0, if_pos (by omega)]
    by_cases h8 : acc.length < 8
    · have hlt : acc.length < xs.length := by omega
      obtain ⟨hf2, n, hn, hname⟩ := hK _ (List.getElem_mem hlt)
      have hrd : rd_T34 xs (acc.length : Int) = xs[acc.length] := by
        unfold rd_T34
        rw [show ((acc.length : Int)).toNat = acc.length by omega, List.getD_eq_getElem?_getD, List.getElem?_eq_getElem hlt]
        rfl
      have hn2 := name_mono (show K ≤ k by omega) _ _ hn
      rw [decide_eq_true (by omega), laws_trSteps.j1, if_pos rfl, if_pos (by omega), if_pos (by omega), hrd, hn2, Option.bind_some]
      generalize xs[acc.length] = x at *
      have hw : wrap64 (Int.tmod (IntKind.u64.wrap x.f0) 4) = 0 ∨ wrap64 (Int.tmod (IntKind.u64.wrap x.f0) 4) = 1 ∨ wrap64 (Int.tmod (IntKind.u64.wrap x.f0) 4) = 2 ∨ wrap64 (Int.tmod (IntKind.u64.wrap x.f0) 4) = 3 := by
        have h0 : 0 ≤ IntKind.u64.wrap x.f0 := by rw [IntKind.wrap_u64]; omega
        rw [Int.tmod_eq_emod_of_nonneg h0]
        unfold wrap64
        omega
      generalize wrap64 (Int.tmod (IntKind.u64.wrap x.f0) 4) = z at *
      have ht : 0 ≤ Int.tmod x.f2 1000000 ∧ Int.tmod x.f2 1000000 < 1000000 := by
        rw [Int.tmod_eq_emod_of_nonneg hf2]
        omega
      have hwr : wrap64 ((acc.length : Int) + 1) = ((acc.length + 1 : Nat) : Int) := by rw [wrap_id (by omega) (by omega)]; omega
      have fin : ∀ y, GoodS y → ∃ r, laws_trSteps.l0 k xs (acc ++ [y]) ((acc.length + 1 : Nat) : Int) = some r ∧ r.length ≤ 8 ∧ ∀ x ∈ r, GoodS x := by
        intro y hy
        have := ih k (acc ++ [y]) (by simp; omega) (by simp; omega) (by omega) (by simp; omega) (by
          intro x hx
          rcases List.mem_append.1 hx with hx | hx
          · exact h5 x hx
          · rw [List.mem_singleton] at hx; subst hx; exact hy)
        simpa using this
      rw [hwr]
      by_cases hz1 : z = 1
      · rw [if_pos hz1, if_pos (by omega)]
        exact fin _ (good_num z (by omega) _ ht.1 ht.2)
      · rw [if_neg hz1]
        by_cases hz2 : z = 2
        · rw [if_pos hz2, if_pos (by omega)]
          exact fin _ (good_num z (by omega) _ ht.1 ht.2)
        · rw [if_neg hz2, if_pos (by omega)]
          exact fin _ (good_name z (by omega) n hname)
    · refine ⟨acc, ?_, h4, h5⟩
      rw [decide_eq_false (by omega), laws_trSteps.j1]
      simp

theorem steps_eq (xs : List S34) (hx : xs.length ≤ 4294967296) (h : ∀ x ∈ xs, 0 ≤ x.f2 ∧ x.f1.size ≤ 9223372036854775805) : ∃ k r, laws_trSteps.f k xs = some r ∧ r.length ≤ 8 ∧ ∀ x ∈ r, GoodS x := by
  have hK : ∃ K, ∀ x ∈ xs, 0 ≤ x.f2 ∧ ∃ r, laws_trName.f K x.f1 = some (B r) ∧ Names.IsName r := by
    clear hx
    induction xs with
    | nil => exact ⟨0, fun x hx => by cases hx⟩
    | cons y ys ih =>
      obtain ⟨K, hK⟩ := ih (fun x hx => h x (List.mem_cons_of_mem _ hx))
      obtain ⟨h1, h2⟩ := h y List.mem_cons_self
      obtain ⟨k, r, hr, hi⟩ := Names.trName_eq y.f1 h2
      refine ⟨max K k, fun x hx => ?_⟩
      rcases List.mem_cons.1 hx with rfl | hx
      · exact ⟨h1, r, name_mono (by omega) _ _ hr, hi⟩
      · obtain ⟨g1, r', g2, g3⟩ := hK x hx
        exact ⟨g1, r', name_mono (by omega) _ _ g2, g3⟩
  obtain ⟨K, hK⟩ := hK
  obtain ⟨r, hr, h8, hg⟩ := steps_at xs K hK hx xs.length (K + 2 * xs.length + 3) [] (by simp) (by simp) (by omega) (by simp) (fun x hx => by cases hx)
  exact ⟨_, r, hr, h8, hg⟩
end Go.Proofs.YtppgnpnkcilmeaaGreatDoor.Pth
