/-
  THE WALKS of InvalidToken, index, Invalid.
-/
import Derived.Test.YtpimdceafnhmlaaInvB
import Derived.LaidEqlPtr
namespace Go.Proofs.Ytpimdceafnhmlaa.Inv
open Go.RowKit Go.Proofs.YtpimdceafnhmlaaW.PrintWords Go.Proofs.YtpimdceafnhmlaaW.PrintLast Go.Proofs.YtpimdceafnhmlaaW.PrintMore
open Go.Proofs.Ytpimdceafnhmlaa.Str Go.Proofs.Ytpimdceafnhmlaa.PFnPartInvalid

/-- Where the tokens' pointers lie. -/
def At (w : World) (g n : Nat) (B : Nat → Nat) (ks : List Int) : Prop :=
  ks.length = n ∧ ∀ (j : Nat) (k : Int), ks[j]? = some k → w.cell? ⟨g, j, none⟩ = some (.pointer (some ⟨B j, 0, none⟩)) ∧ w.cell? ⟨B j, 0, none⟩ = some (.int .i64 k) ∧ ∃ cs : Array Value, w.heap[B j]? = some (.cells cs 55 (0, 0))

theorem size55 : (Try.prog.info? 55).map (fun i => i.size) = some 9 := by kernel_rfl

theorem OutRow.at_ {w : World} {base : Nat} {v : Value} {ks : List Int} (h : OutRow w base v ks) : ∃ (A : Option Addr) (c : Nat) (g : Nat) (B : Nat → Nat), v = .slice A ks.length c ∧ (0 < ks.length → A = some ⟨g, 0, none⟩) ∧ At w g ks.length B ks := by
  obtain ⟨ps, ho, hp⟩ := h
  obtain ⟨A, c, hv⟩ := own_slice ho
  have hB : ∃ B : Nat → Nat, ∀ (j : Nat) (k : Int), ks[j]? = some k → ps[j]? = some (.pointer (some ⟨B j, 0, none⟩)) ∧ ∃ cs : Array Value, w.heap[B j]? = some (.cells cs 55 (0, 0)) ∧ cs[0]? = some (.int .i64 k) := by
    refine ⟨fun j => if h : j < ks.length then (hp j ks[j] (List.getElem?_eq_getElem h)).choose else 0, fun j k hj => ?_⟩
    have hlt : j < ks.length := (List.getElem?_eq_some_iff.1 hj).1
    have hk : ks[j] = k := by rw [List.getElem?_eq_getElem hlt] at hj; exact Option.some.inj hj
    simp only [dif_pos hlt]
    obtain ⟨cs, h1, _, h3, h4⟩ := (hp j ks[j] (List.getElem?_eq_getElem hlt)).choose_spec
    exact ⟨h1, cs, h3, by rw [h4, hk]⟩
  obtain ⟨B, hB⟩ := hB
  rcases ho.2 with ⟨rfl, h0⟩ | ⟨g, cap, cur, hv2, _, hh, hcap, _, hsz, htake⟩
  · injection hv with h1 h2 h3
    exact ⟨none, 0, 0, B, by rw [h0], fun h => by omega, rfl, fun j k hj => by
      have := (List.getElem?_eq_some_iff.1 hj).1
      omega⟩
  · refine ⟨some ⟨g, 0, none⟩, cap, g, B, hv2, fun _ => rfl, rfl, fun j k hj => ?_⟩
    obtain ⟨h1, cs, h2, h3⟩ := hB j k hj
    have hlt : j < ks.length := (List.getElem?_eq_some_iff.1 hj).1
    refine ⟨?_, by rw [blk_cell h2]; exact h3, cs, h2⟩
    rw [blk_cell hh]
    rw [← htake, List.getElem?_take] at h1
    rw [if_pos (by omega)] at h1
    simpa using h1

set_option maxRecDepth 100000 in
set_option maxHeartbeats 1000000 in
theorem inv_none (A : Option Addr) (c g : Nat) (B : Nat → Nat) (ks : List Int) (w : World) (hn : ks.length ≤ 1000) (hA : 0 < ks.length → A = some ⟨g, 0, none⟩) (h : At w g ks.length B ks) (hno : ∀ (j : Nat) (k : Int), ks[j]? = some k → k ≠ 33) :
    Calls Try.prog 24 #[.slice A ks.length c] w fun e w' => e = .returned (.pointer none) ∧ w = w' := by
  have HA := Lib.hid hA
  have HH := Lib.hid h
  have HN := Lib.hid hno
  clear hA h hno
  go_enter Try.func24, Try.ntmps24
  go_wp2_with fail
  go_loop [7] (fun i => ∃ k : Nat, k ≤ ks.length ∧ i = .int .i64 k) (fun i => ks.length - (intOf i).toNat)
  case atStart => exact ⟨0, Nat.zero_le _, rfl⟩
  case round =>
    obtain ⟨k, hk, rfl⟩ := hrel
    by_cases hlt : k < ks.length
    · have ha := HA.out (by omega)
      subst ha
      obtain ⟨h1, h2, _⟩ := HH.out.2 k ks[k] (List.getElem?_eq_getElem hlt)
      have h3 : (ks[k] == 33) = false := by simpa using HN.out k ks[k] (List.getElem?_eq_getElem hlt)
      go_wp2_with fail
      go_round
      case rel => exact ⟨k + 1, by omega, by go_num⟩
      case measure => simp [intOf]; omega
    · go_wp2_with fail
      go_ret
      exact ⟨rfl, rfl⟩

set_option maxRecDepth 100000 in
set_option maxHeartbeats 1000000 in
theorem inv_some (c g : Nat) (B : Nat → Nat) (ks : List Int) (i : Nat) (w : World) (hn : ks.length ≤ 1000) (h : At w g ks.length B ks) (hi : ks[i]? = some 33) (hno : ∀ (j : Nat) (k : Int), j < i → ks[j]? = some k → k ≠ 33) :
    Calls Try.prog 24 #[.slice (some ⟨g, 0, none⟩) ks.length c] w fun e w' => e = .returned (.pointer (some ⟨B i, 0, none⟩)) ∧ w = w' := by
  have hil : i < ks.length := (List.getElem?_eq_some_iff.1 hi).1
  have HH := Lib.hid h
  have HN := Lib.hid hno
  have HI := Lib.hid hi
  clear h hno hi
  go_enter Try.func24, Try.ntmps24
  go_wp2_with fail
  go_loop [7] (fun v => ∃ k : Nat, k ≤ i ∧ v = .int .i64 k) (fun v => ks.length - (intOf v).toNat)
  case atStart => exact ⟨0, Nat.zero_le _, rfl⟩
  case round =>
    obtain ⟨k, hk, rfl⟩ := hrel
    by_cases hlt : k < i
    · have hkl : k < ks.length := by omega
      obtain ⟨h1, h2, _⟩ := HH.out.2 k ks[k] (List.getElem?_eq_getElem hkl)
      have h3 : (ks[k] == 33) = false := by simpa using HN.out k ks[k] hlt (List.getElem?_eq_getElem hkl)
      go_wp2_with fail
      go_round
      case rel => exact ⟨k + 1, by omega, by go_num⟩
      case measure => simp [intOf]; omega
    · obtain rfl : k = i := by omega
      obtain ⟨h1, h2, _⟩ := HH.out.2 k 33 HI.out
      go_wp2_with fail
      go_ret
      exact ⟨rfl, rfl⟩

set_option maxRecDepth 100000 in
theorem index_none (A : Option Addr) (n c : Nat) (w : World) : Calls Try.prog 23 #[.slice A n c, .pointer none, .int .i64 0] w fun e w' => e = .returned (.int .i64 (-1)) ∧ w = w' := by
  go_enter Try.func23, Try.ntmps23
  go_wp2_with fail
  go_ret
  exact ⟨rfl, rfl⟩

set_option maxRecDepth 100000 in
set_option maxHeartbeats 1000000 in
theorem index_some (c g : Nat) (B : Nat → Nat) (ks : List Int) (i : Nat) (w : World) (hn : ks.length ≤ 1000) (h : At w g ks.length B ks) (hi : ks[i]? = some 33) (hno : ∀ (j : Nat) (k : Int), j < i → ks[j]? = some k → k ≠ 33) :
    Calls Try.prog 23 #[.slice (some ⟨g, 0, none⟩) ks.length c, .pointer (some ⟨B i, 0, none⟩), .int .i64 0] w fun e w' => e = .returned (.int .i64 i) ∧ w = w' := by
  have hil : i < ks.length := (List.getElem?_eq_some_iff.1 hi).1
  have HH := Lib.hid h
  have HN := Lib.hid hno
  have HI := Lib.hid hi
  have hne : ∀ k, k < i → ¬ B k = B i := by
    intro k hki e
    have h1 := (h.2 k ks[k] (List.getElem?_eq_getElem (by omega))).2.1
    have h2 := (h.2 i 33 hi).2.1
    rw [e, h2] at h1
    have h3 : ks[k] = 33 := by
      injection h1 with h1
      injection h1 with _ h1
      exact h1.symm
    exact hno k ks[k] hki (List.getElem?_eq_getElem (by omega)) h3
  obtain ⟨j0, hj0, hs0⟩ := Option.map_eq_some_iff.1 size55
  have same : (binOp .eql 46 (.pointer (some ⟨B i, 0, none⟩)) (.pointer (some ⟨B i, 0, none⟩))).run Try.prog w = .ok (.bool true) w := run_eql_ptr_same w _ Try.underlying46 hj0
  have other : ∀ k, k < i → (binOp .eql 46 (.pointer (some ⟨B k, 0, none⟩)) (.pointer (some ⟨B i, 0, none⟩))).run Try.prog w = .ok (.bool false) w := by
    intro k hki
    obtain ⟨ca, ha⟩ := (h.2 k ks[k] (List.getElem?_eq_getElem (by omega))).2.2
    obtain ⟨cb, hb⟩ := (h.2 i 33 hi).2.2
    exact run_eql_ptr_other w Try.underlying46 hj0 (by omega) (fun e => hne k hki (by injection e)) ha hb
  have HO := Lib.hid other
  clear h hno hi hne hj0 hs0 other
  by_cases h0 : i = 0
  · subst h0
    obtain ⟨h1, h2, _⟩ := HH.out.2 0 33 HI.out
    have hp : (0 : Int) < (ks.length : Int) := by omega
    go_enter Try.func23, Try.ntmps23
    go_wp2_with fail
    go_ret
    exact ⟨rfl, rfl⟩
  · have hp : (0 : Int) < (ks.length : Int) := by omega
    obtain ⟨h1, h2, _⟩ := HH.out.2 0 ks[0] (List.getElem?_eq_getElem (by omega))
    have hq := HO.out 0 (by omega)
    go_enter Try.func23, Try.ntmps23
    go_wp2_with fail
    go_loop [29] (fun v => ∃ k : Nat, k ≤ i ∧ v = .int .i64 k) (fun v => ks.length - (intOf v).toNat)
    case atStart => exact ⟨0, Nat.zero_le _, rfl⟩
    case round =>
      obtain ⟨k, hk, rfl⟩ := hrel
      by_cases hlt : k < i
      · have hkl : k < ks.length := by omega
        obtain ⟨h1, h2, _⟩ := HH.out.2 k ks[k] (List.getElem?_eq_getElem hkl)
        have hq := HO.out k hlt
        go_wp2_with fail
        go_round
        case rel => exact ⟨k + 1, by omega, by go_num⟩
        case measure => simp [intOf]; omega
      · obtain rfl : k = i := by omega
        obtain ⟨h1, h2, _⟩ := HH.out.2 k 33 HI.out
        go_wp2_with fail
        go_ret
        exact ⟨rfl, rfl⟩

end Go.Proofs.Ytpimdceafnhmlaa.Inv
