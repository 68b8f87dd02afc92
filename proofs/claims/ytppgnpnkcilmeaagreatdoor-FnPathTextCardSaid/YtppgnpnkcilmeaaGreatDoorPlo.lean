/-
  PLAIN: a path's text holds its steps, one behind the other ('PathAt'); a number's digits are read as this number. No program in sight.
-/
/-
  PLAIN: a path's text holds its steps, one behind the other ('PathAt').
-/
import Derived.Test.YtppgnpnkcilmeaaGreatDoorPsg
import Derived.Test.YtppgnpnkcilmeaaGreatDoorTxtB
namespace Go.Proofs.YtppgnpnkcilmeaaGreatDoor.Pth
open Go.RowKit Go.Proofs.YtppgnpnkcilmeaaGreatDoor.Str
set_option linter.unusedVariables false

theorem uint_dec (M : Nat) (hM : 1000000 ≤ M) : ∀ (f i : Nat), i < f → i < 1000000 → ∀ t, Lib.parseUintM M 0 (Lib.decDigits i ++ t) = Lib.parseUintM M i t
  | 0, i, h, _, _ => absurd h (by omega)
  | f + 1, i, hf, hi, t => by
    have key : ∀ (a d : Nat), d < 10 → a < 100000 → ∀ t, Lib.parseUintM M a (UInt8.ofNat (48 + d) :: t) = Lib.parseUintM M (a * 10 + d) t := by
      intro a d hd ha t
      have hn : (UInt8.ofNat (48 + d)).toNat = 48 + d := by simp; omega
      rw [Lib.parseUintM, hn, if_pos (by omega), if_neg (by omega), show 48 + d - 48 = d by omega, if_neg (by omega)]
    by_cases h : i < 10
    · rw [Lib.decDigits, dif_pos h, List.singleton_append, key 0 i h (by omega)]
      simp
    · rw [Lib.decDigits, dif_neg h, List.append_assoc, List.singleton_append, uint_dec M hM f (i / 10) (by omega) (by omega), key (i / 10) (i % 10) (by omega) (by omega)]
      rw [show i / 10 * 10 + i % 10 = i by omega]

theorem dec_digs : ∀ (f i : Nat), i < f → i < 1000000 → ∀ c ∈ Lib.decDigits i, 48 ≤ c.toNat ∧ c.toNat ≤ 57
  | 0, i, h, _, _, _ => absurd h (by omega)
  | f + 1, i, hf, hi, c, hc => by
    by_cases h : i < 10
    · rw [Lib.decDigits, dif_pos h] at hc
      rw [List.mem_singleton] at hc
      subst hc
      simp; omega
    · rw [Lib.decDigits, dif_neg h] at hc
      rcases List.mem_append.1 hc with hc | hc
      · exact dec_digs f (i / 10) (by omega) (by omega) c hc
      · rw [List.mem_singleton] at hc
        subst hc
        simp; omega
theorem dec_ne (i : Nat) (hi : i < 1000000) : Lib.decDigits i ≠ [] := by
  intro h
  have := Lib.decDigits_length i
  rw [h] at this
  have := Lib.nDigits_pos i
  simp at *
  omega

theorem parse_dec (i : Nat) (hi : i < 1000000) : Lib.parseIntB 64 (Lib.decDigits i) = .ok (i : Int) := by
  have hne := dec_ne i hi
  have hu := uint_dec (2 ^ 64 - 1) (by decide) (i + 1) i (by omega) hi []
  rw [List.append_nil] at hu
  have hd := dec_digs (i + 1) i (by omega) hi
  cases hl : Lib.decDigits i with
  | nil => exact absurd hl hne
  | cons c r =>
    rw [hl] at hu hd
    have hc := hd c List.mem_cons_self
    unfold Lib.parseIntB
    simp only
    rw [if_neg (by omega)]
    have hB : Lib.parseUintB 64 (c :: r) = .ok i := by
      unfold Lib.parseUintB
      rw [if_neg (by simp), hu]
      rfl
    rw [hB]
    simp only
    rw [if_neg (by omega), if_neg (by omega), if_neg (by omega)]
end Go.Proofs.YtppgnpnkcilmeaaGreatDoor.Pth

namespace Go.Proofs.YtppgnpnkcilmeaaGreatDoor.Pth
open Go.RowKit Go.Proofs.YtppgnpnkcilmeaaGreatDoor.Str
set_option linter.unusedVariables false

/-- A character of a name. -/
def okc (c : UInt8) : Prop := (97 ≤ c.toNat ∧ c.toNat ≤ 122) ∨ (65 ≤ c.toNat ∧ c.toNat ≤ 90) ∨ (48 ≤ c.toNat ∧ c.toNat ≤ 57) ∨ c.toNat = 95 ∨ c.toNat = 45
structure NameC (n : List UInt8) : Prop where
  ne : n ≠ []
  len : n.length ≤ 9
  chr : ∀ c ∈ n, okc c
def Stp.good : Stp → Prop
  | .key n => NameC n
  | .idx i => i < 1000000
  | .all => True
  | .deep n => NameC n

theorem NameC.plain {n : List UInt8} (h : NameC n) : Plain n := by
  have hn : ∀ c : UInt8, ¬ okc c → c ∉ n := fun c hc hm => hc (h.chr c hm)
  refine { dot := hn 46 (by simp [okc]), star := hn 42 (by simp [okc]), quote := ?_, len := by have := h.len; omega }
  cases hh : n with
  | nil => rfl
  | cons c t =>
    have hc : okc c := h.chr c (by rw [hh]; exact List.mem_cons_self)
    have hne : c ≠ 39 := by rintro rfl; simp [okc] at hc
    show (((39 : UInt8) == c) && List.isPrefixOf [] t) = false
    rw [show ((39 : UInt8) == c) = false from beq_eq_false_iff_ne.2 (Ne.symm hne)]
    rfl
theorem Stp.good_ok {s : Stp} (h : s.good) : s.ok := by
  cases s with
  | key n => exact h.plain
  | idx i => exact h
  | all => trivial
  | deep n => exact h.plain
theorem tx_ascii (s : Stp) (h : s.good) : ∀ c ∈ s.tx, c.toNat < 128 := by
  have hn : ∀ {n : List UInt8}, NameC n → ∀ c ∈ n, c.toNat < 128 := fun hn c hc => by
    have := hn.chr c hc
    unfold okc at this
    omega
  intro c hc
  cases s with
  | key n =>
    rcases List.mem_cons.1 hc with rfl | hc
    · decide
    · exact hn h c hc
  | idx i =>
    rcases List.mem_cons.1 hc with rfl | hc
    · decide
    · rcases List.mem_append.1 hc with hc | hc
      · have := dec_digs (i + 1) i (by omega) h c hc; omega
      · rw [List.mem_singleton] at hc; subst hc; decide
  | all =>
    simp [Stp.tx] at hc
    rcases hc with rfl | rfl | rfl <;> decide
  | deep n =>
    rcases List.mem_cons.1 hc with rfl | hc
    · decide
    · rcases List.mem_cons.1 hc with rfl | hc
      · decide
      · exact hn h c hc

theorem ch_pre (pre t : List UInt8) (j : Nat) : ch (pre ++ t) (pre.length + j) = ch t j := by
  unfold ch
  rw [List.getD_eq_getElem?_getD, List.getD_eq_getElem?_getD, List.getElem?_append_right (by omega), Nat.add_sub_cancel_left]
theorem drop_pre (pre t : List UInt8) (j : Nat) : (pre ++ t).drop (pre.length + j) = t.drop j := by
  rw [List.drop_append]
  simp
theorem ch_mem (n t : List UInt8) (j : Nat) (h : j < n.length) : ∃ c ∈ n, ch (n ++ t) j = (c.toNat : Int) := by
  refine ⟨n[j], List.getElem_mem h, ?_⟩
  unfold ch
  rw [List.getD_eq_getElem?_getD, List.getElem?_append_left h, List.getElem?_eq_getElem h]
  rfl
theorem okc_ne {c : UInt8} (h : okc c) : (c.toNat : Int) ≠ 36 ∧ (c.toNat : Int) ≠ 42 ∧ (c.toNat : Int) ≠ 46 ∧ (c.toNat : Int) ≠ 91 ∧ (c.toNat : Int) ≠ 93 ∧ (c.toNat : Int) ≠ 39 := by
  unfold okc at h
  omega

/-- Behind a step: nothing, a point or a bracket. -/
def Rest (r : List UInt8) : Prop := r = [] ∨ ch r 0 = 46 ∨ ch r 0 = 91

theorem name_at (pre n rest : List UInt8) (hn : NameC n) (hr : Rest rest) : NameAt (pre ++ (n ++ rest)) pre.length (pre.length + n.length) := by
  have hpos : 0 < n.length := List.length_pos_iff.2 hn.ne
  refine { lt := by omega, le := by simp, plain := ?_, stop := ?_ }
  · intro j h1 h2
    obtain ⟨i, rfl⟩ : ∃ i, j = pre.length + i := ⟨j - pre.length, by omega⟩
    rw [ch_pre]
    obtain ⟨c, hc, e⟩ := ch_mem n rest i (by omega)
    rw [e]
    exact okc_ne (hn.chr c hc)
  · intro h
    have hlt : 0 < rest.length := by simp at h; first | omega | exact h | exact List.length_pos_iff.2 h
    rw [ch_pre]
    have e : ch (n ++ rest) n.length = ch rest 0 := by
      have := ch_pre n rest 0
      simpa using this
    rw [e]
    rcases hr with rfl | hr
    · simp at hlt
    · exact hr

theorem step_at (pre rest : List UInt8) (s : Stp) (hg : s.good) (hr : Rest rest) : StepAt (pre ++ (s.tx ++ rest)) pre.length s (pre.length + s.tx.length) := by
  cases s with
  | key n =>
    have e : pre ++ (Stp.tx (.key n) ++ rest) = (pre ++ [46]) ++ (n ++ rest) := by simp [Stp.tx]
    have h1 : ch (pre ++ (Stp.tx (.key n) ++ rest)) pre.length = 46 := (ch_pre pre (Stp.tx (.key n) ++ rest) 0).trans rfl
    have hN := name_at (pre ++ [46]) n rest hg hr
    rw [← e] at hN
    have hlen : (pre ++ [46]).length = pre.length + 1 := by simp
    rw [hlen] at hN
    have hb : pre.length + (Stp.tx (.key n)).length = pre.length + 1 + n.length := by simp [Stp.tx]; omega
    rw [hb]
    refine .key n _ h1 hN ?_
    rw [Nat.add_sub_cancel_left, e]
    have := drop_pre (pre ++ [46]) (n ++ rest) 0
    rw [hlen] at this
    rw [show pre.length + 1 = pre.length + 1 + 0 from rfl, this]
    simp
  | deep n =>
    have e : pre ++ (Stp.tx (.deep n) ++ rest) = (pre ++ [46, 46]) ++ (n ++ rest) := by simp [Stp.tx]
    have h1 : ch (pre ++ (Stp.tx (.deep n) ++ rest)) pre.length = 46 := (ch_pre pre (Stp.tx (.deep n) ++ rest) 0).trans rfl
    have h2 : ch (pre ++ (Stp.tx (.deep n) ++ rest)) (pre.length + 1) = 46 := by
      rw [ch_pre]; rfl
    have hN := name_at (pre ++ [46, 46]) n rest hg hr
    rw [← e] at hN
    have hlen : (pre ++ [46, 46]).length = pre.length + 2 := by simp
    rw [hlen] at hN
    have hb : pre.length + (Stp.tx (.deep n)).length = pre.length + 2 + n.length := by simp [Stp.tx]; omega
    rw [hb]
    refine .deep n _ h1 h2 hN ?_
    rw [Nat.add_sub_cancel_left, e]
    have := drop_pre (pre ++ [46, 46]) (n ++ rest) 0
    rw [hlen] at this
    rw [show pre.length + 2 = pre.length + 2 + 0 from rfl, this]
    simp
  | idx i =>
    have hdl : 0 < (Lib.decDigits i).length := List.length_pos_iff.2 (dec_ne i hg)
    have h1 : ch (pre ++ (Stp.tx (.idx i) ++ rest)) pre.length = 91 := (ch_pre pre (Stp.tx (.idx i) ++ rest) 0).trans rfl
    have hch : ∀ j, j < (Lib.decDigits i).length → dig (ch (pre ++ (Stp.tx (.idx i) ++ rest)) (pre.length + 1 + j)) := by
      intro j hj
      rw [Nat.add_assoc, ch_pre]
      have e : ch (Stp.tx (.idx i) ++ rest) (1 + j) = ch (Lib.decDigits i ++ ([93] ++ rest)) j := by
        have := ch_pre [91] (Lib.decDigits i ++ ([93] ++ rest)) j
        simpa [Stp.tx] using this
      rw [e]
      obtain ⟨c, hc, e2⟩ := ch_mem (Lib.decDigits i) ([93] ++ rest) j hj
      rw [e2]
      have := dec_digs (i + 1) i (by omega) hg c hc
      unfold dig
      omega
    have hb : pre.length + (Stp.tx (.idx i)).length = (pre.length + 1 + (Lib.decDigits i).length) + 1 := by simp [Stp.tx]; omega
    have ht : ((pre ++ (Stp.tx (.idx i) ++ rest)).drop (pre.length + 1)).take (pre.length + 1 + (Lib.decDigits i).length - (pre.length + 1)) = Lib.decDigits i := by
      rw [Nat.add_sub_cancel_left, drop_pre]
      simp [Stp.tx]
    rw [hb]
    refine .idx i _ h1 { le := by omega, lt := by simp [Stp.tx]; omega, digs := ?_, stop := ?_ } hg ?_ ?_ ?_
    · intro j h2 h3
      have := hch (j - (pre.length + 1)) (by omega)
      rwa [show pre.length + 1 + (j - (pre.length + 1)) = j by omega] at this
    · rw [Nat.add_assoc, ch_pre]
      have e : ch (Stp.tx (.idx i) ++ rest) (1 + (Lib.decDigits i).length) = ch ([93] ++ rest) 0 := by
        have := ch_pre (91 :: Lib.decDigits i) ([93] ++ rest) 0
        simpa [Stp.tx, Nat.add_comm] using this
      rw [e]
      rfl
    · exact hch 0 hdl
    · rw [ht]; exact parse_dec i hg
    · rw [ht]
      refine beq_eq_false_iff_ne.2 fun h => ?_
      have := dec_digs (i + 1) i (by omega) hg 42 (by rw [h]; simp)
      simp at this
  | all =>
    have h1 : ch (pre ++ (Stp.tx .all ++ rest)) pre.length = 91 := (ch_pre pre (Stp.tx .all ++ rest) 0).trans rfl
    refine .all h1 (by rw [ch_pre]; rfl) { le := Nat.le_refl _, lt := by simp [Stp.tx], digs := fun j h2 h3 => by omega, stop := by rw [ch_pre]; rfl } ?_
    rw [drop_pre]
    simp [Stp.tx]

theorem rest_ptx (ss : List Stp) : Rest (ptx ss) := by
  cases ss with
  | nil => exact .inl rfl
  | cons s ss => cases s <;> first | exact .inr (.inl rfl) | exact .inr (.inr rfl)

theorem ptx_append (a b : List Stp) : ptx (a ++ b) = ptx a ++ ptx b := List.flatMap_append
theorem path_at (ss : List Stp) (hg : ∀ s ∈ ss, s.good) : PathAt (36 :: ptx ss) ss (fun k => 1 + (ptx (ss.take k)).length) := by
  have hsplit : ∀ k (h : k < ss.length), ptx ss = ptx (ss.take k) ++ (ss[k].tx ++ ptx (ss.drop (k + 1))) := by
    intro k h
    have e : ss = ss.take k ++ (ss[k] :: ss.drop (k + 1)) := by rw [← List.drop_eq_getElem_cons h, List.take_append_drop]
    have e2 := congrArg ptx e
    rw [ptx_append] at e2
    exact e2
  have hnext : ∀ k (h : k < ss.length), (ptx (ss.take (k + 1))).length = (ptx (ss.take k)).length + ss[k].tx.length := by
    intro k h
    rw [List.take_succ_eq_append_getElem h, ptx_append, List.length_append]
    rw [show ptx [ss[k]] = ss[k].tx by simp [ptx]]
  have htx : ∀ s : Stp, 0 < s.tx.length := by intro s; cases s <;> simp [Stp.tx]
  refine { dollar := rfl, p0 := by simp [ptx], pn := by simp; omega, mono := ?_, step := ?_ }
  · intro k h
    have h1 := hnext k h
    have h2 := hsplit k h
    have h3 := htx ss[k]
    have h4 := congrArg List.length h2
    simp only [List.length_append, List.length_cons] at h4 ⊢
    omega
  · intro k h
    have hs := step_at (36 :: ptx (ss.take k)) (ptx (ss.drop (k + 1))) ss[k] (hg _ (List.getElem_mem h)) (rest_ptx _)
    have h1 := hnext k h
    have e : (36 :: ptx (ss.take k)) ++ (ss[k].tx ++ ptx (ss.drop (k + 1))) = 36 :: ptx ss := by
      rw [List.cons_append, ← hsplit k h]
    rw [e] at hs
    have e1 : (36 :: ptx (ss.take k)).length = 1 + (ptx (ss.take k)).length := by simp; omega
    rw [e1] at hs
    show StepAt (36 :: ptx ss) (1 + (ptx (ss.take k)).length) ss[k] (1 + (ptx (ss.take (k + 1))).length)
    rw [h1, ← Nat.add_assoc]
    exact hs
theorem path_ascii (ss : List Stp) (hg : ∀ s ∈ ss, s.good) : ∀ c ∈ 36 :: ptx ss, c.toNat < 128 := by
  intro c hc
  rcases List.mem_cons.1 hc with rfl | hc
  · decide
  · obtain ⟨s, hs, hc⟩ := List.mem_flatMap.1 hc
    exact tx_ascii s (hg s hs) c hc
end Go.Proofs.YtppgnpnkcilmeaaGreatDoor.Pth
