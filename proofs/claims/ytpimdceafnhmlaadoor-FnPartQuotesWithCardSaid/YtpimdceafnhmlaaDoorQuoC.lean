/-
  THE WALKS of ReadSingle and of FnPartQuotesWith.
-/
import Derived.Test.YtpimdceafnhmlaaDoorQuoB
namespace Go.Proofs.YtpimdceafnhmlaaDoor.Quo
open Go.RowKit Go.Proofs.YtpimdceafnhmlaaDoorW.PrintWords Go.Proofs.YtpimdceafnhmlaaDoorW.PrintLast Go.Proofs.YtpimdceafnhmlaaDoorW.PrintMore
open Go.Proofs.YtpimdceafnhmlaaDoor.Str Go.Proofs.YtpimdceafnhmlaaDoor.PFnPartQuotesWith

theorem db_snoc (l : List UInt8) (c : UInt8) : db (l ++ [c]) = db l ++ (if c = 39 then [39, 39] else [c]) := by simp [db]
theorem db_length (l : List UInt8) : (db l).length ≤ 2 * l.length := by
  have h := dq_length l
  rw [dq_db, ints_length] at h
  exact h
theorem db_append (a b : List UInt8) : db (a ++ b) = db a ++ db b := by simp [db]
theorem db_cons (c : UInt8) (t : List UInt8) : db (c :: t) = (if c = 39 then [39, 39] else [c]) ++ db t := rfl
theorem db_split (l : List UInt8) (j : Nat) (h : j < l.length) : db l = db (l.take j) ++ ((if l[j] = 39 then [39, 39] else [l[j]]) ++ db (l.drop (j + 1))) := by
  have e : l = l.take j ++ (l[j] :: l.drop (j + 1)) := by rw [← List.drop_eq_getElem_cons h, List.take_append_drop]
  have e2 : db l = db (l.take j ++ (l[j] :: l.drop (j + 1))) := congrArg db e
  rw [e2, db_append, db_cons]

theorem content_ascii (q : Int) (k : Nat) (h0 : 32 ≤ q) (h1 : q ≤ 126) : spec_scContent.f (k + 1) q = some true := by
  unfold spec_scContent.f
  rw [if_neg (by omega), if_pos (by omega), if_pos (by omega), spec_scContent.j0]
  rw [if_pos (by simpa using h1), if_neg (by omega)]
  have : (q != 8233) = true := by simp; omega
  rw [this]
theorem all_at (d : List Int) (hd : ∀ q ∈ d, 32 ≤ q ∧ q ≤ 126) (hl : d.length ≤ 2000) (n : Nat) : ∀ (k i : Nat), i + n = d.length → n + 1 < k → spec_scAll.l0 k true d (d.length : Int) (i : Int) = some true := by
  induction n with
  | zero =>
    intro k i h hk
    obtain ⟨k, rfl⟩ : ∃ m, k = m + 1 := ⟨k - 1, by omega⟩
    simp only [spec_scAll.l0]
    rw [if_neg (by omega)]
  | succ n ih =>
    intro k i h hk
    obtain ⟨k, rfl⟩ : ∃ m, k = m + 2 := ⟨k - 2, by omega⟩
    have hi : i < d.length := by omega
    have hr : rd d (i : Int) = d[i] := by simp [rd, hi]
    have hm := hd d[i] (List.getElem_mem hi)
    simp only [spec_scAll.l0]
    rw [if_pos (by omega), if_pos (by omega), if_pos (by omega), hr, content_ascii d[i] k hm.1 hm.2, wrap_id (by omega) (by omega)]
    simp only [Option.bind_some, if_true]
    exact ih (k + 1) (i + 1) (by omega) (by omega)
theorem all_eq (d : List Int) (hd : ∀ q ∈ d, 32 ≤ q ∧ q ≤ 126) (hl : d.length ≤ 2000) : spec_scAll.f 2002 d true = some true := by
  unfold spec_scAll.f
  exact all_at d hd hl d.length 2002 0 (by omega) (by omega)

/-- A slice of runes, as the printed contract wants it. -/
theorem C_of_reads {w : World} {A : Option Addr} {n : Nat} {xs : List Int} (h : ReadsInt w .i32 A n xs) : Kd.C (Kd.int .i32) w A n xs :=
  Kd.C_of_reads (d := 0) h

theorem white_any (q : Int) (w : World) (h0 : 32 ≤ q) : Calls Tryd.prog 15 #[.int .i32 q] w fun e w' => e = .returned (.bool (q == 32)) ∧ Below w.heap.size w w' := by
  have h : spec_scWhite.f q = some (q == 32) := by
    unfold spec_scWhite.f
    by_cases hq : q = 32
    · rw [if_pos hq, hq]; rfl
    · rw [if_neg hq]
      have e1 : (q == 9) = false := by simp; omega
      have e2 : (q == 32) = false := by simp [hq]
      rw [e1, e2]
  exact (spec_scWhite.calls q _ w h).mono fun e w' ⟨he, hd⟩ => ⟨he, hd.below⟩

def R1 (w : World) (l : List UInt8) (v6 v7 v8 : Value) (wr : World) : Prop :=
  ∃ (j i : Nat) (o u : ByteArray), j ≤ l.length ∧ v6 = .string o ∧ v7 = .string u ∧ v8 = .int .i64 i ∧ Hid (i = (db (l.take j)).length) ∧ Hid (o ++ u = B (l.take j)) ∧ o.size + u.size = j ∧ i ≤ 2 * j ∧ Below w.heap.size w wr

theorem app_nil (s : ByteArray) : s ++ (⟨#[]⟩ : ByteArray) = s := ByteArray.append_empty
theorem i_lt (l : List UInt8) (j : Nat) (h : j < l.length) : (db (l.take j)).length < (db l).length := by
  have h2 : (db l).length = (db (l.take j) ++ ((if l[j] = 39 then [39, 39] else [l[j]]) ++ db (l.drop (j + 1)))).length := congrArg List.length (db_split l j h)
  rw [h2, List.length_append, List.length_append]
  split <;> simp <;> omega
theorem i_39 (l : List UInt8) (j : Nat) (h : j < l.length) (h39 : l[j] = 39) : (db (l.take j)).length + 1 < (db l).length ∧ (ints (db l)).getD ((db (l.take j)).length + 1) 0 = 39 := by
  have hs := db_split l j h
  rw [if_pos h39] at hs
  constructor
  · have h2 := congrArg List.length hs
    rw [h2]
    simp
  · rw [hs, ints_append, List.getD_eq_getElem?_getD, List.getElem?_append_right (by rw [ints_length]; omega), ints_length]
    rw [show (db (l.take j)).length + 1 - (db (l.take j)).length = 1 from by omega]
    rfl
theorem i_val (l : List UInt8) (j : Nat) (h : j < l.length) : (ints (db l)).getD (db (l.take j)).length 0 = (l[j].toNat : Int) := by
  rw [db_split l j h, ints_append, List.getD_eq_getElem?_getD, List.getElem?_append_right (by rw [ints_length]; exact Nat.le_refl _), ints_length, Nat.sub_self]
  split
  · rename_i h39; rw [h39]; rfl
  · rfl
theorem i_next (l : List UInt8) (j : Nat) (h : j < l.length) : (db (l.take (j + 1))).length = (db (l.take j)).length + (if l[j] = 39 then 2 else 1) := by
  rw [← List.take_append_getElem h, db_snoc, List.length_append]
  split <;> simp
theorem B_append (a b : List UInt8) : B a ++ B b = B (a ++ b) := B_ext (by rw [ByteArray.data_append]; simp [B])
theorem o_next (l : List UInt8) (j : Nat) (h : j < l.length) (o u : ByteArray) (ho : o ++ u = B (l.take j)) : o ++ u ++ B [l[j]] = B (l.take (j + 1)) := by
  rw [ho, B_append, List.take_append_getElem]

set_option maxRecDepth 100000 in
set_option maxHeartbeats 4000000 in
theorem read_any (l : List UInt8) (w : World) (hl : l.length ≤ 1000) (ha : ∀ c ∈ l, 32 ≤ (c.toNat : Int) ∧ (c.toNat : Int) ≤ 126) (hT : Go.Lib.Utf8Tabs (Tryd.lays196_ren.g 3) (Tryd.lays196_ren.g 4) w) :
    Calls Tryd.prog 8 #[.string (B (db l))] w fun e w' => e = .returned (.tuple #[.string (B l), .int .i64 2]) ∧ Below w.heap.size w w' := by
  have hdl := db_length l
  have hdl2 : (db l).length ≤ 2000 := by omega
  have had : ∀ c ∈ db l, 32 ≤ (c.toNat : Int) ∧ (c.toNat : Int) ≤ 126 := by
    intro c hc
    obtain ⟨x, hx, hcx⟩ := List.mem_flatMap.1 hc
    by_cases h39 : x = 39
    · rw [if_pos h39] at hcx
      simp at hcx
      subst hcx
      decide
    · rw [if_neg h39] at hcx
      simp at hcx
      rw [hcx]
      exact ha x hx
  have hall := all_eq (ints (db l)) (fun q hq => by
    obtain ⟨c, hc, rfl⟩ := List.mem_map.1 hq
    exact had c hc) (by rw [ints_length]; exact hdl2)
  have HR := Lib.hid (runes_any (db l) w hdl2 had hT)
  have HALL := Lib.hid hall
  have HA := Lib.hid ha
  have hil := ints_length (db l)
  have HIL := Lib.hid hil
  clear hall ha had hT hil
  go_enter Tryd.func8, Tryd.ntmps8
  go_wp2_with fail
  refine HR.out.mono ?_
  rintro e w1 ⟨g, c, rfl, hc, hg, hrd, hb1⟩
  have HC := Lib.hid (C_of_reads hrd)
  have HRD := Lib.hid hrd
  clear hrd
  go_wp2_with fail
  have hsc := spec_scAll.calls 2002 (some ⟨g, 0, none⟩) c (ints (db l)) true true w1 (by rw [HIL.out]; exact HC.out) (by rw [HIL.out]; exact hc) HALL.out
  rw [HIL.out] at hsc
  refine hsc.mono ?_
  rintro e w2 ⟨rfl, hd2⟩
  have hb2 := hd2.below
  have hb12 : Below w.heap.size w w2 := hb1.trans (hb2.mono hb1.size)
  have hcell : ∀ i : Nat, i < (db l).length → w2.cell? ⟨g, i, none⟩ = some (.int .i32 ((ints (db l)).getD i 0)) := by
    intro i hi
    obtain ⟨ad, he, hcc⟩ := HRD.out.2.2 (by omega)
    injection he with he
    have h1 := hcc i hi
    rw [← he, add_plain] at h1
    exact (hb2.cell (p := ⟨g, i, none⟩) hg).trans h1
  have HCELL := Lib.hid hcell
  have hg2 : g < w2.heap.size := by have := hb2.size; omega
  have hz12 := hb12.size
  clear hcell hb1 hb2 hd2 hsc
  go_wp2_with fail
  go_loopw [6, 7, 8] (fun v6 v7 v8 wr => R1 w2 l v6 v7 v8 wr) (fun _ _ v8 _ => (db l).length - (intOf v8).toNat)
  case atStart => exact ⟨0, 0, ⟨#[]⟩, ⟨#[]⟩, Nat.zero_le _, rfl, rfl, rfl, Lib.hid rfl, Lib.hid rfl, rfl, Nat.le_refl _, Below.refl _ _⟩
  case round =>
    obtain ⟨j, i, o, u, hj, rfl, rfl, rfl, HI, HOU, hou, hi, hbr⟩ := hrel
    have hz := hbr.size
    have hos : o.size ≤ 1000 := by omega
    have hus : u.size ≤ 1000 := by omega
    have HSZ := Lib.hid hou
    clear hou
    by_cases hlt : j < l.length
    · have hilt : i < (db l).length := by rw [HI.out]; exact i_lt l j hlt
      have hce : wr.cell? ⟨g, i, none⟩ = some (.int .i32 ((ints (db l)).getD i 0)) := (hbr.cell (p := ⟨g, i, none⟩) hg2).trans (HCELL.out i hilt)
      have hq := HA.out l[j] (List.getElem_mem hlt)
      have hval : (ints (db l)).getD i 0 = (l[j].toNat : Int) := by rw [HI.out]; exact i_val l j hlt
      rw [hval] at hce
      have HEN := Lib.hid (Asc.encode_ascii l[j] (by omega))
      have HON := Lib.hid (o_next l j hlt o u HOU.out)
      have HIN := Lib.hid (i_next l j hlt)
      have hc39 : ((l[j].toNat : Int) == 39) = decide (l[j] = 39) := by
        rw [Bool.eq_iff_iff, beq_iff_eq, decide_eq_true_iff]
        exact ⟨fun h => UInt8.toNat_inj.1 (by have h' := h; simp; omega), fun h => by rw [h]; rfl⟩
      have h39 : l[j] = 39 → i + 1 < (db l).length ∧ wr.cell? ⟨g, i + 1, none⟩ = some (.int .i32 39) := by
        intro h
        have h1 := i_39 l j hlt h
        rw [← HI.out] at h1
        refine ⟨h1.1, ?_⟩
        have h2 := (hbr.cell (p := ⟨g, i + 1, none⟩) hg2).trans (HCELL.out (i + 1) h1.1)
        rw [h1.2] at h2
        exact h2
      have H39 := Lib.hid h39
      have hen1 : (Utf8.encode (l[j].toNat : Int)).size = 1 := by rw [HEN.out]; rfl
      clear hval h39
      generalize hqq : (l[j].toNat : Int) = q at *
      obtain ⟨q0, q1⟩ := hq
      have h10 : (q == 10) = false := by simp; omega
      generalize hee : Utf8.encode q = en at *
      have hen2 : en.size ≤ 1 := by omega
      have HN1 := Lib.hid hen1
      clear hqq hen1
      have hee2 := Lib.hid hee
      by_cases h32 : q = 32
      · have hw := white_any q wr q0
        rw [show (q == 32) = true from by simp [h32]] at hw
        have HW := Lib.hid hw
        have hne : ¬ l[j] = 39 := fun h => by
          rw [decide_eq_true h] at hc39
          have := beq_iff_eq.1 hc39
          omega
        rw [if_neg hne] at HIN
        clear hw h32 hc39 hne
        go_wp2_with fail
        refine HW.out.mono ?_
        rintro e w3 ⟨rfl, hb3⟩
        have hb4 := hbr.trans (hb3.mono hz)
        clear hb3
        go_wp2_with fail
        go_roundw
        case rel =>
          refine ⟨j + 1, i + 1, o, u ++ en, by omega, rfl, rfl, by go_num, Lib.hid ?_, Lib.hid ?_, ?_, by omega, hb4⟩
          · rw [HIN.out, ← HI.out]
          · rw [← ByteArray.append_assoc, HEN.out]; exact HON.out
          · rw [ByteArray.size_append]; have := HSZ.out; have := HN1.out; omega
        case measure => simp [intOf]; omega
      · have hw := white_any q wr q0
        rw [show (q == 32) = false from by simp [h32]] at hw
        have HW := Lib.hid hw
        clear hw h32
        by_cases hl39 : l[j] = 39
        · rw [decide_eq_true hl39] at hc39
          rw [if_pos hl39] at HIN
          obtain ⟨hi2, hce2⟩ := H39.out hl39
          have HE9 : Hid (B [l[j]] = ⟨#[39]⟩) := Lib.hid (by rw [hl39]; rfl)
          have hnel : ((i : Int) + 1 == ((db l).length : Int)) = false := by simp; omega
          clear hl39
          go_wp2_with fail
          refine HW.out.mono ?_
          rintro e w3 ⟨rfl, hb3⟩
          have hb4 := hbr.trans (hb3.mono hz)
          have hce3 := (hb3.cell (p := ⟨g, i + 1, none⟩) (Nat.lt_of_lt_of_le hg2 hz)).trans hce2
          clear hb3 hce2
          go_wp2_with fail
          go_roundw
          case rel =>
            refine ⟨j + 1, i + 2, o ++ u ++ ⟨#[39]⟩, ⟨#[]⟩, by omega, rfl, rfl, by go_num, Lib.hid ?_, Lib.hid ?_, ?_, by omega, hb4⟩
            · rw [HIN.out, ← HI.out]
            · have h := HON.out
              rw [HE9.out] at h
              rw [app_nil, h]
            · rw [ByteArray.size_append, ByteArray.size_append]; have := HSZ.out; have e1 : (⟨#[39]⟩ : ByteArray).size = 1 := rfl; have e0 : (⟨#[]⟩ : ByteArray).size = 0 := rfl; omega
          case measure => simp [intOf]; omega
        · rw [decide_eq_false hl39] at hc39
          rw [if_neg hl39] at HIN
          clear hl39
          go_wp2_with fail
          refine HW.out.mono ?_
          rintro e w3 ⟨rfl, hb3⟩
          have hb4 := hbr.trans (hb3.mono hz)
          clear hb3
          go_wp2_with fail
          go_roundw
          case rel =>
            refine ⟨j + 1, i + 1, o ++ u ++ en, ⟨#[]⟩, by omega, rfl, rfl, by go_num, Lib.hid ?_, Lib.hid ?_, ?_, by omega, hb4⟩
            · rw [HIN.out, ← HI.out]
            · rw [HEN.out]
              have h := HON.out
              rw [app_nil, h]
            · rw [ByteArray.size_append, ByteArray.size_append]; have := HSZ.out; have := HN1.out; have e0 : (⟨#[]⟩ : ByteArray).size = 0 := rfl; omega
          case measure => simp [intOf]; omega
    · have hje : j = l.length := by omega
      have hie : i = (db l).length := by have h := HI.out; rw [hje, List.take_length] at h; exact h
      have hof : o ++ u = B l := by have h := HOU.out; rw [hje, List.take_length] at h; exact h
      have HOF := Lib.hid hof
      have hii : ¬ i < (db l).length := by omega
      clear hof hje hie
      go_wp2_with fail
      go_ret2
      exact ⟨by rw [HOF.out]; rfl, hb12.trans (hbr.mono hz12)⟩

end Go.Proofs.YtpimdceafnhmlaaDoor.Quo
