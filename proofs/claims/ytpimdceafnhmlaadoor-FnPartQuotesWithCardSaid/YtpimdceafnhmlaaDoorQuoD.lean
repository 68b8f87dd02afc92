/-
  THE WALK of FnPartQuotesWith.
-/
import Derived.Test.YtpimdceafnhmlaaDoorQuoC
namespace Go.Proofs.YtpimdceafnhmlaaDoor.Quo
open Go.RowKit Go.Proofs.YtpimdceafnhmlaaDoorW.PrintWords Go.Proofs.YtpimdceafnhmlaaDoorW.PrintLast Go.Proofs.YtpimdceafnhmlaaDoorW.PrintMore
open Go.Proofs.YtpimdceafnhmlaaDoor.Str Go.Proofs.YtpimdceafnhmlaaDoor.PFnPartQuotesWith

/-- Printable characters of ASCII alone. -/
def asc (l : List UInt8) : Bool := l.all fun c => decide (32 ≤ (c.toNat : Int) ∧ (c.toNat : Int) ≤ 126)
theorem asc_at (l : List UInt8) (hl : l.length ≤ 1000) (d : Nat) : ∀ (k i : Nat), i ≤ l.length → l.length - i = d → d < k →
    spec_Ascii.l0 k (B l) (i : Int) = some (asc (l.drop i)) := by
  induction d with
  | zero =>
    intro k i h0 h1 hk
    obtain ⟨k, rfl⟩ : ∃ m, k = m + 1 := ⟨k - 1, by omega⟩
    simp only [spec_Ascii.l0]
    rw [B_size, if_neg (by omega), List.drop_of_length_le (by omega)]
    rfl
  | succ d ih =>
    intro k i h0 h1 hk
    obtain ⟨k, rfl⟩ : ∃ m, k = m + 1 := ⟨k - 1, by omega⟩
    have hi : i < l.length := by omega
    simp only [spec_Ascii.l0]
    rw [B_size, if_pos (by omega), if_pos (by omega), bt_B l i hi, List.drop_eq_getElem_cons hi]
    have e : asc (l[i] :: l.drop (i + 1)) = (decide (32 ≤ (l[i].toNat : Int) ∧ (l[i].toNat : Int) ≤ 126) && asc (l.drop (i + 1))) := rfl
    rw [e]
    by_cases h1 : (l[i].toNat : Int) < 32
    · rw [if_pos h1, decide_eq_false (by omega)]; rfl
    · rw [if_neg h1]
      by_cases h2 : (l[i].toNat : Int) > 126
      · rw [if_pos h2, decide_eq_false (by omega)]; rfl
      · rw [if_neg h2, decide_eq_true (by omega), wrap_id (by omega) (by omega), show (i : Int) + 1 = ((i + 1 : Nat) : Int) from by omega, ih k (i + 1) (by omega) (by omega) (by omega)]
        rfl
theorem asc_eq (l : List UInt8) (hl : l.length ≤ 1000) : spec_Ascii.f 1001 (B l) = some (asc l) := by
  unfold spec_Ascii.f
  have h := asc_at l hl l.length 1001 0 (by omega) (by omega) (by omega)
  simpa using h

theorem inside_eq (d : List UInt8) (hd : d.length ≤ 2000) : laws_lxInside.f (B (39 :: d ++ [39])) (⟨#[39]⟩ : ByteArray) = some (B d, true) := by
  have e39 : (⟨#[39]⟩ : ByteArray) = B [39] := rfl
  have hl : (39 :: d ++ [39]).length = d.length + 2 := by simp
  have hw : wrap64 (((B (39 :: d ++ [39])).size : Int) - 1) = ((d.length + 1 : Nat) : Int) := by
    rw [B_size, hl, wrap_id (by omega) (by omega)]
    omega
  have t1 : ((B (39 :: d ++ [39])).extract 0 1).toList = (B [39]).toList := by
    rw [B_upto, B_toList, B_toList]
    rfl
  have t2 : ((B (39 :: d ++ [39])).extract (d.length + 1) (B (39 :: d ++ [39])).size).toList = (B [39]).toList := by
    rw [B_from, B_toList, B_toList]
    simp
  have t3 : (B (39 :: d ++ [39])).extract 1 (d.length + 1) = B d := by
    rw [B_extract]
    simp
  unfold laws_lxInside.f
  rw [e39, hw, Int.toNat_natCast]
  rw [if_neg (by rw [B_size, hl]; omega), if_pos (by omega), if_pos (by rw [B_size, hl]; omega), if_pos t1, if_pos (by omega), if_pos (by rw [B_size, hl]; omega), if_pos t2, if_pos (by omega)]
  rw [t3]

set_option maxRecDepth 100000 in
set_option maxHeartbeats 1000000 in
theorem law_any (s : ByteArray) (w : World) (hs : s.size ≤ 9223372036854775807) (hT : Go.Lib.Utf8Tabs (Tryd.lays196_ren.g 3) (Tryd.lays196_ren.g 4) w) :
    Calls Tryd.prog 3 #[.string s] w fun e w' => e = .returned (.bool true) ∧ Below w.heap.size w w' := by
  by_cases hbig : 2147483647 < (s.size : Int)
  · go_enter Tryd.func3, Tryd.ntmps3
    go_wp2_with fail
    go_ret
    exact ⟨rfl, Below.refl _ _⟩
  by_cases hbig2 : 1000 < (s.size : Int)
  · go_enter Tryd.func3, Tryd.ntmps3
    go_wp2_with fail
    go_ret
    exact ⟨rfl, Below.refl _ _⟩
  obtain ⟨l, rfl⟩ : ∃ l, s = B l := ⟨_, eq_B s⟩
  have hl : l.length ≤ 1000 := by rw [B_size] at hbig2; omega
  have hasc := asc_eq l hl
  cases ha : asc l with
  | false =>
    rw [ha] at hasc
    have H1 := Lib.hid hasc
    clear hasc ha hT
    generalize B l = lb at *
    go_enter Tryd.func3, Tryd.ntmps3
    go_wp2_with fail
    refine (spec_Ascii.calls _ _ _ _ H1.out).mono ?_
    rintro e w1 ⟨rfl, hb⟩
    go_wp2_with fail
    go_ret
    exact ⟨rfl, hb.below⟩
  | true =>
    rw [ha] at hasc
    have hall : ∀ c ∈ l, 32 ≤ (c.toNat : Int) ∧ (c.toNat : Int) ≤ 126 := fun c hc => of_decide_eq_true (List.all_eq_true.1 ha c hc)
    have hdl := db_length l
    have H1 := Lib.hid hasc
    have H2 := Lib.hid (fun w => QuoteWith_any l w hl hall)
    have H3 := Lib.hid (inside_eq (db l) (by omega))
    have H4 := Lib.hid (fun w h => read_any l w hl hall h)
    have HT := Lib.hid hT
    clear hasc ha hT hall hdl
    generalize B (39 :: db l ++ [39]) = qq at *
    generalize B (db l) = dd at *
    generalize B l = lb at *
    go_enter Tryd.func3, Tryd.ntmps3
    go_wp2_with fail
    refine (spec_Ascii.calls _ _ _ _ H1.out).mono ?_
    rintro e w1 ⟨rfl, hb1⟩
    have x1 := hb1.below
    clear hb1
    go_wp2_with fail
    refine (H2.out _).mono ?_
    rintro e w2 ⟨rfl, hb2⟩
    have x2 := x1.trans (hb2.mono x1.size)
    clear x1 hb2
    go_wp2_with fail
    refine (laws_lxInside.calls _ _ _ _ _ H3.out).mono ?_
    rintro e w3 ⟨rfl, hb3⟩
    have x3 := x2.trans (hb3.below.mono x2.size)
    clear x2 hb3
    have HT3 : Hid (Go.Lib.Utf8Tabs (Tryd.lays196_ren.g 3) (Tryd.lays196_ren.g 4) w3) := Lib.hid (Utf8Tabs_below HT.out x3)
    go_wp2_with fail
    refine (H4.out _ HT3.out).mono ?_
    rintro e w4 ⟨rfl, hb4⟩
    have x4 := x3.trans (hb4.mono x3.size)
    clear x3 hb4
    go_wp2_with fail
    go_ret
    exact ⟨rfl, x4⟩

end Go.Proofs.YtpimdceafnhmlaaDoor.Quo
