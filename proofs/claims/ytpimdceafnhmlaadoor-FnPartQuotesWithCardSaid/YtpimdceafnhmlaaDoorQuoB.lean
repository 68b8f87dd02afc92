/-
  THE WALKS of quoteWith and its doors, and of scRunes, at printable characters of ASCII.
-/
import Derived.Test.YtpimdceafnhmlaaDoorQuoA
import Derived.Test.YtpimdceafnhmlaaDoorAsc
import Derived.Lib.ValidLaws
import Derived.Test.YtpimdceafnhmlaaDoorShelf
import Derived.Test.YtpimdceafnhmlaaDoorPFnPartQuotesWithx1
import Derived.Test.YtpimdceafnhmlaaDoorPFnPartQuotesWithx3
namespace Go.Proofs.YtpimdceafnhmlaaDoor.Quo
open Go.RowKit Go.Proofs.YtpimdceafnhmlaaDoorW.PrintWords Go.Proofs.YtpimdceafnhmlaaDoorW.PrintLast Go.Proofs.YtpimdceafnhmlaaDoorW.PrintMore
open Go.Proofs.YtpimdceafnhmlaaDoor.Str

/-- A text between single quotes, without them. -/
def db (l : List UInt8) : List UInt8 := l.flatMap fun c => if c = 39 then [39, 39] else [c]
theorem dq_db (l : List UInt8) : dq l = ints (db l) := by
  induction l with
  | nil => rfl
  | cons c t ih =>
    have e : dq (c :: t) = qd c.toNat ++ dq t := rfl
    have e2 : db (c :: t) = (if c = 39 then [39, 39] else [c]) ++ db t := rfl
    rw [e, e2, ints_append, ih]
    congr 1
    unfold qd
    by_cases hc : c = 39
    · subst hc; rfl
    · rw [if_neg hc, if_neg (fun h => hc (UInt8.toNat_inj.1 (by have h' := h; simp; omega)))]
      rfl
theorem out_eq (l : List UInt8) : strOfNums (39 :: dq l ++ [39]) = B (39 :: db l ++ [39]) := by
  have e : (39 :: dq l ++ [39] : List Int) = ints (39 :: db l ++ [39]) := by
    rw [dq_db, ints_append, ints_cons]
    rfl
  rw [e, str_ints]

set_option maxRecDepth 100000 in
set_option maxHeartbeats 2000000 in
theorem quote_any (l : List UInt8) (w : World) (hl : l.length ≤ 1000) (ha : ∀ c ∈ l, 32 ≤ (c.toNat : Int) ∧ (c.toNat : Int) ≤ 126) :
    Calls Tryd.prog 18 #[.string (B l), .int .u8 39] w fun e w' => e = .returned (.string (B (39 :: db l ++ [39]))) ∧ Below w.heap.size w w' := by
  have hsz : (B l).size = l.length := B_size l
  have HA := Lib.hid (fun g cap w4 hb ho hc hc2 => append_any g cap w.heap.size l w4 hb ho hl hc hc2 ha)
  have HO := Lib.hid (out_eq l)
  clear ha
  obtain ⟨i0, hi0, hz0, hz1, hz2⟩ := info_parts info5
  generalize B l = lb at *
  have hsz1 : lb.size ≤ 1000 := by omega
  have HSZ := Lib.hid hsz
  clear hsz
  go_enter Tryd.func18, Tryd.ntmps18
  go_wp2_with (at_make; refine wpList_make_own _ rfl _ _ 28 rfl w.heap.size 5 i0 _ 1 Tryd.underlying28 hi0 hz0 hz1 _ _ _ (3 * lb.size / 2) rfl rfl (by omega) (by rw [hz2]; omega) (by unfold maxLen; omega) (by omega) ?_; intro w4 hown4 hg4)
  have hs4 := hg4.size
  refine (HA.out _ _ w4 (by omega) hown4 (by have := HSZ.out; omega) (by omega)).mono ?_
  rintro e w5 ⟨v5, rfl, hown5, hb5⟩
  have hcv := own_string (P := Tryd.prog) Tryd.underlying28 Tryd.underlying5 Tryd.underlying9 hown5
  rw [HO.out] at hcv
  go_wp2_with fail
  go_ret
  exact ⟨rfl, (((Below.refl _ _).grown hg4 (Nat.le_refl _) (fun _ h => by cases h)).trans hb5)⟩

theorem QuoteWith_any (l : List UInt8) (w : World) (hl : l.length ≤ 1000) (ha : ∀ c ∈ l, 32 ≤ (c.toNat : Int) ∧ (c.toNat : Int) ≤ 126) :
    Calls Tryd.prog 7 #[.string (B l), .bool true] w fun e w' => e = .returned (.string (B (39 :: db l ++ [39]))) ∧ Below w.heap.size w w' := by
  have H := Lib.hid (fun w => quote_any l w hl ha)
  clear ha
  generalize B (39 :: db l ++ [39]) = r at *
  generalize B l = lb at *
  have h11 : ∀ w, Calls Tryd.prog 11 #[.string lb, .int .u8 39] w fun e w' => e = .returned (.string r) ∧ Below w.heap.size w w' := by
    intro w
    go_enter Tryd.func11, Tryd.ntmps11
    go_wp2_with fail
    refine (H.out _).mono ?_
    rintro e w1 ⟨rfl, hb⟩
    go_wp2_with fail
    go_ret
    exact ⟨rfl, hb⟩
  have H2 := Lib.hid h11
  clear h11 H
  go_enter Tryd.func7, Tryd.ntmps7
  go_wp2_with fail
  refine (H2.out _).mono ?_
  rintro e w1 ⟨rfl, hb⟩
  go_wp2_with fail
  go_ret
  exact ⟨rfl, hb⟩

def RunesEnd (w : World) (l : List UInt8) (e : Ending) (w' : World) : Prop :=
  ∃ (g : Nat) (c : Nat), e = .returned (.tuple #[.slice (some ⟨g, 0, none⟩) l.length c, .bool true]) ∧ l.length ≤ c ∧ g < w'.heap.size ∧ ReadsInt w' .i32 (some ⟨g, 0, none⟩) l.length (ints l) ∧ Below w.heap.size w w'

set_option maxRecDepth 100000 in
theorem runes_any (l : List UInt8) (w : World) (hl : l.length ≤ 2000) (ha : ∀ c ∈ l, 32 ≤ (c.toNat : Int) ∧ (c.toNat : Int) ≤ 126) (hT : Go.Lib.Utf8Tabs (Tryd.lays196_ren.g 3) (Tryd.lays196_ren.g 4) w) :
    Calls Tryd.prog 12 #[.string (B l)] w (RunesEnd w l) := by
  have hv := Tryd.utf8_ValidString (B l) w (by rw [B_size]; omega) hT
  have h128 : ∀ c ∈ l, c.toNat < 128 := fun c hc => by have := (ha c hc).2; omega
  have hval : Go.Lib.validD (B l).data.toList = true := by
    rw [B_data, Go.Lib.validD_ascii l.length l (fun b hb => h128 b (List.mem_of_mem_take hb)), List.drop_length]
    rfl
  have hre := Asc.runes_eq l h128
  have hrl : (Conv.runesFrom (B l) (B l).size 0 #[]).size = l.length := by rw [hre]; simp [nums, ints]
  rw [hval] at hv
  have HV := Lib.hid hv
  have hsz : (B l).size ≤ 2000 := by rw [B_size]; exact hl
  clear hv hT hval
  go_enter Tryd.func12, Tryd.ntmps12
  go_wp2_with fail
  refine HV.out.mono ?_
  rintro e w1 ⟨rfl, hb⟩
  have hcv := run_runes_of_string (P := Tryd.prog) w1 9 32 21 (B l) Tryd.underlying9 Tryd.underlying32 Tryd.underlying21 (by omega)
  rw [hrl, hre] at hcv
  have hge := grownCap_ge w1 l.length 0 21
  have hb2 : Below w.heap.size w (w1.drew.alloc (.cells ((nums .i32 (ints l)).toArray ++ Array.replicate (grownCap w1 l.length 0 21 - l.length) (.int .i32 0)) 21)) := (hb.drew).alloc hb.size _
  have hlt2 : w1.heap.size < (w1.drew.alloc (.cells ((nums .i32 (ints l)).toArray ++ Array.replicate (grownCap w1 l.length 0 21 - l.length) (.int .i32 0)) 21)).heap.size := by simp
  have hrd : ReadsInt (w1.drew.alloc (.cells ((nums .i32 (ints l)).toArray ++ Array.replicate (grownCap w1 l.length 0 21 - l.length) (.int .i32 0)) 21)) .i32 (some ⟨w1.heap.size, 0, none⟩) l.length (ints l) := by
    refine ⟨ints_length l, by omega, fun _ => ⟨_, rfl, fun j hj => ?_⟩⟩
    rw [add_plain]
    have h1 := blk_cell (heap_alloc_new w1.drew (.cells ((nums .i32 (ints l)).toArray ++ Array.replicate (grownCap w1 l.length 0 21 - l.length) (.int .i32 0)) 21)) j
    refine h1.trans ?_
    rw [Array.getElem?_append_left (by simp [nums, ints]; omega)]
    simp [nums, ints, hj]
  generalize hW : w1.drew.alloc (.cells ((nums .i32 (ints l)).toArray ++ Array.replicate (grownCap w1 l.length 0 21 - l.length) (.int .i32 0)) 21) = W2 at *
  generalize grownCap w1 l.length 0 21 = cc at *
  have HRE := Lib.hid hre
  clear hW hre hrl
  generalize B l = lb at *
  go_wp2_with fail
  go_ret2
  exact ⟨_, _, rfl, hge, hlt2, hrd, hb2⟩

end Go.Proofs.YtpimdceafnhmlaaDoor.Quo
