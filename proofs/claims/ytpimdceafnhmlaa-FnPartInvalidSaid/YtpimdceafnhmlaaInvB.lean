/-
  THE WALK of made.
-/
import Derived.Test.YtpimdceafnhmlaaInvA
namespace Go.Proofs.Ytpimdceafnhmlaa.Inv
open Go.RowKit Go.Proofs.YtpimdceafnhmlaaW.PrintWords Go.Proofs.YtpimdceafnhmlaaW.PrintLast Go.Proofs.YtpimdceafnhmlaaW.PrintMore
open Go.Proofs.Ytpimdceafnhmlaa.Str Go.Proofs.Ytpimdceafnhmlaa.PFnPartInvalid
attribute [local go_sem] max2_int min2_int max_two min_two max_three min_three max_four min_four

theorem info46 : (Try.prog.info? 46).map (fun i => (i.zero, i.size, i.bytes)) = some (some (.pointer none), 1, 8) := by kernel_rfl

/-- A token's thirteen cells, as lxToken makes it. -/
def tokC (s : ByteArray) (k c : Int) : List Value := [.int .i64 k, .int .i64 0, .int .i64 0, .string s, .string s, .string ⟨#[]⟩, .int .i64 1, .int .i64 c, .int .i64 0, .int .i64 0, .int .i64 0, .int .i64 (-1), .int .i64 (-1)]

/-- w holds in block g the tokens of kinds ks. -/
def Toks (w : World) (s : ByteArray) (g : Nat) (ks : List Int) : Prop :=
  ∀ (j : Nat) (k : Int), ks[j]? = some k → ∀ (f : Nat) (u : Value), (tokC s k ((j : Int) + 1))[f]? = some u → w.cell? ⟨g, j * 13 + f, none⟩ = some u
theorem Toks.at_ {w : World} {s : ByteArray} {g j : Nat} {ks : List Int} {k : Int} (h : Toks w s g ks) (hj : ks[j]? = some k) :
    w.cell? ⟨g, j * 13, none⟩ = some (.int .i64 k) ∧ w.cell? ⟨g, j * 13 + 1, none⟩ = some (.int .i64 0) ∧ w.cell? ⟨g, j * 13 + 2, none⟩ = some (.int .i64 0) ∧ w.cell? ⟨g, j * 13 + 3, none⟩ = some (.string s) ∧ w.cell? ⟨g, j * 13 + 4, none⟩ = some (.string s) ∧
    w.cell? ⟨g, j * 13 + 5, none⟩ = some (.string ⟨#[]⟩) ∧ w.cell? ⟨g, j * 13 + 6, none⟩ = some (.int .i64 1) ∧ w.cell? ⟨g, j * 13 + 7, none⟩ = some (.int .i64 ((j : Int) + 1)) ∧ w.cell? ⟨g, j * 13 + 8, none⟩ = some (.int .i64 0) ∧ w.cell? ⟨g, j * 13 + 9, none⟩ = some (.int .i64 0) ∧
    w.cell? ⟨g, j * 13 + 10, none⟩ = some (.int .i64 0) ∧ w.cell? ⟨g, j * 13 + 11, none⟩ = some (.int .i64 (-1)) ∧ w.cell? ⟨g, j * 13 + 12, none⟩ = some (.int .i64 (-1)) :=
  ⟨h j k hj 0 _ rfl, h j k hj 1 _ rfl, h j k hj 2 _ rfl, h j k hj 3 _ rfl, h j k hj 4 _ rfl, h j k hj 5 _ rfl, h j k hj 6 _ rfl, h j k hj 7 _ rfl, h j k hj 8 _ rfl, h j k hj 9 _ rfl, h j k hj 10 _ rfl, h j k hj 11 _ rfl, h j k hj 12 _ rfl⟩
theorem Toks.below {w w' : World} {s : ByteArray} {g : Nat} {ks : List Int} (h : Toks w s g ks) (hg : g < w.heap.size) (hb : Below w.heap.size w w') : Toks w' s g ks :=
  fun j k hj f u hu => (hb.cell (p := ⟨g, j * 13 + f, none⟩) hg).trans (h j k hj f u hu)

/-- The pointers ps lead to tokens of the kinds ks, each in a block of its own from base on. -/
def Pts (w : World) (base : Nat) (ps : List Value) (ks : List Int) : Prop :=
  ∀ (j : Nat) (k : Int), ks[j]? = some k → ∃ (b : Nat) (cs : Array Value), ps[j]? = some (.pointer (some ⟨b, 0, none⟩)) ∧ base ≤ b ∧ w.heap[b]? = some (.cells cs 55 (0, 0)) ∧ cs[0]? = some (.int .i64 k)
/-- v is a row of pointers to tokens of the kinds ks. -/
def OutRow (w : World) (base : Nat) (v : Value) (ks : List Int) : Prop := ∃ ps : List Value, w.ownsRow base 46 1 v ks.length ps ∧ Pts w base ps ks

theorem Pts.kept {w w' : World} {base : Nat} {ps : List Value} {ks : List Int} (h : Pts w base ps ks) (hk : ∀ (b : Nat) (cs : Array Value), w.heap[b]? = some (.cells cs 55 (0, 0)) → w'.heap[b]? = some (.cells cs 55 (0, 0))) : Pts w' base ps ks := by
  intro j k hj
  obtain ⟨b, cs, h1, h2, h3, h4⟩ := h j k hj
  exact ⟨b, cs, h1, h2, hk b cs h3, h4⟩
theorem OutRow.below {w w' : World} {base : Nat} {v : Value} {ks : List Int} (h : OutRow w base v ks) (hb : Below w.heap.size w w') : OutRow w' base v ks := by
  obtain ⟨ps, h1, h2⟩ := h
  exact ⟨ps, pw_own_below h1 hb, h2.kept fun b cs hc => (hb.block b (blk_lt hc)).trans hc⟩

/-- One token more. -/
theorem OutRow.push {w w1 : World} {base n : Nat} {v v1 : Value} {ks : List Int} {ps : List Value} {k : Int} {b : Nat} {cs : Array Value} (hp : Pts w base ps ks) (hkn : ks.length = n) (hlp : ps.length = n) (ho : w.ownsRow base 46 1 v n ps)
    (hb : w.heap[b]? = some (.cells cs 55 (0, 0))) (hbase : base ≤ b) (hk : cs[0]? = some (.int .i64 k)) (h1 : w1.ownsRow base 46 1 v1 (n + 1) (ps ++ [.pointer (some ⟨b, 0, none⟩)])) (hg : w.grownBy w1 v.ownBlock) : OutRow w1 base v1 (ks ++ [k]) := by
  have keep : ∀ (b : Nat) (cs : Array Value), w.heap[b]? = some (.cells cs 55 (0, 0)) → w1.heap[b]? = some (.cells cs 55 (0, 0)) := fun b cs hc =>
    (hg.block b (blk_lt hc) (own_ne ho hc (by decide))).trans hc
  refine ⟨ps ++ [.pointer (some ⟨b, 0, none⟩)], by rw [List.length_append, hkn]; exact h1, ?_⟩
  intro j k' hj
  rcases Nat.lt_or_ge j ks.length with hlt | hge
  · rw [List.getElem?_append_left hlt] at hj
    obtain ⟨b', cs', h1, h2, h3, h4⟩ := hp j k' hj
    exact ⟨b', cs', by rw [List.getElem?_append_left (by omega)]; exact h1, h2, keep _ _ h3, h4⟩
  · have hj0 : j = ks.length := by
      have := (List.getElem?_eq_some_iff.1 hj).1
      simp at this
      omega
    subst hj0
    rw [List.getElem?_append_right (Nat.le_refl _)] at hj
    simp at hj
    subst hj
    exact ⟨b, cs, by rw [List.getElem?_append_right (by omega)]; simp [hlp, hkn], hbase, keep _ _ hb, hk⟩

/-- One token more: in the world in which append has run. -/
theorem push_at {w wr w2 w3 : World} {ks : List Int} {k cap gg : Nat} {kk : Int} {v : Value} {ps : List Value} {B : Obj} {cs : Array Value} {D : Array Value} (hb : Below w.heap.size w wr) (hkk : ks[k]? = some kk) (hlp : ps.length = k)
    (hp : Pts wr w.heap.size ps (ks.take k)) (ho : wr.ownsRow w.heap.size 46 1 v k ps) (hbx : Below (wr.alloc B).heap.size (wr.alloc B) w2) (hk : cs[0]? = some (.int .i64 kk))
    (h3 : w3.ownsRow w.heap.size 46 1 (.slice (some ⟨gg, 0, none⟩) (k + 1) cap) (k + 1) (ps ++ [.pointer (some ⟨w2.heap.size, 0, none⟩)])) (hg : ((w2.alloc (.cells cs 55)).alloc (.cells D 46)).grownBy w3 v.ownBlock) :
    OutRow w3 w.heap.size (.slice (some ⟨gg, 0, none⟩) (k + 1) cap) (ks.take (k + 1)) ∧ Below w.heap.size w w3 := by
  have hkl : k < ks.length := (List.getElem?_eq_some_iff.1 hkk).1
  have e : ks.take (k + 1) = ks.take k ++ [kk] := by
    rw [List.take_add_one, hkk]
    rfl
  have hs := hbx.size
  simp at hs
  have hs0 := hb.size
  have b2 : Below wr.heap.size wr ((w2.alloc (.cells cs 55)).alloc (.cells D 46)) :=
    (((((Below.refl _ _).alloc (Nat.le_refl _) B).trans (hbx.mono (by simp))).alloc (by omega) _).alloc (by simp; omega) _)
  have hkl2 : (ks.take k).length = k := by rw [List.length_take]; omega
  refine ⟨?_, ?_⟩
  · rw [e]
    refine OutRow.push (hp.kept fun b c hc => (b2.block b (blk_lt hc)).trans hc) hkl2 hlp (pw_own_below ho b2) (b := w2.heap.size) (cs := cs) ?_ (by omega) hk h3 hg
    rw [Below.heap_alloc _ _ _ (by simp)]
    exact heap_alloc_new _ _
  · refine (hb.trans (b2.mono hs0)).grown hg (Nat.le_trans hs0 b2.size) ?_
    intro b hbb
    exact own_base ho b hbb

def M1 (w : World) (ks : List Int) (v i : Value) (wr : World) : Prop := ∃ k : Nat, k ≤ ks.length ∧ i = .int .i64 k ∧ OutRow wr w.heap.size v (ks.take k) ∧ Below w.heap.size w wr
def MEnd (w : World) (ks : List Int) (e : Ending) (w' : World) : Prop := ∃ v, e = .returned v ∧ OutRow w' w.heap.size v ks ∧ Below w.heap.size w w'

set_option maxRecDepth 100000 in
set_option maxHeartbeats 4000000 in
theorem made_any (s : ByteArray) (A : Option Addr) (g c : Nat) (ks : List Int) (w : World) (hn : ks.length ≤ 1000) (hA : 0 < ks.length → A = some ⟨g, 0, none⟩ ∧ g < w.heap.size) (ht : Toks w s g ks) :
    Calls Try.prog 22 #[.slice A ks.length c] w (MEnd w ks) := by
  have HT := Lib.hid ht
  have HA := Lib.hid hA
  clear ht hA
  go_enter Try.func22, Try.ntmps22
  go_wp2_with fail
  go_loopw [3, 11] (fun v i wr => M1 w ks v i wr) (fun _ i _ => ks.length - (intOf i).toNat)
  case atStart =>
    exact ⟨0, Nat.zero_le _, rfl, ⟨[], World.ownsRow_made w #[] 0 (Nat.le_refl _) (by decide) rfl, fun j k hj => by simp at hj⟩, (Below.refl _ _).alloc (Nat.le_refl _) _⟩
  case round =>
    obtain ⟨k, hk, rfl, ⟨ps, ho, hp⟩, hb⟩ := hrel
    by_cases hlt : k < ks.length
    · obtain ⟨ha, hg⟩ := HA.out (by omega)
      subst ha
      obtain ⟨kk, hkk⟩ : ∃ kk, ks[k]? = some kk := ⟨_, List.getElem?_eq_getElem hlt⟩
      have HK := Lib.hid hkk
      obtain ⟨c0, c1, c2, c3, c4, c5, c6, c7, c8, c9, c10, c11, c12⟩ := (HT.out.below hg hb).at_ hkk
      have hz := hb.size
      have hkl : (ks.take k).length = k := by rw [List.length_take]; omega
      rw [hkl] at ho
      have hlp : ps.length = k := by have := ho.1; omega
      have HP := Lib.hid hlp
      obtain ⟨i0, hi0, hz0, hz1, hz2⟩ := info_parts info46
      have hfar : u3.ownBlock ≠ some wr.heap.size := fun he => own_ne_new ho 0 he.symm
      clear hkk hkl hlp
      go_wp2_with fail
      go_region_held3 (fun w' => w'.cell? ⟨wr.heap.size, 0, none⟩ = some (.int .i64 kk) ∧ w'.cell? ⟨wr.heap.size, 1, none⟩ = some (.int .i64 0) ∧ w'.cell? ⟨wr.heap.size, 2, none⟩ = some (.int .i64 0) ∧ w'.cell? ⟨wr.heap.size, 3, none⟩ = some (.string s) ∧ w'.cell? ⟨wr.heap.size, 4, none⟩ = some (.string s) ∧ w'.cell? ⟨wr.heap.size, 5, none⟩ = some (.string ⟨#[]⟩) ∧ w'.cell? ⟨wr.heap.size, 6, none⟩ = some (.int .i64 1) ∧ w'.cell? ⟨wr.heap.size, 7, none⟩ = some (.int .i64 ((k : Int) + 1)) ∧ w'.cell? ⟨wr.heap.size, 8, none⟩ = some (.int .i64 0) ∧ w'.cell? ⟨wr.heap.size, 9, none⟩ = some (.int .i64 0) ∧ w'.cell? ⟨wr.heap.size, 10, none⟩ = some (.int .i64 0))
        (first | go_keep | ((try dsimp only); (repeat' apply And.intro) <;> (first | go_keep | (go_split_ands; rw [hgrow3.cell_far _ (by simp; omega) (Ne.symm hfar)]; first | assumption | go_keep) | (go_split_ands; rw [hbx.cell (by simp)]; first | assumption | go_keep))))
        (first | (go_at_call 31; refine (position_any _ _ _ _ _ _).mono ?_; rintro e w2 ⟨x, rfl, hbx⟩; have hz2s := hbx.size; simp at hz2s) | (refine step_append_lies _ (by rfl) _ _ _ (by rfl) w.heap.size 46 i0 _ 1 8 Try.underlying43 hi0 hz0 hz1 hz2 rfl (by omega) u3 k ps (by rfl) (((pw_own_below (by exact ho.alloc _) hbx).alloc _).alloc _) ⟨w2.heap.size + 1, 0, none⟩ 1 1 [.pointer (some ⟨w2.heap.size, 0, none⟩)] (by rfl) (by rfl) (World.news_of_block (cs := #[.pointer (some ⟨w2.heap.size, 0, none⟩)]) (t := 46) (fr := (0, 0)) (by simpa using heap_alloc_new (w2.alloc _) _)) (by simp [Value.oneCell']) (by omega) (by unfold maxLen; omega) (by omega) (by simp; omega) (w2.heap.size + 2) (by simp) ?_; intro gg cap w3 hown3 hgrow3 hat3 hlt3))
      go_wp2_with fail
      go_roundw
      case rel =>
        obtain ⟨p1, p2⟩ := push_at hb HK.out HP.out hp ho (B := .cells (tokC s kk ((k : Int) + 1)).toArray 33) ⟨hbx.os, hbx.tape, hbx.output, hbx.size, hbx.block⟩ rfl hown3 hgrow3
        exact ⟨k + 1, by omega, by go_num, p1, p2⟩
      case measure => simp [intOf]; omega
    · have hke : k = ks.length := by omega
      obtain ⟨q1, q2⟩ : OutRow wr w.heap.size u3 ks ∧ Below w.heap.size w wr := ⟨⟨ps, by rw [hke, List.take_length] at ho; exact ho, by rw [hke, List.take_length] at hp; exact hp⟩, hb⟩
      clear hke ho hp hb
      obtain ⟨wo, hwo⟩ : ∃ wo : World, wo = wr := ⟨_, rfl⟩
      subst hwo
      go_wp2_with fail
      go_loopw [38] (fun i wr => ∃ k2 : Nat, k2 ≤ ks.length ∧ i = .int .i64 k2 ∧ OutRow wr w.heap.size u3 ks ∧ Below w.heap.size w wr) (fun i _ => ks.length - (intOf i).toNat)
      case atStart => exact ⟨0, Nat.zero_le _, rfl, q1, q2⟩
      case round =>
        obtain ⟨k2, hk2, rfl, r1, r2⟩ := hrel
        have hz := r2.size
        by_cases hlt2 : k2 < ks.length
        · obtain ⟨ha, hg⟩ := HA.out (by omega)
          subst ha
          obtain ⟨kk, hkk⟩ : ∃ kk, ks[k2]? = some kk := ⟨_, List.getElem?_eq_getElem hlt2⟩
          obtain ⟨c0, c1, c2, c3, c4, c5, c6, c7, c8, c9, c10, c11, c12⟩ := (HT.out.below hg r2).at_ hkk
          clear hkk
          go_wp2_with fail
          go_roundw
          case rel =>
            exact ⟨k2 + 1, by omega, by go_num, r1.below (((Below.refl _ _).alloc (Nat.le_refl _) _)), r2.alloc (by omega) _⟩
          case measure => simp [intOf]; omega
        · go_wp2_with fail
          go_ret
          exact ⟨_, rfl, r1, r2⟩

end Go.Proofs.Ytpimdceafnhmlaa.Inv
