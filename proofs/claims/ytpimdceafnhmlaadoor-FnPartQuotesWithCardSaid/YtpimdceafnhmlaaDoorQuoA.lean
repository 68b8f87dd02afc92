/-
  THE WALKS of quoteWith and what it calls, at printable characters of ASCII.
-/
import Derived.Test.YtpimdceafnhmlaaDoorPFnPartQuotesWithx0
import Derived.Test.YtpimdceafnhmlaaDoorStr
import Derived.Outline
import Derived.Lib.Hide
import Derived.OwnWalk
namespace Go.Proofs.YtpimdceafnhmlaaDoor.Quo
open Go.RowKit Go.Proofs.YtpimdceafnhmlaaDoorW.PrintWords Go.Proofs.YtpimdceafnhmlaaDoorW.PrintLast Go.Proofs.YtpimdceafnhmlaaDoorW.PrintMore
open Go.Proofs.YtpimdceafnhmlaaDoor.Str

theorem info5 : (Tryd.prog.info? 5).map (fun i => (i.zero, i.size, i.bytes)) = some (some (.int .u8 0), 1, 1) := by kernel_rfl

theorem isPrint_ascii (c : Int) (w : World) (h0 : 32 ≤ c) (h1 : c ≤ 126) : Calls Tryd.prog 40 #[.int .i32 c] w fun e w' => e = .returned (.bool true) ∧ w = w' := by
  have h2 : c ≤ 255 := by omega
  have h3 : c < 127 := by omega
  go_enter Tryd.func40, Tryd.ntmps40
  go_wp2_with fail
  go_ret
  exact ⟨rfl, rfl⟩

theorem encode_ascii (b : Nat) (c : Int) (c0 : Value) (w : World) (h0 : 32 ≤ c) (h1 : c ≤ 126) (hc : w.cell? ⟨b, 0, none⟩ = some c0) (hf : w.frozen? ⟨b, 0, none⟩ = false) :
    Calls Tryd.prog 41 #[.slice (some ⟨b, 0, none⟩) 4 4, .int .i32 c] w fun e w' => e = .returned (.int .i64 1) ∧ w.setCell ⟨b, 0, none⟩ (.int .u8 c) = w' := by
  have e1 : c % 4294967296 = c := by omega
  have e2 : c % 256 = c := by omega
  have E1 := Lib.hid e1
  have E2 := Lib.hid e2
  clear e1 e2
  go_enter Tryd.func41, Tryd.ntmps41
  go_wp2_with fail
  go_ret
  exact ⟨rfl, rfl⟩

/-- What a character is between single quotes. -/
def qd (c : Int) : List Int := if c = 39 then [39, 39] else [c]
def AppEnd (base : Nat) (w : World) (ys : List Int) (e : Ending) (w' : World) : Prop := ∃ v', e = .returned v' ∧ w'.ownsRow base 5 1 v' ys.length (nums .u8 ys) ∧ Below base w w'

set_option maxRecDepth 100000 in
set_option maxHeartbeats 2000000 in
theorem esc_quote (v : Value) (xs : List Int) (base : Nat) (w : World) (hb : base ≤ w.heap.size) (ho : w.ownsRow base 5 1 v xs.length (nums .u8 xs)) (hl : xs.length ≤ 10000) :
    Calls Tryd.prog 33 #[v, .int .i32 39, .int .u8 39] w (AppEnd base w (xs ++ [39, 39])) := by
  have h1 := ho.alloc (.cells #[.int .u8 0, .int .u8 0, .int .u8 0, .int .u8 0] 70)
  go_enter Tryd.func33, Tryd.ntmps33
  have b1 : Below base w (w.alloc (.cells #[.int .u8 0, .int .u8 0, .int .u8 0, .int .u8 0] 70)) := (Below.refl _ _).alloc hb _
  go_wp2_with (first | (at_builtin; refine print_append_num (w0 := w) base rfl (.tmp 15) (.tmp 18) 28 5 .u8 1 rfl Tryd.underlying28 info5 (by decide) v xs 39 rfl (by simp [Act.eval]) (ho.alloc _) ((Below.refl _ _).alloc hb _) (by simp; omega) (by omega) ?_; intro v1 w1 hown1 hb1 hg1 _; have hz1 := hb1.size) | (at_builtin; refine print_append_num (w0 := w) base rfl (.tmp 20) (.tmp 23) 28 5 .u8 1 rfl Tryd.underlying28 info5 (by decide) v1 (xs ++ [39]) 39 rfl rfl hown1 hb1 (by omega) (by simp; omega) ?_; intro v2 w2 hown2 hb2 hg2 _))
  go_ret
  refine ⟨_, rfl, ?_, hb2⟩
  rw [List.append_assoc] at hown2
  exact hown2

set_option maxRecDepth 100000 in
set_option maxHeartbeats 2000000 in
theorem esc_plain (v : Value) (xs : List Int) (c : Int) (base : Nat) (w : World) (hb : base ≤ w.heap.size) (ho : w.ownsRow base 5 1 v xs.length (nums .u8 xs)) (hl : xs.length ≤ 10000) (h0 : 32 ≤ c) (h1 : c ≤ 126) (hc : c ≠ 39) :
    Calls Tryd.prog 33 #[v, .int .i32 c, .int .u8 39] w (AppEnd base w (xs ++ [c])) := by
  have hq : (c == 39) = false := by simp [hc]
  clear hc
  go_enter Tryd.func33, Tryd.ntmps33
  go_wp2_with fail
  refine (isPrint_ascii c _ h0 h1).mono ?_
  rintro e w' ⟨rfl, rfl⟩
  go_wp2_with fail
  refine (encode_ascii w.heap.size c (.int .u8 0) _ h0 h1 (by simp) (by simp)).mono ?_
  rintro e w1 ⟨rfl, hw⟩
  have f1 : w1.ownsRow base 5 1 v xs.length (nums .u8 xs) := by
    rw [← hw]
    exact own_setCell (ho.alloc _) (own_ne_new ho 0) _
  have f2 : Below base w w1 := by
    rw [← hw]
    exact ((Below.refl _ _).alloc hb _).setCell hb _
  have f3 : ReadsInt w1 .u8 (some ⟨w.heap.size, 0, none⟩) 1 [c] := by
    rw [← hw]
    refine ⟨rfl, by decide, fun _ => ⟨_, rfl, fun j hj => ?_⟩⟩
    obtain rfl : j = 0 := by omega
    rw [add_plain]
    have h1 := blk_cell (blk_set (heap_alloc_new w (.cells #[.int .u8 0, .int .u8 0, .int .u8 0, .int .u8 0] 70)) 0 (.int .u8 c)) 0
    rw [h1]
    rfl
  have hz := f2.size
  clear hw ho
  go_wp2_with (at_builtin; refine print_append_row (w0 := w) base rfl (.tmp 31) (.tmp 33) 28 5 .u8 1 rfl Tryd.underlying28 info5 (by decide) v xs [c] (some ⟨w.heap.size, 0, none⟩) 1 4 rfl rfl f1 f3 f2 (by omega) (by omega) ?_; intro v2 w2 hown2 hb2 hg2 _)
  go_ret
  exact ⟨_, rfl, hown2, hb2⟩

theorem esc_any (v : Value) (xs : List Int) (c : Int) (base : Nat) (w : World) (hb : base ≤ w.heap.size) (ho : w.ownsRow base 5 1 v xs.length (nums .u8 xs)) (hl : xs.length ≤ 10000) (h0 : 32 ≤ c) (h1 : c ≤ 126) :
    Calls Tryd.prog 33 #[v, .int .i32 c, .int .u8 39] w (AppEnd base w (xs ++ qd c)) := by
  unfold qd
  by_cases hc : c = 39
  · subst hc
    exact esc_quote v xs base w hb ho hl
  · rw [if_neg hc]
    exact esc_plain v xs c base w hb ho hl h0 h1 hc

/-- A text between single quotes, without them. -/
def dq (l : List UInt8) : List Int := (ints l).flatMap qd
theorem dq_length (l : List UInt8) : (dq l).length ≤ 2 * l.length := by
  induction l with
  | nil => simp [dq, ints]
  | cons c t ih =>
    have e : dq (c :: t) = qd c.toNat ++ dq t := rfl
    have : (qd c.toNat).length ≤ 2 := by unfold qd; split <;> simp
    rw [e, List.length_append, List.length_cons]
    omega
theorem dq_snoc (l : List UInt8) (c : UInt8) : dq (l ++ [c]) = dq l ++ qd c.toNat := by simp [dq, ints]

theorem extract_to_size (s : ByteArray) (k : Nat) : (s.extract k s.size).size = s.size - k := by
  have h : s = B s.data.toList := eq_B s
  rw [h, B_from, B_size, B_size, List.length_drop]

def L1 (base : Nat) (w : World) (l : List UInt8) (v s : Value) (wr : World) : Prop :=
  ∃ (k : Nat) (sb : ByteArray), k ≤ l.length ∧ s = .string sb ∧ Hid (sb = B (l.drop k)) ∧ sb.size + k = l.length ∧ wr.ownsRow base 5 1 v (39 :: dq (l.take k)).length (nums .u8 (39 :: dq (l.take k))) ∧ Below base w wr

set_option maxRecDepth 100000 in
set_option maxHeartbeats 2000000 in
theorem append_any (g cap base : Nat) (l : List UInt8) (w : World) (hb : base ≤ w.heap.size) (ho : w.ownsRow base 5 1 (.slice (some ⟨g, 0, none⟩) 0 cap) 0 []) (hl : l.length ≤ 1000) (hc : l.length ≤ cap) (hc2 : cap ≤ 2000) (ha : ∀ c ∈ l, 32 ≤ (c.toNat : Int) ∧ (c.toNat : Int) ≤ 126) :
    Calls Tryd.prog 25 #[.slice (some ⟨g, 0, none⟩) 0 cap, .string (B l), .int .u8 39] w (AppEnd base w (39 :: dq l ++ [39])) := by
  have HA := Lib.hid ha
  clear ha
  have hsz : (B l).size = l.length := B_size l
  generalize hlb : B l = lb at *
  have HLB := Lib.hid hlb
  have hsz1 : lb.size ≤ cap := by omega
  have hsz2 : lb.size ≤ 1000 := by omega
  have HSZ := Lib.hid hsz
  clear hlb hsz
  go_enter Tryd.func25, Tryd.ntmps25
  go_wp2_with (at_builtin; refine print_append_num (w0 := w) base rfl (.tmp 32) (.tmp 34) 28 5 .u8 1 rfl Tryd.underlying28 info5 (by decide) (.slice (some ⟨g, 0, none⟩) 0 cap) [] 39 rfl rfl ho (Below.refl _ _) hb (by decide) ?_; intro v1 w1 hown1 hb1 hg1 _; have hz1 := hb1.size)
  go_loopw [0, 1] (fun v s wr => L1 base w l v s wr) (fun _ s _ => match s with | .string q => q.size | _ => 0)
  case atStart => exact ⟨0, lb, Nat.zero_le _, rfl, HLB.out.symm, by have := HSZ.out; omega, hown1, hb1⟩
  case round =>
    obtain ⟨k, sb, hk, rfl, HS, hks, hown, hbr⟩ := hrel
    have hz := hbr.size
    have hdl : (39 :: dq (l.take k)).length ≤ 10000 := by
      have := dq_length (l.take k)
      have := List.length_take_le k l
      simp; omega
    by_cases hlt : k < l.length
    · have hpos : 0 < sb.size := by omega
      have hpos2 : (0 : Int) < (sb.size : Int) := by omega
      have hs0 : sb[0]'hpos = l[k] := by
        have h := HS.out
        subst h
        simp [B, ByteArray.getElem_eq_getElem_data]
      have hr := HA.out l[k] (List.getElem_mem hlt)
      have q0 : 32 ≤ ((sb[0]'hpos).toNat : Int) := by rw [hs0]; exact hr.1
      have q1 : ((sb[0]'hpos).toNat : Int) ≤ 126 := by rw [hs0]; exact hr.2
      have HS0 := Lib.hid hs0
      clear hs0 hr
      go_wp2_with fail
      refine (esc_any u0 (39 :: dq (l.take k)) _ base _ (by omega) hown hdl q0 q1).mono ?_
      rintro e w2 ⟨v2, rfl, hown2, hb2⟩
      go_wp2_with fail
      go_roundw
      case rel =>
        refine ⟨k + 1, _, by omega, rfl, Lib.hid ?_, ?_, ?_, hbr.trans hb2⟩
        · rw [HS.out, B_from, List.drop_drop]
        · have := extract_to_size sb 1
          omega
        · have e : l.take (k + 1) = l.take k ++ [l[k]] := (List.take_append_getElem hlt).symm
          rw [e, dq_snoc, ← List.cons_append]
          rw [HS0.out] at hown2
          exact hown2
      case measure =>
        have := extract_to_size sb 1
        show (sb.extract 1 sb.size).size < sb.size
        omega
    · have hz0 : sb.size = 0 := by omega
      have hke : k = l.length := by omega
      rw [hke, List.take_length] at hown
      have hnp : ¬ (0 : Int) < (sb.size : Int) := by omega
      have hd2 : (39 :: dq l).length ≤ 10000 := by rw [hke, List.take_length] at hdl; exact hdl
      clear hz0 hke hdl
      go_wp2_with (at_builtin; refine print_append_num (w0 := w) base rfl (.tmp 78) (.tmp 80) 28 5 .u8 1 rfl Tryd.underlying28 info5 (by decide) u0 (39 :: dq l) 39 rfl rfl hown hbr (by omega) (by omega) ?_; intro v3 w3 hown3 hb3 hg3 _)
      go_ret
      exact ⟨_, rfl, hown3, hb3⟩

end Go.Proofs.YtpimdceafnhmlaaDoor.Quo
