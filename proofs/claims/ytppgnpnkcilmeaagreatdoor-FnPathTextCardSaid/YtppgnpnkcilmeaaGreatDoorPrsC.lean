/-
  THE WALK of the path's parser at a bracket (parsePathIndex): '[number]' and '[*]'. (Written by wip/genprsc.py.)
-/
import Derived.Test.YtppgnpnkcilmeaaGreatDoorPrsA
import Derived.Test.YtppgnpnkcilmeaaGreatDoorShelf
import Derived.Deep.DeepCutAuto
namespace Go.Proofs.YtppgnpnkcilmeaaGreatDoor.Pth
open Go.RowKit Go.Proofs.YtppgnpnkcilmeaaGreatDoorW.PrintWords Go.Proofs.YtppgnpnkcilmeaaGreatDoorW.PrintLast Go.Proofs.YtppgnpnkcilmeaaGreatDoorW.PrintMore
open Go.Proofs.YtppgnpnkcilmeaaGreatDoor.Str
set_option maxRecDepth 100000

theorem Seg.below {w w' : World} (hb : Below w.heap.size w w') {pb e : Nat} : ∀ {ss : List Stp} {b : Nat}, Seg w pb e b ss → Seg w' pb e b ss
  | [], _, h => ⟨h.1, cell_below hb h.2⟩
  | _ :: _, _, ⟨h1, h2, n, b', h3, h4, h5, h6, h7⟩ => ⟨h1, h2, n, b', h3, h4, cell_below hb h5, h6.of (fun _ _ hv => cell_below hb hv), Seg.below hb h7⟩
theorem St.below {w w' : World} (hb : Below w.heap.size w w') {pb rn rb e T nn : Nat} {ss : List Stp} (h : St w pb ss rn rb e T nn) : St w' pb ss rn rb e T nn :=
  { h with c0 := cell_below hb h.c0, c1 := cell_below hb h.c1, f1 := (hb.frozen (p := ⟨pb, 1, none⟩) (lt_of_cell h.c1)).trans h.f1, cr := cell_below hb h.cr, cn := cell_below hb h.cn, fe := (hb.frozen (p := ⟨e, 0, none⟩) (lt_of_cell h.ce)).trans h.fe, ce := cell_below hb h.ce, seg := h.seg.below hb }

theorem parse_ok (s : ByteArray) (v : Int) (hs : s.size ≤ 1000) (h : Lib.parseIntB 64 s.data.toList = .ok v) (w : World) :
    Calls Tryz.prog 25 #[.string s, .int .i64 10, .int .i64 64] w fun e w' => e = .returned (.tuple #[.int .i64 v, .nilIface]) ∧ Below w.heap.size w w' := by
  refine (Tryz.strconv_ParseInt_10_at64_ok s (by omega) v h w).mono ?_
  rintro e w1 ⟨rfl, rfl | ⟨t, rfl⟩⟩
  · exact ⟨rfl, Below.refl _ _⟩
  · exact ⟨rfl, bytes_below (Below.refl _ _) (Nat.le_refl _) 5 t⟩

/-- A digit. -/
def dig (x : Int) : Prop := x = 48 ∨ x = 49 ∨ x = 50 ∨ x = 51 ∨ x = 52 ∨ x = 53 ∨ x = 54 ∨ x = 55 ∨ x = 56 ∨ x = 57
/-- Digits from a to b, and ']' there. -/
structure NumAt (l : List UInt8) (a b : Nat) : Prop where
  le : a ≤ b
  lt : b < l.length
  digs : ∀ j, a ≤ j → j < b → dig (ch l j)
  stop : ch l b = 93

theorem PushEnd.from {w w1 : World} {pb rn rb e : Nat} {ss : List Stp} {s : Stp} {E : Ending} {w' : World} (hb : Below w.heap.size w w1) (h : PushEnd w1 pb ss rn rb e s E w') : PushEnd w pb ss rn rb e s E w' := by
  obtain ⟨h1, ⟨e', T', nn', h2, h3⟩, h4⟩ := h
  have := hb.size
  exact ⟨h1, ⟨e', T', nn', by omega, h3⟩, fun B b1 b2 b3 => (hb.mono b3).trans (h4 B b1 b2 (by omega))⟩

set_option maxHeartbeats 8000000 in
theorem index_all {w : World} {pb rn rb e T nn g cap c b : Nat} {ss : List Stp} {l : List UInt8} (h : St w pb ss rn rb e T nn) (hR : Runes w g l) (ha : ∀ c ∈ l, c.toNat < 128) (hl : l.length ≤ 1000) (hcap : l.length ≤ cap)
    (hN : NumAt l (c + 2) b) (hx : ch l (c + 1) = 42) (ht : (l.drop (c + 1)).take (b - (c + 1)) = [42]) :
    Calls Tryz.prog 17 #[.pointer (some ⟨pb, 0, none⟩), .slice (some ⟨g, 0, none⟩) l.length cap, .int .i64 (c : Int)] w
      (ParseEnd w pb ss rn rb e (.all) (.slice (some ⟨g, 0, none⟩) l.length cap) (b + 1)) := by
  have hlt := hN.le
  have hle := hN.lt
  have c0 := h.c0
  have c1 := h.c1
  have r1 := hR (c + 1) (by omega)
  have w0 : decide ((l.length : Int) ≤ (c : Int) + 1) = false := decide_eq_false (by omega)
  have w1 : ((c : Int) + 1).toNat = c + 1 := by omega
  have w2 : decide ((c : Int) + 1 < (l.length : Int)) = true := decide_eq_true (by omega)
  have hcs := cut_str hR ha (cap - (c + 1)) (c + 1) b (by omega) (by omega)
  have hsl := cut_sl g cap (c + 1) b (by omega) (by omega) hcap
  rw [show ((c + 1 : Nat) : Int) = (c : Int) + 1 by omega] at hsl
  have HC := Lib.hid (allof_any h)
  have hst : (B ((l.drop (c + 1)).take (b - (c + 1)))).toList = [42] := by rw [ht, B_toList]
  clear ht
  have HR := Lib.hid hR
  have HN := Lib.hid hN
  clear h hR hN ha
  generalize B ((l.drop (c + 1)).take (b - (c + 1))) = nb at *
  generalize hx0 : ch l (c + 1) = x0 at *
  go_enter Tryz.func17, Tryz.ntmps17
  go_upto_if 43 with fail
  go_cut [43] from 43 to 54 (fun s43 wx => s43 = .bool true ∧ wx = w)
  case first =>
    subst hx
    all_goals
      go_wp2_with fail
      go_meet
      case rel => exact ⟨rfl, rfl⟩
  case rest =>
    obtain ⟨rfl, rfl⟩ := hcut
    go_wp2_with fail
    go_loopw [2] (fun i wr => ∃ k : Nat, c + 2 ≤ k ∧ k ≤ b ∧ i = .int .i64 k ∧ wr = wc) (fun i _ => b - (intOf i).toNat)
    case atStart => exact ⟨c + 2, by omega, by omega, by go_num, by first | rfl | trivial⟩
    case round =>
      obtain ⟨k, hk1, hk2, rfl, rfl⟩ := hrel
      have hlk : k < l.length := by omega
      have hc := HR.out k hlk
      have t0 : decide ((k : Int) < (l.length : Int)) = true := decide_eq_true (by omega)
      have t0n : decide (k < l.length) = true := decide_eq_true hlk
      by_cases hkb : k < b
      · have hd := HN.out.digs k hk1 hkb
        generalize ch l k = x at *
        rcases hd with rfl | rfl | rfl | rfl | rfl | rfl | rfl | rfl | rfl | rfl
        all_goals
          go_wp2_with fail
          go_roundw
          case measure => simp [intOf]; omega
          case rel => exact ⟨k + 1, by omega, by omega, by go_num, by first | rfl | trivial⟩
      · have hke : k = b := by omega
        subst hke
        rw [HN.out.stop] at hc
        go_wp2_with fail
        refine HC.out.mono ?_
        rintro e2 w2 ⟨rfl, hst2, hbe⟩
        go_wp2_with fail
        refine bodyPost_ret (results_tmp4 rfl _ _ _) rfl ?_
        exact ⟨by rw [show ((k + 1 : Nat) : Int) = (k : Int) + 1 by omega]; rfl, hst2, hbe⟩

set_option maxHeartbeats 8000000 in
theorem index_num {w : World} {pb rn rb e T nn g cap c b : Nat} {ss : List Stp} {l : List UInt8} (h : St w pb ss rn rb e T nn) (hR : Runes w g l) (ha : ∀ c ∈ l, c.toNat < 128) (hl : l.length ≤ 1000) (hcap : l.length ≤ cap)
    (hN : NumAt l (c + 2) b) {i : Nat} (hi : i < 1000000) (hd0 : dig (ch l (c + 1))) (ht : Lib.parseIntB 64 ((l.drop (c + 1)).take (b - (c + 1))) = .ok (i : Int)) (hns : ((l.drop (c + 1)).take (b - (c + 1)) == [42]) = false) :
    Calls Tryz.prog 17 #[.pointer (some ⟨pb, 0, none⟩), .slice (some ⟨g, 0, none⟩) l.length cap, .int .i64 (c : Int)] w
      (ParseEnd w pb ss rn rb e (.idx i) (.slice (some ⟨g, 0, none⟩) l.length cap) (b + 1)) := by
  have hlt := hN.le
  have hle := hN.lt
  have c0 := h.c0
  have c1 := h.c1
  have r1 := hR (c + 1) (by omega)
  have w0 : decide ((l.length : Int) ≤ (c : Int) + 1) = false := decide_eq_false (by omega)
  have w1 : ((c : Int) + 1).toNat = c + 1 := by omega
  have w2 : decide ((c : Int) + 1 < (l.length : Int)) = true := decide_eq_true (by omega)
  have hcs := cut_str hR ha (cap - (c + 1)) (c + 1) b (by omega) (by omega)
  have hsl := cut_sl g cap (c + 1) b (by omega) (by omega) hcap
  rw [show ((c + 1 : Nat) : Int) = (c : Int) + 1 by omega] at hsl
  have HP := Lib.hid (parse_ok (B ((l.drop (c + 1)).take (b - (c + 1)))) i (by rw [B_size, List.length_take]; omega) (by rw [B_data]; exact ht))
  have HS := Lib.hid h
  have hst : ((B ((l.drop (c + 1)).take (b - (c + 1)))).toList == [42]) = false := by rw [B_toList]; exact hns
  have hwr : IntKind.u64.wrap (i : Int) = i := by rw [IntKind.wrap_u64]; omega
  clear ht hns
  have HR := Lib.hid hR
  have HN := Lib.hid hN
  clear h hR hN ha
  generalize B ((l.drop (c + 1)).take (b - (c + 1))) = nb at *
  generalize hx0 : ch l (c + 1) = x0 at *
  go_enter Tryz.func17, Tryz.ntmps17
  go_upto_if 43 with fail
  go_cut [43] from 43 to 54 (fun s43 wx => s43 = .bool true ∧ wx = w)
  case first =>
    rcases hd0 with rfl | rfl | rfl | rfl | rfl | rfl | rfl | rfl | rfl | rfl
    all_goals
      go_wp2_with fail
      go_meet
      case rel => exact ⟨rfl, rfl⟩
  case rest =>
    obtain ⟨rfl, rfl⟩ := hcut
    go_wp2_with fail
    go_loopw [2] (fun i wr => ∃ k : Nat, c + 2 ≤ k ∧ k ≤ b ∧ i = .int .i64 k ∧ wr = wc) (fun i _ => b - (intOf i).toNat)
    case atStart => exact ⟨c + 2, by omega, by omega, by go_num, by first | rfl | trivial⟩
    case round =>
      obtain ⟨k, hk1, hk2, rfl, rfl⟩ := hrel
      have hlk : k < l.length := by omega
      have hc := HR.out k hlk
      have t0 : decide ((k : Int) < (l.length : Int)) = true := decide_eq_true (by omega)
      have t0n : decide (k < l.length) = true := decide_eq_true hlk
      by_cases hkb : k < b
      · have hd := HN.out.digs k hk1 hkb
        generalize ch l k = x at *
        rcases hd with rfl | rfl | rfl | rfl | rfl | rfl | rfl | rfl | rfl | rfl
        all_goals
          go_wp2_with fail
          go_roundw
          case measure => simp [intOf]; omega
          case rel => exact ⟨k + 1, by omega, by omega, by go_num, by first | rfl | trivial⟩
      · have hke : k = b := by omega
        subst hke
        rw [HN.out.stop] at hc
        go_wp2_with fail
        refine (HP.out _).mono ?_
        rintro e1 w5 ⟨rfl, hb1⟩
        go_wp2_with fail
        refine (index_any (HS.out.below hb1) i).mono ?_
        rintro e2 w2 hpe
        obtain ⟨rfl, hst2, hbe⟩ := hpe.from hb1
        go_wp2_with fail
        refine bodyPost_ret (results_tmp4 rfl _ _ _) rfl ?_
        exact ⟨by rw [show ((k + 1 : Nat) : Int) = (k : Int) + 1 by omega]; rfl, hst2, hbe⟩

end Go.Proofs.YtppgnpnkcilmeaaGreatDoor.Pth
