/-
  THE WALK of the path's parser at a point (parsePathDot): '.name' and '..name'. (Written by wip/genprsb.py.)
-/
import Derived.Test.YtppgnpnkcilmeaaGreatDoorPrsA
namespace Go.Proofs.YtppgnpnkcilmeaaGreatDoor.Pth
open Go.RowKit Go.Proofs.YtppgnpnkcilmeaaGreatDoorW.PrintWords Go.Proofs.YtppgnpnkcilmeaaGreatDoorW.PrintLast Go.Proofs.YtppgnpnkcilmeaaGreatDoorW.PrintMore
open Go.Proofs.YtppgnpnkcilmeaaGreatDoor.Str
set_option maxRecDepth 100000

set_option maxHeartbeats 4000000 in
theorem dot_deep {w : World} {pb rn rb e T nn g cap c b : Nat} {ss : List Stp} {l : List UInt8} (h : St w pb ss rn rb e T nn) (hR : Runes w g l) (ha : ∀ c ∈ l, c.toNat < 128) (hl : l.length ≤ 1000) (hcap : l.length ≤ cap)
    (hN : NameAt l (c + 2) b) (h2 : ch l (c + 1) = 46) :
    Calls Tryz.prog 16 #[.pointer (some ⟨pb, 0, none⟩), .slice (some ⟨g, 0, none⟩) l.length cap, .int .i64 (c : Int)] w
      (ParseEnd w pb ss rn rb e (.deep ((l.drop (c + 2)).take (b - (c + 2)))) (.slice (some ⟨g, 0, none⟩) l.length cap) b) := by
  have hlt := hN.lt
  have hle := hN.le
  have HC := Lib.hid (recursive_any h hR ha hl hcap hN)
  have c0 := h.c0
  have c1 := h.c1
  have r1 := hR (c + 1) (by omega)
  rw [h2] at r1
  have t0 : decide ((c : Int) + 1 < (l.length : Int)) = true := decide_eq_true (by omega)
  have t1 : ((c : Int) + 1).toNat = c + 1 := by omega
  clear h hR hN ha h2
  go_enter Tryz.func16, Tryz.ntmps16
  go_wp2_with fail
  go_step3
  go_wp2_with fail
  refine HC.out.mono ?_
  rintro e2 w2 ⟨rfl, hst, hbe⟩
  go_wp2_with fail
  try simp only [Exit.noGoto]
  refine bodyPost_ret (results_tmp4 rfl _ _ _) rfl ?_
  exact ⟨rfl, hst, hbe⟩

set_option maxHeartbeats 4000000 in
theorem dot_key {w : World} {pb rn rb e T nn g cap c b : Nat} {ss : List Stp} {l : List UInt8} (h : St w pb ss rn rb e T nn) (hR : Runes w g l) (ha : ∀ c ∈ l, c.toNat < 128) (hl : l.length ≤ 1000) (hcap : l.length ≤ cap)
    (hN : NameAt l (c + 1) b) :
    Calls Tryz.prog 16 #[.pointer (some ⟨pb, 0, none⟩), .slice (some ⟨g, 0, none⟩) l.length cap, .int .i64 (c : Int)] w
      (ParseEnd w pb ss rn rb e (.key ((l.drop (c + 1)).take (b - (c + 1)))) (.slice (some ⟨g, 0, none⟩) l.length cap) b) := by
  have hlt := hN.lt
  have hle := hN.le
  have HC := Lib.hid (child_any h ((l.drop (c + 1)).take (b - (c + 1))))
  have c0 := h.c0
  have c1 := h.c1
  have r1 := hR (c + 1) (by omega)
  obtain ⟨_, _, p3, _, _, p6⟩ := hN.plain (c + 1) (by omega) (by omega)
  have z3 : (ch l (c + 1) == 46) = false := beq_eq_false_iff_ne.2 p3
  have z6 : (ch l (c + 1) == 39) = false := beq_eq_false_iff_ne.2 p6
  have hcs := cut_str hR ha (cap - (c + 1)) (c + 1) b (by omega) hle
  have hsl := cut_sl g cap (c + 1) b hlt hle hcap
  rw [show ((c + 1 : Nat) : Int) = (c : Int) + 1 by omega] at hsl
  have hqe : (((c : Int) + 1) == (b : Int)) = false := beq_eq_false_iff_ne.2 (by omega)
  have w0 : decide ((c : Int) + 1 < (l.length : Int)) = true := decide_eq_true (by omega)
  have w1 : ((c : Int) + 1).toNat = c + 1 := by omega
  have HR := Lib.hid hR
  have HN := Lib.hid hN
  clear h hR hN ha p3 p6
  generalize B ((l.drop (c + 1)).take (b - (c + 1))) = nb at *
  generalize hx0 : ch l (c + 1) = x0 at *
  go_enter Tryz.func16, Tryz.ntmps16
  go_wp2_with fail
  refine wp_scope_jumps 0 (fun a' w' => w' = w ∧ ∃ u3 u4 u5 u6 u7 u8 u9 u10 u11 u12 u13 u14 u16 u17 u18 u19 u20 u21 u22 u23 u24 u25 u26 u27 u28 u29 u30 u31 u32 u33 u34 u35 u36 u37 u38 u39 u40 u41 u42 u43 u44 u45 u46 u47 u48 u49 u50 u51 u52 u53 u54 u55 u56 u57 u58 u59 u60 u61 u62 u63 u64 u65 u66 u67 u68 u69 u70 u71 u72 u73 u74 u75 u76 u77 u78 u79 u80 u81 u82 u83 u84 u85 u86 u87 u88 u89 u90 u91 u92 u93 u94 u95 u96 u97 u98 u99 u100 u101 u102 u103 u104 u105 u106 u107 u108 u109 u110 u111 u112 u113 u114 : Value, a' = { tmps := #[.pointer (some ⟨pb, 0, none⟩), .slice (some ⟨g, 0, none⟩) l.length cap, .int .i64 (b : Int), u3, u4, u5, u6, u7, u8, u9, u10, u11, u12, u13, u14, .int .i64 ((c : Int) + 1), u16, u17, u18, u19, u20, u21, u22, u23, u24, u25, u26, u27, u28, u29, u30, u31, u32, u33, u34, u35, u36, u37, u38, u39, u40, u41, u42, u43, u44, u45, u46, u47, u48, u49, u50, u51, u52, u53, u54, u55, u56, u57, u58, u59, u60, u61, u62, u63, u64, u65, u66, u67, u68, u69, u70, u71, u72, u73, u74, u75, u76, u77, u78, u79, u80, u81, u82, u83, u84, u85, u86, u87, u88, u89, u90, u91, u92, u93, u94, u95, u96, u97, u98, u99, u100, u101, u102, u103, u104, u105, u106, u107, u108, u109, u110, u111, u112, u113, u114], defers := [] }) (fun _ _ => 0) rfl ?_ ?_
  · go_wp2_with fail
    go_loopw [2] (fun i wr => ∃ k : Nat, c + 1 ≤ k ∧ k ≤ b ∧ i = .int .i64 k ∧ wr = w) (fun i _ => b - (intOf i).toNat)
    case atStart => exact ⟨c + 1, by omega, by omega, by go_num, by first | rfl | trivial⟩
    case round =>
      obtain ⟨k, hk1, hk2, rfl, rfl⟩ := hrel
      by_cases hkb : k < b
      · have hlk : k < l.length := by omega
        have hc := HR.out k hlk
        obtain ⟨q1, q2, q3, q4, q5, _⟩ := HN.out.plain k hk1 hkb
        have t0 : decide ((k : Int) < (l.length : Int)) = true := decide_eq_true (by omega)
        have t0n : decide (k < l.length) = true := decide_eq_true hlk
        have t1 : (ch l k == 36) = false := beq_eq_false_iff_ne.2 q1
        have t2 : (ch l k == 42) = false := beq_eq_false_iff_ne.2 q2
        have t3 : (ch l k == 46) = false := beq_eq_false_iff_ne.2 q3
        have t4 : (ch l k == 91) = false := beq_eq_false_iff_ne.2 q4
        have t5 : (ch l k == 93) = false := beq_eq_false_iff_ne.2 q5
        generalize ch l k = x at *
        go_wp2_with fail
        go_roundw
        case measure => simp [intOf]; omega
        case rel => exact ⟨k + 1, by omega, by omega, by go_num, by first | rfl | trivial⟩
      · have hke : k = b := by omega
        subst hke
        by_cases hlk : k < l.length
        · have hc := HR.out k hlk
          have t0 : decide ((k : Int) < (l.length : Int)) = true := decide_eq_true (by omega)
          have t0n : decide (k < l.length) = true := decide_eq_true hlk
          rcases HN.out.stop hlk with q | q
          all_goals
            rw [q] at hc
            go_wp2_with fail
            go_step3
            exact ⟨rfl, rfl, _, _, _, _, _, _, _, _, _, _, _, _, _, _, _, _, _, _, _, _, _, _, _, _, _, _, _, _, _, _, _, _, _, _, _, _, _, _, _, _, _, _, _, _, _, _, _, _, _, _, _, _, _, _, _, _, _, _, _, _, _, _, _, _, _, _, _, _, _, _, _, _, _, _, _, _, _, _, _, _, _, _, _, _, _, _, _, _, _, _, _, _, _, _, _, _, _, _, _, _, _, _, _, _, _, _, _, _, _, _, _, rfl⟩
        · have t0 : decide ((k : Int) < (l.length : Int)) = false := decide_eq_false (by omega)
          have t0n : decide (k < l.length) = false := decide_eq_false hlk
          go_wp2_with fail
          go_step3
          go_wp2_with fail
          refine HC.out.mono ?_
          rintro e2 w2 ⟨rfl, hst, hbe⟩
          go_wp2_with fail
          simp only [Exit.jump]
          refine bodyPost_ret (results_tmp4 rfl _ _ _) rfl ?_
          exact ⟨rfl, hst, hbe⟩

  · rintro a' w' ⟨rfl, u3, u4, u5, u6, u7, u8, u9, u10, u11, u12, u13, u14, u16, u17, u18, u19, u20, u21, u22, u23, u24, u25, u26, u27, u28, u29, u30, u31, u32, u33, u34, u35, u36, u37, u38, u39, u40, u41, u42, u43, u44, u45, u46, u47, u48, u49, u50, u51, u52, u53, u54, u55, u56, u57, u58, u59, u60, u61, u62, u63, u64, u65, u66, u67, u68, u69, u70, u71, u72, u73, u74, u75, u76, u77, u78, u79, u80, u81, u82, u83, u84, u85, u86, u87, u88, u89, u90, u91, u92, u93, u94, u95, u96, u97, u98, u99, u100, u101, u102, u103, u104, u105, u106, u107, u108, u109, u110, u111, u112, u113, u114, rfl⟩
    go_wp2_with fail
    refine HC.out.mono ?_
    rintro e2 w2 ⟨rfl, hst, hbe⟩
    go_wp2_with fail
    simp only [Exit.jump]
    refine bodyPost_ret (results_tmp4 rfl _ _ _) rfl ?_
    exact ⟨rfl, hst, hbe⟩

end Go.Proofs.YtppgnpnkcilmeaaGreatDoor.Pth
