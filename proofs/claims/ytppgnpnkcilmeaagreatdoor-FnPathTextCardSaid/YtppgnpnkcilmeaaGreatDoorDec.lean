/-
  THE WALK of wrDecimal: the decimal digits.
-/
import Derived.Test.YtppgnpnkcilmeaaGreatDoorAsc
import Derived.Test.YtppgnpnkcilmeaaGreatDoorWMore
import Derived.Test.YtppgnpnkcilmeaaGreatDoorChecked
import Derived.Lib.ItoaNum
import Derived.Lib.Hide
namespace Go.Proofs.YtppgnpnkcilmeaaGreatDoor.Pth
open Go.RowKit Go.Proofs.YtppgnpnkcilmeaaGreatDoorW.PrintWords Go.Proofs.YtppgnpnkcilmeaaGreatDoorW.PrintLast Go.Proofs.YtppgnpnkcilmeaaGreatDoorW.PrintMore
open Go.Proofs.YtppgnpnkcilmeaaGreatDoor.Str
set_option maxRecDepth 100000

theorem enc_digit (m : Nat) (h : m < 10) : Utf8.encode (48 + (m : Int)) = B [UInt8.ofNat (48 + m)] := by
  have h1 := Asc.encode_ascii (UInt8.ofNat (48 + m)) (by simp; omega)
  rw [show (((UInt8.ofNat (48 + m)).toNat : Nat) : Int) = 48 + (m : Int) by simp; omega] at h1
  exact h1

theorem dec_len20 (i : Nat) (hi : i < 1000000) : (Lib.decDigits i).length ≤ 20 := by
  rw [Lib.decDigits_length]
  by_cases h : i = 0
  · subst h; rw [Lib.nDigits_small (by omega)]; omega
  · have := Lib.numDigits_eq i (by omega) (by omega); split at this <;> omega

set_option maxHeartbeats 1000000 in
theorem dec_any : ∀ (f n : Nat), n < f → n < 1000000 → ∀ w : World, Calls Tryz.prog 9 #[.int .i64 (n : Int)] w fun e w' => e = .returned (.string (B (Lib.decDigits n))) ∧ Below w.heap.size w w'
  | 0, n, hf, _, _ => absurd hf (by omega)
  | f + 1, n, hf, hn, w => by
    by_cases h : n < 10
    · have he := enc_digit n h
      have hd : Lib.decDigits n = [UInt8.ofNat (48 + n)] := by rw [Lib.decDigits, dif_pos h]
      have t0 : decide ((n : Int) < 10) = true := decide_eq_true (by omega)
      rw [hd]
      generalize B [UInt8.ofNat (48 + n)] = r at *
      go_enter Tryz.func9, Tryz.ntmps9
      go_wp2_with fail
      go_ret
      exact ⟨rfl, Below.refl _ _⟩
    · have he := enc_digit (n % 10) (by omega)
      have hd : Lib.decDigits n = Lib.decDigits (n / 10) ++ [UInt8.ofNat (48 + n % 10)] := by rw [Lib.decDigits, dif_neg h]
      have t0 : decide ((n : Int) < 10) = false := decide_eq_false (by omega)
      have ih := Lib.hid (dec_any f (n / 10) (by omega) (by omega))
      have hz : (B (Lib.decDigits (n / 10))).size ≤ 20 := by rw [B_size]; exact dec_len20 _ (by omega)
      have hz1 : (B [UInt8.ofNat (48 + n % 10)]).size = 1 := rfl
      have hap : B (Lib.decDigits (n / 10)) ++ B [UInt8.ofNat (48 + n % 10)] = B (Lib.decDigits n) := by rw [hd]; exact B_ext (by simp [B, ByteArray.data_append])
      rw [show ((n % 10 : Nat) : Int) = (n : Int) % 10 by omega] at he
      clear hd
      generalize B [UInt8.ofNat (48 + n % 10)] = r at *
      generalize B (Lib.decDigits n) = ro at *
      generalize B (Lib.decDigits (n / 10)) = rq at *
      go_enter Tryz.func9, Tryz.ntmps9
      go_wp2_with fail
      rw [show (n : Int) / 10 = ((n / 10 : Nat) : Int) by omega]
      refine (ih.out _).mono ?_
      rintro e w1 ⟨rfl, hb⟩
      go_wp2_with fail
      go_ret
      exact ⟨rfl, hb⟩
end Go.Proofs.YtppgnpnkcilmeaaGreatDoor.Pth
