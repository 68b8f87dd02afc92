/-
  PLAIN LEMMAS on texts of ASCII: their characters are their bytes.
-/
import Derived.Test.YtppgnpnkcilmeaaGreatDoorStr
import Derived.Laws.IdiomStrings
import Derived.Laws.RangeString
import Derived.Laws.Cover4
import Derived.Laws.Runes
namespace Go.Proofs.YtppgnpnkcilmeaaGreatDoor.Asc
open Go.RowKit Go.Proofs.YtppgnpnkcilmeaaGreatDoorW.PrintWords
open Go.Proofs.YtppgnpnkcilmeaaGreatDoor.Str

theorem runes_from (l : List UInt8) (ha : ∀ c ∈ l, c.toNat < 128) (d : Nat) : ∀ (i bound : Nat) (acc : Array Value), i + d = l.length → d ≤ bound →
    Conv.runesFrom (B l) bound i acc = acc ++ (nums .i32 (ints (l.drop i))).toArray := by
  induction d with
  | zero =>
    intro i bound acc h hb
    have hi : ¬ i < (B l).size := by rw [B_size]; omega
    rw [List.drop_of_length_le (by omega)]
    cases bound with
    | zero => simp [Conv.runesFrom, ints, nums]
    | succ b => rw [Conv.runesFrom, if_neg hi]; simp [ints, nums]
  | succ d ih =>
    intro i bound acc h hb
    obtain ⟨b, rfl⟩ : ∃ b, bound = b + 1 := ⟨bound - 1, by omega⟩
    have hi : i < l.length := by omega
    have hi2 : i < (B l).size := by rw [B_size]; exact hi
    have hg : (B l)[i]'hi2 = l[i] := by
      simp [B, ByteArray.getElem_eq_getElem_data]
      rfl
    have hd := decode_ascii (B l) i hi2 (by rw [hg]; exact ha _ (List.getElem_mem hi))
    rw [Conv.runesFrom, if_pos hi2, hd]
    simp only []
    rw [ih (i + 1) b _ (by omega) (by omega), List.drop_eq_getElem_cons hi, hg, ints_cons]
    apply Array.ext'
    simp only [nums, List.map_cons, Array.toList_append, Array.toList_push, List.append_assoc, List.singleton_append]
    rfl

theorem runes_eq (l : List UInt8) (ha : ∀ c ∈ l, c.toNat < 128) : Conv.runesFrom (B l) (B l).size 0 #[] = (nums .i32 (ints l)).toArray := by
  rw [runes_from l ha l.length 0 _ _ (by omega) (by rw [B_size]; omega)]
  simp

theorem encode_ascii (c : UInt8) (h : c.toNat < 128) : Utf8.encode (c.toNat : Int) = B [c] := by
  have hv : Utf8.valid (c.toNat : Int) = true := by
    unfold Utf8.valid
    simp
    omega
  unfold Utf8.encode
  simp only [hv, if_true, Int.toNat_natCast]
  rw [if_pos h]
  simp [B]

theorem runesBytes_from (l : List UInt8) (ha : ∀ c ∈ l, c.toNat < 128) : ∀ s : ByteArray, (ints l).foldl (fun r n => r ++ Utf8.encode n) s = s ++ B l := by
  induction l with
  | nil =>
    intro s
    show s = s ++ B []
    rw [← B_empty]
    simp [ByteArray.ext_iff]
  | cons c t ih =>
    intro s
    rw [ints_cons, List.foldl_cons, ih (fun x hx => ha x (by simp [hx])), encode_ascii c (ha c (by simp)), ByteArray.append_assoc]
    congr 1
theorem runesBytes_eq (l : List UInt8) (ha : ∀ c ∈ l, c.toNat < 128) : runesBytes (ints l) = B l := by
  unfold runesBytes
  rw [runesBytes_from l ha]
  exact B_ext (by rw [ByteArray.data_append]; simp [B])

end Go.Proofs.YtppgnpnkcilmeaaGreatDoor.Asc
