/-
  PLAIN LEMMAS on byte strings as lists of bytes ('B l'), on the first place of a text in another one ('idx'), and on 64-bit sums that do not wrap. No program in sight.
-/
import Derived.Test.YtppgnpnkcilmeaaGreatDoorWWords
import Derived.Lib.Strings
import Derived.Laws.BytesArg
namespace Go.Proofs.YtppgnpnkcilmeaaGreatDoor.Str
open Go.RowKit Go.Proofs.YtppgnpnkcilmeaaGreatDoorW.PrintWords

/-- The string of a list of bytes. -/
def B (l : List UInt8) : ByteArray := ⟨l.toArray⟩
theorem B_data (l : List UInt8) : (B l).data.toList = l := by simp [B]
theorem B_toList (l : List UInt8) : (B l).toList = l := by rw [Lib.toList_data, B_data]
theorem B_size (l : List UInt8) : (B l).size = l.length := by simp [B, ByteArray.size]
theorem eq_B (s : ByteArray) : s = B s.data.toList := by
  obtain ⟨⟨l⟩⟩ := s
  rfl
theorem B_ext {s : ByteArray} {l : List UInt8} (h : s.data.toList = l) : s = B l := by rw [eq_B s, h]
theorem B_inj {a b : List UInt8} : B a = B b ↔ a = b := ⟨fun h => by rw [← B_data a, h, B_data], fun h => by rw [h]⟩
theorem B_extract (l : List UInt8) (a b : Nat) : (B l).extract a b = B ((l.drop a).take (b - a)) := B_ext (by rw [Lib.extract_data, B_data])
theorem B_from (l : List UInt8) (a : Nat) : (B l).extract a (B l).size = B (l.drop a) := by
  rw [B_extract, B_size, List.take_of_length_le (by rw [List.length_drop]; exact Nat.le_refl _)]
theorem B_upto (l : List UInt8) (b : Nat) : (B l).extract 0 b = B (l.take b) := by rw [B_extract]; rfl
theorem B_empty : (⟨#[]⟩ : ByteArray) = B [] := rfl

/-- The bytes as whole numbers. -/
def ints (l : List UInt8) : List Int := l.map fun b => (b.toNat : Int)
theorem ints_length (l : List UInt8) : (ints l).length = l.length := by simp [ints]
theorem ints_append (a b : List UInt8) : ints (a ++ b) = ints a ++ ints b := by simp [ints]
theorem ints_cons (a : UInt8) (b : List UInt8) : ints (a :: b) = (a.toNat : Int) :: ints b := rfl
theorem bytesOf_B (l : List UInt8) : bytesOf (B l) = ints l := by rw [bytesOf, B_data]; rfl
theorem str_ints (l : List UInt8) : strOfNums (ints l) = B l := by
  refine B_ext ?_
  rw [strOfNums_data, ints, List.map_map]
  rw [show ((fun n : Int => UInt8.ofNat n.toNat) ∘ fun b : UInt8 => (b.toNat : Int)) = id from by funext b; simp]
  simp

theorem bt_B (l : List UInt8) (i : Nat) (h : i < l.length) : bt (B l) (i : Int) = (l[i].toNat : Int) := by
  unfold bt
  have hs : (i : Int).toNat < (B l).size := by rw [B_size]; simpa using h
  rw [dif_pos hs]
  simp [B, ByteArray.getElem_eq_getElem_data]

theorem wrap_id {x : Int} (h0 : 0 ≤ x) (h : x ≤ 9223372036854775807) : wrap64 x = x := by unfold wrap64; omega

/-- The first place of sub in a list. -/
def idx (sub : List UInt8) : List UInt8 → Option Nat
  | [] => none
  | c :: t => if sub.isPrefixOf (c :: t) then some 0 else (idx sub t).map (· + 1)

theorem prefix_iff (sub l : List UInt8) : sub.isPrefixOf l = true ↔ l.take sub.length = sub := by
  rw [List.isPrefixOf_iff_prefix]
  constructor
  · intro h
    exact (List.prefix_iff_eq_take.1 h).symm
  · intro h
    rw [List.prefix_iff_eq_take, h]

theorem idx_short {sub : List UInt8} : ∀ {l : List UInt8}, l.length < sub.length → idx sub l = none
  | [], _ => rfl
  | c :: t, h => by
    have hp : ¬ sub.isPrefixOf (c :: t) = true := by
      intro hp
      have := (List.isPrefixOf_iff_prefix.1 hp).length_le
      omega
    rw [idx, if_neg hp, idx_short (by simp at h ⊢; omega)]
    rfl

theorem idx_some {sub : List UInt8} : ∀ {l : List UInt8} {i : Nat}, idx sub l = some i → i + sub.length ≤ l.length ∧ (l.drop i).take sub.length = sub
  | [], _, h => by simp [idx] at h
  | c :: t, i, h => by
    rw [idx] at h
    by_cases hp : sub.isPrefixOf (c :: t) = true
    · rw [if_pos hp] at h
      obtain rfl := Option.some.inj h
      exact ⟨by have := (List.isPrefixOf_iff_prefix.1 hp).length_le; omega, by simpa using (prefix_iff _ _).1 hp⟩
    · rw [if_neg hp] at h
      cases hq : idx sub t with
      | none => rw [hq] at h; simp at h
      | some j =>
        rw [hq] at h
        simp at h
        obtain ⟨h1, h2⟩ := idx_some hq
        subst h
        exact ⟨by simp; omega, by simpa using h2⟩

theorem idx_none_of {sub : List UInt8} {c : UInt8} (hc : c ∈ sub) : ∀ {l : List UInt8}, c ∉ l → idx sub l = none
  | [], _ => rfl
  | d :: t, h => by
    have hp : ¬ sub.isPrefixOf (d :: t) = true := by
      intro hp
      exact h ((List.isPrefixOf_iff_prefix.1 hp).subset hc)
    rw [idx, if_neg hp, idx_none_of hc (fun hm => h (List.mem_cons_of_mem _ hm))]
    rfl

theorem idx_drop {sub l : List UInt8} {i : Nat} (h : i < l.length) : idx sub (l.drop i) = if (l.drop i).take sub.length = sub then some 0 else (idx sub (l.drop (i + 1))).map (· + 1) := by
  rw [List.drop_eq_getElem_cons h, idx]
  by_cases hp : sub.isPrefixOf (l[i] :: l.drop (i + 1)) = true
  · rw [if_pos hp, if_pos ((prefix_iff _ _).1 hp)]
  · rw [if_neg hp, if_neg (fun hq => hp ((prefix_iff _ _).2 hq))]

end Go.Proofs.YtppgnpnkcilmeaaGreatDoor.Str
