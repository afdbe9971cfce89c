/-
  Plain facts on bits: the bits of bytes that are moved to the back, and what such bytes are as a number.
-/
import Derived.Test.YtbocaapbddlpfaaRightNeg
namespace Go.Proofs.Ytbocaapbddlpfaa

/-- the bytes, moved to the back by s places (0 to 7) -/
def mv (l : List UInt8) (s : Nat) : List UInt8 := if s = 0 then l else raL l s
theorem mv_length (l : List UInt8) (s : Nat) : (mv l s).length = l.length := by
  unfold mv
  split
  · rfl
  · simp [raL, raK]
/-- the bit at an index that may lie below 0 -/
def bitI (l : List UInt8) (j : Int) : Int := if j < 0 then 0 else bit l j.toNat
theorem bit_out {l : List UInt8} {i : Nat} (h : l.length ≤ i / 8) : bit l i = 0 := by unfold bit; rw [bt_out h]; simp
theorem bitI_bd (l : List UInt8) (j : Int) : 0 ≤ bitI l j ∧ bitI l j ≤ 1 := by
  unfold bitI bit
  split <;> omega

theorem cross (y z s r : Nat) (hz : z < 256) (h1 : 1 ≤ s) (h7 : s ≤ 7) (hr : r ≤ 7) :
    (y % 2 ^ s * 2 ^ (8 - s) + z / 2 ^ s) / 2 ^ (7 - r) % 2 = if s ≤ r then z / 2 ^ (7 - (r - s)) % 2 else y / 2 ^ (7 - (8 + r - s)) % 2 := by
  have hs : s = 1 ∨ s = 2 ∨ s = 3 ∨ s = 4 ∨ s = 5 ∨ s = 6 ∨ s = 7 := by omega
  have hr' : r = 0 ∨ r = 1 ∨ r = 2 ∨ r = 3 ∨ r = 4 ∨ r = 5 ∨ r = 6 ∨ r = 7 := by omega
  rcases hs with rfl | rfl | rfl | rfl | rfl | rfl | rfl <;> rcases hr' with rfl | rfl | rfl | rfl | rfl | rfl | rfl | rfl <;>
    simp only [Nat.reducePow, Nat.reduceSub, Nat.reduceAdd, Nat.reduceLeDiff, if_true, if_false] <;> omega

theorem raL_get {l : List UInt8} {s i : Nat} (h : i < l.length) (hs : s ≤ 8) :
    bt (raL l s) i = (((if i = 0 then 0 else (l[i - 1]?.getD 0).toNat % 2 ^ s * 2 ^ (8 - s)) + (l[i]?.getD 0).toNat / 2 ^ s : Nat) : Int) := by
  have hlen : i < (raL l s).length := by simpa [raL, raK] using h
  rw [bt_of hlen]
  simp only [raL, raK, List.getElem_map, List.getElem_range, if_pos h, raB]
  rw [UInt8.toNat_ofNat']
  have h1 := or_parts (l[i - 1]?.getD 0).toNat (l[i]?.getD 0).toNat s (byte_lt l i) hs
  rw [Nat.mod_eq_of_lt]
  split <;> omega

theorem bit_nat (l : List UInt8) (i : Nat) : bit l i = (((l[i / 8]?.getD 0).toNat / 2 ^ (7 - i % 8) % 2 : Nat) : Int) := by
  unfold bit
  rw [bt_nat]
  simp

theorem bit_mv (l : List UInt8) (s i : Nat) (hs : s ≤ 7) (hi : i / 8 < l.length) : bit (mv l s) i = bitI l ((i : Int) - s) := by
  by_cases h0 : s = 0
  · subst h0
    unfold mv bitI
    rw [if_pos rfl, if_neg (by omega), show ((i : Int) - (0 : Nat)).toNat = i from by omega]
  · have hg := raL_get (s := s) hi (by omega)
    have hb : bit (mv l s) i = ((((if i / 8 = 0 then 0 else (l[i / 8 - 1]?.getD 0).toNat % 2 ^ s * 2 ^ (8 - s)) + (l[i / 8]?.getD 0).toNat / 2 ^ s) / 2 ^ (7 - i % 8) % 2 : Nat) : Int) := by
      unfold bit mv
      rw [if_neg h0, hg]
      simp
    rw [hb]
    have hc := fun y => cross y (l[i / 8]?.getD 0).toNat s (i % 8) (byte_lt l (i / 8)) (by omega) hs (by omega)
    unfold bitI
    by_cases hq : i / 8 = 0
    · rw [if_pos hq]
      have := hc 0
      rw [Nat.zero_mod, Nat.zero_mul] at this
      rw [this]
      by_cases hr : s ≤ i % 8
      · rw [if_pos hr, if_neg (by omega), bit_nat, show ((i : Int) - s).toNat = i - s from by omega, show (i - s) / 8 = i / 8 from by omega, show (i - s) % 8 = i % 8 - s from by omega]
      · rw [if_neg hr, if_pos (by omega)]
        simp
    · rw [if_neg hq, hc, if_neg (show ¬ ((i : Int) - s < 0) by omega), bit_nat, show ((i : Int) - s).toNat = i - s from by omega]
      by_cases hr : s ≤ i % 8
      · rw [if_pos hr, show (i - s) / 8 = i / 8 from by omega, show (i - s) % 8 = i % 8 - s from by omega]
      · rw [if_neg hr, show (i - s) / 8 = i / 8 - 1 from by omega, show (i - s) % 8 = 8 + i % 8 - s from by omega]

/-- the number of the first k bytes -/
def numTo (l : List UInt8) : Nat → Nat
  | 0 => 0
  | k + 1 => numTo l k * 256 + (l[k]?.getD 0).toNat
theorem numTo_lt (l : List UInt8) (k : Nat) : numTo l k < 256 ^ k := by
  induction k with
  | zero => simp [numTo]
  | succ k ih =>
    have := byte_lt l k
    rw [numTo, Nat.pow_succ]
    omega
theorem numTo_mod (l : List UInt8) (s k : Nat) (hs : s ≤ 7) (hk : 0 < k) : numTo l k % 2 ^ s = (l[k - 1]?.getD 0).toNat % 2 ^ s := by
  obtain ⟨m, rfl⟩ : ∃ m, k = m + 1 := ⟨k - 1, by omega⟩
  rw [numTo, Nat.add_sub_cancel]
  have e : (256 : Nat) = 2 ^ s * 2 ^ (8 - s) := by rw [← Nat.pow_add, show s + (8 - s) = 8 from by omega]
  rw [e, ← Nat.mul_assoc, Nat.mul_comm (numTo l m), Nat.mul_assoc, Nat.mul_add_mod]
theorem numTo_mv (l : List UInt8) (s : Nat) (hs : s ≤ 7) (k : Nat) (hk : k ≤ l.length) : numTo (mv l s) k = numTo l k / 2 ^ s := by
  by_cases h0 : s = 0
  · subst h0
    simp [mv]
  · induction k with
    | zero => simp [numTo]
    | succ k ih =>
      have hg := raL_get (l := l) (s := s) (i := k) (by omega) (by omega)
      rw [bt_nat, Int.natCast_inj] at hg
      have hm : mv l s = raL l s := by unfold mv; rw [if_neg h0]
      rw [hm] at ih ⊢
      rw [numTo, numTo, ih (by omega), hg]
      have e : (256 : Nat) = 2 ^ s * 2 ^ (8 - s) := by rw [← Nat.pow_add, show s + (8 - s) = 8 from by omega]
      have hp : 0 < 2 ^ s := Nat.two_pow_pos s
      have h1 : (numTo l k * 256 + (l[k]?.getD 0).toNat) / 2 ^ s = numTo l k * 2 ^ (8 - s) + (l[k]?.getD 0).toNat / 2 ^ s := by
        rw [e, ← Nat.mul_assoc, Nat.mul_comm (numTo l k), Nat.mul_assoc, Nat.mul_add_div hp]
      have h2 : (if k = 0 then 0 else (l[k - 1]?.getD 0).toNat % 2 ^ s * 2 ^ (8 - s)) = numTo l k % 2 ^ s * 2 ^ (8 - s) := by
        by_cases hz : k = 0
        · subst hz; simp [numTo]
        · rw [if_neg hz, numTo_mod l s k hs (by omega)]
      rw [h1, h2, ← Nat.add_assoc, e, ← Nat.mul_assoc, ← Nat.add_mul]
      rw [Nat.mul_comm (numTo l k / 2 ^ s), Nat.div_add_mod]

/-- a length from 0 on, or below 0 and a multiple of 8: right-aligned is moved to the back -/
theorem right_mv (l : List UInt8) (len : Int) (h : 0 ≤ len.tmod 8) : right l len = mv l (((8 - len.tmod 8).tmod 8).toNat) := by
  have b2 := Int.tmod_lt_of_pos len (show (0 : Int) < 8 by omega)
  unfold right mv
  by_cases h0 : len.tmod 8 = 0
  · rw [if_pos h0, h0, if_pos (by decide)]
  · rw [if_neg h0, if_neg (by omega)]
    have e : (8 - len.tmod 8).tmod 8 = 8 - len.tmod 8 := Int.tmod_eq_of_lt (by omega) (by omega)
    rw [e, if_neg (by omega)]
/-- a length that ends in the last byte, s places from its end -/
theorem right_lack (l : List UInt8) (n s : Nat) (hn : 0 < n) (hs : s ≤ 7) : right l (8 * (n : Int) - s) = mv l s := by
  have e : (8 * (n : Int) - s).tmod 8 = if s = 0 then 0 else 8 - (s : Int) := by
    rw [Int.tmod_eq_emod_of_nonneg (by omega)]
    split <;> omega
  rw [right_mv _ _ (by rw [e]; split <;> omega), e]
  by_cases h0 : s = 0
  · subst h0; rfl
  · rw [if_neg h0, Int.tmod_eq_of_lt (by omega) (by omega)]
    congr 1
    omega
end Go.Proofs.Ytbocaapbddlpfaa
