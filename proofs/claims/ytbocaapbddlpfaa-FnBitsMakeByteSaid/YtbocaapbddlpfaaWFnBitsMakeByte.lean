/-
  The walk of laws.FnBitsMakeByte: it returns true for every list of bytes within the form's reach and every number.
-/
import Derived.Test.YtbocaapbddlpfaaAt
namespace Go.Proofs.Ytbocaapbddlpfaa
open Go.RowKit

/-- the first j bits of a byte, as a number -/
def topBits (x : Int) (j : Nat) : Int := x / 2 ^ (8 - j)
theorem topBits_step (l : List UInt8) (k j : Nat) (hj : j < 8) : topBits (bt l k) j * 2 + bit l (8 * k + j) = topBits (bt l k) (j + 1) := by
  unfold topBits bit
  rw [show (8 * k + j) / 8 = k from by omega, show (8 * k + j) % 8 = j from by omega, show 8 - j = 7 - j + 1 from by omega, ← div_div_pow, show 8 - (j + 1) = 7 - j from by omega]
  omega
theorem topBits_zero (l : List UInt8) (k : Nat) : topBits (bt l k) 0 = 0 := by
  have h0 := bt_nonneg l k
  have h1 := bt_le l k
  unfold topBits
  rw [show (2 : Int) ^ (8 - 0) = 256 from by decide]
  omega
theorem topBits_all (x : Int) : topBits x 8 = x := by unfold topBits; simp
theorem topBits_bd (l : List UInt8) (k j : Nat) : 0 ≤ topBits (bt l k) j ∧ topBits (bt l k) j ≤ 255 := div_pow_le _ _ (bt_nonneg _ _) (bt_le _ _)
theorem bit_bd (l : List UInt8) (i : Nat) : 0 ≤ bit l i ∧ bit l i ≤ 1 := by unfold bit; omega

set_option maxHeartbeats 400000 in
theorem walk_fnBitsMakeByte (a : Option Addr) (n c : Nat) (l : List UInt8) (k : Int) (w : World) (h : BS w a n l) (hnc : n ≤ c) (hc : c ≤ 140737488351232)
    (hk : -9223372036854775808 ≤ k ∧ k ≤ 9223372036854775807) :
    Calls Try.prog 6 #[.slice a n c, .int .i64 k] w fun e w' => e = .returned (.bool true) ∧ Below w.heap.size w w' := by
  have hn : n ≤ 140737488351232 := by omega
  by_cases h0 : n = 0
  · subst h0
    go_enter Try.func6, Try.ntmps6
    go_wp2_with fail
    go_ret
    exact ⟨rfl, Below.refl _ _⟩
  · have hp : 0 < n := by omega
    have hne : ((n : Int) == 0) = false := by simp; omega
    go_enter Try.func6, Try.ntmps6
    go_wp2_with fail
    refine (rest_any k n w hk (by omega) (by omega)).mono ?_
    rintro e w' ⟨rfl, rfl⟩
    have g0 := Int.emod_nonneg k (show (n : Int) ≠ 0 by omega)
    have g1 := Int.emod_lt_of_pos k (show 0 < (n : Int) by omega)
    generalize k % (n : Int) = m at *
    obtain ⟨K, rfl⟩ := Int.eq_ofNat_of_zero_le g0
    have hK : K < n := by omega
    go_wp2_with fail
    go_loopw [5, 6] (fun x i wr => ∃ j : Nat, j ≤ 8 ∧ i = .int .i64 (j : Int) ∧ x = .int .i64 (topBits (bt l K) j) ∧ Below w.heap.size w wr) (fun _ i _ => 8 - (intOf i).toNat)
    case atStart => exact ⟨0, by omega, rfl, by rw [topBits_zero], Below.refl _ _⟩
    case round =>
      obtain ⟨j, hj, rfl, rfl, hb⟩ := hrel
      have ht := topBits_bd l K j
      have hs := h.below hb
      by_cases hlt : j < 8
      · go_wp2_with fail
        refine (bitAt_at a n c l _ _ wr hs (by omega) (by omega) (by omega) (by omega)).mono ?_
        rintro e w2 ⟨he2, hb2⟩
        rw [show (8 * (K : Int) + (j : Int)).toNat = 8 * K + j from by omega] at he2
        subst he2
        have hbd := bit_bd l (8 * K + j)
        go_wp2
        go_roundw
        case rel => exact ⟨j + 1, by omega, by go_num, by rw [topBits_step l K j hlt], hb.trans (hb2.mono hb.size)⟩
        case measure => simp [intOf]; omega
      · obtain rfl : j = 8 := by omega
        obtain ⟨b, off, rfl, hbl, hcell⟩ := hs.open_ hp
        have hce := hcell K hK
        have b0 := bt_nonneg l K
        have b1 := bt_le l K
        clear hcell
        go_wp2
        go_ret
        exact ⟨ret_bool (by rw [topBits_all]; simp), hb⟩
end Go.Proofs.Ytbocaapbddlpfaa
