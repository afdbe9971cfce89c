/-
  The walk of laws.FnAlignBits: it returns true for every list of bytes within the form's reach and every number.
-/
import Derived.Test.YtbocaapbddlpfaaAlike
namespace Go.Proofs.Ytbocaapbddlpfaa
open Go.RowKit

theorem bitI_at (l : List UInt8) (i s : Nat) (h : s ≤ i) : bitI l ((i : Int) - (s : Int)) = bit l ((i : Int) - (s : Int)).toNat := by
  unfold bitI; rw [if_neg (by omega)]
theorem bitI_below (l : List UInt8) (i s : Nat) (h : i < s) : bitI l ((i : Int) - (s : Int)) = 0 := by
  unfold bitI; rw [if_pos (by omega)]

set_option maxHeartbeats 400000 in
theorem walk_fnAlignBits (a : Option Addr) (n c : Nat) (l : List UInt8) (lack : Int) (w : World) (h : BS w a n l) (hnc : n ≤ c) (hc : c ≤ 140737488351232)
    (hlack : -9223372036854775808 ≤ lack ∧ lack ≤ 9223372036854775807) :
    Calls Try.prog 10 #[.slice a n c, .int .i64 lack] w fun e w' => e = .returned (.bool true) ∧ Below w.heap.size w w' := by
  have hn : n ≤ 140737488351232 := by omega
  have g0 := Int.emod_nonneg lack (show (8 : Int) ≠ 0 by omega)
  have g1 := Int.emod_lt_of_pos lack (show (0 : Int) < 8 by omega)
  by_cases h0 : n = 0
  · subst h0
    go_enter Try.func10, Try.ntmps10
    go_wp2_with fail
    go_ret
    exact ⟨rfl, Below.refl _ _⟩
  · have hp : 0 < n := by omega
    have hne : ((n : Int) == 0) = false := by simp; omega
    go_enter Try.func10, Try.ntmps10
    go_wp2_with fail
    refine (rest_any lack 8 w hlack (by omega) (by omega)).mono ?_
    rintro e w' ⟨rfl, rfl⟩
    generalize lack % 8 = m at *
    obtain ⟨s, rfl⟩ := Int.eq_ofNat_of_zero_le g0
    go_wp2_with fail
    refine (align_any a n c l _ w h hnc (by omega)).mono ?_
    rintro e w1 ⟨a1, c1, rfl, hs1, hb1, hc1⟩
    rw [right_lack l n s hp (by omega)] at hs1
    have h1 := h.below hb1
    go_wp2_with fail
    go_loopw [7, 8] (fun i _ wr => ∃ k : Nat, k ≤ 8 * n ∧ i = .int .i64 (k : Int) ∧ Below w1.heap.size w1 wr) (fun i _ _ => 8 * n - (intOf i).toNat)
    case atStart => exact ⟨0, by omega, rfl, Below.refl _ _⟩
    case round =>
      obtain ⟨k, hk, rfl, hb⟩ := hrel
      have hl := h1.below hb
      have ho := hs1.below hb
      by_cases hlt : k < 8 * n
      · have hlt' : (k : Int) < 8 * (n : Int) := by omega
        have hbit := bit_mv l s k (by omega) (by rw [h.1]; omega)
        have HB := Lib.hid hbit
        clear hbit
        by_cases hks : s ≤ k
        · have hks' : (s : Int) ≤ (k : Int) := by omega
          go_wp2_with fail
          refine (bitAt_at a n c l _ _ wr hl (by omega) (by omega) (by omega) (by omega)).mono ?_
          rintro e w2 ⟨rfl, hb2⟩
          go_wp2_with fail
          refine (bitAt_at a1 n c1 _ _ _ w2 (ho.below hb2) (by omega) (by omega) (by omega) (by omega)).mono ?_
          rintro e w3 ⟨he3, hb3⟩
          rw [Int.toNat_natCast, HB.out, bitI_at l k s hks] at he3
          subst he3
          go_wp2
          go_roundw
          case rel => exact ⟨k + 1, by omega, by go_num, (hb.trans (hb2.mono hb.size)).trans (hb3.mono (Nat.le_trans hb.size hb2.size))⟩
          case measure => simp [intOf]; omega
        · have hks' : (k : Int) < (s : Int) := by omega
          go_wp2_with fail
          refine (bitAt_at a1 n c1 _ _ _ wr ho (by omega) (by omega) (by omega) (by omega)).mono ?_
          rintro e w3 ⟨he3, hb3⟩
          rw [Int.toNat_natCast, HB.out, bitI_below l k s (by omega)] at he3
          subst he3
          go_wp2
          go_roundw
          case rel => exact ⟨k + 1, by omega, by go_num, hb.trans (hb3.mono hb.size)⟩
          case measure => simp [intOf]; omega
      · have hlt' : 8 * (n : Int) ≤ (k : Int) := by omega
        go_wp2
        go_ret
        exact ⟨rfl, hb1.trans (hb.mono hb1.size)⟩
end Go.Proofs.Ytbocaapbddlpfaa
