/-
  The walk of laws.FnAlignNext: it returns true for every list of bytes within the form's reach and every number.
-/
import Derived.Test.YtbocaapbddlpfaaAlike
namespace Go.Proofs.Ytbocaapbddlpfaa
open Go.RowKit

theorem walk_fnAlignNext (a : Option Addr) (n c : Nat) (l : List UInt8) (lack : Int) (w : World) (h : BS w a n l) (hnc : n ≤ c) (hc : c ≤ 140737488351232)
    (hlack : -9223372036854775808 ≤ lack ∧ lack ≤ 9223372036854775807) :
    Calls Try.prog 8 #[.slice a n c, .int .i64 lack] w fun e w' => e = .returned (.bool true) ∧ Below w.heap.size w w' := by
  have hn : n ≤ 140737488355328 := by omega
  have g0 := Int.emod_nonneg lack (show (7 : Int) ≠ 0 by omega)
  have g1 := Int.emod_lt_of_pos lack (show (0 : Int) < 7 by omega)
  go_enter Try.func8, Try.ntmps8
  go_wp2_with fail
  refine (rest_any lack 7 w hlack (by omega) (by omega)).mono ?_
  rintro e w' ⟨rfl, rfl⟩
  generalize lack % 7 = m at *
  obtain ⟨s, rfl⟩ := Int.eq_ofNat_of_zero_le g0
  by_cases h0 : n = 0
  · subst h0
    go_wp2_with fail
    go_ret
    exact ⟨rfl, Below.refl _ _⟩
  · have hp : 0 < n := by omega
    have hne : ((n : Int) == 0) = false := by simp; omega
    by_cases h6 : 6 < n
    · have h6' : (6 : Int) < (n : Int) := by omega
      go_wp2_with fail
      go_ret
      exact ⟨rfl, Below.refl _ _⟩
    · have h6' : (n : Int) ≤ 6 := by omega
      have hn6 : n ≤ 6 := by omega
      go_wp2_with fail
      refine (align_any a n c l _ w h hnc hn).mono ?_
      rintro e w1 ⟨a1, c1, rfl, hs1, hb1, hc1⟩
      rw [show 8 * (n : Int) - (1 + (s : Int)) + 1 = 8 * (n : Int) - (s : Int) from by omega, right_lack l n s hp (by omega)] at hs1
      have h1 := h.below hb1
      go_wp2_with fail
      refine (number_any a1 n c1 _ w1 hs1 hn6).mono ?_
      rintro e w2 ⟨he2, rfl⟩
      rw [numTo_mv l s (by omega) n (by rw [h.1]; exact Nat.le_refl _)] at he2
      have hb := numTo_small l n hn6
      have hd : numTo l n / 2 ^ s ≤ numTo l n := Nat.div_le_self _ _
      generalize hN : numTo l n / 2 ^ s = N at he2 hd
      have HN := Lib.hid hN
      clear hN
      subst he2
      go_wp2_with fail
      refine (align_any a n c l _ w1 h1 hnc hn).mono ?_
      rintro e w2 ⟨a2, c2, rfl, hs2, hb2, hc2⟩
      rw [show 8 * (n : Int) - (1 + (s : Int)) = 8 * (n : Int) - ((s + 1 : Nat) : Int) from by omega, right_lack l n (s + 1) hp (by omega)] at hs2
      have h2 := h1.below hb2
      go_wp2_with fail
      refine (number_any a2 n c2 _ w2 hs2 hn6).mono ?_
      rintro e w3 ⟨he3, rfl⟩
      rw [numTo_mv l (s + 1) (by omega) n (by rw [h.1]; exact Nat.le_refl _), Nat.pow_succ, ← Nat.div_div_eq_div_mul, HN.out] at he3
      subst he3
      go_wp2_with fail
      refine (number_any a n c l w2 h2 hn6).mono ?_
      rintro e w3 ⟨rfl, rfl⟩
      go_wp2_with fail
      refine (align_any a n c l _ w2 h2 hnc hn).mono ?_
      rintro e w3 ⟨a3, c3, rfl, hs3, hb3, hc3⟩
      have e3 := right_lack l n 0 hp (by omega)
      rw [show 8 * (n : Int) - ((0 : Nat) : Int) = 8 * (n : Int) from by omega] at e3
      rw [e3] at hs3
      clear e3
      go_wp2_with fail
      refine (number_any a3 n c3 _ w3 hs3 hn6).mono ?_
      rintro e w4 ⟨he4, rfl⟩
      rw [numTo_mv l 0 (by omega) n (by rw [h.1]; exact Nat.le_refl _), Nat.pow_zero, Nat.div_one] at he4
      subst he4
      go_wp2
      go_ret
      exact ⟨ret_bool (by simp), (hb1.trans (hb2.mono hb1.size)).trans (hb3.mono (Nat.le_trans hb1.size hb2.size))⟩
end Go.Proofs.Ytbocaapbddlpfaa
