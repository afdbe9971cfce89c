/-
  The walk of laws.FnVersionOf: it returns true for every two numbers.
-/
import Derived.Test.YtminkllpfokokaaDoorSpec
namespace Go.Proofs.YtminkllpfokokaaDoor
open Go.RowKit

theorem digit_of (m : Int) (h0 : 0 ≤ m) (h9 : m < 10) : ∃ c : UInt8, dig c ∧ m = (c.toNat : Int) - 48 := by
  refine ⟨UInt8.ofNat (m.toNat + 48), ?_, ?_⟩
  · unfold dig; rw [UInt8.toNat_ofNat']; omega
  · rw [UInt8.toNat_ofNat']; omega

theorem vtext (a b : UInt8) : ((⟨#[72, 84, 84, 80, 47]⟩ : ByteArray) ++ ⟨#[a]⟩ ++ ⟨#[46]⟩ ++ ⟨#[b]⟩).data.toList = [72, 84, 84, 80, 47, a, 46, b] := by
  simp

theorem walk_fnVersionOf (x y : Int) (w : World) (hx : -9223372036854775808 ≤ x ∧ x ≤ 9223372036854775807) (hy : -9223372036854775808 ≤ y ∧ y ≤ 9223372036854775807) (hg : Glob w) :
    Calls Tryd.prog 5 #[.int .i64 x, .int .i64 y] w fun e w' => e = .returned (.bool true) ∧ Below w.heap.size w w' := by
  have f0 := Int.emod_nonneg x (show (10 : Int) ≠ 0 by omega)
  have f1 := Int.emod_lt_of_pos x (show (0 : Int) < 10 by omega)
  have g0 := Int.emod_nonneg y (show (10 : Int) ≠ 0 by omega)
  have g1 := Int.emod_lt_of_pos y (show (0 : Int) < 10 by omega)
  go_enter Tryd.func5, Tryd.ntmps5
  go_wp2_with fail
  refine (rest_any x 10 w hx (by omega) (by omega)).mono ?_
  rintro e w' ⟨rfl, rfl⟩
  generalize x % 10 = m at *
  go_wp2_with fail
  refine (rest_any y 10 w hy (by omega) (by omega)).mono ?_
  rintro e w' ⟨rfl, rfl⟩
  generalize y % 10 = k at *
  obtain ⟨a, ha, hm⟩ := digit_of m f0 f1
  obtain ⟨b, hb, hk⟩ := digit_of k g0 g1
  have HM := Lib.hid hm
  have HK := Lib.hid hk
  clear hm hk
  go_wp2_with fail
  refine (dec_digit a m w ha HM.out).mono ?_
  rintro e w1 ⟨rfl, hb1⟩
  go_wp2_with fail
  refine (dec_digit b k w1 hb HK.out).mono ?_
  rintro e w2 ⟨rfl, hb2⟩
  go_wp2_with fail
  refine (parse_yes _ w2 ((hg.below hb1).below hb2) a b ⟨vtext a b, ha, hb⟩).mono ?_
  rintro e w3 ⟨he3, hb3⟩
  rw [← HM.out, ← HK.out] at he3
  subst he3
  go_wp2
  go_ret
  exact ⟨ret_bool (by simp), (hb1.trans (hb2.mono hb1.size)).trans (hb3.mono (Nat.le_trans hb1.size hb2.size))⟩
end Go.Proofs.YtminkllpfokokaaDoor
