/-
  The walk of laws.FnBitAt: it returns true for every list of bytes within the form's reach, every length and every index.
-/
import Derived.Test.YtbocaapbddlpfaaAt
namespace Go.Proofs.Ytbocaapbddlpfaa
open Go.RowKit

theorem walk_fnBitAt (a : Option Addr) (n c : Nat) (l : List UInt8) (len i : Int) (w : World) (h : BS w a n l) (hnc : n ≤ c) (hc : c ≤ 140737488351232)
    (hlen : -9223372036854775808 ≤ len ∧ len ≤ 9223372036854775807) (hi : -9223372036854775808 ≤ i ∧ i ≤ 9223372036854775807) :
    Calls Try.prog 3 #[.slice a n c, .int .i64 len, .int .i64 i] w fun e w' => e = .returned (.bool true) ∧ Below w.heap.size w w' := by
  have hn : n ≤ 140737488351232 := by omega
  by_cases h1 : 8 * (n : Int) < len
  · go_enter Try.func3, Try.ntmps3
    go_wp2_with fail
    go_ret
    exact ⟨rfl, Below.refl _ _⟩
  · by_cases h2 : i < len
    · by_cases h3 : 0 ≤ i
      · obtain ⟨j, rfl⟩ := Int.eq_ofNat_of_zero_le h3
        go_enter Try.func3, Try.ntmps3
        go_wp2_with fail
        refine (sbit_in a n c l j w h (by omega) hn).mono ?_
        rintro e w' ⟨rfl, rfl⟩
        go_wp2_with fail
        refine (bitAt_in a n c l len j w h (by omega) (by omega) hn).mono ?_
        rintro e w' ⟨rfl, hb⟩
        go_wp2
        go_ret
        exact ⟨ret_bool (by simp), hb⟩
      · go_enter Try.func3, Try.ntmps3
        go_wp2_with fail
        refine (sbit_out a n c i w (.inl (by omega)) hi.2 hn).mono ?_
        rintro e w' ⟨rfl, rfl⟩
        go_wp2_with fail
        refine (bitAt_out a n c len i w (.inl (by omega))).mono ?_
        rintro e w' ⟨rfl, hb⟩
        go_wp2
        go_ret
        exact ⟨ret_bool (by simp), hb⟩
    · go_enter Try.func3, Try.ntmps3
      go_wp2_with fail
      refine (bitAt_out a n c len i w (.inr (by omega))).mono ?_
      rintro e w' ⟨rfl, hb⟩
      go_wp2
      go_ret
      exact ⟨ret_bool (by simp), hb⟩
end Go.Proofs.Ytbocaapbddlpfaa
