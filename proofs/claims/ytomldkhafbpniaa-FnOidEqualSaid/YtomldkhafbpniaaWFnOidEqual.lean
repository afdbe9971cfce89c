/-
  The walk of laws.FnOidEqual: it returns true for every two lists of numbers.
-/
import Derived.Test.YtomldkhafbpniaaEq
namespace Go.Proofs.Ytomldkhafbpniaa
open Go.RowKit

theorem walk_fnOidEqual (a : Option Addr) (n c : Nat) (z : List Int) (b : Option Addr) (m d : Nat) (y : List Int) (w : World) (h1 : IS w a n z ∧ fitsI z) (hnc : n ≤ c) (hc : c * 8 ≤ 140737488351232) (h2 : IS w b m y ∧ fitsI y) (hmd : m ≤ d) (hd : d * 8 ≤ 140737488351232) :
    Calls Try.prog 3 #[.slice a n c, .slice b m d] w fun e w' => e = .returned (.bool true) ∧ Below w.heap.size w w' := by
  obtain ⟨h1, _⟩ := h1
  obtain ⟨h2, _⟩ := h2
  go_enter Try.func3, Try.ntmps3
  go_wp2_with fail
  refine (ioid_any a b n m c d z y w h1 h2 (by omega) (by omega)).mono ?_
  rintro e w1 ⟨rfl, hb1⟩
  have k1 := h1.below hb1
  have k2 := h2.below hb1
  go_wp2_with fail
  refine (same_any a b n m c d z y w1 k1 k2 (by omega) (by omega)).mono ?_
  rintro e w2 ⟨rfl, hb2⟩
  have l1 := k1.below hb2
  have l2 := k2.below hb2
  go_wp2_with fail
  refine (ioid_any a a n n c c z z w2 l1 l1 (by omega) (by omega)).mono ?_
  rintro e w3 ⟨he3, hb3⟩
  rw [show (z == z) = true from by simp] at he3
  subst he3
  go_wp2_with fail
  refine (ioid_any b b m m d d y y w3 (l2.below hb3) (l2.below hb3) (by omega) (by omega)).mono ?_
  rintro e w4 ⟨he4, hb4⟩
  rw [show (y == y) = true from by simp] at he4
  subst he4
  go_wp2
  go_ret
  have s1 := hb1.size
  have s2 := hb2.size
  have s3 := hb3.size
  exact ⟨ret_bool (by simp), ((hb1.trans (hb2.mono s1)).trans (hb3.mono (by omega))).trans (hb4.mono (by omega))⟩
end Go.Proofs.Ytomldkhafbpniaa
