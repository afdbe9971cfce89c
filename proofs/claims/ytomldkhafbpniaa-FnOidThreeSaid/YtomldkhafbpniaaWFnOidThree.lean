/-
  The walk of laws.FnOidThree: it returns true for every three lists of numbers.
-/
import Derived.Test.YtomldkhafbpniaaEq
namespace Go.Proofs.Ytomldkhafbpniaa
open Go.RowKit

set_option maxHeartbeats 400000 in
theorem walk_fnOidThree (a : Option Addr) (n c : Nat) (z : List Int) (b : Option Addr) (m d : Nat) (y : List Int) (g : Option Addr) (p q : Nat) (x : List Int) (w : World) (h1 : IS w a n z ∧ fitsI z) (hnc : n ≤ c) (hc : c * 8 ≤ 140737488351232) (h2 : IS w b m y ∧ fitsI y) (hmd : m ≤ d) (hd : d * 8 ≤ 140737488351232)
    (h3 : IS w g p x ∧ fitsI x) (hpq : p ≤ q) (hq : q * 8 ≤ 140737488351232) :
    Calls Try.prog 4 #[.slice a n c, .slice b m d, .slice g p q] w fun e w' => e = .returned (.bool true) ∧ Below w.heap.size w w' := by
  obtain ⟨h1, _⟩ := h1
  obtain ⟨h2, _⟩ := h2
  obtain ⟨h3, _⟩ := h3
  cases e1 : (z == y) with
  | false =>
    have E1 := Lib.hid e1
    clear e1
    go_enter Try.func4, Try.ntmps4
    go_wp2_with fail
    refine (ioid_any a b n m c d z y w h1 h2 (by omega) (by omega)).mono ?_
    rintro e w1 ⟨he1, hb1⟩
    rw [E1.out] at he1
    subst he1
    go_wp2_with fail
    refine (ioid_any g g p p q q x x w1 (h3.below hb1) (h3.below hb1) (by omega) (by omega)).mono ?_
    rintro e w2 ⟨he2, hb2⟩
    rw [show (x == x) = true from by simp] at he2
    subst he2
    go_wp2
    go_ret
    exact ⟨ret_bool (by simp), hb1.trans (hb2.mono hb1.size)⟩
  | true =>
    have ezy : z = y := by simpa using e1
    have E1 := Lib.hid e1
    clear e1
    cases e2 : (y == x) with
    | false =>
      have E2 := Lib.hid e2
      clear e2 ezy
      go_enter Try.func4, Try.ntmps4
      go_wp2_with fail
      refine (ioid_any a b n m c d z y w h1 h2 (by omega) (by omega)).mono ?_
      rintro e w1 ⟨he1, hb1⟩
      rw [E1.out] at he1
      subst he1
      go_wp2_with fail
      refine (ioid_any b g m p d q y x w1 (h2.below hb1) (h3.below hb1) (by omega) (by omega)).mono ?_
      rintro e w2 ⟨he2, hb2⟩
      rw [E2.out] at he2
      subst he2
      go_wp2_with fail
      refine (ioid_any g g p p q q x x w2 ((h3.below hb1).below hb2) ((h3.below hb1).below hb2) (by omega) (by omega)).mono ?_
      rintro e w3 ⟨he3, hb3⟩
      rw [show (x == x) = true from by simp] at he3
      subst he3
      go_wp2
      go_ret
      have s1 := hb1.size
      have s2 := hb2.size
      exact ⟨ret_bool (by simp), (hb1.trans (hb2.mono s1)).trans (hb3.mono (by omega))⟩
    | true =>
      have e3 : (z == x) = true := by rw [ezy]; exact e2
      have E2 := Lib.hid e2
      have E3 := Lib.hid e3
      clear e2 ezy e3
      go_enter Try.func4, Try.ntmps4
      go_wp2_with fail
      refine (ioid_any a b n m c d z y w h1 h2 (by omega) (by omega)).mono ?_
      rintro e w1 ⟨he1, hb1⟩
      rw [E1.out] at he1
      subst he1
      go_wp2_with fail
      refine (ioid_any b g m p d q y x w1 (h2.below hb1) (h3.below hb1) (by omega) (by omega)).mono ?_
      rintro e w2 ⟨he2, hb2⟩
      rw [E2.out] at he2
      subst he2
      have l1 := (h1.below hb1).below hb2
      have l3 := (h3.below hb1).below hb2
      go_wp2_with fail
      refine (ioid_any a g n p c q z x w2 l1 l3 (by omega) (by omega)).mono ?_
      rintro e w3 ⟨he3, hb3⟩
      rw [E3.out] at he3
      subst he3
      go_wp2_with fail
      refine (ioid_any g g p p q q x x w3 (l3.below hb3) (l3.below hb3) (by omega) (by omega)).mono ?_
      rintro e w4 ⟨he4, hb4⟩
      rw [show (x == x) = true from by simp] at he4
      subst he4
      go_wp2
      go_ret
      have s1 := hb1.size
      have s2 := hb2.size
      have s3 := hb3.size
      exact ⟨ret_bool (by simp), ((hb1.trans (hb2.mono s1)).trans (hb3.mono (by omega))).trans (hb4.mono (by omega))⟩
end Go.Proofs.Ytomldkhafbpniaa
