/-
  The walk of laws.FnOidTurned: it returns true for every two lists of numbers and every number.
-/
import Derived.Test.YtomldkhafbpniaaEq
namespace Go.Proofs.Ytomldkhafbpniaa
open Go.RowKit

theorem Try.info3 : (Try.prog.info? 3).map (fun i => (i.zero, i.size, i.bytes)) = some (some (.int .i64 0), 1, 8) := by kernel_rfl
theorem more_ne (z : List Int) (x : Int) : (z == z ++ [x]) = false := by
  rw [beq_eq_false_iff_ne]
  intro e
  have := congrArg List.length e
  simp at this
theorem more_ne' (z : List Int) (x : Int) : (z ++ [x] == z) = false := by
  rw [beq_eq_false_iff_ne]
  intro e
  have := congrArg List.length e
  simp at this

set_option maxHeartbeats 400000 in
theorem walk_fnOidTurned (a : Option Addr) (n c : Nat) (z : List Int) (b : Option Addr) (m d : Nat) (y : List Int) (x : Int) (w : World) (h1 : IS w a n z ∧ fitsI z) (hnc : n ≤ c) (hc : c * 8 ≤ 140737488351232) (h2 : IS w b m y ∧ fitsI y) (hmd : m ≤ d) (hd : d * 8 ≤ 140737488351232)
    (_hx : -9223372036854775808 ≤ x ∧ x ≤ 9223372036854775807) :
    Calls Try.prog 5 #[.slice a n c, .slice b m d, .int .i64 x] w fun e w' => e = .returned (.bool true) ∧ Below w.heap.size w w' := by
  obtain ⟨h1, _⟩ := h1
  obtain ⟨h2, _⟩ := h2
  obtain ⟨i0, hi0, hz0, hz1, hz2⟩ := info_parts Try.info3
  have ho : (w.alloc (.cells #[] 3)).ownsRow w.heap.size 3 1 (.slice (some ⟨w.heap.size, 0, none⟩) 0 0) 0 (ivs []) := iown_new w 3 [] _ (Nat.le_refl _) (by decide)
  go_enter Try.func5, Try.ntmps5
  go_wp2_with (first
    | (at_builtin; refine wpList_append_is _ rfl (.tmp 8) (.tmp 9) 22 rfl w.heap.size 3 i0 (.int .i64 0) Try.underlying22 hi0 hz0 hz1 hz2 rfl _ 0 [] rfl ho a n c z rfl (h1.alloc _) (by omega) (by simp) ?_; intro a1 c1 w1 ho1 hs1 hc1 hm1 hb1; have hsz1 := hb1.size; simp only [World.size_alloc] at hsz1; simp only [Nat.zero_add, List.nil_append] at ho1 hs1 hc1)
    | (at_builtin; refine wpList_append_is _ rfl (.tmp 10) (.tmp 12) 22 rfl w.heap.size 3 i0 (.int .i64 0) Try.underlying22 hi0 hz0 hz1 hz2 rfl _ n z rfl (ho1.alloc _) _ 1 1 [x] rfl (IS.one w1 3 x) (by omega) (by simp; omega) ?_; intro a2 c2 w2 ho2 hs2 hc2 hm2 hb2))
  have hb12 : Below w.heap.size w w2 := (((Below.refl _ _).alloc (Nat.le_refl _) _).trans hb1).trans (((Below.refl _ _).alloc (by omega) _).trans hb2)
  have k1 := h1.below hb12
  have k2 := h2.below hb12
  clear ho ho1 hs1 ho2 hb1 hb2
  refine (ioid_any a b n m c d z y w2 k1 k2 (by omega) (by omega)).mono ?_
  rintro e w3 ⟨rfl, hb3⟩
  have l1 := k1.below hb3
  have l2 := k2.below hb3
  have l3 := hs2.below hb3
  go_wp2_with fail
  refine (ioid_any b a m n d c y z w3 l2 l1 (by omega) (by omega)).mono ?_
  rintro e w4 ⟨he4, hb4⟩
  rw [show (y == z) = (z == y) from Bool.eq_iff_iff.2 (by simp; exact eq_comm)] at he4
  subst he4
  have m1 := l1.below hb4
  have m3 := l3.below hb4
  go_wp2_with fail
  refine (ioid_any a a2 n (n + 1) c c2 z (z ++ [x]) w4 m1 m3 (by omega) (by omega)).mono ?_
  rintro e w5 ⟨he5, hb5⟩
  rw [more_ne] at he5
  subst he5
  have p1 := m1.below hb5
  have p3 := m3.below hb5
  go_wp2_with fail
  refine (ioid_any a2 a (n + 1) n c2 c (z ++ [x]) z w5 p3 p1 (by omega) (by omega)).mono ?_
  rintro e w6 ⟨he6, hb6⟩
  rw [more_ne'] at he6
  subst he6
  have q3 := p3.below hb6
  go_wp2_with fail
  refine (ioid_any a2 a2 (n + 1) (n + 1) c2 c2 (z ++ [x]) (z ++ [x]) w6 q3 q3 (by omega) (by omega)).mono ?_
  rintro e w7 ⟨he7, hb7⟩
  rw [show ((z ++ [x]) == (z ++ [x])) = true from by simp] at he7
  subst he7
  go_wp2
  go_ret
  have s0 := hb12.size
  have s3 := hb3.size
  have s4 := hb4.size
  have s5 := hb5.size
  have s6 := hb6.size
  exact ⟨ret_bool (by simp), ((((hb12.trans (hb3.mono s0)).trans (hb4.mono (by omega))).trans (hb5.mono (by omega))).trans (hb6.mono (by omega))).trans (hb7.mono (by omega))⟩
end Go.Proofs.Ytomldkhafbpniaa
