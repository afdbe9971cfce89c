/-
  The walk of laws.FnBitInside: it returns true for every list of bytes within the form's reach, every length and every index.
-/
import Derived.Test.YtbocaapbddlpfaaAt
namespace Go.Proofs.Ytbocaapbddlpfaa
open Go.RowKit

theorem Try.info5 : (Try.prog.info? 5).map (fun i => (i.zero, i.size, i.bytes)) = some (some (.int .u8 0), 1, 1) := by kernel_rfl

theorem bit_skip (x : UInt8) (l : List UInt8) (i : Nat) : bit ([x] ++ l) (i + 8) = bit l i := by
  unfold bit bt
  rw [show (i + 8) / 8 = i / 8 + 1 from by omega, show (i + 8) % 8 = i % 8 from by omega]
  simp
theorem bit_first (l : List UInt8) : bit ([128] ++ l) 0 = 1 := by
  unfold bit bt
  simp

set_option maxHeartbeats 400000 in
theorem walk_fnBitInside (a : Option Addr) (n c : Nat) (l : List UInt8) (len i : Int) (w : World) (h : BS w a n l) (hnc : n ≤ c) (hc : c ≤ 140737488351232)
    (hlen : -9223372036854775808 ≤ len ∧ len ≤ 9223372036854775807) (hi : -9223372036854775808 ≤ i ∧ i ≤ 9223372036854775807) :
    Calls Try.prog 4 #[.slice a n c, .int .i64 len, .int .i64 i] w fun e w' => e = .returned (.bool true) ∧ Below w.heap.size w w' := by
  have hn : n ≤ 140737488351232 := by omega
  obtain ⟨i0, hi0, hz0, hz1, hz2⟩ := info_parts Try.info5
  go_enter Try.func4, Try.ntmps4
  go_wp2_with fail
  refine (rest_any len (8 * (n : Int) + 1) w hlen (by omega) (by omega)).mono ?_
  rintro e w' ⟨rfl, rfl⟩
  have g0 := Int.emod_nonneg len (show 8 * (n : Int) + 1 ≠ 0 by omega)
  have g1 := Int.emod_lt_of_pos len (show 0 < 8 * (n : Int) + 1 by omega)
  generalize len % (8 * (n : Int) + 1) = m at *
  by_cases hm : m = 0
  · subst hm
    go_wp2_with fail
    refine (bitAt_out a n c _ _ w (.inr (by omega))).mono ?_
    rintro e w1 ⟨rfl, hb1⟩
    go_wp2_with fail
    refine (bitAt_at _ 1 _ [1] 8 7 _ (BS.one w1 5 1 1 rfl) (by omega) (by omega) (by omega) (by omega)).mono ?_
    rintro e w2 ⟨rfl, hb2⟩
    go_wp2
    go_ret
    exact ⟨ret_bool (by decide), (hb1.alloc hb1.size _).trans (hb2.mono (by have := hb1.size; simp; omega))⟩
  · have hm1 : (m == 0) = false := by simpa using hm
    go_wp2_with fail
    refine (rest_any i m w hi (by omega) (by omega)).mono ?_
    rintro e w' ⟨rfl, rfl⟩
    have f0 := Int.emod_nonneg i hm
    have f1 := Int.emod_lt_of_pos i (show 0 < m by omega)
    generalize i % m = j at *
    go_wp2_with fail
    refine (bitAt_at a n c l m j w h f0 f1 (by omega) (by omega)).mono ?_
    rintro e w1 ⟨rfl, hb1⟩
    go_wp2_with fail
    refine (bitAt_at a n c l _ j w1 (h.below hb1) f0 (by omega) (by omega) (by omega)).mono ?_
    rintro e w2 ⟨rfl, hb2⟩
    have h2 := (h.below hb1).below hb2
    have ho2 : (w2.alloc (.cells #[.int .u8 128] 5)).ownsRow w2.heap.size 5 1 (.slice (some ⟨w2.heap.size, 0, none⟩) 1 1) 1 (bvs [128]) := own_new w2 5 [128] _ (Nat.le_refl _) (by decide)
    go_wp2_with (at_builtin; refine wpList_append_bs _ rfl (.tmp 44) (.tmp 45) 22 rfl w2.heap.size 5 i0 (.int .u8 0) Try.underlying22 hi0 hz0 hz1 hz2 rfl _ 1 [128] rfl ho2 a n c l rfl (h2.alloc _) (by omega) (by simp) ?_; intro a3 c3 w3 ho3 hs3 hc3 hm3 hb3)
    refine (bitAt_at a3 (1 + n) c3 ([128] ++ l) _ _ w3 hs3 (by omega) (by omega) (by omega) (by omega)).mono ?_
    rintro e w4 ⟨he4, hb4⟩
    rw [show (j + 8).toNat = j.toNat + 8 from by omega, bit_skip] at he4
    subst he4
    have hlt3 : w2.heap.size ≤ w3.heap.size := by have := hb3.size; simp at this; omega
    have k3 : Below w2.heap.size w2 w3 := ((Below.refl _ _).alloc (Nat.le_refl _) _).trans hb3
    have k4 : Below w2.heap.size w2 w4 := k3.trans (hb4.mono hlt3)
    have h4 := h2.below k4
    go_wp2_with fail
    refine (bitAt_at a n c l m j w4 h4 f0 f1 (by omega) (by omega)).mono ?_
    rintro e w5 ⟨rfl, hb5⟩
    have h5 := h4.below hb5
    have ho5 : (w5.alloc (.cells #[.int .u8 128] 5)).ownsRow w5.heap.size 5 1 (.slice (some ⟨w5.heap.size, 0, none⟩) 1 1) 1 (bvs [128]) := own_new w5 5 [128] _ (Nat.le_refl _) (by decide)
    go_wp2_with (at_builtin; refine wpList_append_bs _ rfl (.tmp 59) (.tmp 60) 22 rfl w5.heap.size 5 i0 (.int .u8 0) Try.underlying22 hi0 hz0 hz1 hz2 rfl _ 1 [128] rfl ho5 a n c l rfl (h5.alloc _) (by omega) (by simp) ?_; intro a6 c6 w6 ho6 hs6 hc6 hm6 hb6)
    refine (bitAt_at a6 (1 + n) c6 ([128] ++ l) _ 0 w6 hs6 (by omega) (by omega) (by omega) (by omega)).mono ?_
    rintro e w7 ⟨he7, hb7⟩
    rw [show (0 : Int).toNat = 0 from rfl, bit_first] at he7
    subst he7
    go_wp2
    go_ret
    refine ⟨rfl, ?_⟩
    have s1 := hb1.size
    have s2 := hb2.size
    have s4 := hb4.size
    have s5 := hb5.size
    have s6 := hb6.size
    simp at s6
    have k6 : Below w5.heap.size w5 w6 := ((Below.refl _ _).alloc (Nat.le_refl _) _).trans hb6
    exact hb1.trans ((hb2.mono (by omega)).trans ((k4.mono (by omega)).trans ((hb5.mono (by omega)).trans ((k6.mono (by omega)).trans (hb7.mono (by omega))))))
end Go.Proofs.Ytbocaapbddlpfaa
