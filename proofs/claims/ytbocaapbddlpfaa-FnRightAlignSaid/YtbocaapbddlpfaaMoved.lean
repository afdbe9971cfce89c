/-
  What spec.Padding, spec.Moved and spec.Right return.
-/
import Derived.Test.YtbocaapbddlpfaaAlike
namespace Go.Proofs.Ytbocaapbddlpfaa
open Go.RowKit

theorem padding_any (len : Int) (w : World) : Calls Try.prog 21 #[.int .i64 len] w fun e w' => e = .returned (.int .i64 ((8 - len.tmod 8).tmod 8)) ∧ w = w' := by
  have b1 := Int.lt_tmod_of_pos len (show (0 : Int) < 8 by omega)
  have b2 := Int.tmod_lt_of_pos len (show (0 : Int) < 8 by omega)
  go_enter Try.func21, Try.ntmps21
  go_wp2
  go_ret
  exact ⟨ret_int (Int.tmod_eq_emod_of_nonneg (show 0 ≤ 8 - len.tmod 8 by omega)).symm, rfl⟩

/-- the first j bits of a byte, as a number -/
def top (x : Int) (j : Nat) : Int := x / 2 ^ (8 - j)
theorem top_step (l : List UInt8) (k j : Nat) (hj : j < 8) : top (bt l k) j * 2 + bit l (8 * k + j) = top (bt l k) (j + 1) := by
  unfold top bit
  rw [show (8 * k + j) / 8 = k from by omega, show (8 * k + j) % 8 = j from by omega, show 8 - j = 7 - j + 1 from by omega, ← div_div_pow, show 8 - (j + 1) = 7 - j from by omega]
  omega
theorem top_zero (l : List UInt8) (k : Nat) : top (bt l k) 0 = 0 := by
  have h0 := bt_nonneg l k
  have h1 := bt_le l k
  unfold top
  rw [show (2 : Int) ^ (8 - 0) = 256 from by decide]
  omega
theorem top_all (x : Int) : top x 8 = x := by unfold top; simp
theorem top_bd (l : List UInt8) (k j : Nat) : 0 ≤ top (bt l k) j ∧ top (bt l k) j ≤ 255 := div_pow_le _ _ (bt_nonneg _ _) (bt_le _ _)
theorem take_bt (l : List UInt8) (k : Nat) (h : k < l.length) : l.take k ++ [l[k]] = l.take (k + 1) := by
  rw [List.take_succ_eq_append_getElem h]

set_option maxHeartbeats 400000 in
/-- spec.Moved, by 0 to 7 places -/
theorem moved_any (a : Option Addr) (n c : Nat) (l : List UInt8) (s : Nat) (w : World) (h : BS w a n l) (hn : n ≤ 140737488351232) (hs : s ≤ 7) :
    Calls Try.prog 20 #[.slice a n c, .int .i64 (s : Int)] w (Hands w n (mv l s)) := by
  obtain ⟨i0, hi0, hz0, hz1, hz2⟩ := info_parts Try.info5
  have ho : (w.alloc (.cells #[] 5)).ownsRow w.heap.size 5 1 (.slice (some ⟨w.heap.size, 0, none⟩) 0 0) 0 (bvs []) := own_new w 5 [] _ (Nat.le_refl _) (by decide)
  have hlen : (mv l s).length = n := by rw [mv_length, h.1]
  have HLEN := Lib.hid hlen
  clear hlen
  go_enter Try.func20, Try.ntmps20
  go_wp2
  go_loopw [5, 6, 7, 8, 12] (fun v _ _ _ i wr => ∃ k : Nat, k ≤ n ∧ i = .int .i64 (k : Int) ∧ (∃ a' c', v = .slice a' k c' ∧ wr.ownsRow w.heap.size 5 1 (.slice a' k c') k (bvs ((mv l s).take k))) ∧ Below w.heap.size w wr) (fun _ _ _ _ i _ => n - (intOf i).toNat)
  case atStart => exact ⟨0, by omega, rfl, ⟨_, _, rfl, ho⟩, (Below.refl _ _).alloc (Nat.le_refl _) _⟩
  case round =>
    clear ho
    obtain ⟨k, hk, rfl, ⟨a', c', rfl, hown⟩, hb⟩ := hrel
    have hl := h.below hb
    by_cases hlt : k < n
    · go_wp2
      obtain ⟨wo, rfl⟩ : ∃ wo : World, wo = wr := ⟨_, rfl⟩
      go_loop [7, 8] (fun x j => ∃ q : Nat, q ≤ 8 ∧ j = .int .i64 (q : Int) ∧ x = .int .i64 (top (bt (mv l s) k) q)) (fun _ j => 8 - (intOf j).toNat)
      case atStart => exact ⟨0, by omega, rfl, by rw [top_zero]⟩
      case round =>
        obtain ⟨q, hq, rfl, rfl⟩ := hrel
        have ht := top_bd (mv l s) k q
        by_cases hq8 : q < 8
        · go_wp2_with fail
          refine (sbit_any a n c l _ wo hl (by omega) (by omega)).mono ?_
          rintro e w2 ⟨he2, rfl⟩
          have hbit := bit_mv l s (8 * k + q) hs (by rw [h.1]; omega)
          rw [show 8 * (k : Int) + (q : Int) - (s : Int) = ((8 * k + q : Nat) : Int) - (s : Int) from by omega, ← hbit] at he2
          clear hbit
          have hst := top_step (mv l s) k q hq8
          have hbd : 0 ≤ bit (mv l s) (8 * k + q) ∧ bit (mv l s) (8 * k + q) ≤ 1 := by unfold bit; omega
          have HST := Lib.hid hst
          clear hst
          subst he2
          go_wp2
          go_round
          case rel => exact ⟨q + 1, by omega, by go_num, by rw [← HST.out]⟩
          case measure => simp [intOf]; omega
        · obtain rfl : q = 8 := by omega
          have hx := top_all (bt (mv l s) k)
          have t0 := bt_nonneg (mv l s) k
          have t1 := bt_le (mv l s) k
          have hsz := hb.size
          have hk1 : k < (mv l s).length := by rw [HLEN.out]; exact hlt
          have hone := BS.one wo 5 ((mv l s)[k]) (bt (mv l s) k) (bt_of hk1)
          have hw : wo.ownsRow w.heap.size 5 1 (.slice a' k c') k (bvs ((mv l s).take k)) := hown
          go_wp2_with (at_builtin; refine wpList_append_bs _ rfl (.tmp 30) (.tmp 33) 22 rfl w.heap.size 5 i0 (.int .u8 0) Try.underlying22 hi0 hz0 hz1 hz2 rfl _ k _ rfl (hown.alloc _) _ 1 1 [(mv l s)[k]] rfl hone (by omega) (by simp; omega) ?_; intro a2 c2 w2 ho2 hs2 hc2 hm2 hb2)
          go_roundw
          case rel => exact ⟨k + 1, by omega, by go_num, ⟨a2, c2, rfl, by rw [← take_bt _ _ hk1]; exact ho2⟩, (hb.alloc hb.size _).trans hb2⟩
          case measure => simp [intOf]; omega
    · obtain rfl : k = n := by omega
      go_wp2
      go_ret
      obtain ⟨a2, c2, hv, hs2, hc2, _⟩ := BS.of_own hown
      rw [List.take_of_length_le (by rw [HLEN.out]; exact Nat.le_refl _)] at hs2
      injection hv with e1 _ e3
      subst e1 e3
      exact ⟨a', c', rfl, hs2, hb, hc2⟩

/-- spec.Right is what impl.RightAlign is -/
theorem sright_any (a : Option Addr) (n c : Nat) (l : List UInt8) (len : Int) (w : World) (h : BS w a n l) (hn : n ≤ 140737488351232) :
    Calls Try.prog 17 #[.slice a n c, .int .i64 len] w (Hands w n (right l len)) := by
  obtain ⟨i0, hi0, hz0, hz1, hz2⟩ := info_parts Try.info5
  have b1 := Int.lt_tmod_of_pos len (show (0 : Int) < 8 by omega)
  have b2 := Int.tmod_lt_of_pos len (show (0 : Int) < 8 by omega)
  by_cases h0 : len.tmod 8 < 0
  · have hr : right l len = zeros n := by unfold right; rw [if_neg (by omega), if_pos h0, h.1]
    have HR := Lib.hid hr
    clear hr
    have hl : len < 0 := by
      by_cases hl : len < 0
      · exact hl
      · have := Int.tmod_nonneg 8 (show 0 ≤ len by omega)
        omega
    have hd : (len.tmod 8 != 0) = true := by simp; omega
    go_enter Try.func17, Try.ntmps17
    go_wp2_with (at_make; refine wpList_make_bs _ rfl (.tmp 13) (.tmp 13) 22 rfl w.heap.size 5 i0 Try.underlying22 hi0 hz0 hz1 hz2 n rfl rfl (by omega) (Nat.le_refl _) ?_; intro w1 ho1 hb1 hs1)
    go_ret
    obtain ⟨a2, c2, hv, hs2, hc2, _⟩ := BS.of_own ho1
    injection hv with e1 _ e3
    subst e1 e3
    rw [HR.out]
    exact ⟨_, _, rfl, hs2, hb1, hc2⟩
  · have hr := right_mv l len (by omega)
    have HR := Lib.hid hr
    clear hr
    have p0 : 0 ≤ (8 - len.tmod 8).tmod 8 := Int.tmod_nonneg 8 (by omega)
    have p1 := Int.tmod_lt_of_pos (8 - len.tmod 8) (show (0 : Int) < 8 by omega)
    by_cases hl : len < 0
    · have hz : len.tmod 8 = 0 := by
        have := Int.tmod_nonneg 8 (show 0 ≤ -len by omega)
        rw [Int.neg_tmod] at this
        omega
      have hd : (len.tmod 8 != 0) = false := by simp [hz]
      have HZ := Lib.hid hz
      clear hz
      go_enter Try.func17, Try.ntmps17
      go_wp2_with fail
      refine (padding_any len w).mono ?_
      rintro e w' ⟨rfl, rfl⟩
      generalize (8 - len.tmod 8).tmod 8 = m at *
      obtain ⟨s, rfl⟩ := Int.eq_ofNat_of_zero_le p0
      go_wp2_with fail
      refine (moved_any a n c l s w h hn (by omega)).mono ?_
      rintro e w1 ⟨a1, c1, rfl, hs1, hb1, hc1⟩
      go_wp2
      go_ret
      rw [HR.out, Int.toNat_natCast]
      exact ⟨a1, c1, rfl, hs1, hb1, hc1⟩
    · have hl' : 0 ≤ len := by omega
      go_enter Try.func17, Try.ntmps17
      go_wp2_with fail
      refine (padding_any len w).mono ?_
      rintro e w' ⟨rfl, rfl⟩
      generalize (8 - len.tmod 8).tmod 8 = m at *
      obtain ⟨s, rfl⟩ := Int.eq_ofNat_of_zero_le p0
      go_wp2_with fail
      refine (moved_any a n c l s w h hn (by omega)).mono ?_
      rintro e w1 ⟨a1, c1, rfl, hs1, hb1, hc1⟩
      go_wp2
      go_ret
      rw [HR.out, Int.toNat_natCast]
      exact ⟨a1, c1, rfl, hs1, hb1, hc1⟩
end Go.Proofs.Ytbocaapbddlpfaa
