/-
  What BitString.RightAlign returns for a length below 0 that is no multiple of 8: zeros.
-/
import Derived.Test.YtbocaapbddlpfaaRight
import Derived.Laws.Shifts
namespace Go.Proofs.Ytbocaapbddlpfaa
open Go.RowKit

theorem zeros_set (n k : Nat) : (zeros n).set k 0 = zeros n := by
  apply List.ext_getElem
  · simp [zeros]
  · intro i h1 h2
    simp [zeros, List.getElem_set]
theorem shr_big (l : List UInt8) (k S : Nat) (hS : 8 ≤ S) : bt l k / 2 ^ S = (((0 : UInt8).toNat : Nat) : Int) := by
  have h0 := bt_nonneg l k
  have h1 := bt_le l k
  have h2 : (256 : Int) ≤ 2 ^ S := by
    have h := Int.ofNat_le.2 (Nat.pow_le_pow_right (n := 2) (by omega) hS)
    rw [Int.natCast_pow, Int.natCast_pow] at h
    exact h
  exact Int.ediv_eq_zero_of_lt h0 (by omega)

theorem shift_none (l : List UInt8) (k : Nat) (y : Int) (hy : 8 ≤ y) : Op.shift .shr .u8 (bt l k) .u64 y = pure (.int .u8 0) := by
  rw [shift_shr_any .u8 .u64 _ y (by omega), show min y.toNat IntKind.u8.bits = 8 from by simp [IntKind.bits]; omega, shr_big l k 8 (by omega)]
  rfl

theorem shl_none (l : List UInt8) (k : Nat) (r : Int) (h1 : -8 < r) (h2 : r < 0) : bt l k * 2 ^ min (IntKind.u64.wrap (8 - (8 - r))).toNat 8 % 256 = (((0 : UInt8).toNat : Nat) : Int) := by
  have e : (IntKind.u64.wrap (8 - (8 - r))).toNat = 18446744073709551616 - (-r).toNat := by rw [IntKind.wrap_u64]; omega
  rw [e, Nat.min_eq_right (by omega), show (2 : Int) ^ 8 = 256 from by decide]
  show bt l k * 256 % 256 = 0
  omega
theorem or_none (l : List UInt8) (k : Nat) (r : Int) (h1 : -8 < r) (h2 : r < 0) : bits BinOp.or IntKind.u8 (bt l k * 2 ^ min (IntKind.u64.wrap (8 - (8 - r))).toNat 8 % 256) 0 = (((0 : UInt8).toNat : Nat) : Int) := by
  rw [shl_none l k r h1 h2]
  exact bits_or_u8 0 0 (by omega) (by omega)

theorem right_neg (b off n c : Nat) (l : List UInt8) (len : Int) (w : World) (hb : b < w.heap.size) (hcell : ∀ j, j < n → w.cell? ⟨b, off + j, none⟩ = some (.int .u8 (bt l j))) (hl : l.length = n) (hn : n ≤ 140737488355328) (hpos : 0 < n) (h0 : len.tmod 8 < 0) :
    Calls Try.prog 19 #[.agg #[.slice (some ⟨b, off, none⟩) n c, .int .i64 len]] w fun e w' => e = .returned (.slice (some ⟨w.heap.size + 1, 0, none⟩) n n) ∧ Below w.heap.size w w' ∧ BS w' (some ⟨w.heap.size + 1, 0, none⟩) n (zeros n) := by
  obtain ⟨i0, hi0, hz0, hz1, hz2⟩ := info_parts Try.info5
  have b2 := Int.lt_tmod_of_pos len (show (0 : Int) < 8 by omega)
  have hpos' : (0 : Int) < (n : Int) := by omega
  have hne : ((n : Int) == 0) = false := by simp; omega
  have h8 : (8 - len.tmod 8 == 8) = false := by simp; omega
  have hsr := fun k => shift_none l k (8 - len.tmod 8) (by omega)
  have HC := Lib.hid hcell
  clear hcell
  have HL := Lib.hid hl
  clear hl
  have t0 := bt_nonneg l 0
  have t1 := bt_le l 0
  go_enter Try.func19, Try.ntmps19
  go_wp2_with (at_make; refine wpList_make_bs _ rfl (.tmp 23) (.tmp 23) 22 rfl (w.heap.size + 1) 5 i0 Try.underlying22 hi0 hz0 hz1 hz2 n rfl rfl (by omega) (by simp) ?_; intro w1 ho1 hb1 hs1; have R1 : RInv w w1 b off n c l (zeros n) := RInv.start HC.out hb ho1 hb1; have x1 := R1.2.1; have x2 := R1.cell hpos; have x3 := R1.free 0; have x4 := R1.old0 hpos; clear ho1 hb1)
  go_loopw [5] (fun i wr => ∃ k : Nat, 1 ≤ k ∧ k ≤ n ∧ i = .int .i64 (k : Int) ∧ RInv w wr b off n c l (zeros n)) (fun i _ => n - (intOf i).toNat)
  case atStart => 
    refine ⟨1, by omega, by omega, rfl, ?_⟩
    have := R1.store 0 0 0 rfl
    rw [zeros_set] at this
    exact this
  case round =>
    clear x1 x2 x3 x4 R1
    obtain ⟨k, hk1, hk2, rfl, R⟩ := hrel
    have y1 := R.2.1
    by_cases hlt : k < n
    · have y2 := R.cell hlt
      have y3 := R.free k
      have y4 := R.2.2.2.1 (k - 1) (by omega)
      have y5 : ∀ v, (wr.setCell ⟨w.heap.size + 1, k, none⟩ v).cell? ⟨b, off + k, none⟩ = some (.int .u8 (bt l k)) := fun v => by
        rw [World.cell?_setCell_other _ _ _ _ (fun e => by simp only [Addr.mk.injEq] at e; omega)]
        exact R.2.2.2.1 k hlt
      have t2 := bt_nonneg l (k - 1)
      have t3 := bt_le l (k - 1)
      have t4 := bt_nonneg l k
      have t5 := bt_le l k
      go_wp2
      go_region
      go_wp2
      have R2 := ((R.store k _ 0 (shl_none l (k - 1) (len.tmod 8) b2 h0)).store k _ 0 (or_none l (k - 1) (len.tmod 8) b2 h0)).drew
      rw [List.set_set, zeros_set] at R2
      go_roundw
      case rel => exact ⟨k + 1, by omega, by omega, by go_num, R2⟩
      case measure => simp [intOf]; omega
    · obtain rfl : k = n := by omega
      go_wp2
      go_ret
      exact ⟨rfl, R.2.2.1, R.bs⟩

/-- the bytes, right-aligned -/
def right (l : List UInt8) (len : Int) : List UInt8 := if len.tmod 8 = 0 then l else if len.tmod 8 < 0 then zeros l.length else raL l (8 - len.tmod 8).toNat
theorem right_length (l : List UInt8) (len : Int) : (right l len).length = l.length := by
  unfold right
  split
  · rfl
  · split
    · simp [zeros]
    · simp [raL, raK]

/-- BitString.RightAlign -/
theorem right_any (a : Option Addr) (n c : Nat) (l : List UInt8) (len : Int) (w : World) (h : BS w a n l) (hnc : n ≤ c) (hn : n ≤ 140737488355328) :
    Calls Try.prog 19 #[.agg #[.slice a n c, .int .i64 len]] w (Hands w n (right l len)) := by
  by_cases h0 : n = 0
  · refine (right_same a n c len w hn (.inr h0)).mono fun e w' ⟨he, hb⟩ => ⟨a, c, he, ?_, hb, hnc⟩
    have hl : (right l len).length = 0 := by rw [right_length, h.1, h0]
    rw [List.eq_nil_of_length_eq_zero hl]
    subst h0
    exact BS.empty _ _
  · by_cases h1 : len.tmod 8 = 0
    · refine (right_same a n c len w hn (.inl h1)).mono fun e w' ⟨he, hb⟩ => ⟨a, c, he, ?_, hb, hnc⟩
      rw [right, if_pos h1]
      exact h.below hb
    · obtain ⟨b, off, rfl, hbl, hcell⟩ := h.open_ (by omega)
      by_cases h2 : len.tmod 8 < 0
      · refine (right_neg b off n c l len w hbl hcell h.1 hn (by omega) h2).mono fun e w' ⟨he, hb, hs⟩ => ⟨_, _, he, ?_, hb, Nat.le_refl _⟩
        rw [right, if_neg h1, if_pos h2, h.1]
        exact hs
      · refine (right_walk b off n c l len w hbl hcell h.1 hn (by omega) (by omega)).mono fun e w' ⟨he, hb, hs⟩ => ⟨_, _, he, ?_, hb, Nat.le_refl _⟩
        rw [right, if_neg h1, if_neg h2]
        exact hs

/-- impl.RightAlign -/
theorem align_any (a : Option Addr) (n c : Nat) (l : List UInt8) (len : Int) (w : World) (h : BS w a n l) (hnc : n ≤ c) (hn : n ≤ 140737488355328) :
    Calls Try.prog 14 #[.slice a n c, .int .i64 len] w (Hands w n (right l len)) := by
  obtain ⟨i0, hi0, hz0, hz1, hz2⟩ := info_parts Try.info5
  have ho : (w.alloc (.cells #[] 5)).ownsRow w.heap.size 5 1 (.slice (some ⟨w.heap.size, 0, none⟩) 0 0) 0 (bvs []) := own_new w 5 [] _ (Nat.le_refl _) (by decide)
  go_enter Try.func14, Try.ntmps14
  go_wp2_with fail
  refine (right_any a n c l len _ (h.alloc _) hnc hn).mono ?_
  rintro e w1 ⟨a1, c1, rfl, hs1, hb1, hc1⟩
  have ho1 := own_below ho hb1
  have hz : w.heap.size ≤ w1.heap.size := by have := hb1.size; simp at this; omega
  go_wp2_with (at_builtin; refine wpList_append_bs _ rfl (.tmp 5) (.tmp 9) 22 rfl w.heap.size 5 i0 (.int .u8 0) Try.underlying22 hi0 hz0 hz1 hz2 rfl _ 0 [] rfl ho1 a1 n c1 (right l len) rfl hs1 (by omega) hz ?_; intro a2 c2 w2 ho2 hs2 hc2 hm2 hb2)
  go_ret
  simp only [Nat.zero_add, List.nil_append] at hs2 hc2
  exact ⟨a2, c2, by simp, hs2, (((Below.refl _ _).alloc (Nat.le_refl _) _).trans (hb1.mono (by simp))).trans hb2, hc2⟩
end Go.Proofs.Ytbocaapbddlpfaa
