/-
  What BitString.At, impl.BitAt, spec.Bit and laws.rest return. Conditions: an index within the length lies in the bytes; a rest is asked of a number above 0.
-/
import Derived.Test.YtbocaapbddlpfaaMem
import Derived.WalkLawsBesides
import Derived.Outline
namespace Go.Proofs.Ytbocaapbddlpfaa
open Go.RowKit

/-- the bit at an index, within the bytes -/
def bit (l : List UInt8) (i : Nat) : Int := bt l (i / 8) / 2 ^ (7 - i % 8) % 2

theorem and1 (x : Int) (h0 : 0 ≤ x) (h1 : x ≤ 255) : bits BinOp.and IntKind.i64 x 1 = x % 2 := by
  have h := bits_mask .i64 63 (by decide) (fun n h0 h1 => by rw [show (2 : Int) ^ 63 = 9223372036854775808 from by decide] at h1; rw [IntKind.wrap_i64]; omega) 1 (by decide) x h0 (by rw [show (2 : Int) ^ 63 = 9223372036854775808 from by decide]; omega)
  rw [show ((2 : Int) ^ 1 - 1) = 1 from by decide] at h
  rw [h]
  omega
theorem div_pow_le (x : Int) (k : Nat) (h0 : 0 ≤ x) (h1 : x ≤ 255) : 0 ≤ x / 2 ^ k ∧ x / 2 ^ k ≤ 255 := by
  have h2 : (0 : Int) < 2 ^ k := by exact_mod_cast Nat.two_pow_pos k
  refine ⟨Int.ediv_nonneg h0 (by omega), ?_⟩
  have := Int.ediv_le_self (2 ^ k) h0
  omega
theorem bit_val (l : List UInt8) (i : Nat) : bits BinOp.and IntKind.i64 (wrap64 (bt l (i / 8) / 2 ^ (7 - i % 8))) 1 = bit l i := by
  have h := div_pow_le (bt l (i / 8)) (7 - i % 8) (bt_nonneg _ _) (bt_le _ _)
  rw [IntWalk.wrap64_in _ (by omega), and1 _ h.1 h.2]
  rfl

theorem at_in (a : Option Addr) (n c : Nat) (l : List UInt8) (len : Int) (i : Nat) (w : World) (h : BS w a n l) (hi : (i : Int) < len) (hn : i / 8 < n) (hc : n ≤ 140737488355328) :
    Calls Try.prog 18 #[.agg #[.slice a n c, .int .i64 len], .int .i64 (i : Int)] w fun e w' => e = .returned (.int .i64 (bit l i)) ∧ Below w.heap.size w w' := by
  obtain ⟨b, off, rfl, hb, hcell⟩ := h.open_ (by omega)
  have hce := hcell (i / 8) hn
  have h0 := bt_nonneg l (i / 8)
  have h1 := bt_le l (i / 8)
  clear hcell h
  go_enter Try.func18, Try.ntmps18
  go_wp2
  go_ret
  exact ⟨ret_int (bit_val l i), (Below.refl _ _).alloc (Nat.le_refl _) _⟩

theorem at_out (a : Option Addr) (n c : Nat) (len i : Int) (w : World) (hi : i < 0 ∨ len ≤ i) :
    Calls Try.prog 18 #[.agg #[.slice a n c, .int .i64 len], .int .i64 i] w fun e w' => e = .returned (.int .i64 0) ∧ Below w.heap.size w w' := by
  by_cases h : i < 0
  · go_enter Try.func18, Try.ntmps18
    go_wp2
    go_ret
    exact ⟨rfl, (Below.refl _ _).alloc (Nat.le_refl _) _⟩
  · have h2 : len ≤ i := by omega
    go_enter Try.func18, Try.ntmps18
    go_wp2
    go_ret
    exact ⟨rfl, (Below.refl _ _).alloc (Nat.le_refl _) _⟩

theorem bitAt_in (a : Option Addr) (n c : Nat) (l : List UInt8) (len : Int) (i : Nat) (w : World) (h : BS w a n l) (hi : (i : Int) < len) (hn : i / 8 < n) (hc : n ≤ 140737488355328) :
    Calls Try.prog 12 #[.slice a n c, .int .i64 len, .int .i64 (i : Int)] w fun e w' => e = .returned (.int .i64 (bit l i)) ∧ Below w.heap.size w w' := by
  go_enter Try.func12, Try.ntmps12
  go_wp2_with fail
  refine (at_in a n c l len i w h hi hn hc).mono ?_
  rintro e w' ⟨rfl, hb⟩
  go_wp2
  go_ret
  exact ⟨rfl, hb⟩

theorem bitAt_out (a : Option Addr) (n c : Nat) (len i : Int) (w : World) (hi : i < 0 ∨ len ≤ i) :
    Calls Try.prog 12 #[.slice a n c, .int .i64 len, .int .i64 i] w fun e w' => e = .returned (.int .i64 0) ∧ Below w.heap.size w w' := by
  go_enter Try.func12, Try.ntmps12
  go_wp2_with fail
  refine (at_out a n c len i w hi).mono ?_
  rintro e w' ⟨rfl, hb⟩
  go_wp2
  go_ret
  exact ⟨rfl, hb⟩

/-- the same, the index a number that is not negative -/
theorem bitAt_at (a : Option Addr) (n c : Nat) (l : List UInt8) (len i : Int) (w : World) (h : BS w a n l) (h0 : 0 ≤ i) (hi : i < len) (hn : i < 8 * (n : Int)) (hc : n ≤ 140737488355328) :
    Calls Try.prog 12 #[.slice a n c, .int .i64 len, .int .i64 i] w fun e w' => e = .returned (.int .i64 (bit l i.toNat)) ∧ Below w.heap.size w w' := by
  obtain ⟨j, rfl⟩ := Int.eq_ofNat_of_zero_le h0
  rw [Int.toNat_natCast]
  exact bitAt_in a n c l len j w h hi (by omega) hc

theorem div_div_pow (x : Int) (k : Nat) : x / 2 ^ k / 2 = x / 2 ^ (k + 1) := by
  have h2 : (0 : Int) ≤ 2 ^ k := by exact_mod_cast Nat.le_of_lt (Nat.two_pow_pos k)
  rw [Int.ediv_ediv_of_nonneg h2]
  rfl

/-- spec.Bit: within the bytes -/
theorem sbit_in (a : Option Addr) (n c : Nat) (l : List UInt8) (i : Nat) (w : World) (h : BS w a n l) (hn : i / 8 < n) (hc : n ≤ 140737488355328) :
    Calls Try.prog 11 #[.slice a n c, .int .i64 (i : Int)] w fun e w' => e = .returned (.int .i64 (bit l i)) ∧ w = w' := by
  obtain ⟨b, off, rfl, hb, hcell⟩ := h.open_ (by omega)
  have hce := hcell (i / 8) hn
  have h0 := bt_nonneg l (i / 8)
  have h1 := bt_le l (i / 8)
  clear hcell h
  go_enter Try.func11, Try.ntmps11
  go_wp2
  go_loop [5, 6] (fun x k => ∃ j : Nat, i % 8 ≤ j ∧ j ≤ 7 ∧ k = .int .i64 (j : Int) ∧ x = .int .i64 (bt l (i / 8) / 2 ^ (j - i % 8))) (fun _ k => 7 - (intOf k).toNat)
  case atStart => exact ⟨i % 8, by omega, by omega, by go_num, by simp⟩
  case round =>
    obtain ⟨j, hj1, hj2, rfl, rfl⟩ := hrel
    have hd := div_pow_le (bt l (i / 8)) (j - i % 8) h0 h1
    by_cases hlt : j < 7
    · go_wp2
      go_round
      case rel => exact ⟨j + 1, by omega, by omega, by go_num, by rw [div_div_pow, show j + 1 - i % 8 = j - i % 8 + 1 from by omega]⟩
      case measure => simp [intOf]; omega
    · go_wp2
      go_ret
      exact ⟨ret_int (by unfold bit; rw [show j = 7 from by omega]), rfl⟩

/-- spec.Bit: outside the bytes -/
theorem sbit_out (a : Option Addr) (n c : Nat) (i : Int) (w : World) (hi : i < 0 ∨ (n : Int) ≤ i / 8) (hm : i ≤ 9223372036854775807) (hc : n ≤ 140737488355328) :
    Calls Try.prog 11 #[.slice a n c, .int .i64 i] w fun e w' => e = .returned (.int .i64 0) ∧ w = w' := by
  by_cases h : i < 0
  · go_enter Try.func11, Try.ntmps11
    go_wp2
    go_ret
    exact ⟨rfl, rfl⟩
  · have h2 : (n : Int) ≤ i / 8 := by omega
    clear hi
    go_enter Try.func11, Try.ntmps11
    go_wp2
    go_ret
    exact ⟨rfl, rfl⟩

theorem tmod_rest (x n : Int) (hn : 0 < n) : (x.tmod n + n) % n = x % n := by
  rw [Int.add_emod_right, Int.tmod_eq_emod]
  split
  · simp
  · rw [Int.sub_emod]; simp [Int.natAbs_of_nonneg (Int.le_of_lt hn)]

/-- laws.rest -/
theorem rest_any (x n : Int) (w : World) (hx : -9223372036854775808 ≤ x ∧ x ≤ 9223372036854775807) (hn : 0 < n) (hm : n ≤ 4611686018427387904) :
    Calls Try.prog 13 #[.int .i64 x, .int .i64 n] w fun e w' => e = .returned (.int .i64 (x % n)) ∧ w = w' := by
  have h1 := Int.lt_tmod_of_pos x hn
  have h2 := Int.tmod_lt_of_pos x hn
  have hne : (n == 0) = false := by simp; omega
  go_enter Try.func13, Try.ntmps13
  go_wp2
  go_ret
  exact ⟨ret_int (tmod_rest x n hn), rfl⟩
end Go.Proofs.Ytbocaapbddlpfaa
