/-
  What laws.alike, laws.number, spec.Padding, spec.Moved and spec.Right return.
-/
import Derived.Test.YtbocaapbddlpfaaPlain
namespace Go.Proofs.Ytbocaapbddlpfaa
open Go.RowKit

theorem alike_any (a b : Option Addr) (n m c d : Nat) (l k : List UInt8) (w : World) (h1 : BS w a n l) (h2 : BS w b m k) :
    Calls Try.prog 15 #[.slice a n c, .slice b m d] w fun e w' => e = .returned (.bool (l == k)) ∧ w = w' := by
  have e1 := run_string_bs (P := Try.prog) 22 9 5 Try.underlying22 Try.underlying5 Try.underlying9 c h1
  have e2 := run_string_bs (P := Try.prog) 22 9 5 Try.underlying22 Try.underlying5 Try.underlying9 d h2
  go_enter Try.func15, Try.ntmps15
  go_wp2
  go_ret
  exact ⟨rfl, rfl⟩

theorem numTo_small (l : List UInt8) (k : Nat) (hk : k ≤ 6) : numTo l k < 281474976710656 := by
  have h := numTo_lt l k
  have h2 : 256 ^ k ≤ 256 ^ 6 := Nat.pow_le_pow_right (by omega) hk
  rw [show (256 : Nat) ^ 6 = 281474976710656 from by decide] at h2
  omega

/-- laws.number, of at most six bytes -/
theorem number_any (a : Option Addr) (n c : Nat) (l : List UInt8) (w : World) (h : BS w a n l) (hn : n ≤ 6) :
    Calls Try.prog 16 #[.slice a n c] w fun e w' => e = .returned (.int .i64 (numTo l n : Nat)) ∧ w = w' := by
  have H := Lib.hid h
  clear h
  go_enter Try.func16, Try.ntmps16
  go_wp2
  go_loop [3, 5, 8] (fun x y i => ∃ k : Nat, k ≤ n ∧ i = .int .i64 (k : Int) ∧ x = .int .i64 (numTo l k : Nat)) (fun _ _ i => n - (intOf i).toNat)
  case atStart => exact ⟨0, by omega, rfl, rfl⟩
  case round =>
    obtain ⟨k, hk, rfl, rfl⟩ := hrel
    have hs := numTo_small l k (by omega)
    by_cases hlt : k < n
    · obtain ⟨b, off, rfl, hb, hcell⟩ := H.out.open_ (by omega)
      have hc := hcell k hlt
      have t0 := bt_nonneg l k
      have t1 := bt_le l k
      clear hcell
      go_wp2
      go_round
      case rel => exact ⟨k + 1, by omega, by go_num, by rw [numTo, bt_nat]; go_num⟩
      case measure => simp [intOf]; omega
    · obtain rfl : k = n := by omega
      go_wp2
      go_ret
      exact ⟨rfl, rfl⟩

/-- spec.Bit, whatever the index -/
theorem sbit_any (a : Option Addr) (n c : Nat) (l : List UInt8) (i : Int) (w : World) (h : BS w a n l) (hm : i ≤ 9223372036854775807) (hc : n ≤ 140737488355328) :
    Calls Try.prog 11 #[.slice a n c, .int .i64 i] w fun e w' => e = .returned (.int .i64 (bitI l i)) ∧ w = w' := by
  by_cases h0 : i < 0
  · refine (sbit_out a n c i w (.inl h0) hm hc).mono fun e w' ⟨he, hw⟩ => ⟨?_, hw⟩
    rw [he, bitI, if_pos h0]
  · obtain ⟨j, rfl⟩ := Int.eq_ofNat_of_zero_le (show 0 ≤ i by omega)
    rw [bitI, if_neg h0, Int.toNat_natCast]
    by_cases h1 : j / 8 < n
    · exact sbit_in a n c l j w h h1 hc
    · refine (sbit_out a n c j w (.inr (by omega)) hm hc).mono fun e w' ⟨he, hw⟩ => ⟨?_, hw⟩
      rw [he, bit_out (by rw [h.1]; omega)]
end Go.Proofs.Ytbocaapbddlpfaa
