/-
  The walk of laws.FnBitOutside: it returns true for every list of bytes, every length and every index.
-/
import Derived.Test.YtbocaapbddlpfaaAt
namespace Go.Proofs.Ytbocaapbddlpfaa
open Go.RowKit

theorem walk_fnBitOutside (a : Option Addr) (n c : Nat) (l : List UInt8) (len i : Int) (w : World) (_h : BS w a n l) (_hnc : n ≤ c) (_hc : c ≤ 140737488351232)
    (_hlen : -9223372036854775808 ≤ len ∧ len ≤ 9223372036854775807) (_hi : -9223372036854775808 ≤ i ∧ i ≤ 9223372036854775807) :
    Calls Try.prog 5 #[.slice a n c, .int .i64 len, .int .i64 i] w fun e w' => e = .returned (.bool true) ∧ Below w.heap.size w w' := by
  by_cases h1 : 0 ≤ i ∧ i < len
  · obtain ⟨h2, h3⟩ := h1
    go_enter Try.func5, Try.ntmps5
    go_wp2_with fail
    go_ret
    exact ⟨rfl, Below.refl _ _⟩
  · by_cases h2 : 0 ≤ i
    · have h3 : len ≤ i := by omega
      clear h1
      go_enter Try.func5, Try.ntmps5
      go_wp2_with fail
      refine (bitAt_out a n c len i w (.inr h3)).mono ?_
      rintro e w' ⟨rfl, hb⟩
      go_wp2_with fail
      refine (bitAt_at _ 1 _ [255] 8 7 _ (BS.one w' 5 255 255 rfl) (by omega) (by omega) (by omega) (by omega)).mono ?_
      rintro e w2 ⟨rfl, hb2⟩
      go_wp2
      go_ret
      exact ⟨ret_bool (by decide), (hb.alloc hb.size _).trans (hb2.mono (by have := hb.size; simp; omega))⟩
    · have h3 : i < 0 := by omega
      clear h1
      go_enter Try.func5, Try.ntmps5
      go_wp2_with fail
      refine (bitAt_out a n c len i w (.inl h3)).mono ?_
      rintro e w' ⟨rfl, hb⟩
      go_wp2_with fail
      refine (bitAt_at _ 1 _ [255] 8 7 _ (BS.one w' 5 255 255 rfl) (by omega) (by omega) (by omega) (by omega)).mono ?_
      rintro e w2 ⟨rfl, hb2⟩
      go_wp2
      go_ret
      exact ⟨ret_bool (by decide), (hb.alloc hb.size _).trans (hb2.mono (by have := hb.size; simp; omega))⟩
end Go.Proofs.Ytbocaapbddlpfaa
