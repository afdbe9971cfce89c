/-
  The walk of laws.FnAlignLength: it returns true for every list of bytes within the form's reach and every length.
-/
import Derived.Test.YtbocaapbddlpfaaAlike
namespace Go.Proofs.Ytbocaapbddlpfaa
open Go.RowKit

theorem walk_fnAlignLength (a : Option Addr) (n c : Nat) (l : List UInt8) (len : Int) (w : World) (h : BS w a n l) (hnc : n ≤ c) (hc : c ≤ 140737488351232)
    (_hlen : -9223372036854775808 ≤ len ∧ len ≤ 9223372036854775807) :
    Calls Try.prog 7 #[.slice a n c, .int .i64 len] w fun e w' => e = .returned (.bool true) ∧ Below w.heap.size w w' := by
  have hn : n ≤ 140737488355328 := by omega
  have b1 := Int.lt_tmod_of_pos len (show (0 : Int) < 8 by omega)
  have b2 := Int.tmod_lt_of_pos len (show (0 : Int) < 8 by omega)
  by_cases h0 : len.tmod 8 = 0
  · have hr : right l len = l := by unfold right; rw [if_pos h0]
    have h0' : (len.tmod 8 != 0) = false := by simp [h0]
    have H0 := Lib.hid h0
    have HR := Lib.hid hr
    clear h0 hr
    go_enter Try.func7, Try.ntmps7
    go_wp2_with fail
    refine (align_any a n c l len w h hnc hn).mono ?_
    rintro e w1 ⟨a1, c1, rfl, hs1, hb1, hc1⟩
    have h1 := h.below hb1
    go_wp2_with fail
    refine (align_any a n c l len w1 h1 hnc hn).mono ?_
    rintro e w2 ⟨a2, c2, rfl, hs2, hb2, hc2⟩
    go_wp2_with fail
    refine (alike_any a2 a n n c2 c _ l w2 hs2 (h1.below hb2)).mono ?_
    rintro e w3 ⟨he3, rfl⟩
    rw [HR.out] at he3
    subst he3
    go_wp2
    go_ret
    exact ⟨ret_bool (by simp), hb1.trans (hb2.mono hb1.size)⟩
  · have h0' : (len.tmod 8 != 0) = true := by simpa using h0
    go_enter Try.func7, Try.ntmps7
    go_wp2_with fail
    refine (align_any a n c l len w h hnc hn).mono ?_
    rintro e w1 ⟨a1, c1, rfl, hs1, hb1, hc1⟩
    go_wp2
    go_ret
    exact ⟨ret_bool (by simp), hb1⟩
end Go.Proofs.Ytbocaapbddlpfaa
