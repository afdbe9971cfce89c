/-
  The walk of laws.FnOidString: it returns true for every input within the bound.
-/
import Derived.Test.YtomldkhafbpniaaDoorDec
namespace Go.Proofs.YtomldkhafbpniaaDoor
open Go.RowKit Go.Lib

set_option maxHeartbeats 1000000 in
theorem walk_fnOidString (a : Option Addr) (n c : Nat) (z : List Int) (w : World) (h1 : IS w a n z) (hf : fitsI z) (hn : n ≤ 1048576) (htab : TabIs Tryd.prog w "internal/strconv.uint64pow10" .u64 pow10Tab) :
    Calls Tryd.prog 5 #[.slice a n c] w fun e w' => e = .returned (.bool true) ∧ Below w.heap.size w w' := by
  have TB := tabBelow_of_tabIs htab
  go_enter Tryd.func5, Tryd.ntmps5
  go_wp2_with (go_at_call 7; refine (ioidString a n c z w h1 hf hn htab).mono ?_)
  rintro e w1 ⟨rfl, hb1⟩
  go_wp2_with (go_at_call 9; refine (dotted_any a n c z w1 (h1.below hb1) hf hn).mono ?_)
  rintro e w2 ⟨rfl, hb2⟩
  go_wp2
  go_ret
  exact ⟨ret_bool (by simp), hb1.trans (hb2.mono hb1.size)⟩
end Go.Proofs.YtomldkhafbpniaaDoor
