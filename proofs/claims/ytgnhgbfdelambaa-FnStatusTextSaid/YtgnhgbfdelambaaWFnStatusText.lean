/-
  The walk of laws.FnStatusText: it returns true for every number.
-/
import Derived.Test.YtgnhgbfdelambaaFacts
namespace Go.Proofs.Ytgnhgbfdelambaa
open Go.RowKit

theorem walk_fnStatusText (c : Int) (w : World) (_hc : -9223372036854775808 ≤ c ∧ c ≤ 9223372036854775807) :
    Calls Try.prog 5 #[.int .i64 c] w fun e w' => e = .returned (.bool true) ∧ Below w.heap.size w w' := by
  go_enter Try.func5, Try.ntmps5
  go_wp2_with fail
  refine (istatus_any c w).mono ?_
  rintro e w' ⟨rfl, rfl⟩
  go_wp2_with fail
  refine (sstatus_any c w).mono ?_
  rintro e w' ⟨rfl, rfl⟩
  go_wp2
  go_ret
  exact ⟨ret_bool (by simp), Below.refl _ _⟩
end Go.Proofs.Ytgnhgbfdelambaa
