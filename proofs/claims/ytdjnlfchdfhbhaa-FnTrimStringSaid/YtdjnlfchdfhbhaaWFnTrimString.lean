/-
  The walk of laws.FnTrimString: it returns true for every input.
-/
import Derived.Test.YtdjnlfchdfhbhaaStr
namespace Go.Proofs.Ytdjnlfchdfhbhaa
open Go.RowKit

theorem walk_fnTrimString (s : ByteArray) (w : World) (hs : s.size ≤ 140737488351232) :
    Calls Try.prog 6 #[.string s] w fun e w' => e = .returned (.bool true) ∧ Below w.heap.size w w' := by
  go_enter Try.func6, Try.ntmps6
  go_wp2_with fail
  refine (itrim_any s w (by omega)).mono ?_
  rintro e w' ⟨rfl, rfl⟩
  go_wp2_with fail
  refine (trimmed_any s w (by omega)).mono ?_
  rintro e w' ⟨rfl, rfl⟩
  go_wp2
  go_ret
  exact ⟨ret_bool (by simp), Below.refl _ _⟩
end Go.Proofs.Ytdjnlfchdfhbhaa
