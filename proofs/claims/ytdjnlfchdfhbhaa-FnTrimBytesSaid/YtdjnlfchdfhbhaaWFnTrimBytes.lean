/-
  The walk of laws.FnTrimBytes: it returns true for every input.
-/
import Derived.Test.YtdjnlfchdfhbhaaByt
import Derived.Deep.RegionWith
namespace Go.Proofs.Ytdjnlfchdfhbhaa
open Go.RowKit

set_option maxHeartbeats 1000000 in
theorem walk_fnTrimBytes (a : Option Addr) (n c : Nat) (l : List UInt8) (w : World) (h : BS w a n l) (hnc : n ≤ c) (hc : c ≤ 140737488351232) :
    Calls Try.prog 4 #[.slice a n c] w fun e w' => e = .returned (.bool true) ∧ Below w.heap.size w w' := by
  have e0 := run_string_bs (P := Try.prog) (w := w.drew) 25 9 5 Try.underlying25 Try.underlying5 Try.underlying9 c h.drew
  have hl : l.length ≤ 140737488351232 := by rw [h.1]; omega
  have hls : (⟨l.toArray⟩ : ByteArray).size ≤ 4611686018427387904 := by
    have : (⟨l.toArray⟩ : ByteArray).size = l.length := by rw [← size_data]
    rw [this]; omega
  have HLS := Lib.hid hls
  clear hls
  go_enter Try.func4, Try.ntmps4
  go_wp2
  go_region_with (first
    | (go_at_call 13; (with_reducible refine Calls.mono (ibytes_any a n c l _ ?_ ?_) ?_); (first | exact h.drew | exact h); omega; rintro e w1 ⟨a1, c1, rfl, hs1, hb1, hc1⟩; have e1 := run_string_bs (P := Try.prog) 25 9 5 Try.underlying25 Try.underlying5 Try.underlying9 c1 hs1; have e2 := run_string_bs (P := Try.prog) 25 9 5 Try.underlying25 Try.underlying5 Try.underlying9 c (h.drew.below hb1))
    | (go_at_call 11; (with_reducible refine Calls.mono (trimmed_any _ _ ?_) ?_); exact HLS.out; rintro e w' ⟨rfl, rfl⟩))
  all_goals (
    go_wp2
    go_ret
    refine ⟨ret_bool (by simp), (Below.refl w.heap.size w).drew.trans ?_⟩
    assumption)
end Go.Proofs.Ytdjnlfchdfhbhaa
