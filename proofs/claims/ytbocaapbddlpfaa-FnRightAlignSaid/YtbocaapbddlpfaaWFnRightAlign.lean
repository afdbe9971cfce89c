/-
  The walk of laws.FnRightAlign: it returns true for every list of bytes within the form's reach and every length.
-/
import Derived.Test.YtbocaapbddlpfaaMoved
namespace Go.Proofs.Ytbocaapbddlpfaa
open Go.RowKit

theorem walk_fnRightAlign (a : Option Addr) (n c : Nat) (l : List UInt8) (len : Int) (w : World) (h : BS w a n l) (hnc : n ≤ c) (hc : c ≤ 140737488351232)
    (_hlen : -9223372036854775808 ≤ len ∧ len ≤ 9223372036854775807) :
    Calls Try.prog 9 #[.slice a n c, .int .i64 len] w fun e w' => e = .returned (.bool true) ∧ Below w.heap.size w w' := by
  go_enter Try.func9, Try.ntmps9
  go_wp2_with fail
  refine (align_any a n c l len w h hnc (by omega)).mono ?_
  rintro e w1 ⟨a1, c1, rfl, hs1, hb1, hc1⟩
  go_wp2_with fail
  refine (sright_any a n c l len w1 (h.below hb1) (by omega)).mono ?_
  rintro e w2 ⟨a2, c2, rfl, hs2, hb2, hc2⟩
  go_wp2_with fail
  refine (alike_any a1 a2 n n c1 c2 _ _ w2 (hs1.below hb2) hs2).mono ?_
  rintro e w3 ⟨rfl, rfl⟩
  go_wp2
  go_ret
  exact ⟨ret_bool (by simp), hb1.trans (hb2.mono hb1.size)⟩
end Go.Proofs.Ytbocaapbddlpfaa
