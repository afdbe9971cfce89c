/-
  The walk of laws.FnParseHTTPVersion: it returns true for every text.
-/
import Derived.Test.YtminkllpfokokaaDoorSpec
namespace Go.Proofs.YtminkllpfokokaaDoor
open Go.RowKit

theorem walk_fnParseHTTPVersion (s : ByteArray) (w : World) (_hs : s.size ≤ 140737488351232) (hg : Glob w) :
    Calls Tryd.prog 6 #[.string s] w fun e w' => e = .returned (.bool true) ∧ Below w.heap.size w w' := by
  by_cases h : ∃ a b, IsV s.data.toList a b
  · obtain ⟨a, b, h⟩ := h
    have H := Lib.hid h
    clear h
    go_enter Tryd.func6, Tryd.ntmps6
    go_wp2_with fail
    refine (parse_yes s w hg a b H.out).mono ?_
    rintro e w1 ⟨rfl, hb1⟩
    go_wp2_with fail
    refine (sver_yes s w1 a b H.out).mono ?_
    rintro e w2 ⟨rfl, hb2⟩
    go_wp2
    go_ret
    exact ⟨ret_bool (by simp), hb1.trans (hb2.mono hb1.size)⟩
  · have H : Hid (∀ a b, ¬ IsV s.data.toList a b) := fun a b hv => h ⟨a, b, hv⟩
    clear h
    go_enter Tryd.func6, Tryd.ntmps6
    go_wp2_with fail
    refine (parse_no s w hg H.out).mono ?_
    rintro e w1 ⟨rfl, hb1⟩
    go_wp2_with fail
    refine (sver_no s w1 H.out).mono ?_
    rintro e w2 ⟨rfl, hb2⟩
    go_wp2
    go_ret
    exact ⟨ret_bool (by simp), hb1.trans (hb2.mono hb1.size)⟩
end Go.Proofs.YtminkllpfokokaaDoor
