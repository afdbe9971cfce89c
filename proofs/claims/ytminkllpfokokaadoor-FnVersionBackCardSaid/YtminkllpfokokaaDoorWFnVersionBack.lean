/-
  The walk of laws.FnVersionBack: it returns true for every text.
-/
import Derived.Test.YtminkllpfokokaaDoorSpec
namespace Go.Proofs.YtminkllpfokokaaDoor
open Go.RowKit

theorem walk_fnVersionBack (s : ByteArray) (w : World) (_hs : s.size ≤ 140737488351232) (hg : Glob w) :
    Calls Tryd.prog 3 #[.string s] w fun e w' => e = .returned (.bool true) ∧ Below w.heap.size w w' := by
  by_cases h : ∃ a b, IsV s.data.toList a b
  · obtain ⟨a, b, h⟩ := h
    have H := Lib.hid h
    obtain ⟨hl, ⟨a0, a9⟩, b0, b9⟩ := h
    have hq : (s.toList == [72, 84, 84, 80, 47, a, 46, b]) = true := by rw [eq_test]; simpa using hl
    clear hl
    go_enter Tryd.func3, Tryd.ntmps3
    go_wp2_with fail
    refine (parse_yes s w hg a b H.out).mono ?_
    rintro e w1 ⟨rfl, hb1⟩
    go_wp2_with fail
    refine (dec_digit a _ w1 H.out.2.1 rfl).mono ?_
    rintro e w2 ⟨rfl, hb2⟩
    go_wp2_with fail
    refine (dec_digit b _ w2 H.out.2.2 rfl).mono ?_
    rintro e w3 ⟨rfl, hb3⟩
    go_wp2
    go_ret
    exact ⟨ret_bool (by simp; rw [Lib.toList_data, Lib.toList_data, H.out.1]; simp), (hb1.trans (hb2.mono hb1.size)).trans (hb3.mono (Nat.le_trans hb1.size hb2.size))⟩
  · have H : Hid (∀ a b, ¬ IsV s.data.toList a b) := fun a b hv => h ⟨a, b, hv⟩
    clear h
    go_enter Tryd.func3, Tryd.ntmps3
    go_wp2_with fail
    refine (parse_no s w hg H.out).mono ?_
    rintro e w1 ⟨rfl, hb1⟩
    go_wp2_with fail
    refine (parse_yes _ w1 (hg.below hb1) 49 49 ⟨rfl, by unfold dig; decide, by unfold dig; decide⟩).mono ?_
    rintro e w2 ⟨he2, hb2⟩
    rw [show (((49 : UInt8).toNat : Int) - 48) = 1 from by decide] at he2
    subst he2
    go_wp2
    go_ret
    exact ⟨ret_bool (by simp), hb1.trans (hb2.mono hb1.size)⟩
end Go.Proofs.YtminkllpfokokaaDoor
