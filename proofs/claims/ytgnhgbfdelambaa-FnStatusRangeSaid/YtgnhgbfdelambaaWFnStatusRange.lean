/-
  The walk of laws.FnStatusRange: it returns true for every number.
-/
import Derived.Test.YtgnhgbfdelambaaFacts
namespace Go.Proofs.Ytgnhgbfdelambaa
open Go.RowKit

theorem walk_fnStatusRange (c : Int) (w : World) (hc : -9223372036854775808 ≤ c ∧ c ≤ 9223372036854775807) :
    Calls Try.prog 4 #[.int .i64 c] w fun e w' => e = .returned (.bool true) ∧ Below w.heap.size w w' := by
  by_cases h : c < 100 ∨ 599 < c
  · have h0 := stat_outside h
    have h404 : stat 404 ≠ [] := by decide
    generalize hT : (⟨(stat 404).toArray⟩ : ByteArray) = T
    have hTd : T.data.toList = stat 404 := by rw [← hT]
    have e1 : (T.toList == []) = false := list_ne (by rw [hTd]; exact h404)
    have e2 : T.toList.isEmpty = false := list_ne' (by rw [hTd]; exact h404)
    have HT := Lib.hid hT
    have H0 := Lib.hid h0
    clear h0 h404 hT hTd
    by_cases h1 : c < 100
    · clear h
      go_enter Try.func4, Try.ntmps4
      go_wp2_with fail
      refine (istatus_any c w).mono ?_
      rintro e w' ⟨he, rfl⟩
      rw [H0.out] at he
      subst he
      go_wp2_with fail
      refine (istatus_any 404 w).mono ?_
      rintro e w' ⟨he, rfl⟩
      rw [HT.out] at he
      subst he
      go_wp2
      go_ret
      exact ⟨ret_bool (by simp), Below.refl _ _⟩
    · have h2 : 599 < c := by omega
      clear h
      go_enter Try.func4, Try.ntmps4
      go_wp2_with fail
      refine (istatus_any c w).mono ?_
      rintro e w' ⟨he, rfl⟩
      rw [H0.out] at he
      subst he
      go_wp2_with fail
      refine (istatus_any 404 w).mono ?_
      rintro e w' ⟨he, rfl⟩
      rw [HT.out] at he
      subst he
      go_wp2
      go_ret
      exact ⟨ret_bool (by simp), Below.refl _ _⟩
  · have h1 : 100 ≤ c := by omega
    have h2 : c ≤ 599 := by omega
    have hne := stat_hundreds c h1 h2
    generalize hT : (⟨(stat (c / 100 * 100)).toArray⟩ : ByteArray) = T
    have hTd : T.data.toList = stat (c / 100 * 100) := by rw [← hT]
    have e1 : (T.toList == []) = false := list_ne (by rw [hTd]; exact hne)
    have e2 : T.toList.isEmpty = false := list_ne' (by rw [hTd]; exact hne)
    have HT := Lib.hid hT
    clear h hne hT hTd
    go_enter Try.func4, Try.ntmps4
    go_wp2_with fail
    refine (istatus_any _ w).mono ?_
    rintro e w' ⟨he, rfl⟩
    rw [HT.out] at he
    subst he
    go_wp2
    go_ret
    exact ⟨ret_bool (by simp), Below.refl _ _⟩
end Go.Proofs.Ytgnhgbfdelambaa
