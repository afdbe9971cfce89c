/-
  The walk of laws.FnStatusApart: it returns true for every number.
-/
import Derived.Test.YtgnhgbfdelambaaFacts
namespace Go.Proofs.Ytgnhgbfdelambaa
open Go.RowKit

theorem walk_fnStatusApart (c d : Int) (w : World) (_hc : -9223372036854775808 ≤ c ∧ c ≤ 9223372036854775807) (_hd : -9223372036854775808 ≤ d ∧ d ≤ 9223372036854775807) :
    Calls Try.prog 3 #[.int .i64 c, .int .i64 d] w fun e w' => e = .returned (.bool true) ∧ Below w.heap.size w w' := by
  have h200 : stat 200 = [79, 75] := by decide
  have H200 := Lib.hid h200
  clear h200
  by_cases h : c = d
  · subst h
    go_enter Try.func3, Try.ntmps3
    go_wp2_with fail
    refine (istatus_any 200 w).mono ?_
    rintro e w' ⟨he, rfl⟩
    rw [H200.out] at he
    subst he
    go_wp2
    go_ret
    exact ⟨ret_bool (by simp), Below.refl _ _⟩
  · have hb : (c == d) = false := by simpa using h
    by_cases h0 : stat c = []
    · have H0 := Lib.hid h0
      clear h h0
      go_enter Try.func3, Try.ntmps3
      go_wp2_with fail
      refine (istatus_any c w).mono ?_
      rintro e w' ⟨he, rfl⟩
      rw [H0.out] at he
      subst he
      go_wp2_with fail
      refine (istatus_any 200 w).mono ?_
      rintro e w' ⟨he, rfl⟩
      rw [H200.out] at he
      subst he
      go_wp2
      go_ret
      exact ⟨ret_bool (by simp), Below.refl _ _⟩
    · have hne := stat_apart h h0
      generalize hT : (⟨(stat c).toArray⟩ : ByteArray) = T
      have hTd : T.data.toList = stat c := by rw [← hT]
      generalize hU : (⟨(stat d).toArray⟩ : ByteArray) = U
      have hUd : U.data.toList = stat d := by rw [← hU]
      have e1 : (T.toList == []) = false := list_ne (by rw [hTd]; exact h0)
      have e2 : T.toList.isEmpty = false := list_ne' (by rw [hTd]; exact h0)
      have e3 : (T.toList == U.toList) = false := by
        rw [Lib.toList_data, Lib.toList_data, hTd, hUd, beq_eq_false_iff_ne]
        exact hne
      have HT := Lib.hid hT
      have HU := Lib.hid hU
      clear h h0 hne hT hTd hU hUd
      go_enter Try.func3, Try.ntmps3
      go_wp2_with fail
      refine (istatus_any c w).mono ?_
      rintro e w' ⟨he, rfl⟩
      rw [HT.out] at he
      subst he
      go_wp2_with fail
      refine (istatus_any c w).mono ?_
      rintro e w' ⟨he, rfl⟩
      rw [HT.out] at he
      subst he
      go_wp2_with fail
      refine (istatus_any d w).mono ?_
      rintro e w' ⟨he, rfl⟩
      rw [HU.out] at he
      subst he
      go_wp2_with fail
      refine (istatus_any 200 w).mono ?_
      rintro e w' ⟨he, rfl⟩
      rw [H200.out] at he
      subst he
      go_wp2
      go_ret
      exact ⟨ret_bool (by simp), Below.refl _ _⟩
end Go.Proofs.Ytgnhgbfdelambaa
