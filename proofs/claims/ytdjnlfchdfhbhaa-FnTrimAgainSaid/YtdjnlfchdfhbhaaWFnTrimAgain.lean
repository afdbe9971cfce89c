/-
  The walk of laws.FnTrimAgain: it returns true for every input.
-/
import Derived.Test.YtdjnlfchdfhbhaaStr
namespace Go.Proofs.Ytdjnlfchdfhbhaa
open Go.RowKit

theorem text_eq (x : ByteArray) (m : List UInt8) : (x.toList == m) = decide (x.data.toList = m) := by
  rw [Lib.toList_data]
  exact Bool.eq_iff_iff.2 (by simp)
theorem trim_x {l : List UInt8} (h : trim l = []) : trim ((⟨#[120]⟩ : ByteArray) ++ ⟨l.toArray⟩).data.toList = [120] := by
  have := trim_pad (f := []) (b := l) [120] allSp_nil (allSp_of_trim h)
  rw [trim_one 120 (by decide)] at this
  simpa using this
theorem as_mk (s : ByteArray) : (⟨s.data.toList.toArray⟩ : ByteArray) = s := Lib.mk_data s

set_option maxHeartbeats 400000 in
theorem walk_fnTrimAgain (s : ByteArray) (w : World) (hs : s.size ≤ 140737488351232) :
    Calls Try.prog 3 #[.string s] w fun e w' => e = .returned (.bool true) ∧ Below w.heap.size w w' := by
  have hle := trim_le s.data.toList
  rw [size_data] at hle
  have hT : (⟨(trim s.data.toList).toArray⟩ : ByteArray).data.toList = trim s.data.toList := rfl
  have hTs : (⟨(trim s.data.toList).toArray⟩ : ByteArray).size = (trim s.data.toList).length := by rw [← size_data]
  by_cases h0 : trim s.data.toList = []
  · have H0 := Lib.hid h0
    clear h0 hle hT hTs
    go_enter Try.func3, Try.ntmps3
    go_wp2_with fail
    refine (itrim_any s w (by omega)).mono ?_
    rintro e w' ⟨he, rfl⟩
    rw [H0.out] at he
    subst he
    go_wp2_with fail
    refine (trimmed_any s w (by omega)).mono ?_
    rintro e w' ⟨he, rfl⟩
    rw [H0.out] at he
    subst he
    go_wp2_with fail
    refine (itrim_any _ w (by rw [ByteArray.size_append, one_size]; omega)).mono ?_
    rintro e w' ⟨he, rfl⟩
    have hx := trim_x H0.out
    rw [as_mk] at hx
    rw [hx] at he
    clear hx
    subst he
    go_wp2
    go_ret
    exact ⟨ret_bool (by simp), Below.refl _ _⟩
  · generalize hTT : (⟨(trim s.data.toList).toArray⟩ : ByteArray) = T at *
    have hpos : 0 < T.size := by
      rw [hTs]
      exact List.length_pos_iff.2 h0
    have hl : T.size - 1 < T.size := by omega
    have h1 : sp T[0] = false := trim_head (hT.symm.trans (data_cons T hpos))
    have h2 : sp T[T.size - 1] = false := trim_last (hT.symm.trans (data_snoc T hl))
    have hT2 : trim T.data.toList = trim s.data.toList := by rw [hT, trim_trim]
    have hle2 : T.size ≤ 140737488351232 := by omega
    have hpos' : (0 : Int) < (T.size : Int) := by omega
    have e1 : (T.toList == []) = false := list_ne hpos
    have e2 : T.toList.isEmpty = false := list_ne' hpos
    have HT := Lib.hid hT2
    have HTT := Lib.hid hTT
    clear hT hTs hT2 hTT h0 hle
    go_enter Try.func3, Try.ntmps3
    go_wp2_with fail
    refine (itrim_any s w (by omega)).mono ?_
    rintro e w' ⟨he, rfl⟩
    rw [HTT.out] at he
    subst he
    go_wp2_with fail
    refine (itrim_any T w (by omega)).mono ?_
    rintro e w' ⟨he, rfl⟩
    rw [HT.out, HTT.out] at he
    subst he
    go_wp2_with fail
    refine (isSpace_no T[0] w h1).mono ?_
    rintro e w' ⟨rfl, rfl⟩
    go_wp2_with fail
    refine (isSpace_no T[T.size - 1] w h2).mono ?_
    rintro e w' ⟨rfl, rfl⟩
    go_wp2
    go_ret
    exact ⟨ret_bool (by simp), Below.refl _ _⟩
end Go.Proofs.Ytdjnlfchdfhbhaa
