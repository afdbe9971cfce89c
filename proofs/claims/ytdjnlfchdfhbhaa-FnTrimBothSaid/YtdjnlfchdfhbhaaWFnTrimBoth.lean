/-
  The walk of laws.FnTrimBoth: it returns true for every input.
-/
import Derived.Test.YtdjnlfchdfhbhaaByt
namespace Go.Proofs.Ytdjnlfchdfhbhaa
open Go.RowKit

theorem x_left (s : ByteArray) : trim (s ++ ⟨#[120]⟩).data.toList ≠ [] := by
  intro e
  have := allSp_of_trim e 120 (by simp)
  exact absurd this (by decide)

set_option maxHeartbeats 400000 in
theorem walk_fnTrimBoth (s : ByteArray) (w : World) (hs : s.size ≤ 140737488351232) :
    Calls Try.prog 7 #[.string s] w fun e w' => e = .returned (.bool true) ∧ Below w.heap.size w w' := by
  have hcv := fun u => run_bytes_of_string (P := Try.prog) u 9 25 5 s Try.underlying9 Try.underlying25 Try.underlying5
  have HX := Lib.hid (x_left s)
  go_enter Try.func7, Try.ntmps7
  go_wp2_with fail
  refine (itrim_any s w (by omega)).mono ?_
  rintro e w' ⟨rfl, rfl⟩
  go_wp2_with fail
  refine (ibytes_any _ s.size _ s.data.toList _ (by exact BS.of_bytes w s _ _ _) (by omega)).mono ?_
  rintro e w1 ⟨a1, c1, rfl, hs1, hb1, hc1⟩
  have e1 := run_string_bs (P := Try.prog) 25 9 5 Try.underlying25 Try.underlying5 Try.underlying9 c1 hs1
  have hb : Below w.heap.size w w1 := (((Below.refl _ _).alloc (Nat.le_refl _) _).drew).trans (hb1.mono (by simp))
  clear hcv hb1 hs1
  go_wp2_with fail
  refine (itrim_any _ w1 (by rw [ByteArray.size_append, one_size]; omega)).mono ?_
  rintro e w' ⟨he, rfl⟩
  have hd : 0 < (⟨(trim (s ++ ⟨#[120]⟩).data.toList).toArray⟩ : ByteArray).size := by
    rw [← size_data]
    exact List.length_pos_iff.2 HX.out
  generalize (⟨(trim (s ++ ⟨#[120]⟩).data.toList).toArray⟩ : ByteArray) = D at he hd
  have d1 : (D.toList == []) = false := list_ne hd
  have d2 : D.toList.isEmpty = false := list_ne' hd
  subst he
  go_wp2
  go_ret
  exact ⟨ret_bool (by simp), hb⟩
end Go.Proofs.Ytdjnlfchdfhbhaa
