/-
  The walk of laws.FnTrimParts: it returns true for every input.
-/
import Derived.Test.YtdjnlfchdfhbhaaStr
namespace Go.Proofs.Ytdjnlfchdfhbhaa
open Go.RowKit

theorem cut_mid (s : ByteArray) (f m b : List UInt8) (h : s.data.toList = f ++ m ++ b) : (s.extract f.length (f.length + m.length)).toList = m := by
  rw [Lib.extract_toList, h, List.append_assoc, List.drop_left, Nat.add_sub_cancel_left, List.take_left]
theorem cut_front (s : ByteArray) (f m b : List UInt8) (h : s.data.toList = f ++ m ++ b) : (s.extract 0 f.length).data.toList = f := by
  rw [Lib.extract_data, h, List.append_assoc, List.drop_zero, Nat.sub_zero, List.take_left]
theorem cut_back (s : ByteArray) (f m b : List UInt8) (h : s.data.toList = f ++ m ++ b) : (s.extract (f.length + m.length) s.size).data.toList = b := by
  rw [Lib.extract_data, h, ← List.length_append, List.drop_left]
  apply List.take_of_length_le
  rw [← size_data, h]
  simp
  omega
theorem slice_mid (s : ByteArray) (i j : Nat) (J : Int) (hJ : J = (j : Int)) (hij : i ≤ j) (hj : j ≤ s.size) (w : World) :
    (Instr.slice 9 (.string s) (some (.int .i64 (i : Int))) (some (.int .i64 J)) none).run Try.prog w = .ok (.string (s.extract i j)) w := by
  subst hJ
  rw [run_slice_string (P := Try.prog) w 9 s .i64 .i64 i j Try.underlying9 (by omega) (by omega) (by omega), Int.toNat_natCast, Int.toNat_natCast]
theorem slice_to (s : ByteArray) (j : Nat) (hj : j ≤ s.size) (w : World) :
    (Instr.slice 9 (.string s) none (some (.int .i64 (j : Int))) none).run Try.prog w = .ok (.string (s.extract 0 j)) w := by
  rw [run_slice_string_h (P := Try.prog) w 9 s Try.underlying9 .i64 j (by omega) (by omega), Int.toNat_natCast]
theorem slice_from (s : ByteArray) (i : Nat) (I : Int) (hI : I = (i : Int)) (hi : i ≤ s.size) (w : World) :
    (Instr.slice 9 (.string s) (some (.int .i64 I)) none none).run Try.prog w = .ok (.string (s.extract i s.size)) w := by
  subst hI
  rw [run_slice_string_l (P := Try.prog) w 9 s Try.underlying9 .i64 i (by omega) (by omega), Int.toNat_natCast]
theorem dot_left (s : ByteArray) : trim (s ++ ⟨#[46]⟩).data.toList ≠ [] := by
  intro e
  have := allSp_of_trim e 46 (by simp)
  exact absurd this (by decide)

set_option maxHeartbeats 800000 in
theorem walk_fnTrimParts (s : ByteArray) (w : World) (hs : s.size ≤ 140737488351232) :
    Calls Try.prog 5 #[.string s] w fun e w' => e = .returned (.bool true) ∧ Below w.heap.size w w' := by
  obtain ⟨f, b, hsplit, hf, hb⟩ := trim_split s.data.toList
  have hT : (⟨(trim s.data.toList).toArray⟩ : ByteArray).data.toList = trim s.data.toList := rfl
  have hTs : (⟨(trim s.data.toList).toArray⟩ : ByteArray).size = (trim s.data.toList).length := by rw [← size_data]
  have hlen : f.length + (trim s.data.toList).length + b.length = s.size := by
    have := congrArg List.length hsplit
    simp only [List.length_append] at this
    rw [size_data] at this
    omega
  have m1 := cut_mid s f _ b hsplit
  have m2 := cut_front s f _ b hsplit
  have m3 := cut_back s f _ b hsplit
  generalize hTT : (⟨(trim s.data.toList).toArray⟩ : ByteArray) = T at *
  rw [← hTs] at hlen m1 m3
  rw [← hT, ← Lib.toList_data] at m1
  have hdot := dot_left s
  have HTT := Lib.hid hTT
  have M1 := Lib.hid m1
  have M2 := Lib.hid m2
  have M3 := Lib.hid m3
  have HLEN : T.size + f.length ≤ s.size := by omega
  have HDOT := Lib.hid hdot
  clear hT hTs hTT m1 m2 m3 hsplit hlen hdot
  go_enter Try.func5, Try.ntmps5
  go_wp2_with fail
  refine (itrim_any s w (by omega)).mono ?_
  rintro e w' ⟨he, rfl⟩
  rw [HTT.out] at he
  subst he
  go_wp2_with fail
  go_loop [4] (fun i => ∃ k : Nat, k ≤ f.length ∧ i = .int .i64 (k : Int)) (fun i => s.size - (intOf i).toNat)
  case atStart => exact ⟨0, by omega, rfl⟩
  case round =>
    obtain ⟨k, hk, rfl⟩ := hrel
    have c1 : (k : Int) + (T.size : Int) ≤ (s.size : Int) := by omega
    have sl1 := fun u => slice_mid s k (k + T.size) ((k : Int) + (T.size : Int)) (by omega) (by omega) (by omega) u
    have sl2 := fun u => slice_to s k (by omega) u
    have sl3 := fun u => slice_from s (k + T.size) ((k : Int) + (T.size : Int)) (by omega) (by omega) u
    have z2 : (s.extract 0 k).size ≤ s.size := by simp; omega
    have z3 : (s.extract (k + T.size) s.size).size ≤ s.size := by simp
    have at1 : k = f.length → (s.extract k (k + T.size)).toList = T.toList := by rintro rfl; exact M1.out
    have at2 : k = f.length → allSp (s.extract 0 k).data.toList := by rintro rfl; rw [M2.out]; exact hf
    have at3 : k = f.length → allSp (s.extract (k + T.size) s.size).data.toList := by rintro rfl; rw [M3.out]; exact hb
    generalize s.extract k (k + T.size) = A at *
    generalize s.extract 0 k = B at *
    generalize s.extract (k + T.size) s.size = C at *
    have AT1 := Lib.hid at1
    have AT2 := Lib.hid at2
    have AT3 := Lib.hid at3
    clear at1 at2 at3
    by_cases q1 : (A.toList == T.toList) = true
    · by_cases q2 : trim B.data.toList = []
      · by_cases q3 : trim C.data.toList = []
        · have Q2 := Lib.hid q2
          have Q3 := Lib.hid q3
          clear q2 q3
          go_wp2_with fail
          refine (trimmed_any B w (by omega)).mono ?_
          rintro e w' ⟨he, rfl⟩
          rw [Q2.out] at he
          subst he
          go_wp2_with fail
          refine (trimmed_any C w (by omega)).mono ?_
          rintro e w' ⟨he, rfl⟩
          rw [Q3.out] at he
          subst he
          go_wp2_with fail
          refine (itrim_any _ w (by rw [ByteArray.size_append, one_size]; omega)).mono ?_
          rintro e w' ⟨he, rfl⟩
          have hd : 0 < (⟨(trim (s ++ ⟨#[46]⟩).data.toList).toArray⟩ : ByteArray).size := by
            rw [← size_data]
            exact List.length_pos_iff.2 HDOT.out
          generalize (⟨(trim (s ++ ⟨#[46]⟩).data.toList).toArray⟩ : ByteArray) = D at he hd
          have d1 : (D.toList == []) = false := list_ne hd
          have d2 : D.toList.isEmpty = false := list_ne' hd
          subst he
          go_wp2
          go_ret
          exact ⟨ret_bool (by simp), Below.refl _ _⟩
        · have hlt : k < f.length := by
            rcases Nat.lt_or_ge k f.length with h | h
            · exact h
            · exact absurd (trim_allSp (AT3.out (by omega))) q3
          have Q2 := Lib.hid q2
          have hc : 0 < (⟨(trim C.data.toList).toArray⟩ : ByteArray).size := by
            rw [← size_data]
            exact List.length_pos_iff.2 q3
          clear q2 q3
          go_wp2_with fail
          refine (trimmed_any B w (by omega)).mono ?_
          rintro e w' ⟨he, rfl⟩
          rw [Q2.out] at he
          subst he
          go_wp2_with fail
          refine (trimmed_any C w (by omega)).mono ?_
          rintro e w' ⟨he, rfl⟩
          generalize (⟨(trim C.data.toList).toArray⟩ : ByteArray) = D at he hc
          have d1 : (D.toList == []) = false := list_ne hc
          have d2 : D.toList.isEmpty = false := list_ne' hc
          subst he
          go_wp2
          go_round
          case rel => exact ⟨k + 1, by omega, by go_num⟩
          case measure => simp [intOf]; omega
      · have hlt : k < f.length := by
          rcases Nat.lt_or_ge k f.length with h | h
          · exact h
          · exact absurd (trim_allSp (AT2.out (by omega))) q2
        have hc : 0 < (⟨(trim B.data.toList).toArray⟩ : ByteArray).size := by
          rw [← size_data]
          exact List.length_pos_iff.2 q2
        clear q2
        go_wp2_with fail
        refine (trimmed_any B w (by omega)).mono ?_
        rintro e w' ⟨he, rfl⟩
        generalize (⟨(trim B.data.toList).toArray⟩ : ByteArray) = D at he hc
        have d1 : (D.toList == []) = false := list_ne hc
        have d2 : D.toList.isEmpty = false := list_ne' hc
        subst he
        go_wp2
        go_round
        case rel => exact ⟨k + 1, by omega, by go_num⟩
        case measure => simp [intOf]; omega
    · have q1' : (A.toList == T.toList) = false := by simpa using q1
      have hlt : k < f.length := by
        rcases Nat.lt_or_ge k f.length with h | h
        · exact h
        · exact absurd (AT1.out (by omega)) (by simpa using q1)
      clear q1
      go_wp2
      go_round
      case rel => exact ⟨k + 1, by omega, by go_num⟩
      case measure => simp [intOf]; omega
end Go.Proofs.Ytdjnlfchdfhbhaa
