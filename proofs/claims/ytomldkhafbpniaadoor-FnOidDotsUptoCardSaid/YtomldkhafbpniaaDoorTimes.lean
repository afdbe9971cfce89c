/-
  What laws.times returns: how often a dot stands in a text.
-/
import Derived.Test.YtomldkhafbpniaaDoorPlain
namespace Go.Proofs.YtomldkhafbpniaaDoor
open Go.RowKit Go.Lib

theorem data_at {s : ByteArray} {k : Nat} (h : k < s.size) : ∃ h2 : k < s.data.toList.length, s.data.toList[k] = s[k] := ⟨by rw [Array.length_toList]; exact h, by rw [Array.getElem_toList]; rfl⟩
theorem data_take {s : ByteArray} {k : Nat} (h : k < s.size) : s.data.toList.take (k + 1) = s.data.toList.take k ++ [s[k]] := by
  obtain ⟨h2, e⟩ := data_at h
  rw [← e, List.take_append_getElem]
theorem data_drop {s : ByteArray} {k : Nat} (h : k < s.size) : s.data.toList.drop k = s[k] :: s.data.toList.drop (k + 1) := by
  obtain ⟨h2, e⟩ := data_at h
  rw [← e, List.drop_eq_getElem_cons h2]
theorem is_byte {c : UInt8} {n : UInt8} (h : ((c.toNat : Int) == (n.toNat : Int)) = true) : c = n := UInt8.toNat_inj.1 (by have := beq_iff_eq.1 h; omega)
theorem not_byte {c : UInt8} {n : UInt8} (h : ((c.toNat : Int) == (n.toNat : Int)) = false) : c ≠ n := fun e => by rw [e] at h; simp at h
theorem count_yes {s : ByteArray} {k C : Nat} (h : k < s.size) (hC : (s.data.toList.take k).count 46 = C) (hb : ((s[k].toNat : Int) == 46) = true) : (s.data.toList.take (k + 1)).count 46 = C + 1 := by
  rw [data_take h, List.count_append, hC, is_byte (n := 46) hb]; rfl
theorem count_no {s : ByteArray} {k C : Nat} (h : k < s.size) (hC : (s.data.toList.take k).count 46 = C) (hb : ((s[k].toNat : Int) == 46) = false) : (s.data.toList.take (k + 1)).count 46 = C := by
  rw [data_take h, List.count_append, hC, List.count_eq_zero.2]
  · rfl
  · intro hm
    rw [List.mem_singleton] at hm
    exact not_byte (n := 46) hb hm.symm
theorem num_eq {a b : Int} (h : a = b) : Value.int .i64 a = .int .i64 b := by rw [h]

/-- how many dots stand in a text -/
def dots (s : ByteArray) : Nat := s.data.toList.count 46

set_option maxHeartbeats 1000000 in
theorem times_any (s : ByteArray) (w : World) (hs : s.size ≤ 4611686018427387904) :
    Calls Tryd.prog 8 #[.string s, .int .u8 46] w fun e w' => e = .returned (.int .i64 (dots s : Nat)) ∧ w = w' := by
  go_enter Tryd.func8, Tryd.ntmps8
  go_wp2
  go_loop [5, 6] (fun n i => ∃ k : Nat, k ≤ s.size ∧ i = .int .i64 (k : Int) ∧ n = .int .i64 ((s.data.toList.take k).count 46 : Nat)) (fun _ i => s.size - (RowKit.intOf i).toNat)
  case atStart => exact ⟨0, by omega, rfl, rfl⟩
  case round =>
    obtain ⟨k, hk, rfl, rfl⟩ := hrel
    have hcl : (s.data.toList.take k).count 46 ≤ k := Nat.le_trans List.count_le_length (by simp; omega)
    by_cases hlt : k < s.size
    · have hlt' : (k : Int) < (s.size : Int) := by omega
      have HY := Lib.hid (fun hb => count_yes (C := (s.data.toList.take k).count 46) hlt rfl hb)
      have HN := Lib.hid (fun hb => count_no (C := (s.data.toList.take k).count 46) hlt rfl hb)
      generalize (s.data.toList.take k).count 46 = C at hcl HY HN ⊢
      cases hb : ((s[k].toNat : Int) == 46) with
      | true =>
        go_wp2
        exact ⟨⟨k + 1, by omega, num_eq (by omega), num_eq (by rw [HY.out hb]; omega)⟩, by simp [RowKit.intOf]; omega⟩
      | false =>
        go_wp2
        exact ⟨⟨k + 1, by omega, num_eq (by omega), num_eq (by rw [HN.out hb])⟩, by simp [RowKit.intOf]; omega⟩
    · have hall : s.data.toList.take k = s.data.toList := List.take_of_length_le (by rw [Array.length_toList]; exact Nat.not_lt.1 hlt)
      have hd : (s.data.toList.take k).count 46 = dots s := by rw [hall]; rfl
      rw [hd]
      have hlt' : ¬ (k : Int) < (s.size : Int) := by omega
      go_wp2
      go_ret
      exact ⟨rfl, rfl⟩
end Go.Proofs.YtomldkhafbpniaaDoor
