/-
  The walk of laws.FnStatusWords: it returns true for every number.
-/
import Derived.Test.YtgnhgbfdelambaaFacts
namespace Go.Proofs.Ytgnhgbfdelambaa
open Go.RowKit

theorem pv_succ (l : List UInt8) (k : Nat) : pv l (k + 1) = bt l k := by simp [pv]
theorem size_data (s : ByteArray) : s.data.toList.length = s.size := by rw [Array.length_toList]; rfl
theorem get_bt (s : ByteArray) (i : Nat) (h : i < s.size) : bt s.data.toList i = (s[i].toNat : Int) := by
  have h' : i < s.data.toList.length := by rw [size_data]; exact h
  unfold bt
  rw [List.getElem?_eq_getElem h']
  simp
  rfl

set_option maxHeartbeats 1600000 in
theorem walk_fnStatusWords (c : Int) (w : World) (_hc : -9223372036854775808 ≤ c ∧ c ≤ 9223372036854775807) :
    Calls Try.prog 6 #[.int .i64 c] w fun e w' => e = .returned (.bool true) ∧ Below w.heap.size w w' := by
  by_cases h0 : stat c = []
  · have h500 : stat 500 ≠ [] := by decide
    generalize hT : (⟨(stat 500).toArray⟩ : ByteArray) = T
    have hTd : T.data.toList = stat 500 := by rw [← hT]
    have e1 : (T.toList == []) = false := list_ne (by rw [hTd]; exact h500)
    have e2 : T.toList.isEmpty = false := list_ne' (by rw [hTd]; exact h500)
    have HT := Lib.hid hT
    have H0 := Lib.hid h0
    clear h0 h500 hT hTd
    go_enter Try.func6, Try.ntmps6
    go_wp2_with fail
    refine (istatus_any c w).mono ?_
    rintro e w' ⟨he, rfl⟩
    rw [H0.out] at he
    subst he
    go_wp2_with fail
    refine (sstatus_any c w).mono ?_
    rintro e w' ⟨he, rfl⟩
    rw [H0.out] at he
    subst he
    go_wp2_with fail
    refine (istatus_any 500 w).mono ?_
    rintro e w' ⟨he, rfl⟩
    rw [HT.out] at he
    subst he
    go_wp2
    go_ret
    exact ⟨ret_bool (by simp), Below.refl _ _⟩
  · obtain ⟨hall, hlast, hA, hZ⟩ := words_of h0
    generalize hT : (⟨(stat c).toArray⟩ : ByteArray) = T
    have hTd : T.data.toList = stat c := by rw [← hT]
    rw [← hTd] at hall hlast hA hZ
    have e1 : (T.toList == []) = false := list_ne (by rw [hTd]; exact h0)
    have e2 : T.toList.isEmpty = false := list_ne' (by rw [hTd]; exact h0)
    have hpos : 0 < T.size := by rw [← size_data, hTd]; exact List.length_pos_iff.2 h0
    have hlen : T.size ≤ 1000 := by
      have : (codes.all fun c => decide ((stat c).length ≤ 1000)) = true := by decide +kernel
      have hc : c ∈ codes := by
        by_cases hc : c ∈ codes
        · exact hc
        · exact absurd (stat_none hc) h0
      have := List.all_eq_true.1 this c hc
      rw [← size_data, hTd]
      simpa using this
    rw [size_data] at hall hlast
    rw [get_bt T 0 hpos] at hA hZ
    have HALL := Lib.hid hall
    have hlast' : (pv T.data.toList T.size != 32) = true := by simpa using hlast
    have HL := Lib.hid hlast'
    have HT := Lib.hid hT
    clear h0 hT hTd hall hlast hlast'
    go_enter Try.func6, Try.ntmps6
    go_wp2_with fail
    refine (istatus_any c w).mono ?_
    rintro e w' ⟨he, rfl⟩
    rw [HT.out] at he
    subst he
    go_wp2_with fail
    go_loop [4, 5] (fun x i => ∃ k : Nat, k ≤ T.size ∧ i = .int .i64 (k : Int) ∧ x = .int .u8 (pv T.data.toList k)) (fun _ i => T.size - (intOf i).toNat)
    case atStart => exact ⟨0, by omega, rfl, rfl⟩
    case round =>
      obtain ⟨k, hk, rfl, rfl⟩ := hrel
      by_cases hlt : k < T.size
      · have hlt' : (k : Int) < (T.size : Int) := by omega
        have hch := chr_cases (HALL.out k hlt)
        have hgk := get_bt T k hlt
        rw [hgk] at hch
        have HK := Lib.hid hgk
        clear hgk
        generalize pv T.data.toList k = p at *
        have hx0 : 0 ≤ (T[k].toNat : Int) := by omega
        rcases hch with ⟨h1, h2⟩ | ⟨h1, h2⟩ | h1 | h1 | ⟨h1, h2⟩
        · go_wp2
          go_round
          case rel => exact ⟨k + 1, by omega, by go_num, by rw [pv_succ, HK.out]⟩
          case measure => simp [intOf]; omega
        · have d1 : decide ((T[k].toNat : Int) ≤ 90) = false := decide_eq_false (by omega)
          have d2 : (65 : Int) ≤ (T[k].toNat : Int) := by omega
          go_wp2
          go_round
          case rel => exact ⟨k + 1, by omega, by go_num, by rw [pv_succ, HK.out]⟩
          case measure => simp [intOf]; omega
        · have b1 : ((T[k].toNat : Int) != 45) = false := by rw [h1]; decide
          have d1 : decide ((65 : Int) ≤ (T[k].toNat : Int)) = false := decide_eq_false (by omega)
          have d2 : decide ((97 : Int) ≤ (T[k].toNat : Int)) = false := decide_eq_false (by omega)
          clear h1
          go_wp2
          go_round
          case rel => exact ⟨k + 1, by omega, by go_num, by rw [pv_succ, HK.out]⟩
          case measure => simp [intOf]; omega
        · have b0 : ((T[k].toNat : Int) != 45) = true := by rw [h1]; decide
          have b1 : ((T[k].toNat : Int) != 39) = false := by rw [h1]; decide
          have d1 : decide ((65 : Int) ≤ (T[k].toNat : Int)) = false := decide_eq_false (by omega)
          have d2 : decide ((97 : Int) ≤ (T[k].toNat : Int)) = false := decide_eq_false (by omega)
          clear h1
          go_wp2
          go_round
          case rel => exact ⟨k + 1, by omega, by go_num, by rw [pv_succ, HK.out]⟩
          case measure => simp [intOf]; omega
        · have b0 : ((T[k].toNat : Int) != 45) = true := by rw [h1]; decide
          have b1 : ((T[k].toNat : Int) != 39) = true := by rw [h1]; decide
          have b2 : ((T[k].toNat : Int) != 32) = false := by rw [h1]; decide
          have b3 : (p == 32) = false := by simpa using h2
          have d1 : decide ((65 : Int) ≤ (T[k].toNat : Int)) = false := decide_eq_false (by omega)
          have d2 : decide ((97 : Int) ≤ (T[k].toNat : Int)) = false := decide_eq_false (by omega)
          clear h1 h2
          go_wp2
          go_round
          case rel => exact ⟨k + 1, by omega, by go_num, by rw [pv_succ, HK.out]⟩
          case measure => simp [intOf]; omega
      · obtain rfl : k = T.size := by omega
        have hl := HL.out
        generalize pv T.data.toList T.size = p at *
        go_wp2
        go_ret
        exact ⟨ret_bool (by simp), Below.refl _ _⟩
end Go.Proofs.Ytgnhgbfdelambaa
