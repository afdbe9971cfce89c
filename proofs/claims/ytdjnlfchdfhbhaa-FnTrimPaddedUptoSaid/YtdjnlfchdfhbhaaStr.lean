/-
  What isASCIISpace, spec.IsSpace, textproto.TrimString, impl.TrimString and spec.Trimmed return. Condition: a text below 2 to the 62.
-/
import Derived.Test.YtdjnlfchdfhbhaaPlain
import Derived.WalkLawsBesides
import Derived.Outline
import Derived.LoopN
namespace Go.Proofs.Ytdjnlfchdfhbhaa
open Go.RowKit

theorem sp_true {c : UInt8} (h : sp c = true) : ((c.toNat : Int) == 32) = true ∨ (((c.toNat : Int) == 32) = false ∧ ((c.toNat : Int) == 9) = true) ∨ (((c.toNat : Int) == 32) = false ∧ ((c.toNat : Int) == 9) = false ∧ ((c.toNat : Int) == 10) = true) ∨
    (((c.toNat : Int) == 32) = false ∧ ((c.toNat : Int) == 9) = false ∧ ((c.toNat : Int) == 10) = false ∧ ((c.toNat : Int) == 13) = true) := by
  simp [sp] at h
  rcases h with ((rfl | rfl) | rfl) | rfl <;> decide
theorem sp_false {c : UInt8} (h : sp c = false) : ((c.toNat : Int) == 32) = false ∧ ((c.toNat : Int) == 9) = false ∧ ((c.toNat : Int) == 10) = false ∧ ((c.toNat : Int) == 13) = false := by
  simp [sp] at h
  obtain ⟨⟨⟨h0, h1⟩, h2⟩, h3⟩ := h
  have k : ∀ n : UInt8, ¬ c = n → ((c.toNat : Int) == (n.toNat : Int)) = false := by
    intro n hn
    rw [beq_eq_false_iff_ne]
    intro e
    exact hn (UInt8.toNat_inj.1 (by omega))
  exact ⟨k 32 h0, k 9 h1, k 10 h2, k 13 h3⟩

theorem ascii_yes (c : UInt8) (w : World) (h : sp c = true) : Calls Try.prog 18 #[.int .u8 (c.toNat : Int)] w fun e w' => e = .returned (.bool true) ∧ w = w' := by
  rcases sp_true h with h | ⟨h0, h⟩ | ⟨h0, h1, h⟩ | ⟨h0, h1, h2, h⟩ <;> (
    go_enter Try.func18, Try.ntmps18
    go_wp2
    go_ret
    exact ⟨ret_bool (by simp_all), rfl⟩)
theorem ascii_no (c : UInt8) (w : World) (h : sp c = false) : Calls Try.prog 18 #[.int .u8 (c.toNat : Int)] w fun e w' => e = .returned (.bool false) ∧ w = w' := by
  obtain ⟨h0, h1, h2, h3⟩ := sp_false h
  go_enter Try.func18, Try.ntmps18
  go_wp2
  go_ret
  exact ⟨ret_bool (by simp_all), rfl⟩
theorem isSpace_yes (c : UInt8) (w : World) (h : sp c = true) : Calls Try.prog 12 #[.int .u8 (c.toNat : Int)] w fun e w' => e = .returned (.bool true) ∧ w = w' := by
  rcases sp_true h with h | ⟨h0, h⟩ | ⟨h0, h1, h⟩ | ⟨h0, h1, h2, h⟩ <;> (
    go_enter Try.func12, Try.ntmps12
    go_wp2
    go_ret
    exact ⟨ret_bool (by simp_all), rfl⟩)
theorem isSpace_no (c : UInt8) (w : World) (h : sp c = false) : Calls Try.prog 12 #[.int .u8 (c.toNat : Int)] w fun e w' => e = .returned (.bool false) ∧ w = w' := by
  obtain ⟨h0, h1, h2, h3⟩ := sp_false h
  go_enter Try.func12, Try.ntmps12
  go_wp2
  go_ret
  exact ⟨ret_bool (by simp_all), rfl⟩

/-- how long a text is that stands in a slot -/
def strSize : Value → Nat
  | .string s => s.size
  | _ => 0
theorem size_data (s : ByteArray) : s.data.toList.length = s.size := by rw [Array.length_toList]; rfl
theorem one_size (c : UInt8) : (⟨#[c]⟩ : ByteArray).size = 1 := rfl
theorem list_ne {u : ByteArray} (h : 0 < u.size) : (u.toList == []) = false := by
  rw [Lib.toList_data, beq_eq_false_iff_ne]
  intro e
  rw [← size_data, e] at h
  exact absurd h (by simp)
theorem list_ne' {u : ByteArray} (h : 0 < u.size) : u.toList.isEmpty = false := by
  have := list_ne h
  simpa using this
theorem list_eq {u : ByteArray} (h : u.size = 0) : (u.toList == []) = true := by
  rw [Lib.toList_data, beq_iff_eq]
  exact List.eq_nil_of_length_eq_zero (by rw [size_data]; exact h)
theorem list_eq' {u : ByteArray} (h : u.size = 0) : u.toList.isEmpty = true := by
  have := list_eq h
  simpa using this
theorem ret_text {x : ByteArray} {l : List UInt8} (h : l = x.data.toList) : Ending.returned (.string x) = .returned (.string ⟨l.toArray⟩) := by rw [h]
theorem fin_text {s u x : ByteArray} (h1 : trimL s.data.toList = u.data.toList) (h2 : trimR u.data.toList = trimR x.data.toList) (h3 : x.size = 0 ∨ ∃ m c, x.data.toList = m ++ [c] ∧ sp c = false) : trim s.data.toList = x.data.toList := by
  unfold trim
  rw [h1, h2]
  rcases h3 with h3 | ⟨m, c, h3, h4⟩
  · have e : x.data.toList = [] := List.eq_nil_of_length_eq_zero (by rw [size_data]; exact h3)
    rw [e]
    rfl
  · rw [h3, trimR_stop h4]

set_option maxHeartbeats 400000 in
/-- textproto.TrimString -/
theorem trimString_any (s : ByteArray) (w : World) (hs : s.size ≤ 4611686018427387904) :
    Calls Try.prog 15 #[.string s] w fun e w' => e = .returned (.string ⟨(trim s.data.toList).toArray⟩) ∧ w = w' := by
  go_enter Try.func15, Try.ntmps15
  go_wp2
  go_loop [0] (fun v => ∃ u : ByteArray, v = .string u ∧ u.size ≤ s.size ∧ trimL s.data.toList = trimL u.data.toList) (fun v => strSize v)
  case atStart => exact ⟨s, rfl, Nat.le_refl _, rfl⟩
  case round =>
    obtain ⟨u, rfl, hu, htl⟩ := hrel
    have HT := Lib.hid htl
    clear htl
    by_cases hp : 0 < u.size
    · have hp' : (0 : Int) < (u.size : Int) := by omega
      have he : (u.toList == []) = false := list_ne hp
      have he' : u.toList.isEmpty = false := list_ne' hp
      have HD := Lib.hid (data_cons u hp)
      cases hsp : sp u[0] with
      | true =>
        go_wp2_with fail
        refine (ascii_yes u[0] w hsp).mono ?_
        rintro e w' ⟨rfl, rfl⟩
        go_wp2
        go_round
        case rel => exact ⟨_, rfl, by rw [size_tail]; omega, by rw [HT.out, HD.out, trimL_cons hsp]⟩
        case measure => simp [strSize]; omega
      | false =>
        go_wp2_with fail
        refine (ascii_no u[0] w hsp).mono ?_
        rintro e w' ⟨rfl, rfl⟩
        go_wp2
        have hd : trimL s.data.toList = u.data.toList := by rw [HT.out, HD.out, trimL_stop hsp]
        have HU := Lib.hid hd
        clear hd
        go_loop [0] (fun v => ∃ x : ByteArray, v = .string x ∧ x.size ≤ s.size ∧ trimR u.data.toList = trimR x.data.toList) (fun v => strSize v)
        case atStart => exact ⟨u, rfl, hu, rfl⟩
        case round =>
          obtain ⟨x, rfl, hx, htr⟩ := hrel
          have HR := Lib.hid htr
          clear htr
          by_cases hq : 0 < x.size
          · have hq' : (0 : Int) < (x.size : Int) := by omega
            have hl : x.size - 1 < x.size := by omega
            have hxe : (x.toList == []) = false := list_ne hq
            have hxe' : x.toList.isEmpty = false := list_ne' hq
            have HS := Lib.hid (data_snoc x hl)
            cases hsq : sp x[x.size - 1] with
            | true =>
              go_wp2_with fail
              refine (ascii_yes x[x.size - 1] w hsq).mono ?_
              rintro e w' ⟨rfl, rfl⟩
              go_wp2
              go_round
              case rel => exact ⟨_, rfl, by rw [size_init]; omega, by rw [HR.out, HS.out, trimR_snoc hsq]⟩
              case measure => simp [strSize]; omega
            | false =>
              go_wp2_with fail
              refine (ascii_no x[x.size - 1] w hsq).mono ?_
              rintro e w' ⟨rfl, rfl⟩
              go_wp2
              go_ret
              exact ⟨ret_text (fin_text HU.out HR.out (.inr ⟨_, _, HS.out, hsq⟩)), rfl⟩
          · have hz : x.size = 0 := by omega
            have hq' : decide ((0 : Int) < (x.size : Int)) = false := decide_eq_false (by omega)
            have hxe : (x.toList == []) = true := list_eq hz
            have hxe' : x.toList.isEmpty = true := list_eq' hz
            have HZ := Lib.hid hz
            clear hz
            go_wp2
            go_ret
            exact ⟨ret_text (fin_text HU.out HR.out (.inl HZ.out)), rfl⟩
    · have hz : u.size = 0 := by omega
      have hp' : decide ((0 : Int) < (u.size : Int)) = false := decide_eq_false (by omega)
      have he : (u.toList == []) = true := list_eq hz
      have he' : u.toList.isEmpty = true := list_eq' hz
      have HZ := Lib.hid hz
      clear hz
      go_wp2
      refine wp_loop_rounds 1 ?_
      rw [rounds_succ]
      go_wp2
      go_ret
      exact ⟨ret_text (fin_text (u := u) (by rw [HT.out, (show u.data.toList = [] from List.eq_nil_of_length_eq_zero (by rw [size_data]; exact HZ.out))]; rfl) rfl (.inl HZ.out)), rfl⟩

set_option maxHeartbeats 400000 in
/-- spec.Trimmed -/
theorem trimmed_any (s : ByteArray) (w : World) (hs : s.size ≤ 4611686018427387904) :
    Calls Try.prog 11 #[.string s] w fun e w' => e = .returned (.string ⟨(trim s.data.toList).toArray⟩) ∧ w = w' := by
  go_enter Try.func11, Try.ntmps11
  go_wp2
  go_loop [0] (fun v => ∃ u : ByteArray, v = .string u ∧ u.size ≤ s.size ∧ trimL s.data.toList = trimL u.data.toList) (fun v => strSize v)
  case atStart => exact ⟨s, rfl, Nat.le_refl _, rfl⟩
  case round =>
    obtain ⟨u, rfl, hu, htl⟩ := hrel
    have HT := Lib.hid htl
    clear htl
    by_cases hp : 0 < u.size
    · have hp' : (0 : Int) < (u.size : Int) := by omega
      have he : (u.toList == []) = false := list_ne hp
      have he' : u.toList.isEmpty = false := list_ne' hp
      have HD := Lib.hid (data_cons u hp)
      cases hsp : sp u[0] with
      | true =>
        go_wp2_with fail
        refine (isSpace_yes u[0] w hsp).mono ?_
        rintro e w' ⟨rfl, rfl⟩
        go_wp2
        go_round
        case rel => exact ⟨_, rfl, by rw [size_tail]; omega, by rw [HT.out, HD.out, trimL_cons hsp]⟩
        case measure => simp [strSize]; omega
      | false =>
        go_wp2_with fail
        refine (isSpace_no u[0] w hsp).mono ?_
        rintro e w' ⟨rfl, rfl⟩
        go_wp2
        have hd : trimL s.data.toList = u.data.toList := by rw [HT.out, HD.out, trimL_stop hsp]
        have HU := Lib.hid hd
        clear hd
        go_loop [0] (fun v => ∃ x : ByteArray, v = .string x ∧ x.size ≤ s.size ∧ trimR u.data.toList = trimR x.data.toList) (fun v => strSize v)
        case atStart => exact ⟨u, rfl, hu, rfl⟩
        case round =>
          obtain ⟨x, rfl, hx, htr⟩ := hrel
          have HR := Lib.hid htr
          clear htr
          by_cases hq : 0 < x.size
          · have hq' : (0 : Int) < (x.size : Int) := by omega
            have hl : x.size - 1 < x.size := by omega
            have hxe : (x.toList == []) = false := list_ne hq
            have hxe' : x.toList.isEmpty = false := list_ne' hq
            have HS := Lib.hid (data_snoc x hl)
            cases hsq : sp x[x.size - 1] with
            | true =>
              go_wp2_with fail
              refine (isSpace_yes x[x.size - 1] w hsq).mono ?_
              rintro e w' ⟨rfl, rfl⟩
              go_wp2
              go_round
              case rel => exact ⟨_, rfl, by rw [size_init]; omega, by rw [HR.out, HS.out, trimR_snoc hsq]⟩
              case measure => simp [strSize]; omega
            | false =>
              go_wp2_with fail
              refine (isSpace_no x[x.size - 1] w hsq).mono ?_
              rintro e w' ⟨rfl, rfl⟩
              go_wp2
              go_ret
              exact ⟨ret_text (fin_text HU.out HR.out (.inr ⟨_, _, HS.out, hsq⟩)), rfl⟩
          · have hz : x.size = 0 := by omega
            have hq' : decide ((0 : Int) < (x.size : Int)) = false := decide_eq_false (by omega)
            have hxe : (x.toList == []) = true := list_eq hz
            have hxe' : x.toList.isEmpty = true := list_eq' hz
            have HZ := Lib.hid hz
            clear hz
            go_wp2
            go_ret
            exact ⟨ret_text (fin_text HU.out HR.out (.inl HZ.out)), rfl⟩
    · have hz : u.size = 0 := by omega
      have hp' : decide ((0 : Int) < (u.size : Int)) = false := decide_eq_false (by omega)
      have he : (u.toList == []) = true := list_eq hz
      have he' : u.toList.isEmpty = true := list_eq' hz
      have HZ := Lib.hid hz
      clear hz
      go_wp2
      refine wp_loop_rounds 1 ?_
      rw [rounds_succ]
      go_wp2
      go_ret
      exact ⟨ret_text (fin_text (u := u) (by rw [HT.out, (show u.data.toList = [] from List.eq_nil_of_length_eq_zero (by rw [size_data]; exact HZ.out))]; rfl) rfl (.inl HZ.out)), rfl⟩

/-- impl.TrimString -/
theorem itrim_any (s : ByteArray) (w : World) (hs : s.size ≤ 4611686018427387904) :
    Calls Try.prog 10 #[.string s] w fun e w' => e = .returned (.string ⟨(trim s.data.toList).toArray⟩) ∧ w = w' := by
  go_enter Try.func10, Try.ntmps10
  go_wp2_with fail
  refine (trimString_any s w hs).mono ?_
  rintro e w' ⟨rfl, rfl⟩
  go_wp2
  go_ret
  exact ⟨rfl, rfl⟩
end Go.Proofs.Ytdjnlfchdfhbhaa
