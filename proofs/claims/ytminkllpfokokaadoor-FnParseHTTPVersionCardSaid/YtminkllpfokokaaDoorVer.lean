/-
  What strconv.ParseUint returns for a text of one byte, and what net/http.ParseHTTPVersion and impl.ParseHTTPVersion return.
-/
import Derived.Test.YtminkllpfokokaaDoorParse
import Derived.Test.YtminkllpfokokaaDoorShelf
namespace Go.Proofs.YtminkllpfokokaaDoor
open Go.RowKit

/-- the variable ErrSyntax holds some error value -/
def Glob (w : World) : Prop := ∃ t v, w.cell? ⟨0, 0, none⟩ = some (.iface t v)
theorem Glob.below {w w' : World} (h : Glob w) (hb : Below w.heap.size w w') : Glob w' := by
  obtain ⟨t, v, hc⟩ := h
  exact ⟨t, v, (hb.cell (World.block_lt_of_cell? (a := ⟨0, 0, none⟩) w hc)).trans hc⟩

theorem pu_digit (c : UInt8) (w : World) (h0 : 48 ≤ (c.toNat : Int)) (h9 : (c.toNat : Int) ≤ 57) :
    Calls Tryd.prog 14 #[.string ⟨#[c]⟩, .int .i64 10, .int .i64 0] w fun e w' => e = .returned (.tuple #[.int .u64 ((c.toNat : Int) - 48), .nilIface]) ∧ Below w.heap.size w w' := by
  go_enter Tryd.func14, Tryd.ntmps14
  go_wp2_with fail
  refine (one_digit c w h0 h9).mono ?_
  rintro e w1 ⟨rfl, hb1⟩
  go_wp2
  go_ret2
  exact ⟨rfl, hb1⟩

/-- an error that is not nil -/
def Fails (w : World) (e : Ending) (w' : World) : Prop := ∃ t v, e = .returned (.tuple #[.int .u64 0, .iface t v]) ∧ Below w.heap.size w w'
theorem pu_other (c : UInt8) (w : World) (hg : Glob w) (hc0 : (c.toNat : Int) < 48 ∨ 57 < (c.toNat : Int)) :
    Calls Tryd.prog 14 #[.string ⟨#[c]⟩, .int .i64 10, .int .i64 0] w (Fails w) := by
  go_enter Tryd.func14, Tryd.ntmps14
  go_wp2_with fail
  refine (one_other c w hc0).mono ?_
  rintro e w1 ⟨rfl, hb1⟩
  obtain ⟨t, v, hv⟩ := hg.below hb1
  go_wp2_with fail
  refine (Tryd.strconv_toError_syntax _ _ 10 0 _ w1 (by simp [ByteArray.size]) hv (.inr ⟨t, v, rfl⟩)).mono ?_
  rintro e w2 ⟨N, rfl, _, _, hb2⟩
  go_wp2
  go_ret2
  exact ⟨_, _, rfl, hb1.trans (hb2.mono hb1.size)⟩

theorem slice_one (s : ByteArray) (i j : Nat) (c : UInt8) (hij : i ≤ j) (hj : j ≤ s.size) (h : s.extract i j = ⟨#[c]⟩) (w : World) :
    (Instr.slice 9 (.string s) (some (.int .i64 (i : Int))) (some (.int .i64 (j : Int))) none).run Tryd.prog w = .ok (.string ⟨#[c]⟩) w := by
  rw [run_slice_string (P := Tryd.prog) w 9 s .i64 .i64 i j Tryd.underlying9 (by omega) (by omega) (by omega), Int.toNat_natCast, Int.toNat_natCast, h]

/-- what a call of the parser leaves: three results, nothing old changed -/
def Vers (w : World) (x y : Int) (b : Bool) (e : Ending) (w' : World) : Prop := e = .returned (.tuple #[.int .i64 x, .int .i64 y, .bool b]) ∧ Below w.heap.size w w'

theorem ver_11 (s : ByteArray) (w : World) (h : (s.toList == [72, 84, 84, 80, 47, 49, 46, 49]) = true) : Calls Tryd.prog 11 #[.string s] w (Vers w 1 1 true) := by
  go_enter Tryd.func11, Tryd.ntmps11
  go_wp2_with fail
  go_ret3
  exact ⟨rfl, Below.refl _ _⟩
theorem ver_10 (s : ByteArray) (w : World) (h1 : (s.toList == [72, 84, 84, 80, 47, 49, 46, 49]) = false) (h : (s.toList == [72, 84, 84, 80, 47, 49, 46, 48]) = true) : Calls Tryd.prog 11 #[.string s] w (Vers w 1 0 true) := by
  go_enter Tryd.func11, Tryd.ntmps11
  go_wp2_with fail
  go_ret3
  exact ⟨rfl, Below.refl _ _⟩

theorem ver_front (s : ByteArray) (w : World) (h1 : (s.toList == [72, 84, 84, 80, 47, 49, 46, 49]) = false) (h2 : (s.toList == [72, 84, 84, 80, 47, 49, 46, 48]) = false) (hp : Lib.hasPrefix s.data.toList [72, 84, 84, 80, 47] = false) :
    Calls Tryd.prog 11 #[.string s] w (Vers w 0 0 false) := by
  have HP := Lib.hid hp
  clear hp
  go_enter Tryd.func11, Tryd.ntmps11
  go_wp2_with fail
  refine (Tryd.strings_HasPrefix s _ w).mono ?_
  rintro e w' ⟨he, hw⟩
  obtain rfl := hw.symm
  rw [show (⟨#[72, 84, 84, 80, 47]⟩ : ByteArray).data.toList = [72, 84, 84, 80, 47] from rfl, HP.out] at he
  subst he
  go_wp2
  go_ret3
  exact ⟨rfl, Below.refl _ _⟩

theorem ver_size (s : ByteArray) (w : World) (h1 : (s.toList == [72, 84, 84, 80, 47, 49, 46, 49]) = false) (h2 : (s.toList == [72, 84, 84, 80, 47, 49, 46, 48]) = false) (hp : Lib.hasPrefix s.data.toList [72, 84, 84, 80, 47] = true) (h8 : ((s.size : Int) != 8) = true) :
    Calls Tryd.prog 11 #[.string s] w (Vers w 0 0 false) := by
  have HP := Lib.hid hp
  clear hp
  go_enter Tryd.func11, Tryd.ntmps11
  go_wp2_with fail
  refine (Tryd.strings_HasPrefix s _ w).mono ?_
  rintro e w' ⟨he, hw⟩
  obtain rfl := hw.symm
  rw [show (⟨#[72, 84, 84, 80, 47]⟩ : ByteArray).data.toList = [72, 84, 84, 80, 47] from rfl, HP.out] at he
  subst he
  go_wp2
  go_ret3
  exact ⟨rfl, Below.refl _ _⟩

theorem ver_dot (s : ByteArray) (w : World) (h1 : (s.toList == [72, 84, 84, 80, 47, 49, 46, 49]) = false) (h2 : (s.toList == [72, 84, 84, 80, 47, 49, 46, 48]) = false) (hp : Lib.hasPrefix s.data.toList [72, 84, 84, 80, 47] = true) (h8 : ((s.size : Int) != 8) = false) (h6s : 6 < s.size) (h6 : ((s[6].toNat : Int) != 46) = true) :
    Calls Tryd.prog 11 #[.string s] w (Vers w 0 0 false) := by
  have HP := Lib.hid hp
  clear hp
  go_enter Tryd.func11, Tryd.ntmps11
  go_wp2_with fail
  refine (Tryd.strings_HasPrefix s _ w).mono ?_
  rintro e w' ⟨he, hw⟩
  obtain rfl := hw.symm
  rw [show (⟨#[72, 84, 84, 80, 47]⟩ : ByteArray).data.toList = [72, 84, 84, 80, 47] from rfl, HP.out] at he
  subst he
  go_wp2
  go_ret3
  exact ⟨rfl, Below.refl _ _⟩

theorem ver_major (s : ByteArray) (w : World) (h1 : (s.toList == [72, 84, 84, 80, 47, 49, 46, 49]) = false) (h2 : (s.toList == [72, 84, 84, 80, 47, 49, 46, 48]) = false) (hg : Glob w) (hp : Lib.hasPrefix s.data.toList [72, 84, 84, 80, 47] = true) (h8 : ((s.size : Int) != 8) = false) (h7s : 7 < s.size) (h8s : 8 ≤ s.size) (h6s : 6 < s.size) (h6 : ((s[6].toNat : Int) != 46) = false)
    (a b : UInt8) (ha : s.extract 5 6 = ⟨#[a]⟩) (hb : s.extract 7 8 = ⟨#[b]⟩)
    (hd : (a.toNat : Int) < 48 ∨ 57 < (a.toNat : Int)) :
    Calls Tryd.prog 11 #[.string s] w (Vers w 0 0 false) := by
  have HP := Lib.hid hp
  have sa : ∀ u, (Instr.slice 9 (.string s) (some (.int .i64 5)) (some (.int .i64 6)) none).run Tryd.prog u = .ok (.string ⟨#[a]⟩) u := fun u => slice_one s 5 6 a (by omega) (by omega) ha u
  have sb : ∀ u, (Instr.slice 9 (.string s) (some (.int .i64 7)) (some (.int .i64 8)) none).run Tryd.prog u = .ok (.string ⟨#[b]⟩) u := fun u => slice_one s 7 8 b (by omega) (by omega) hb u
  clear hp ha hb
  go_enter Tryd.func11, Tryd.ntmps11
  go_wp2_with fail
  refine (Tryd.strings_HasPrefix s _ w).mono ?_
  rintro e w' ⟨he, hw⟩
  obtain rfl := hw.symm
  rw [show (⟨#[72, 84, 84, 80, 47]⟩ : ByteArray).data.toList = [72, 84, 84, 80, 47] from rfl, HP.out] at he
  subst he
  go_wp2_with fail
  refine (pu_other a w hg hd).mono ?_
  rintro e w1 ⟨t, v, rfl, hb1⟩
  go_wp2
  go_ret3
  exact ⟨rfl, hb1⟩

theorem ver_minor (s : ByteArray) (w : World) (h1 : (s.toList == [72, 84, 84, 80, 47, 49, 46, 49]) = false) (h2 : (s.toList == [72, 84, 84, 80, 47, 49, 46, 48]) = false) (hg : Glob w) (hp : Lib.hasPrefix s.data.toList [72, 84, 84, 80, 47] = true) (h8 : ((s.size : Int) != 8) = false) (h7s : 7 < s.size) (h8s : 8 ≤ s.size) (h6s : 6 < s.size) (h6 : ((s[6].toNat : Int) != 46) = false)
    (a b : UInt8) (ha : s.extract 5 6 = ⟨#[a]⟩) (hb : s.extract 7 8 = ⟨#[b]⟩)
    (a0 : 48 ≤ (a.toNat : Int)) (a9 : (a.toNat : Int) ≤ 57) (hd : (b.toNat : Int) < 48 ∨ 57 < (b.toNat : Int)) :
    Calls Tryd.prog 11 #[.string s] w (Vers w 0 0 false) := by
  have HP := Lib.hid hp
  have sa : ∀ u, (Instr.slice 9 (.string s) (some (.int .i64 5)) (some (.int .i64 6)) none).run Tryd.prog u = .ok (.string ⟨#[a]⟩) u := fun u => slice_one s 5 6 a (by omega) (by omega) ha u
  have sb : ∀ u, (Instr.slice 9 (.string s) (some (.int .i64 7)) (some (.int .i64 8)) none).run Tryd.prog u = .ok (.string ⟨#[b]⟩) u := fun u => slice_one s 7 8 b (by omega) (by omega) hb u
  clear hp ha hb
  go_enter Tryd.func11, Tryd.ntmps11
  go_wp2_with fail
  refine (Tryd.strings_HasPrefix s _ w).mono ?_
  rintro e w' ⟨he, hw⟩
  obtain rfl := hw.symm
  rw [show (⟨#[72, 84, 84, 80, 47]⟩ : ByteArray).data.toList = [72, 84, 84, 80, 47] from rfl, HP.out] at he
  subst he
  go_wp2_with fail
  refine (pu_digit a w a0 a9).mono ?_
  rintro e w1 ⟨rfl, hb1⟩
  go_wp2_with fail
  refine (pu_other b w1 (hg.below hb1) hd).mono ?_
  rintro e w2 ⟨t, v, rfl, hb2⟩
  go_wp2
  go_ret3
  exact ⟨rfl, hb1.trans (hb2.mono hb1.size)⟩

theorem ver_both (s : ByteArray) (w : World) (h1 : (s.toList == [72, 84, 84, 80, 47, 49, 46, 49]) = false) (h2 : (s.toList == [72, 84, 84, 80, 47, 49, 46, 48]) = false) (hg : Glob w) (hp : Lib.hasPrefix s.data.toList [72, 84, 84, 80, 47] = true) (h8 : ((s.size : Int) != 8) = false) (h7s : 7 < s.size) (h8s : 8 ≤ s.size) (h6s : 6 < s.size) (h6 : ((s[6].toNat : Int) != 46) = false)
    (a b : UInt8) (ha : s.extract 5 6 = ⟨#[a]⟩) (hb : s.extract 7 8 = ⟨#[b]⟩)
    (a0 : 48 ≤ (a.toNat : Int)) (a9 : (a.toNat : Int) ≤ 57) (b0 : 48 ≤ (b.toNat : Int)) (b9 : (b.toNat : Int) ≤ 57) :
    Calls Tryd.prog 11 #[.string s] w (Vers w ((a.toNat : Int) - 48) ((b.toNat : Int) - 48) true) := by
  have HP := Lib.hid hp
  have sa : ∀ u, (Instr.slice 9 (.string s) (some (.int .i64 5)) (some (.int .i64 6)) none).run Tryd.prog u = .ok (.string ⟨#[a]⟩) u := fun u => slice_one s 5 6 a (by omega) (by omega) ha u
  have sb : ∀ u, (Instr.slice 9 (.string s) (some (.int .i64 7)) (some (.int .i64 8)) none).run Tryd.prog u = .ok (.string ⟨#[b]⟩) u := fun u => slice_one s 7 8 b (by omega) (by omega) hb u
  clear hp ha hb
  go_enter Tryd.func11, Tryd.ntmps11
  go_wp2_with fail
  refine (Tryd.strings_HasPrefix s _ w).mono ?_
  rintro e w' ⟨he, hw⟩
  obtain rfl := hw.symm
  rw [show (⟨#[72, 84, 84, 80, 47]⟩ : ByteArray).data.toList = [72, 84, 84, 80, 47] from rfl, HP.out] at he
  subst he
  go_wp2_with fail
  refine (pu_digit a w a0 a9).mono ?_
  rintro e w1 ⟨rfl, hb1⟩
  go_wp2_with fail
  refine (pu_digit b w1 b0 b9).mono ?_
  rintro e w2 ⟨rfl, hb2⟩
  go_wp2
  go_ret3
  exact ⟨rfl, hb1.trans (hb2.mono hb1.size)⟩


/-- a decimal digit -/
def dig (c : UInt8) : Prop := 48 ≤ (c.toNat : Int) ∧ (c.toNat : Int) ≤ 57
/-- HTTP, a slash, a digit, a dot and a digit -/
def IsV (l : List UInt8) (a b : UInt8) : Prop := l = [72, 84, 84, 80, 47, a, 46, b] ∧ dig a ∧ dig b

theorem size_data (s : ByteArray) : s.data.toList.length = s.size := by rw [Array.length_toList]; rfl
theorem get_data (s : ByteArray) (i : Nat) (h : i < s.size) : s.data.toList[i]? = some s[i] := by
  have h' : i < s.data.toList.length := by rw [size_data]; exact h
  rw [List.getElem?_eq_getElem h']
  simp
  rfl
theorem extract_one (s : ByteArray) (i : Nat) (c : UInt8) (h : s.data.toList[i]? = some c) : s.extract i (i + 1) = ⟨#[c]⟩ := by
  rw [Lib.extract_eq]
  obtain ⟨hi, he⟩ := List.getElem?_eq_some_iff.1 h
  rw [List.drop_eq_getElem_cons hi, he, Nat.add_sub_cancel_left]
  rfl
theorem eq_test (s : ByteArray) (m : List UInt8) : (s.toList == m) = decide (s.data.toList = m) := by
  rw [Lib.toList_data]
  exact Bool.eq_iff_iff.2 (by simp)

/-- net/http.ParseHTTPVersion: a version -/
theorem ver_yes (s : ByteArray) (w : World) (hg : Glob w) (a b : UInt8) (h : IsV s.data.toList a b) : Calls Tryd.prog 11 #[.string s] w (Vers w ((a.toNat : Int) - 48) ((b.toNat : Int) - 48) true) := by
  obtain ⟨hl, ⟨a0, a9⟩, b0, b9⟩ := h
  have hsz : s.size = 8 := by rw [← size_data, hl]; rfl
  by_cases h1 : s.data.toList = [72, 84, 84, 80, 47, 49, 46, 49]
  · have e := hl.symm.trans h1
    simp only [List.cons.injEq, and_true, true_and] at e
    obtain ⟨rfl, rfl⟩ := e
    exact ver_11 s w (by rw [eq_test]; simpa using h1)
  · by_cases h2 : s.data.toList = [72, 84, 84, 80, 47, 49, 46, 48]
    · have e := hl.symm.trans h2
      simp only [List.cons.injEq, and_true, true_and] at e
      obtain ⟨rfl, rfl⟩ := e
      exact ver_10 s w (by rw [eq_test]; simpa using h1) (by rw [eq_test]; simpa using h2)
    · have g6 := get_data s 6 (by omega)
      rw [hl] at g6
      have e6 : s[6] = 46 := (Option.some.inj g6).symm
      exact ver_both s w (by rw [eq_test]; simpa using h1) (by rw [eq_test]; simpa using h2) hg (by rw [hl]; simp [Lib.hasPrefix, List.isPrefixOf]) (by rw [hsz]; decide) (by omega) (by omega) (by omega) (by rw [e6]; decide) a b
        (extract_one s 5 a (by rw [hl]; rfl)) (extract_one s 7 b (by rw [hl]; rfl)) a0 a9 b0 b9

theorem eight {l : List UInt8} (h : l.length = 8) : ∃ c0 c1 c2 c3 c4 c5 c6 c7, l = [c0, c1, c2, c3, c4, c5, c6, c7] := by
  match l, h with
  | [c0, c1, c2, c3, c4, c5, c6, c7], _ => exact ⟨c0, c1, c2, c3, c4, c5, c6, c7, rfl⟩

/-- net/http.ParseHTTPVersion: no version -/
theorem ver_no (s : ByteArray) (w : World) (hg : Glob w) (h : ∀ a b, ¬ IsV s.data.toList a b) : Calls Tryd.prog 11 #[.string s] w (Vers w 0 0 false) := by
  have h1 : (s.toList == [72, 84, 84, 80, 47, 49, 46, 49]) = false := by
    rw [eq_test, decide_eq_false_iff_not]
    exact fun e => h 49 49 ⟨e, by unfold dig; decide, by unfold dig; decide⟩
  have h2 : (s.toList == [72, 84, 84, 80, 47, 49, 46, 48]) = false := by
    rw [eq_test, decide_eq_false_iff_not]
    exact fun e => h 49 48 ⟨e, by unfold dig; decide, by unfold dig; decide⟩
  by_cases hp : Lib.hasPrefix s.data.toList [72, 84, 84, 80, 47] = true
  · by_cases hsz : s.size = 8
    · obtain ⟨c0, c1, c2, c3, c4, c5, c6, c7, hl⟩ := eight (by rw [size_data]; exact hsz)
      rw [hl] at hp
      simp [Lib.hasPrefix, List.isPrefixOf] at hp
      obtain ⟨rfl, rfl, rfl, rfl, rfl⟩ := hp
      have hp : Lib.hasPrefix s.data.toList [72, 84, 84, 80, 47] = true := by rw [hl]; simp [Lib.hasPrefix, List.isPrefixOf]
      have g6 := get_data s 6 (by omega)
      rw [hl] at g6
      have e6 : c6 = s[6] := Option.some.inj g6
      by_cases h6 : ((s[6].toNat : Int) != 46) = true
      · exact ver_dot s w h1 h2 hp (by rw [hsz]; decide) (by omega) h6
      · have h6' : ((s[6].toNat : Int) != 46) = false := by simpa using h6
        have e46 : c6 = 46 := by
          rw [e6]
          have : s[6].toNat = 46 := by simp at h6'; omega
          exact UInt8.toNat_inj.1 this
        subst e46
        by_cases ha : dig c5
        · have hb : (c7.toNat : Int) < 48 ∨ 57 < (c7.toNat : Int) := by
            by_cases hb : dig c7
            · exact absurd ⟨hl, ha, hb⟩ (h c5 c7)
            · unfold dig at hb
              omega
          exact ver_minor s w h1 h2 hg hp (by rw [hsz]; decide) (by omega) (by omega) (by omega) h6' c5 c7 (extract_one s 5 c5 (by rw [hl]; rfl)) (extract_one s 7 c7 (by rw [hl]; rfl)) ha.1 ha.2 hb
        · exact ver_major s w h1 h2 hg hp (by rw [hsz]; decide) (by omega) (by omega) (by omega) h6' c5 c7 (extract_one s 5 c5 (by rw [hl]; rfl)) (extract_one s 7 c7 (by rw [hl]; rfl)) (by unfold dig at ha; omega)
    · exact ver_size s w h1 h2 hp (by rw [bne_iff_ne]; omega)
  · exact ver_front s w h1 h2 (by simpa using hp)

/-- impl.ParseHTTPVersion hands on what it gets -/
theorem impl_of {s : ByteArray} {w : World} {x y : Int} {b : Bool} (h : Calls Tryd.prog 11 #[.string s] w (Vers w x y b)) : Calls Tryd.prog 7 #[.string s] w (Vers w x y b) := by
  have H := Lib.hid h
  clear h
  go_enter Tryd.func7, Tryd.ntmps7
  go_wp2_with fail
  refine H.out.mono ?_
  rintro e w1 ⟨rfl, hb1⟩
  go_wp2
  go_ret3
  exact ⟨rfl, hb1⟩
theorem parse_yes (s : ByteArray) (w : World) (hg : Glob w) (a b : UInt8) (h : IsV s.data.toList a b) : Calls Tryd.prog 7 #[.string s] w (Vers w ((a.toNat : Int) - 48) ((b.toNat : Int) - 48) true) := impl_of (ver_yes s w hg a b h)
theorem parse_no (s : ByteArray) (w : World) (hg : Glob w) (h : ∀ a b, ¬ IsV s.data.toList a b) : Calls Tryd.prog 7 #[.string s] w (Vers w 0 0 false) := impl_of (ver_no s w hg h)
end Go.Proofs.YtminkllpfokokaaDoor
