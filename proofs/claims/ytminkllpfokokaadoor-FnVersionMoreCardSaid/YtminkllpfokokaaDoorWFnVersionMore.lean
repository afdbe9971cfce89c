/-
  The walk of laws.FnVersionMore: it returns true for every two texts.
-/
import Derived.Test.YtminkllpfokokaaDoorSpec
namespace Go.Proofs.YtminkllpfokokaaDoor
open Go.RowKit

/-- whatever the text: three results -/
def SomeVers (w : World) (e : Ending) (w' : World) : Prop := ∃ x y b, Vers w x y b e w'
theorem parse_any (s : ByteArray) (w : World) (hg : Glob w) : Calls Tryd.prog 7 #[.string s] w (SomeVers w) := by
  by_cases h : ∃ a b, IsV s.data.toList a b
  · obtain ⟨a, b, h⟩ := h
    exact (parse_yes s w hg a b h).mono fun _ _ h => ⟨_, _, _, h⟩
  · exact (parse_no s w hg (fun a b hv => h ⟨a, b, hv⟩)).mono fun _ _ h => ⟨_, _, _, h⟩
theorem long_no (s : ByteArray) (h : s.size ≠ 8) : ∀ a b, ¬ IsV s.data.toList a b := by
  rintro a b ⟨hl, _⟩
  rw [← size_data, hl] at h
  exact h rfl
theorem size_app (s t : ByteArray) : (s ++ t).size = s.size + t.size := by simp

/-- the texts of the loop -/
def three (s : ByteArray) : List ByteArray := [⟨#[72, 84, 84, 80, 47, 49, 46, 49]⟩, ⟨#[72, 84, 84, 80, 47, 48, 46, 57]⟩, s]
theorem three_cell (w : World) (s : ByteArray) (k : Nat) (hk : k < 3) :
    (w.alloc (.cells #[.string ⟨#[72, 84, 84, 80, 47, 49, 46, 49]⟩, .string ⟨#[72, 84, 84, 80, 47, 48, 46, 57]⟩, .string s] 9)).cell? ⟨w.heap.size, k, none⟩ = some (.string ((three s).getD k .empty)) := by
  rw [World.cell?_alloc_new]
  match k, hk with
  | 0, _ => rfl
  | 1, _ => rfl
  | 2, _ => rfl
theorem three_size (s : ByteArray) (hs : s.size ≤ 140737488351232) (k : Nat) (hk : k < 3) : ((three s).getD k .empty).size ≤ 140737488351232 := by
  match k, hk with
  | 0, _ => show (⟨#[72, 84, 84, 80, 47, 49, 46, 49]⟩ : ByteArray).size ≤ 140737488351232; decide
  | 1, _ => show (⟨#[72, 84, 84, 80, 47, 48, 46, 57]⟩ : ByteArray).size ≤ 140737488351232; decide
  | 2, _ => exact hs

set_option maxHeartbeats 800000 in
theorem walk_fnVersionMore (s t : ByteArray) (w : World) (hs : s.size ≤ 140737488351232) (ht : t.size ≤ 140737488351232) (hg : Glob w) :
    Calls Tryd.prog 4 #[.string s, .string t] w fun e w' => e = .returned (.bool true) ∧ Below w.heap.size w w' := by
  by_cases h0 : t.size = 0
  · have hq : (t.toList == []) = true := by
      rw [eq_test]
      have : t.data.toList.length = 0 := by rw [size_data]; exact h0
      simpa using List.eq_nil_of_length_eq_zero this
    have he : t.toList = [] := by simpa using hq
    have he' : t.toList.isEmpty = true := by rw [he]; rfl
    clear h0 hq
    go_enter Tryd.func4, Tryd.ntmps4
    go_wp2_with fail
    refine (parse_yes _ w hg 50 48 ⟨rfl, by unfold dig; decide, by unfold dig; decide⟩).mono ?_
    rintro e w1 ⟨rfl, hb1⟩
    go_wp2
    go_ret
    exact ⟨rfl, hb1⟩
  · have hne : t.toList ≠ [] := by
      intro e
      rw [Lib.toList_data] at e
      rw [← size_data, e] at h0
      exact h0 rfl
    have he' : t.toList.isEmpty = false := by simpa using hne
    have hq : (t.toList == []) = false := by simpa using hne
    have hpos : 0 < t.size := by omega
    clear h0 hne
    go_enter Tryd.func4, Tryd.ntmps4
    go_wp2_with fail
    refine (parse_yes _ w hg 50 48 ⟨rfl, by unfold dig; decide, by unfold dig; decide⟩).mono ?_
    rintro e w1 ⟨rfl, hb1⟩
    go_wp2_with fail
    have hg1 := hg.below hb1
    go_loopw [33] (fun i wr => ∃ k : Nat, k ≤ 3 ∧ i = .int .i64 (k : Int) ∧ Below (w1.heap.size + 1) (w1.alloc (.cells #[.string ⟨#[72, 84, 84, 80, 47, 49, 46, 49]⟩, .string ⟨#[72, 84, 84, 80, 47, 48, 46, 57]⟩, .string s] 9)) wr) (fun i _ => 3 - (intOf i).toNat)
    case atStart => exact ⟨0, by omega, rfl, Below.refl _ _⟩
    case round =>
      obtain ⟨k, hk, rfl, hb⟩ := hrel
      have hgr : Glob wr := by
        have h1 : Below w1.heap.size w1 wr := ((Below.refl _ _).alloc (Nat.le_refl _) _).trans (hb.mono (by omega))
        exact hg1.below h1
      have hsz := hb.size
      simp at hsz
      have hbase : Below w1.heap.size w1 wr := ((Below.refl _ _).alloc (Nat.le_refl _) _).trans (hb.mono (by omega))
      by_cases hlt : k < 3
      · have hc : wr.cell? ⟨w1.heap.size, k, none⟩ = some (.string ((three s).getD k .empty)) := (hb.cell (p := ⟨w1.heap.size, k, none⟩) (by simp)).trans (three_cell w1 s k hlt)
        have hx := three_size s hs k hlt
        generalize (three s).getD k .empty = X at *
        have hbr := hb
        clear hb
        by_cases hv : ∃ a b, IsV X.data.toList a b
        · obtain ⟨a, b, hv⟩ := hv
          have h8 : X.size = 8 := by rw [← size_data, hv.1]; rfl
          have n1 := long_no (t ++ X) (by rw [size_app]; omega)
          have n2 := long_no (X ++ t) (by rw [size_app]; omega)
          have HV := Lib.hid hv
          have N1 := Lib.hid n1
          have N2 := Lib.hid n2
          clear hv n1 n2 h8
          go_wp2_with fail
          refine (parse_yes X wr hgr a b HV.out).mono ?_
          rintro e w2 ⟨rfl, hb2⟩
          have hg2 := hgr.below hb2
          go_wp2_with fail
          refine (parse_no _ w2 hg2 N1.out).mono ?_
          rintro e w3 ⟨rfl, hb3⟩
          have hg3 := hg2.below hb3
          go_wp2_with fail
          refine (parse_no _ w3 hg3 N2.out).mono ?_
          rintro e w4 ⟨rfl, hb4⟩
          have s2 := hb2.size
          have s3 := hb3.size
          go_wp2
          go_roundw
          case rel => exact ⟨k + 1, by omega, by go_num, ((hbr.trans (hb2.mono (by omega))).trans (hb3.mono (by omega))).trans (hb4.mono (by omega))⟩
          case measure => simp [intOf]; omega
        · have HV : Hid (∀ a b, ¬ IsV X.data.toList a b) := fun a b h => hv ⟨a, b, h⟩
          clear hv
          go_wp2_with fail
          refine (parse_no X wr hgr HV.out).mono ?_
          rintro e w2 ⟨rfl, hb2⟩
          have hg2 := hgr.below hb2
          go_wp2_with fail
          refine (parse_any _ w2 hg2).mono ?_
          rintro e w3 ⟨x3, y3, b3, rfl, hb3⟩
          have hg3 := hg2.below hb3
          go_wp2_with fail
          refine (parse_any _ w3 hg3).mono ?_
          rintro e w4 ⟨x4, y4, b4, rfl, hb4⟩
          have s2 := hb2.size
          have s3 := hb3.size
          go_wp2
          go_roundw
          case rel => exact ⟨k + 1, by omega, by go_num, ((hbr.trans (hb2.mono (by omega))).trans (hb3.mono (by omega))).trans (hb4.mono (by omega))⟩
          case measure => simp [intOf]; omega
      · obtain rfl : k = 3 := by omega
        go_wp2_with fail
        refine (parse_no _ wr hgr (long_no _ (by decide))).mono ?_
        rintro e w2 ⟨rfl, hb2⟩
        go_wp2
        go_ret
        exact ⟨rfl, (hb1.trans (hbase.mono hb1.size)).trans (hb2.mono (Nat.le_trans hb1.size hbase.size))⟩
end Go.Proofs.YtminkllpfokokaaDoor
