/-
  The walk of laws.FnOidJoined: it returns true for every input within the bound.
-/
import Derived.Test.YtomldkhafbpniaaDoorPlain
namespace Go.Proofs.YtomldkhafbpniaaDoor
open Go.RowKit Go.Lib

theorem info3 : (Tryd.prog.info? 3).map (fun i => (i.zero, i.size, i.bytes)) = some (some (.int .i64 0), 1, 8) := by kernel_rfl
/-- the text of numbers -/
def txt (z : List Int) : ByteArray := ⟨(dotted z).toArray⟩
theorem txt_size {z : List Int} (hf : fitsI z) : (txt z).size ≤ 22 * z.length := by
  have h := dotted_len hf z.length (Nat.le_refl _)
  rw [List.take_length] at h
  unfold txt
  rw [str_size]
  exact h
theorem joined_some {z y : List Int} (hz : 0 < z.length) (hy : 0 < y.length) : ((txt (z ++ y)).toList == (txt z ++ ⟨#[46]⟩ ++ txt y).toList) = true := by
  unfold txt
  rw [dotted_append (List.length_pos_iff.1 hz) (List.length_pos_iff.1 hy), str_snoc, str_append]
  simp
theorem joined_left {z y : List Int} (hz : ¬ 0 < z.length) : ((txt (z ++ y)).toList == (txt z ++ txt y).toList) = true := by
  obtain rfl : z = [] := List.eq_nil_of_length_eq_zero (by omega)
  unfold txt
  rw [str_append]
  simp [dotted]
theorem joined_right {z y : List Int} (hy : ¬ 0 < y.length) : ((txt (z ++ y)).toList == (txt z ++ txt y).toList) = true := by
  obtain rfl : y = [] := List.eq_nil_of_length_eq_zero (by omega)
  unfold txt
  rw [str_append]
  simp [dotted]
theorem txt_ne {z : List Int} (h : 0 < z.length) : ((txt z).toList == []) = false ∧ (txt z).toList.isEmpty = false := by
  have h2 := dotted_ne (List.length_pos_iff.1 h)
  have h3 : (txt z).toList ≠ [] := by unfold txt; rw [Lib.toList_data]; simpa using h2
  exact ⟨by simpa using h3, by simpa using h3⟩

set_option maxHeartbeats 1000000 in
theorem walk_fnOidJoined (a b : Option Addr) (n m c d : Nat) (z y : List Int) (w : World) (h1 : IS w a n z) (h2 : IS w b m y) (hf : fitsI z) (hg : fitsI y) (hn : n + m ≤ 1048576) (htab : TabIs Tryd.prog w "internal/strconv.uint64pow10" .u64 pow10Tab) :
    Calls Tryd.prog 4 #[.slice a n c, .slice b m d] w fun e w' => e = .returned (.bool true) ∧ Below w.heap.size w w' := by
  have TB := tabBelow_of_tabIs htab
  obtain ⟨i0, hi0, hz0, hz1, hz2⟩ := info_parts info3
  have hzl := h1.1
  have hyl := h2.1
  have hfa : fitsI (z ++ y) := fun x hx => by
    rcases List.mem_append.1 hx with h | h
    · exact hf x h
    · exact hg x h
  have hsT := txt_size hf
  have hsU := txt_size hg
  have J1 := Lib.hid (@joined_some z y)
  have J2 := Lib.hid (@joined_left z y)
  have J3 := Lib.hid (@joined_right z y)
  have J4 := Lib.hid (@txt_ne (z ++ y))
  have ho : (w.alloc (.cells #[] 3)).ownsRow w.heap.size 3 1 (.slice (some ⟨w.heap.size, 0, none⟩) 0 0) 0 (ivs []) := iown_new w 3 [] _ (Nat.le_refl _) (by decide)
  go_enter Tryd.func4, Tryd.ntmps4
  go_wp2_with (first
    | (at_builtin; refine wpList_append_is _ rfl (.tmp 7) (.tmp 8) 22 rfl w.heap.size 3 i0 (.int .i64 0) Tryd.underlying22 hi0 hz0 hz1 hz2 rfl _ 0 [] rfl ho a n c z rfl (h1.alloc _) (by omega) (by simp) ?_; intro a1 c1 w1 ho1 hs1 hc1 hm1 hb1; have hsz1 := hb1.size; simp only [World.size_alloc] at hsz1; simp only [Nat.zero_add, List.nil_append] at ho1 hs1 hc1; have hb01 := ((Below.refl _ _).alloc (Nat.le_refl _) _).trans hb1)
    | (at_builtin; refine wpList_append_is _ rfl (.tmp 9) (.tmp 10) 22 rfl w.heap.size 3 i0 (.int .i64 0) Tryd.underlying22 hi0 hz0 hz1 hz2 rfl _ n z rfl ho1 b m d y rfl (h2.below hb01) (by omega) (by omega) ?_; intro a2 c2 w2 ho2 hs2' hc2 hm2 hb2))
  have hb12 : Below w.heap.size w w2 := hb01.trans hb2
  clear ho ho1 hs1 ho2 hb1 hb2
  have K1 := h1.below hb12
  have K2 := h2.below hb12
  clear h1 h2
  refine (ioidString a n c z w2 K1 hf (by omega) (TB w2 hb12)).mono ?_
  rintro e w3 ⟨he3, hb3⟩
  change e = .returned (.string (txt z)) at he3
  have hb13 := hb12.trans (hb3.mono hb12.size)
  have cAll : ∀ W, Below w.heap.size w W → IS W a2 (n + m) (z ++ y) → Calls Tryd.prog 7 #[.slice a2 (n + m) c2] W fun e w' => e = .returned (.string (txt (z ++ y))) ∧ Below W.heap.size W w' := fun W hW hI => ioidString a2 (n + m) c2 (z ++ y) W hI hfa hn (TB W hW)
  have cB : ∀ W, Below w.heap.size w W → IS W b m y → Calls Tryd.prog 7 #[.slice b m d] W fun e w' => e = .returned (.string (txt y)) ∧ Below W.heap.size W w' := fun W hW hI => ioidString b m d y W hI hg (by omega) (TB W hW)
  have CA := Lib.hid cAll
  have CB := Lib.hid cB
  have hnm : ¬ 0 < n → (z ++ y).length = m := fun h => by simp; omega
  have hlen : (z ++ y).length = n + m := by simp; omega
  have L3 := hs2'.below hb3
  have M3 := K2.below hb3
  clear cAll cB
  generalize txt z = T at he3 hsT J1 J2 J3
  generalize txt y = U at hsU J1 J2 J3 CB
  generalize txt (z ++ y) = A at J1 J2 J3 J4 CA
  have hT : T.size ≤ 23068672 := by omega
  have hU : U.size ≤ 23068672 := by omega
  subst he3
  by_cases hn0 : 0 < n
  · have n0 : (0 : Int) < (n : Int) := by omega
    by_cases hm0 : 0 < m
    · have m0 : (0 : Int) < (m : Int) := by omega
      have e1 := J1.out (by omega) (by omega)
      have e2 := (J4.out (by omega)).1
      have e3 := (J4.out (by omega)).2
      have e4 : (((n + m : Nat) : Int) == 0) = false := by simp; omega
      have e5 : ((n : Int) + (m : Int) == 0) = false := by simp; omega
      go_wp2_with fail
      refine (CA.out w3 hb13 L3).mono ?_
      rintro e w4 ⟨rfl, hb4⟩
      have hb14 := hb13.trans (hb4.mono hb13.size)
      go_wp2_with fail
      refine (CB.out w4 hb14 (M3.below hb4)).mono ?_
      rintro e w5 ⟨rfl, hb5⟩
      have hb15 := hb14.trans (hb5.mono hb14.size)
      go_wp2_with fail
      refine (CA.out w5 hb15 ((L3.below hb4).below hb5)).mono ?_
      rintro e w6 ⟨rfl, hb6⟩
      go_wp2
      go_ret
      exact ⟨ret_bool (by simp_all), hb15.trans (hb6.mono hb15.size)⟩
    · have m0 : ¬ (0 : Int) < (m : Int) := by omega
      have e1 := J3.out (by omega)
      have e2 := (J4.out (by omega)).1
      have e3 := (J4.out (by omega)).2
      have e4 : (((n + m : Nat) : Int) == 0) = false := by simp; omega
      have e5 : ((n : Int) + (m : Int) == 0) = false := by simp; omega
      go_wp2_with fail
      refine (CA.out w3 hb13 L3).mono ?_
      rintro e w4 ⟨rfl, hb4⟩
      have hb14 := hb13.trans (hb4.mono hb13.size)
      go_wp2_with fail
      refine (CB.out w4 hb14 (M3.below hb4)).mono ?_
      rintro e w5 ⟨rfl, hb5⟩
      have hb15 := hb14.trans (hb5.mono hb14.size)
      go_wp2_with fail
      refine (CA.out w5 hb15 ((L3.below hb4).below hb5)).mono ?_
      rintro e w6 ⟨rfl, hb6⟩
      go_wp2
      go_ret
      exact ⟨ret_bool (by simp_all), hb15.trans (hb6.mono hb15.size)⟩
  · have n0 : ¬ (0 : Int) < (n : Int) := by omega
    by_cases hm0 : 0 < m
    · have e1 := J2.out (by omega)
      have e2 := (J4.out (by omega)).1
      have e3 := (J4.out (by omega)).2
      have e4 : (((n + m : Nat) : Int) == 0) = false := by simp; omega
      have e5 : ((n : Int) + (m : Int) == 0) = false := by simp; omega
      go_wp2_with fail
      refine (CA.out w3 hb13 L3).mono ?_
      rintro e w4 ⟨rfl, hb4⟩
      have hb14 := hb13.trans (hb4.mono hb13.size)
      go_wp2_with fail
      refine (CB.out w4 hb14 (M3.below hb4)).mono ?_
      rintro e w5 ⟨rfl, hb5⟩
      have hb15 := hb14.trans (hb5.mono hb14.size)
      go_wp2_with fail
      refine (CA.out w5 hb15 ((L3.below hb4).below hb5)).mono ?_
      rintro e w6 ⟨rfl, hb6⟩
      go_wp2
      go_ret
      exact ⟨ret_bool (by simp_all), hb15.trans (hb6.mono hb15.size)⟩
    · have e1 := J2.out (by omega)
      have e4 : (((n + m : Nat) : Int) == 0) = true := by simp; omega
      have e5 : ((n : Int) + (m : Int) == 0) = true := by simp; omega
      go_wp2_with fail
      refine (CA.out w3 hb13 L3).mono ?_
      rintro e w4 ⟨rfl, hb4⟩
      have hb14 := hb13.trans (hb4.mono hb13.size)
      go_wp2_with fail
      refine (CB.out w4 hb14 (M3.below hb4)).mono ?_
      rintro e w5 ⟨rfl, hb5⟩
      have hb15 := hb14.trans (hb5.mono hb14.size)
      go_wp2
      go_ret
      exact ⟨ret_bool (by simp_all), hb15⟩
end Go.Proofs.YtomldkhafbpniaaDoor
