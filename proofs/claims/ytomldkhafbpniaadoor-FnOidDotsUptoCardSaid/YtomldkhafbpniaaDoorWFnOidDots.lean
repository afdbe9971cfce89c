/-
  The walk of laws.FnOidDots: it returns true for every input within the bound.
-/
import Derived.Test.YtomldkhafbpniaaDoorTimes
namespace Go.Proofs.YtomldkhafbpniaaDoor
open Go.RowKit Go.Lib

def stxt (z : List Int) : ByteArray := ⟨(dotted z).toArray⟩
theorem stxt_data (z : List Int) : (stxt z).data.toList = dotted z := by simp [stxt]
theorem stxt_size {z : List Int} (hf : fitsI z) : (stxt z).size ≤ 22 * z.length := by
  have h := dotted_len hf z.length (Nat.le_refl _)
  rw [List.take_length] at h
  unfold stxt
  rw [str_size]
  exact h
theorem stxt_ne {z : List Int} (h : 0 < z.length) : ((stxt z).toList == []) = false ∧ (stxt z).toList.isEmpty = false := by
  have h2 := dotted_ne (List.length_pos_iff.1 h)
  have h3 : (stxt z).toList ≠ [] := by rw [Lib.toList_data, stxt_data]; exact h2
  exact ⟨by simpa using h3, by simpa using h3⟩
theorem stxt_dots {z : List Int} (h : 0 < z.length) : dots (stxt z) = z.length - 1 := by
  unfold dots; rw [stxt_data, count_dotted (List.length_pos_iff.1 h)]
theorem stxt_good {z : List Int} (h : 0 < z.length) : good true (stxt z).data.toList = true := by rw [stxt_data]; exact good_dotted (List.length_pos_iff.1 h)
theorem good_step {l : UInt8} {s : ByteArray} {k : Nat} (hk : k < s.size) (h : good (l == 46) (s.data.toList.drop k) = true) : okc (l == 46) s[k] = true ∧ good (s[k] == 46) (s.data.toList.drop (k + 1)) = true := by
  rw [data_drop hk, good, Bool.and_eq_true] at h
  exact h
theorem good_end {l : UInt8} {s : ByteArray} {k : Nat} (hk : ¬ k < s.size) (h : good (l == 46) (s.data.toList.drop k) = true) : l ≠ 46 := by
  rw [List.drop_eq_nil_of_le (by rw [Array.length_toList]; exact Nat.not_lt.1 hk)] at h
  simpa [good] using h
theorem beq_int {c n : UInt8} (h : c = n) : ((c.toNat : Int) == (n.toNat : Int)) = true ∧ ((c.toNat : Int) != (n.toNat : Int)) = false := by subst h; simp
theorem bne_int {c n : UInt8} (h : c ≠ n) : ((c.toNat : Int) == (n.toNat : Int)) = false ∧ ((c.toNat : Int) != (n.toNat : Int)) = true := by
  have h2 : (c.toNat : Int) ≠ (n.toNat : Int) := fun e => h (UInt8.toNat_inj.1 (by omega))
  exact ⟨by simpa using h2, by simpa using h2⟩
theorem okc_cases {l c : UInt8} (h : okc (l == 46) c = true) : (c = 46 ∧ l ≠ 46) ∨ (c = 45 ∧ l = 46) ∨ (c ≠ 46 ∧ c ≠ 45 ∧ 48 ≤ (c.toNat : Int) ∧ (c.toNat : Int) ≤ 57) := by
  unfold okc at h
  rw [Bool.or_eq_true, Bool.or_eq_true] at h
  rcases h with (h | h) | h
  · left; simpa using h
  · right; left; simpa using h
  · right; right
    refine ⟨dig_ne46 h, dig_ne45 h, ?_⟩
    unfold dig at h
    simp at h
    omega

set_option maxHeartbeats 2000000 in
set_option maxRecDepth 100000 in
theorem walk_fnOidDots (a : Option Addr) (n c : Nat) (z : List Int) (w : World) (h1 : IS w a n z) (hf : fitsI z) (hn : n ≤ 1048576) (htab : TabIs Tryd.prog w "internal/strconv.uint64pow10" .u64 pow10Tab) :
    Calls Tryd.prog 3 #[.slice a n c] w fun e w' => e = .returned (.bool true) ∧ Below w.heap.size w w' := by
  have hzl := h1.1
  have hS := stxt_size hf
  have C7 : Calls Tryd.prog 7 #[.slice a n c] w fun e w' => e = .returned (.string (stxt z)) ∧ Below w.heap.size w w' := ioidString a n c z w h1 hf hn htab
  by_cases h0 : 0 < n
  · have n0 : ((n : Int) == 0) = false := by simp; omega
    have hne := stxt_ne (z := z) (by omega)
    have hd := stxt_dots (z := z) (by omega)
    have HG := Lib.hid (stxt_good (z := z) (by omega))
    generalize stxt z = T at hS C7 hne hd HG
    obtain ⟨e1, e2⟩ := hne
    have hT : T.size ≤ 23068672 := by omega
    have hw : IntKind.i64.wrap ((n : Int) - 1) = (dots T : Int) := by rw [IntKind.wrap_i64, hd]; omega
    have hdn : ((dots T : Nat) : Int) = (n : Int) - 1 := by rw [hd]; omega
    have HD := Lib.hid hdn
    clear hd hdn hw
    go_enter Tryd.func3, Tryd.ntmps3
    go_wp2_with (go_at_call 7; refine C7.mono ?_)
    rintro e w1 ⟨rfl, hb1⟩
    go_wp2_with (go_at_call 8; refine (times_any T _ (by omega)).mono ?_)
    rintro e w2 ⟨he2, rfl⟩
    rw [HD.out] at he2
    subst he2
    go_wp2
    go_loop [4, 5] (fun x i => ∃ (k : Nat) (l : UInt8), k ≤ T.size ∧ i = .int .i64 (k : Int) ∧ x = .int .u8 (l.toNat : Int) ∧ good (l == 46) (T.data.toList.drop k) = true) (fun _ i => T.size - (RowKit.intOf i).toNat)
    case atStart => exact ⟨0, 46, by omega, rfl, rfl, HG.out⟩
    case round =>
      obtain ⟨k, l, hk, rfl, rfl, hg⟩ := hrel
      by_cases hlt : k < T.size
      · have hlt' : (k : Int) < (T.size : Int) := by omega
        obtain ⟨hok, hg2⟩ := good_step hlt hg
        have HG2 := Lib.hid hg2
        clear hg hg2
        rcases okc_cases hok with ⟨q1, q2⟩ | ⟨q1, q2⟩ | ⟨q1, q2, q3, q4⟩
        · have x1 : ((T[k].toNat : Int) == 46) = true := (beq_int q1).1
          have x2 : ((T[k].toNat : Int) != 46) = false := (beq_int q1).2
          have x3 : ((T[k].toNat : Int) == 45) = false := (bne_int (n := 45) (by rw [q1]; decide : T[k] ≠ 45)).1
          have x5 : ((l.toNat : Int) == 46) = false := (bne_int q2).1
          have x6 : ((l.toNat : Int) != 46) = true := (bne_int q2).2
          have Q1 := Lib.hid q1
          clear hok q1 q2
          go_wp2
          exact ⟨⟨k + 1, T[k], by omega, num_eq (by omega), by rw [Q1.out], HG2.out⟩, by simp [RowKit.intOf]; omega⟩
        · have x1 : ((T[k].toNat : Int) == 45) = true := (beq_int q1).1
          have x2 : ((T[k].toNat : Int) != 45) = false := (beq_int q1).2
          have x3 : ((T[k].toNat : Int) == 46) = false := (bne_int (n := 46) (by rw [q1]; decide : T[k] ≠ 46)).1
          have x4 : ((T[k].toNat : Int) != 46) = true := (bne_int (n := 46) (by rw [q1]; decide : T[k] ≠ 46)).2
          have x5 : ((l.toNat : Int) == 46) = true := (beq_int q2).1
          have x6 : ((l.toNat : Int) != 46) = false := (beq_int q2).2
          have Q1 := Lib.hid q1
          clear hok q1 q2
          go_wp2
          exact ⟨⟨k + 1, T[k], by omega, num_eq (by omega), by rw [Q1.out], HG2.out⟩, by simp [RowKit.intOf]; omega⟩
        · have x1 : ((T[k].toNat : Int) == 46) = false := (bne_int q1).1
          have x2 : ((T[k].toNat : Int) != 46) = true := (bne_int q1).2
          have x3 : ((T[k].toNat : Int) == 45) = false := (bne_int q2).1
          have x4 : ((T[k].toNat : Int) != 45) = true := (bne_int q2).2
          have x5 : ¬ (T[k].toNat : Int) < 48 := by omega
          have x6 : ¬ (57 : Int) < (T[k].toNat : Int) := by omega
          clear hok q1 q2
          go_wp2
          exact ⟨⟨k + 1, T[k], by omega, num_eq (by omega), rfl, HG2.out⟩, by simp [RowKit.intOf]; omega⟩
      · have hlt' : ¬ (k : Int) < (T.size : Int) := by omega
        have x5 : ((l.toNat : Int) == 46) = false := (bne_int (good_end hlt hg)).1
        have x6 : ((l.toNat : Int) != 46) = true := (bne_int (good_end hlt hg)).2
        clear hg
        go_wp2
        go_ret
        exact ⟨ret_bool (by simp_all), hb1⟩
  · have n0 : ((n : Int) == 0) = true := by simp; omega
    have hz : z = [] := List.eq_nil_of_length_eq_zero (by omega)
    have et : stxt z = .empty := by rw [hz]; rfl
    rw [et] at C7
    go_enter Tryd.func3, Tryd.ntmps3
    go_wp2_with (go_at_call 7; refine C7.mono ?_)
    rintro e w1 ⟨rfl, hb1⟩
    go_wp2
    go_ret
    exact ⟨ret_bool (by simp), hb1⟩
end Go.Proofs.YtomldkhafbpniaaDoor
