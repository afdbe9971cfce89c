/-
  What ObjectIdentifier.String returns: the numbers in decimal digits, a dot between them.
-/
import Derived.Test.YtomldkhafbpniaaDoorWr
import Derived.Test.YtomldkhafbpniaaDoorInt
import Derived.Test.YtomldkhafbpniaaDoorOwn
import Derived.WalkLawsBesides
import Derived.Outline
import Derived.LoopN
import Derived.Deep.QuietTactic
import Derived.BigQuiet
namespace Go.Proofs.YtomldkhafbpniaaDoor
open Go.RowKit Go.Lib

def dotted : List Int → List UInt8
  | [] => []
  | x :: r => itoa x ++ r.flatMap (fun y => 46 :: itoa y)
theorem dotted_snoc (z : List Int) (x : Int) (h : z ≠ []) : dotted (z ++ [x]) = dotted z ++ [46] ++ itoa x := by
  cases z with
  | nil => exact absurd rfl h
  | cons y r => simp [dotted]
theorem dotted_one (x : Int) : dotted [x] = itoa x := by simp [dotted]
theorem take_snoc {z : List Int} {k : Nat} (h : k < z.length) : z.take (k + 1) = z.take k ++ [zt z k] := by
  rw [zt_of h, List.take_append_getElem]
theorem dotted_step {z : List Int} {k : Nat} (h : k < z.length) (h0 : 0 < k) : dotted (z.take (k + 1)) = dotted (z.take k) ++ [46] ++ itoa (zt z k) := by
  rw [take_snoc h, dotted_snoc _ _ (fun e => by have h2 := congrArg List.length e; rw [List.length_take, List.length_nil] at h2; omega)]
theorem dotted_first {z : List Int} (h : 0 < z.length) : dotted (z.take 1) = itoa (zt z 0) := by
  rw [show (1 : Nat) = 0 + 1 from rfl, take_snoc h, List.take_zero, List.nil_append, dotted_one]
theorem dotted_start {z : List Int} {k : Nat} (h : k < z.length) (h0 : ¬ 0 < k) : dotted (z.take (k + 1)) = dotted (z.take k) ++ itoa (zt z k) := by
  obtain rfl : k = 0 := by omega
  rw [dotted_first h]; simp [dotted]
theorem itoa_len {z : List Int} (hf : fitsI z) (k : Nat) : (itoa (zt z k)).length ≤ 21 := itoa_length_le _ (fitsI_at hf k).1 (fitsI_at hf k).2
theorem itoa_pos (x : Int) : 0 < (itoa x).length := by
  unfold itoa
  split
  · simp
  · rw [decDigits_length]; exact nDigits_pos _
theorem dotted_len {z : List Int} (hf : fitsI z) : ∀ k, k ≤ z.length → (dotted (z.take k)).length ≤ 22 * k
  | 0, _ => by simp [dotted]
  | k + 1, h => by
    have ih := dotted_len hf k (by omega)
    have hl := itoa_len hf k
    rcases Nat.eq_zero_or_pos k with rfl | h0
    · rw [dotted_first (by omega)]; omega
    · rw [dotted_step (by omega) h0]
      simp only [List.length_append, List.length_cons, List.length_nil]
      omega

theorem BAt.stays {B b g : Nat} {bs : List Value} {v : Value} {w w' : World} (h : BAt B b bs v w) (hs : Stays g w w') (hv : v.ownBlock ≠ some g) (hb : b ≠ g) : BAt B b bs v w' := by
  have hlt := h.lt
  obtain ⟨h1, h2, h3, h4⟩ := h
  refine ⟨h1, (hs b hlt hb).trans h2, ⟨h3.1, ?_⟩, h4⟩
  rcases h3.2 with hn | ⟨g', cap, cur, rfl, hbg, hg, rest⟩
  · exact .inl hn
  · exact .inr ⟨g', cap, cur, rfl, hbg, (hs g' (Array.getElem?_eq_some_iff.1 hg).1 (fun e => hv (by simp [Value.ownBlock, e]))).trans hg, rest⟩
theorem put_slice {w : World} {B m : Nat} {v : Value} {xs : List Value} (h : w.ownsRow B 5 1 v m xs) (hm : 0 < m) : ∃ g cap, v = .slice (some ⟨g, 0, none⟩) m cap := by
  rcases h.2 with ⟨_, h0⟩ | ⟨g, cap, cur, hv, _⟩
  · omega
  · exact ⟨g, cap, hv⟩

set_option maxHeartbeats 4000000 in
set_option maxRecDepth 100000 in
theorem oidString (a : Option Addr) (n c : Nat) (z : List Int) (w : World) (h1 : IS w a n z) (hf : fitsI z) (hn : n ≤ 1048576) (htab : TabIs Tryd.prog w "internal/strconv.uint64pow10" .u64 pow10Tab) :
    Calls Tryd.prog 11 #[.slice a n c] w fun e w' => e = .returned (.string ⟨(dotted z).toArray⟩) ∧ Below w.heap.size w w' := by
  have TB := tabBelow_of_tabIs htab
  have hzl := h1.1
  have HF := Lib.hid hf
  clear htab hf
  have hb0 : Below w.heap.size w (w.alloc (.cells #[.pointer none, .slice none 0 0] 34)) := (Below.refl _ w).alloc (Nat.le_refl _) _
  go_enter Tryd.func11, Tryd.ntmps11
  go_wp2_with (go_at_call 14; refine (Tryd.Builder_Grow_fresh w.heap.size w.heap.size 32 (w.alloc (.cells #[.pointer none, .slice none 0 0] 34)) (Nat.le_refl _) (heap_alloc_new w _) (by simp) (by decide)).mono ?_)
  rintro e w1 ⟨rfl, hB1, hb1⟩
  obtain ⟨_, v1, hbk1, hown1, hne1⟩ := hB1
  have hw1 : Below w.heap.size w w1 := hb0.trans hb1
  obtain ⟨i0, hi, hz0, hz1, hz2⟩ := info5
  go_wp2_with (at_make; refine wpList_make_own _ rfl _ _ 32 rfl w.heap.size 5 i0 (.int .u8 0) 1 Tryd.underlying32 hi hz0 hz1 .i64 .i64 19 19 rfl rfl rfl (by rw [hz2]; decide) (by unfold maxLen; decide) hw1.size ?_)
  intro w2 hmk hgr
  have hb2 : Below w.heap.size w w2 := hw1.grown hgr hw1.size (fun k hk => by cases hk)
  have hlt1 : w.heap.size < w1.heap.size := (Array.getElem?_eq_some_iff.1 hbk1).1
  have hBA : BAt w.heap.size w.heap.size [] v1 w2 := ⟨Nat.le_refl _, (hgr.block _ hlt1 (fun e => by cases e)).trans hbk1, hown1.kept hgr (by cases h : v1.ownBlock <;> simp), hne1⟩
  have hv1 : v1.ownBlock ≠ some w1.heap.size := fun e => by have := (hown1.lt _ e).2; omega
  have hRm := room_of_owns hmk
  clear hmk hgr hown1 hbk1 hb1 hb0
  go_wp2
  go_loopw [5, 6, 11] (fun _ _ i wr => ∃ (k : Nat) (v : Value), k ≤ n ∧ i = .int .i64 (k : Int) ∧ BAt w.heap.size w.heap.size (byteCells (dotted (z.take k))) v wr ∧ Room wr 5 w1.heap.size 19 ∧ v.ownBlock ≠ some w1.heap.size ∧ Below w.heap.size w wr) (fun _ _ i _ => n - (RowKit.intOf i).toNat)
  case atStart => exact ⟨0, v1, by omega, rfl, hBA, hRm, hv1, hb2⟩
  case round =>
    obtain ⟨k, v, hk, rfl, hBA, hRm, hv, hb⟩ := hrel
    have hBsz := hb.size
    have hdl := dotted_len HF.out k (by omega)
    by_cases hlt : k < n
    · obtain ⟨b1, o1, rfl, hb1, hc1⟩ := (h1.below hb).open_ (by omega)
      have e1 := hc1 k hlt
      have hlt' : (k : Int) < (n : Int) := by omega
      have hfk := fitsI_at HF.out k
      have hil := itoa_len HF.out k
      have hip := itoa_pos (zt z k)
      clear hc1
      by_cases h0 : 0 < k
      · have h0' : (0 : Int) < (k : Int) := by omega
        go_wp2_with (go_at_call 15; refine (writeByte w.heap.size w.heap.size _ v 46 wr hBA (by rw [byteCells_length]; omega) hBsz).mono ?_)
        rintro e wd ⟨rfl, vd, hBAd, hbd, hkd⟩
        have hkb := hkd w1.heap.size hRm.lt (by omega) hv
        have hRd := hRm.of_eq hkb.1
        have hbD := hb.trans hbd
        have hszd := hbd.size
        go_wp2_with (go_at_call 17; refine (appendIntPublic w.heap.size w1.heap.size 19 (zt z k) hfk.1 hfk.2 (by decide) wd (hRd.owns hw1.size (by unfold maxLen; decide)) (by omega) (TB.on hbD)).mono ?_)
        rintro e w3 ⟨v3, rfl, hown3, hb3, hst3, hrm3⟩
        rw [Nat.zero_add, List.nil_append, byteCells_length] at hown3
        obtain ⟨g, cap, rfl⟩ := put_slice hown3 hip
        have hBA3 := hBAd.stays hst3 hkb.2 (by omega)
        have hb03 := hb3.size
        go_wp2_with (go_at_call 16; refine (write w.heap.size w.heap.size g (itoa (zt z k)).length cap _ _ vd w3 hBA3 hown3 (byteCells_one _) hip (by simp only [List.length_append, byteCells_length, List.length_cons, List.length_nil]; omega) (by omega)).mono ?_)
        rintro e w4 ⟨rfl, v4, hBA4, hb4, hk4⟩
        have hk5 := hk4 w1.heap.size hrm3.lt (by omega) hkb.2
        go_wp2
        go_roundw
        case rel => exact ⟨k + 1, v4, by omega, by go_num, (by rw [dotted_step (by omega) h0, byteCells_append, byteCells_append]; exact hBA4), hrm3.of_eq hk5.1, hk5.2, (hbD.trans hb3).trans hb4⟩
        case measure => simp [RowKit.intOf]; omega
      · have h0' : ¬ (0 : Int) < (k : Int) := by omega
        go_wp2_with (go_at_call 17; refine (appendIntPublic w.heap.size w1.heap.size 19 (zt z k) hfk.1 hfk.2 (by decide) wr (hRm.owns hw1.size (by unfold maxLen; decide)) hBsz (TB.on hb)).mono ?_)
        rintro e w3 ⟨v3, rfl, hown3, hb3, hst3, hrm3⟩
        rw [Nat.zero_add, List.nil_append, byteCells_length] at hown3
        obtain ⟨g, cap, rfl⟩ := put_slice hown3 hip
        have hBA3 := hBA.stays hst3 hv (by omega)
        have hb03 := hb3.size
        go_wp2_with (go_at_call 16; refine (write w.heap.size w.heap.size g (itoa (zt z k)).length cap _ _ v w3 hBA3 hown3 (byteCells_one _) hip (by simp only [List.length_append, byteCells_length, List.length_cons, List.length_nil]; omega) (by omega)).mono ?_)
        rintro e w4 ⟨rfl, v4, hBA4, hb4, hk4⟩
        have hk5 := hk4 w1.heap.size hrm3.lt (by omega) hv
        go_wp2
        go_roundw
        case rel => exact ⟨k + 1, v4, by omega, by go_num, (by rw [dotted_start (by omega) h0, byteCells_append]; exact hBA4), hrm3.of_eq hk5.1, hk5.2, (hb.trans hb3).trans hb4⟩
        case measure => simp [RowKit.intOf]; omega
    · obtain rfl : k = n := by omega
      go_wp2_with (go_at_call 18; refine (Tryd.Builder_String_any w.heap.size w.heap.size (dotted (z.take k)) _ (.inr ⟨hBA.1, v, hBA.2⟩) hBsz).mono ?_)
      rintro e w5 ⟨rfl, hb5⟩
      go_wp2
      go_ret
      rw [List.take_of_length_le (by omega)]
      exact ⟨rfl, hb.trans hb5⟩
end Go.Proofs.YtomldkhafbpniaaDoor
