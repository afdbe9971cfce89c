/-
  What impl.OidString, spec.Decimal and spec.Dotted return.
-/
import Derived.Test.YtomldkhafbpniaaDoorStr
import Derived.RegionTactic
import Derived.Deep.RegionWith
import Derived.Laws.BytesArg
import Derived.IntWalk
namespace Go.Proofs.YtomldkhafbpniaaDoor
open Go.RowKit Go.Lib

/-- impl.OidString -/
theorem ioidString (a : Option Addr) (n c : Nat) (z : List Int) (w : World) (h1 : IS w a n z) (hf : fitsI z) (hn : n ≤ 1048576) (htab : TabIs Tryd.prog w "internal/strconv.uint64pow10" .u64 pow10Tab) :
    Calls Tryd.prog 7 #[.slice a n c] w fun e w' => e = .returned (.string ⟨(dotted z).toArray⟩) ∧ Below w.heap.size w w' := by
  go_enter Tryd.func7, Tryd.ntmps7
  go_wp2_with (go_at_call 11; refine (oidString a n c z w h1 hf hn htab).mono ?_)
  rintro e w1 ⟨rfl, hb1⟩
  go_wp2
  go_ret
  exact ⟨rfl, hb1⟩

theorem conv_one (W : World) (g : Nat) (c : UInt8) (x : Int) (hx : x = (c.toNat : Int)) (h : W.cell? ⟨g, 0, none⟩ = some (.int .u8 x)) :
    (convert 32 9 (.slice (some ⟨g, 0, none⟩) 1 1)).run Tryd.prog W = .ok (.string ⟨#[c]⟩) W := by
  refine run_convert_bytes_back W 32 9 5 ⟨g, 0, none⟩ 1 [c] Tryd.underlying32 Tryd.underlying5 Tryd.underlying9 (fun j hj => ?_)
  obtain rfl : j = 0 := by simp at hj; omega
  rw [iadd_at]
  simpa [hx] using h
theorem conv_new (W : World) (c : UInt8) (x : Int) (hx : x = (c.toNat : Int)) : (convert 32 9 (.slice (some ⟨W.heap.size, 0, none⟩) 1 1)).run Tryd.prog (W.alloc (.cells #[.int .u8 x] 5)) = .ok (.string ⟨#[c]⟩) (W.alloc (.cells #[.int .u8 x] 5)) :=
  conv_one _ _ c x hx (by rw [World.cell?_alloc_new]; rfl)
theorem conv_drew (W : World) (c : UInt8) (x : Int) (hx : x = (c.toNat : Int)) : (convert 32 9 (.slice (some ⟨W.heap.size, 0, none⟩) 1 1)).run Tryd.prog ((W.alloc (.cells #[.int .u8 x] 5)).drew) = .ok (.string ⟨#[c]⟩) ((W.alloc (.cells #[.int .u8 x] 5)).drew) :=
  conv_one _ _ c x hx (by rw [World.cell?_drew, World.cell?_alloc_new]; rfl)
theorem conv_after {W w1 : World} {c : UInt8} {x : Int} (hx : x = (c.toNat : Int)) {N : Nat} (h : Below N ((W.alloc (.cells #[.int .u8 x] 5)).drew) w1) (hN : N = W.heap.size + 1) : (convert 32 9 (.slice (some ⟨W.heap.size, 0, none⟩) 1 1)).run Tryd.prog w1 = .ok (.string ⟨#[c]⟩) w1 :=
  conv_one _ _ c x hx (by rw [h.cell (p := ⟨W.heap.size, 0, none⟩) (by simp [hN]), World.cell?_drew, World.cell?_alloc_new]; rfl)

def Rec (q : Int) (T : ByteArray) : Prop := ∀ W, Calls Tryd.prog 12 #[.int .i64 q] W fun e W' => e = .returned (.string T) ∧ Below W.heap.size W W'
theorem one_size (c : UInt8) : (⟨#[c]⟩ : ByteArray).size = 1 := rfl


theorem below_first {w w1 : World} (h : Below w.drew.heap.size w.drew w1) : Below w.heap.size w w1 := ((Below.refl _ w).drew).trans h
theorem below_second {w w1 : World} {o : Obj} (h : Below (w.alloc o).drew.heap.size (w.alloc o).drew w1) : Below w.heap.size w w1 :=
  (((Below.refl _ w).alloc (Nat.le_refl _) o).drew).trans (h.mono (by simp))

set_option maxHeartbeats 1000000 in
theorem decimal_pos (i q d x : Int) (T : ByteArray) (c : UInt8) (h10 : 10 ≤ i) (hq : i.tdiv 10 = q) (hqw : IntKind.i64.wrap q = q) (hm : i.tmod 10 = d) (hx1 : IntKind.i64.wrap (48 + d) = x) (hx2 : IntKind.u8.wrap x = x) (hc : x = (c.toNat : Int))
    (hrec : Rec q T) (hT : T.size ≤ 100) (w : World) :
    Calls Tryd.prog 12 #[.int .i64 i] w fun e w' => e = .returned (.string (T ++ ⟨#[c]⟩)) ∧ Below w.heap.size w w' := by
  have cv1 := fun W => conv_new W c x hc
  have cv2 := fun W => conv_drew W c x hc
  have hneg : ¬ i < 0 := by omega
  have hlt : ¬ i < 10 := by omega
  have HC := Lib.hid hc
  clear hc
  go_enter Tryd.func12, Tryd.ntmps12
  go_wp2
  go_region_with (first | (go_at_call 12; refine (hrec _).mono ?_; rintro e w1 ⟨rfl, hb1⟩; (try (have hcv3 := conv_after HC.out hb1 (by simp)))))
  · go_wp2
    go_ret
    exact ⟨rfl, (below_first hb1).alloc (below_first hb1).size _⟩
  all_goals
    go_wp2
    go_ret
    exact ⟨rfl, below_second hb1⟩

set_option maxHeartbeats 1000000 in
theorem decimal_neg (i q d x : Int) (T : ByteArray) (c : UInt8) (h10 : i < 0) (hq : i.tdiv 10 = q) (hq0 : (q == 0) = false) (hqw : IntKind.i64.wrap q = q) (hm : i.tmod 10 = d) (hx1 : IntKind.i64.wrap (48 - d) = x) (hx2 : IntKind.u8.wrap x = x) (hc : x = (c.toNat : Int))
    (hrec : Rec q T) (hT : T.size ≤ 100) (w : World) :
    Calls Tryd.prog 12 #[.int .i64 i] w fun e w' => e = .returned (.string (T ++ ⟨#[c]⟩)) ∧ Below w.heap.size w w' := by
  have cv1 := fun W => conv_new W c x hc
  have cv2 := fun W => conv_drew W c x hc

  have HC := Lib.hid hc
  clear hc
  go_enter Tryd.func12, Tryd.ntmps12
  go_wp2
  go_region_with (first | (go_at_call 12; refine (hrec _).mono ?_; rintro e w1 ⟨rfl, hb1⟩; (try (have hcv3 := conv_after HC.out hb1 (by simp)))))
  · go_wp2
    go_ret
    exact ⟨rfl, (below_first hb1).alloc (below_first hb1).size _⟩
  all_goals
    go_wp2
    go_ret
    exact ⟨rfl, below_second hb1⟩

set_option maxHeartbeats 1000000 in
theorem decimal_one (i x : Int) (c : UInt8) (h0 : 0 ≤ i) (h1 : i < 10) (hx1 : IntKind.i64.wrap (48 + i) = x) (hx2 : IntKind.u8.wrap x = x) (hc : x = (c.toNat : Int)) (w : World) :
    Calls Tryd.prog 12 #[.int .i64 i] w fun e w' => e = .returned (.string ⟨#[c]⟩) ∧ Below w.heap.size w w' := by
  have cv1 := fun W => conv_new W c x hc
  have hneg : ¬ i < 0 := by omega
  have HC := Lib.hid hc
  clear hc
  go_enter Tryd.func12, Tryd.ntmps12
  go_wp2
  go_ret
  exact ⟨rfl, (Below.refl _ w).alloc (Nat.le_refl _) _⟩

set_option maxHeartbeats 1000000 in
theorem decimal_mone (i x : Int) (c : UInt8) (h1 : i < 0) (hq : i.tdiv 10 = 0) (hx1 : IntKind.i64.wrap (48 - i) = x) (hx2 : IntKind.u8.wrap x = x) (hc : x = (c.toNat : Int)) (w : World) :
    Calls Tryd.prog 12 #[.int .i64 i] w fun e w' => e = .returned (.string (⟨#[45]⟩ ++ ⟨#[c]⟩)) ∧ Below w.heap.size w w' := by
  have cv1 := fun W => conv_new W c x hc
  have HC := Lib.hid hc
  clear hc
  go_enter Tryd.func12, Tryd.ntmps12
  go_wp2
  go_ret
  exact ⟨rfl, (Below.refl _ w).alloc (Nat.le_refl _) _⟩

theorem digit_toNat (d : Nat) (h : d < 10) : ((UInt8.ofNat (48 + d)).toNat : Int) = 48 + (d : Int) := by
  rw [UInt8.toNat_ofNat']; omega
theorem decDigits_more {u : Nat} (h : ¬ u < 10) : decDigits u = decDigits (u / 10) ++ [UInt8.ofNat (48 + u % 10)] := by rw [decDigits, dif_neg h]
theorem str_snoc (l : List UInt8) (c : UInt8) : (⟨l.toArray⟩ : ByteArray) ++ ⟨#[c]⟩ = ⟨(l ++ [c]).toArray⟩ := by
  apply ByteArray.ext
  apply Array.ext'
  simp
theorem str_size (l : List UInt8) : (⟨l.toArray⟩ : ByteArray).size = l.length := by simp [ByteArray.size]

/-- spec.Decimal -/
theorem decimal_any : ∀ (m : Nat) (i : Int), i.natAbs ≤ m → -9223372036854775808 ≤ i → i ≤ 9223372036854775807 → Rec i ⟨(itoa i).toArray⟩
  | 0, i, hm, _, _ => by
    obtain rfl : i = 0 := by omega
    intro W
    have h := decimal_one 0 48 48 (by decide) (by decide) (by decide) (by decide) rfl W
    have e0 : itoa 0 = [48] := by rw [show (0 : Int) = ((0 : Nat) : Int) from rfl, itoa_nonneg, decDigits_one (by decide)]; rfl
    rw [e0]
    exact h
  | m + 1, i, hm, h0, h1 => by
    intro W
    by_cases hneg : i < 0
    · obtain ⟨u, rfl⟩ : ∃ u : Nat, i = -(u : Int) := ⟨i.natAbs, by omega⟩
      rw [itoa_neg u (by omega)]
      have hdiv : (-(u : Int)).tdiv 10 = -((u / 10 : Nat) : Int) := by rw [Int.neg_tdiv]; rfl
      by_cases hs : u < 10
      · rw [decDigits_one hs]
        have h := decimal_mone (-(u : Int)) (48 + (u : Int)) (UInt8.ofNat (48 + u)) hneg (by rw [hdiv]; omega) (by rw [IntKind.wrap_i64]; omega) (by rw [IntKind.wrap_u8]; omega) (digit_toNat u hs).symm W
        rw [str_snoc] at h
        exact h
      · rw [decDigits_more hs]
        have hq := decimal_any m (-((u / 10 : Nat) : Int)) (by omega) (by omega) (by omega)
        rw [itoa_neg (u / 10) (by omega)] at hq
        have hl := itoa_length_le (-((u / 10 : Nat) : Int)) (by omega) (by omega)
        rw [itoa_neg (u / 10) (by omega)] at hl
        have hmod : (-(u : Int)).tmod 10 = -((u % 10 : Nat) : Int) := by rw [Int.neg_tmod]; rfl
        have h := decimal_neg (-(u : Int)) (-((u / 10 : Nat) : Int)) (-((u % 10 : Nat) : Int)) (48 + ((u % 10 : Nat) : Int)) _ (UInt8.ofNat (48 + u % 10)) hneg hdiv (by simp; omega) (by rw [IntKind.wrap_i64]; omega) hmod (by rw [IntKind.wrap_i64]; omega) (by rw [IntKind.wrap_u8]; omega) (digit_toNat (u % 10) (by omega)).symm hq (by rw [str_size]; omega) W
        rw [str_snoc] at h
        exact h
    · obtain ⟨u, rfl⟩ : ∃ u : Nat, i = (u : Int) := ⟨i.toNat, by omega⟩
      rw [itoa_nonneg]
      by_cases hs : u < 10
      · rw [decDigits_one hs]
        exact decimal_one (u : Int) (48 + (u : Int)) (UInt8.ofNat (48 + u)) (by omega) (by omega) (by rw [IntKind.wrap_i64]; omega) (by rw [IntKind.wrap_u8]; omega) (digit_toNat u hs).symm W
      · rw [decDigits_more hs]
        have hq := decimal_any m ((u / 10 : Nat) : Int) (by omega) (by omega) (by omega)
        have hl := itoa_length_le ((u / 10 : Nat) : Int) (by omega) (by omega)
        rw [itoa_nonneg] at hq hl
        have h := decimal_pos (u : Int) ((u / 10 : Nat) : Int) ((u % 10 : Nat) : Int) (48 + ((u % 10 : Nat) : Int)) _ (UInt8.ofNat (48 + u % 10)) (by omega) (by rfl) (by rw [IntKind.wrap_i64]; omega) (by rfl) (by rw [IntKind.wrap_i64]; omega) (by rw [IntKind.wrap_u8]; omega) (digit_toNat (u % 10) (by omega)).symm hq (by rw [str_size]; omega) W
        rw [str_snoc] at h
        exact h

theorem str_append (a b : List UInt8) : (⟨a.toArray⟩ : ByteArray) ++ ⟨b.toArray⟩ = ⟨(a ++ b).toArray⟩ := by
  apply ByteArray.ext
  apply Array.ext'
  simp

set_option maxHeartbeats 1000000 in
/-- spec.Dotted -/
theorem dotted_any (a : Option Addr) (n c : Nat) (z : List Int) (w : World) (h1 : IS w a n z) (hf : fitsI z) (hn : n ≤ 1048576) :
    Calls Tryd.prog 9 #[.slice a n c] w fun e w' => e = .returned (.string ⟨(dotted z).toArray⟩) ∧ Below w.heap.size w w' := by
  have hzl := h1.1
  have HF := Lib.hid hf
  clear hf
  go_enter Tryd.func9, Tryd.ntmps9
  go_wp2
  go_loopw [3, 4, 5, 8] (fun s _ _ i wr => ∃ k : Nat, k ≤ n ∧ i = .int .i64 (k : Int) ∧ s = .string ⟨(dotted (z.take k)).toArray⟩ ∧ Below w.heap.size w wr) (fun _ _ _ i _ => n - (RowKit.intOf i).toNat)
  case atStart => exact ⟨0, by omega, rfl, rfl, Below.refl _ _⟩
  case round =>
    obtain ⟨k, hk, rfl, rfl, hb⟩ := hrel
    have hdl := dotted_len HF.out k (by omega)
    have hts := str_size (dotted (z.take k))
    by_cases hlt : k < n
    · obtain ⟨b1, o1, rfl, hb1, hc1⟩ := (h1.below hb).open_ (by omega)
      have e1 := hc1 k hlt
      have hlt' : (k : Int) < (n : Int) := by omega
      have hrec := decimal_any _ (zt z k) (Nat.le_refl _) (fitsI_at HF.out k).1 (fitsI_at HF.out k).2
      have hil := itoa_len HF.out k
      have hus := str_size (itoa (zt z k))
      have hst1 : 0 < k → (⟨(dotted (z.take k)).toArray⟩ : ByteArray) ++ ⟨#[46]⟩ ++ ⟨(itoa (zt z k)).toArray⟩ = ⟨(dotted (z.take (k + 1))).toArray⟩ := fun h0 => by
        rw [str_snoc, str_append, dotted_step (by omega) h0]
      have hst2 : ¬ 0 < k → (⟨(dotted (z.take k)).toArray⟩ : ByteArray) ++ ⟨(itoa (zt z k)).toArray⟩ = ⟨(dotted (z.take (k + 1))).toArray⟩ := fun h0 => by
        rw [str_append, dotted_start (by omega) h0]
      clear hc1
      generalize (⟨(dotted (z.take k)).toArray⟩ : ByteArray) = T at hts hst1 hst2 ⊢
      generalize (⟨(itoa (zt z k)).toArray⟩ : ByteArray) = U at hrec hus hst1 hst2
      have hT : T.size ≤ 23068672 := by omega
      have hU : U.size ≤ 21 := by omega
      have H1 := Lib.hid hst1
      have H2 := Lib.hid hst2
      clear hts hus hst1 hst2 hdl hil
      by_cases h0 : 0 < k
      · have h0' : (0 : Int) < (k : Int) := by omega
        go_wp2_with (go_at_call 12; refine (hrec _).mono ?_; rintro e w2 ⟨rfl, hb2⟩)
        go_roundw
        case rel => exact ⟨k + 1, by omega, by go_num, by rw [H1.out h0], hb.trans (hb2.mono hb.size)⟩
        case measure => simp [RowKit.intOf]; omega
      · have h0' : ¬ (0 : Int) < (k : Int) := by omega
        go_wp2_with (go_at_call 12; refine (hrec _).mono ?_; rintro e w2 ⟨rfl, hb2⟩)
        go_roundw
        case rel => exact ⟨k + 1, by omega, by go_num, by rw [H2.out h0], hb.trans (hb2.mono hb.size)⟩
        case measure => simp [RowKit.intOf]; omega
    · obtain rfl : k = n := by omega
      go_wp2
      go_ret
      rw [List.take_of_length_le (by omega)]
      exact ⟨rfl, hb⟩
end Go.Proofs.YtomldkhafbpniaaDoor
