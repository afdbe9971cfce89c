/-
  What BitString.RightAlign and impl.RightAlign return.
-/
import Derived.Test.YtbocaapbddlpfaaAt
namespace Go.Proofs.Ytbocaapbddlpfaa
open Go.RowKit

theorem Try.info5 : (Try.prog.info? 5).map (fun i => (i.zero, i.size, i.bytes)) = some (some (.int .u8 0), 1, 1) := by kernel_rfl

/-- a length that is a multiple of 8, or no bytes: the bytes as they are -/
theorem right_same (a : Option Addr) (n c : Nat) (len : Int) (w : World) (hn : n ≤ 140737488355328) (h : len.tmod 8 = 0 ∨ n = 0) :
    Calls Try.prog 19 #[.agg #[.slice a n c, .int .i64 len]] w fun e w' => e = .returned (.slice a n c) ∧ Below w.heap.size w w' := by
  have b1 := Int.lt_tmod_of_pos len (show (0 : Int) < 8 by omega)
  have b2 := Int.tmod_lt_of_pos len (show (0 : Int) < 8 by omega)
  by_cases h1 : len.tmod 8 = 0
  · clear h
    go_enter Try.func19, Try.ntmps19
    go_wp2
    go_ret
    exact ⟨rfl, (Below.refl _ _).alloc (Nat.le_refl _) _⟩
  · obtain rfl : n = 0 := by omega
    clear h
    have h2 : (8 - len.tmod 8 == 8) = false := by simp; omega
    go_enter Try.func19, Try.ntmps19
    go_wp2
    go_ret
    exact ⟨rfl, (Below.refl _ _).alloc (Nat.le_refl _) _⟩

/-- while the new row is filled: what it holds, the box's cell, and that nothing old has changed -/
def RInv (w wr : World) (b off n c : Nat) (l o : List UInt8) : Prop :=
  wr.ownsRow (w.heap.size + 1) 5 1 (.slice (some ⟨w.heap.size + 1, 0, none⟩) n n) n (bvs o) ∧ wr.cell? ⟨w.heap.size, 0, none⟩ = some (.slice (some ⟨b, off, none⟩) n c) ∧
  Below w.heap.size w wr ∧ (∀ j, j < n → wr.cell? ⟨b, off + j, none⟩ = some (.int .u8 (bt l j))) ∧ b < w.heap.size

section
variable {w wr : World} {b off n c : Nat} {l o : List UInt8}
theorem RInv.len (h : RInv w wr b off n c l o) : o.length = n := by have := h.1.1; rw [bvs_length] at this; omega
theorem RInv.cell (h : RInv w wr b off n c l o) {j : Nat} (hj : j < n) : wr.cell? ⟨w.heap.size + 1, j, none⟩ = some (.int .u8 (bt o j)) := by
  rw [h.1.cellAt j (by omega), bvs_get (by rw [h.len]; exact hj)]
theorem RInv.free (h : RInv w wr b off n c l o) (j : Nat) : wr.frozen? ⟨w.heap.size + 1, j, none⟩ = false := h.1.frozenAt j
theorem RInv.store (h : RInv w wr b off n c l o) (j : Nat) (x : Int) (y : UInt8) (hx : x = (y.toNat : Int)) : RInv w (wr.setCell ⟨w.heap.size + 1, j, none⟩ (.int .u8 x)) b off n c l (o.set j y) := by
  refine ⟨?_, ?_, h.2.2.1.setCell (by simp) _, fun i hi => ?_, h.2.2.2.2⟩
  · rw [← bvs_set o j y x hx]
    exact (h.1.stored j _).1
  · rw [World.cell?_setCell_other _ _ _ _ (by simp)]
    exact h.2.1
  · rw [World.cell?_setCell_other _ _ _ _ (fun e => by have := h.2.2.2.2; simp only [Addr.mk.injEq] at e; omega)]
    exact h.2.2.2.1 i hi
theorem RInv.bs (h : RInv w wr b off n c l o) : BS wr (some ⟨w.heap.size + 1, 0, none⟩) n o :=
  ⟨h.len, fun _ => ⟨w.heap.size + 1, 0, rfl, fun j hj => by rw [Nat.zero_add]; exact h.cell hj⟩⟩
theorem RInv.old0 (h : RInv w wr b off n c l o) (hp : 0 < n) : wr.cell? ⟨b, off, none⟩ = some (.int .u8 (bt l 0)) := h.2.2.2.1 0 hp
theorem RInv.start {len : Int} (hc : ∀ j, j < n → w.cell? ⟨b, off + j, none⟩ = some (.int .u8 (bt l j))) (hb : b < w.heap.size)
    (ho : wr.ownsRow (w.heap.size + 1) 5 1 (.slice (some ⟨(w.alloc (.cells #[.slice (some ⟨b, off, none⟩) n c, .int .i64 len] 32)).heap.size, 0, none⟩) n n) n (bvs (zeros n)))
    (hb1 : Below (w.alloc (.cells #[.slice (some ⟨b, off, none⟩) n c, .int .i64 len] 32)).heap.size (w.alloc (.cells #[.slice (some ⟨b, off, none⟩) n c, .int .i64 len] 32)) wr) :
    RInv w wr b off n c l (zeros n) := by
  refine ⟨by simpa using ho, ?_, ((Below.refl _ _).alloc (Nat.le_refl _) _).trans (hb1.mono (by simp)), fun j hj => ?_, hb⟩
  · rw [hb1.cell (p := ⟨w.heap.size, 0, none⟩) (by simp)]
    simp
  · rw [hb1.cell (p := ⟨b, off + j, none⟩) (by simp; omega), World.cell?_alloc_lt _ _ _ hb]
    exact hc j hj
theorem RInv.drew (h : RInv w wr b off n c l o) : RInv w wr.drew b off n c l o := ⟨h.1.drew, h.2.1, h.2.2.1.drew, h.2.2.2.1, h.2.2.2.2⟩
end

/-- a byte of the row, moved to the back by S places (S from 1 to 7) -/
def raB (l : List UInt8) (S i : Nat) : UInt8 := UInt8.ofNat ((if i = 0 then 0 else (l[i - 1]?.getD 0).toNat % 2 ^ S * 2 ^ (8 - S)) + (l[i]?.getD 0).toNat / 2 ^ S)
/-- the row when its first k bytes are made -/
def raK (l : List UInt8) (S n k : Nat) : List UInt8 := (List.range n).map fun i => if i < k then raB l S i else 0
theorem raK_zero (l : List UInt8) (S n : Nat) : raK l S n 0 = zeros n := by
  apply List.ext_getElem
  · simp [raK, zeros]
  · intro i h1 h2; simp [raK, zeros]
theorem raK_step (l : List UInt8) (S n k : Nat) : (raK l S n k).set k (raB l S k) = raK l S n (k + 1) := by
  apply List.ext_getElem
  · simp [raK]
  · intro i h1 h2
    simp only [raK, List.getElem_set, List.getElem_map, List.getElem_range]
    by_cases h : k = i
    · subst h; simp
    · rw [if_neg h]
      by_cases h3 : i < k
      · rw [if_pos h3, if_pos (by omega)]
      · rw [if_neg h3, if_neg (by omega)]

theorem bits_or_u8 (a b : Nat) (ha : a < 256) (hb : b < 256) : bits .or .u8 (a : Int) (b : Int) = ((a ||| b : Nat) : Int) := by
  have hx : a ||| b < 2 ^ 8 := Nat.or_lt_two_pow (by omega) (by omega)
  have h1 : (BitVec.ofInt 8 (a : Int)).toNat = a := by
    rw [BitVec.ofInt_natCast, BitVec.toNat_ofNat]; exact Nat.mod_eq_of_lt (by omega)
  have h2 : (BitVec.ofInt 8 (b : Int)).toNat = b := by
    rw [BitVec.ofInt_natCast, BitVec.toNat_ofNat]; exact Nat.mod_eq_of_lt (by omega)
  show IntKind.u8.wrap ((BitVec.ofInt 8 (a : Int) ||| BitVec.ofInt 8 (b : Int)).toNat : Int) = _
  rw [BitVec.toNat_or, h1, h2, IntKind.wrap_u8]
  omega
theorem or_parts (y z S : Nat) (hz : z < 256) (hS : S ≤ 8) : (y * 2 ^ (8 - S) % 256) ||| (z / 2 ^ S) = y % 2 ^ S * 2 ^ (8 - S) + z / 2 ^ S ∧ y % 2 ^ S * 2 ^ (8 - S) + z / 2 ^ S < 256 := by
  have e : (256 : Nat) = 2 ^ S * 2 ^ (8 - S) := by rw [← Nat.pow_add, show S + (8 - S) = 8 from by omega]
  have hp : 0 < 2 ^ S := Nat.two_pow_pos S
  have hz2 : z / 2 ^ S < 2 ^ (8 - S) := by
    rw [Nat.div_lt_iff_lt_mul hp, Nat.mul_comm, ← e]; exact hz
  rw [e, Nat.mul_mod_mul_right, ← Nat.shiftLeft_eq, ← Nat.shiftLeft_add_eq_or_of_lt hz2]
  refine ⟨rfl, ?_⟩
  rw [Nat.shiftLeft_eq]
  have hy : y % 2 ^ S < 2 ^ S := Nat.mod_lt _ hp
  have : (y % 2 ^ S + 1) * 2 ^ (8 - S) ≤ 2 ^ S * 2 ^ (8 - S) := Nat.mul_le_mul_right _ hy
  rw [Nat.add_mul] at this
  omega
theorem bt_nat (l : List UInt8) (i : Nat) : bt l i = (((l[i]?.getD 0).toNat : Nat) : Int) := rfl
theorem byte_lt (l : List UInt8) (i : Nat) : (l[i]?.getD 0).toNat < 256 := (l[i]?.getD 0).toNat_lt
theorem raB_val (l : List UInt8) (r : Int) (k : Nat) (h0 : 0 < r) (h8 : r < 8) (hk : 1 ≤ k) :
    bits BinOp.or IntKind.u8 (bt l (k - 1) * 2 ^ (8 - (8 - r)).toNat % 256) (bt l k / 2 ^ (8 - r).toNat) = ((raB l (8 - r).toNat k).toNat : Int) := by
  have hS : (8 - (8 - r)).toNat = 8 - (8 - r).toNat := by omega
  have hS8 : (8 - r).toNat ≤ 8 := by omega
  rw [hS, bt_nat, bt_nat]
  generalize (8 - r).toNat = S at *
  have h1 := or_parts (l[k - 1]?.getD 0).toNat (l[k]?.getD 0).toNat S (byte_lt l k) hS8
  have h2 : (l[k]?.getD 0).toNat / 2 ^ S < 256 := Nat.lt_of_le_of_lt (Nat.div_le_self _ _) (byte_lt l k)
  have h3 := bits_or_u8 ((l[k - 1]?.getD 0).toNat * 2 ^ (8 - S) % 256) ((l[k]?.getD 0).toNat / 2 ^ S) (by omega) h2
  have e1 : ((((l[k - 1]?.getD 0).toNat * 2 ^ (8 - S) % 256 : Nat)) : Int) = ((l[k - 1]?.getD 0).toNat : Int) * 2 ^ (8 - S) % 256 := by simp
  have e2 : ((((l[k]?.getD 0).toNat / 2 ^ S : Nat)) : Int) = ((l[k]?.getD 0).toNat : Int) / 2 ^ S := by simp
  rw [e1, e2] at h3
  rw [h3, h1.1]
  unfold raB
  rw [if_neg (by omega), UInt8.toNat_ofNat']
  rw [Nat.mod_eq_of_lt h1.2]
theorem raB_first (l : List UInt8) (S : Nat) : bt l 0 / 2 ^ S = ((raB l S 0).toNat : Int) := by
  unfold raB
  rw [if_pos rfl, bt_nat, UInt8.toNat_ofNat', Nat.zero_add, Nat.mod_eq_of_lt (Nat.lt_of_le_of_lt (Nat.div_le_self _ _) (byte_lt l 0))]
  simp
theorem half_val (l : List UInt8) (k m : Nat) : bt l k * 2 ^ m % 256 = ((UInt8.ofNat (bt l k * 2 ^ m % 256).toNat).toNat : Int) := by
  rw [UInt8.toNat_ofNat']
  have h1 := Int.emod_nonneg (bt l k * 2 ^ m) (show (256 : Int) ≠ 0 by omega)
  have h2 := Int.emod_lt_of_pos (bt l k * 2 ^ m) (show (0 : Int) < 256 by omega)
  omega
/-- the row, whole -/
def raL (l : List UInt8) (S : Nat) : List UInt8 := raK l S l.length l.length

theorem right_walk (b off n c : Nat) (l : List UInt8) (len : Int) (w : World) (hb : b < w.heap.size) (hcell : ∀ j, j < n → w.cell? ⟨b, off + j, none⟩ = some (.int .u8 (bt l j))) (hl : l.length = n) (hn : n ≤ 140737488355328) (hpos : 0 < n) (h0 : 0 < len.tmod 8) :
    Calls Try.prog 19 #[.agg #[.slice (some ⟨b, off, none⟩) n c, .int .i64 len]] w fun e w' => e = .returned (.slice (some ⟨w.heap.size + 1, 0, none⟩) n n) ∧ Below w.heap.size w w' ∧ BS w' (some ⟨w.heap.size + 1, 0, none⟩) n (raL l (8 - len.tmod 8).toNat) := by
  obtain ⟨i0, hi0, hz0, hz1, hz2⟩ := info_parts Try.info5
  have b2 := Int.tmod_lt_of_pos len (show (0 : Int) < 8 by omega)
  have hpos' : (0 : Int) < (n : Int) := by omega
  have hne : ((n : Int) == 0) = false := by simp; omega
  have h8 : (8 - len.tmod 8 == 8) = false := by simp; omega
  have HC := Lib.hid hcell
  clear hcell
  have HL := Lib.hid hl
  clear hl
  have t0 := bt_nonneg l 0
  have t1 := bt_le l 0
  go_enter Try.func19, Try.ntmps19
  go_wp2_with (at_make; refine wpList_make_bs _ rfl (.tmp 23) (.tmp 23) 22 rfl (w.heap.size + 1) 5 i0 Try.underlying22 hi0 hz0 hz1 hz2 n rfl rfl (by omega) (by simp) ?_; intro w1 ho1 hb1 hs1; have R1 : RInv w w1 b off n c l (zeros n) := RInv.start HC.out hb ho1 hb1; have x1 := R1.2.1; have x2 := R1.cell hpos; have x3 := R1.free 0; have x4 := R1.old0 hpos; clear ho1 hb1)
  go_loopw [5] (fun i wr => ∃ k : Nat, 1 ≤ k ∧ k ≤ n ∧ i = .int .i64 (k : Int) ∧ RInv w wr b off n c l (raK l (8 - len.tmod 8).toNat n k)) (fun i _ => n - (intOf i).toNat)
  case atStart => 
    refine ⟨1, by omega, by omega, rfl, ?_⟩
    have := R1.store 0 _ (raB l (8 - len.tmod 8).toNat 0) (raB_first l (8 - len.tmod 8).toNat)
    rw [← raK_zero l (8 - len.tmod 8).toNat n, raK_step] at this
    exact this
  case round =>
    clear x1 x2 x3 x4 R1
    obtain ⟨k, hk1, hk2, rfl, R⟩ := hrel
    have y1 := R.2.1
    by_cases hlt : k < n
    · have y2 := R.cell hlt
      have y3 := R.free k
      have y4 := R.2.2.2.1 (k - 1) (by omega)
      have y5 : ∀ v, (wr.setCell ⟨w.heap.size + 1, k, none⟩ v).cell? ⟨b, off + k, none⟩ = some (.int .u8 (bt l k)) := fun v => by
        rw [World.cell?_setCell_other _ _ _ _ (fun e => by simp only [Addr.mk.injEq] at e; omega)]
        exact R.2.2.2.1 k hlt
      have t2 := bt_nonneg l (k - 1)
      have t3 := bt_le l (k - 1)
      have t4 := bt_nonneg l k
      have t5 := bt_le l k
      go_wp2
      go_region
      go_wp2
      have R2 := ((R.store k _ _ (half_val l (k - 1) (8 - (8 - len.tmod 8)).toNat)).store k _ _ (raB_val l (len.tmod 8) k h0 b2 hk1)).drew
      rw [List.set_set, raK_step] at R2
      go_roundw
      case rel => exact ⟨k + 1, by omega, by omega, by go_num, R2⟩
      case measure => simp [intOf]; omega
    · obtain rfl : k = n := by omega
      go_wp2
      go_ret
      exact ⟨rfl, R.2.2.1, by rw [raL, HL.out]; exact R.bs⟩
end Go.Proofs.Ytbocaapbddlpfaa
