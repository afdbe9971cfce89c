/-
  What strconv.AppendInt(buf, i, 10) returns for a row of the call's own: the numeral; every other old block stands as it stood, and the row keeps its room.
-/
import Derived.Test.YtomldkhafbpniaaDoorRow
import Derived.Lib.Walk
import Derived.Lib.ItoaWalk
import Derived.Lib.ItoaMem
import Derived.Lib.ItoaLen
import Derived.Lib.BufferKept
import Derived.Lib.Slices
import Derived.Lib.Hide
import Derived.BigCall
import Derived.BigGuard
import Derived.CellFam
namespace Go.Proofs.YtomldkhafbpniaaDoor
open Go.RowKit Go.Sort Go.Lib

/-- what an append of bytes onto the row g leaves -/
def Put (B g n cap : Nat) (xs l : List Value) (w : World) (e : Ending) (w' : World) : Prop :=
  ∃ v', e = .returned v' ∧ w'.ownsRow B 5 1 v' (n + l.length) (xs ++ l) ∧ Below B w w' ∧ Stays g w w' ∧ Room w' 5 g cap

set_option maxHeartbeats 6400000 in
set_option maxRecDepth 100000 in
theorem appendUint_small (B g n cap u : Nat) (hu : u < 100) (xs : List Value) (w : World) (hown : w.ownsRow B 5 1 (.slice (some ⟨g, 0, none⟩) n cap) n xs) (hBw : B ≤ w.heap.size) (hlim : n + 20 ≤ 140737488355328) :
    Calls Tryd.prog 25 #[.slice (some ⟨g, 0, none⟩) n cap, .int .u64 u, .int .i64 10] w (Put B g n cap xs (byteCells (decDigits u)) w) := by
  obtain ⟨i0, hi, hz0, hz1, hz2⟩ := info5
  have hlen : (decDigits u).length ≤ 20 := by rw [decDigits_length]; exact nDigits_le20 u (by omega)
  have hsz : (⟨(decDigits u).toArray⟩ : ByteArray).size = (decDigits u).length := by simp [ByteArray.size]
  go_enter Tryd.func25, Tryd.ntmps25
  go_wp2_with (first
    | (go_at_call 26; refine (Tryd.internal_strconv_small u hu _).mono ?_; rintro e w' ⟨rfl, rfl⟩)
    | (at_builtin; refine wpList_append_row_string _ rfl _ _ 32 9 rfl B 5 i0 Tryd.underlying32 Tryd.underlying9 hi hz0 hz1 hz2 g n cap xs rfl hown ⟨(decDigits u).toArray⟩ rfl (by rw [hsz]; omega) hBw ?_))
  intro v' w1 hown' hgrow hroom
  go_wp2
  go_ret
  refine ⟨v', rfl, ?_, (Below.refl B _).grown hgrow hBw (fun k hk => (hown.lt k hk).1), Stays.of_grown hgrow, hroom⟩
  rw [byteCells_length]
  exact hown'

set_option maxHeartbeats 12800000 in
set_option maxRecDepth 100000 in
theorem appendUint_big (B g n cap u : Nat) (hu : 100 ≤ u) (hu64 : u < 18446744073709551616) (xs : List Value) (w : World) (hown : w.ownsRow B 5 1 (.slice (some ⟨g, 0, none⟩) n cap) n xs) (hBw : B ≤ w.heap.size) (hlim : n + 20 ≤ 140737488355328)
    (htab : TabIs Tryd.prog w "internal/strconv.uint64pow10" .u64 pow10Tab) :
    Calls Tryd.prog 25 #[.slice (some ⟨g, 0, none⟩) n cap, .int .u64 u, .int .i64 10] w (Put B g n cap xs (byteCells (decDigits u)) w) := by
  obtain ⟨i0, hi, hz0, hz1, hz2⟩ := info5
  have hu1 : 1 ≤ u := by omega
  have hnd20 : nDigits u ≤ 20 := nDigits_le20 u hu64
  have hal : Tryd.prog.arrayLen 49 = 24 := by kernel_rfl
  have hsl : ∀ W, (Instr.sliceAt 49 (.pointer (some ⟨w.heap.size, 0, none⟩)) none (some (.int .i64 (nDigits u : Int))) none).run Tryd.prog W = .ok (.slice (some ⟨w.heap.size, 0, none⟩) (nDigits u) 24) W := fun W => by
    rw [run_sliceAt_array_h W 49 ⟨w.heap.size, 0, none⟩ (by kernel_rfl) .i64 (nDigits u : Int) (by omega) (by rw [hal]; omega)]
    go_simp
  have hH0 := holds_zero0 w 49 (nDigits u) (by omega)
  have hfmt := Tryd.internal_strconv_formatBase10 w.heap.size 0 24 u (Array.replicate (nDigits u) 0) (w.alloc (.cells zeros24 49)) hH0 (by rw [Array.size_replicate]; exact lt_pow_nDigits u) hu64 (by rw [Array.size_replicate]; omega)
  rw [Array.size_replicate] at hfmt
  have HH0 := hid hH0
  have iu : (100 : Int) ≤ (u : Int) := by omega
  clear hH0 hal
  go_enter Tryd.func25, Tryd.ntmps25
  go_wp2_with (first
    | (go_at_call 27; refine (Tryd.internal_strconv_numDigits u hu1 hu64 _ (tabIs_alloc htab _)).mono ?_; rintro e w' ⟨rfl, rfl⟩))
  go_at_call 28
  refine hfmt.mono ?_
  rintro e w' ⟨rfl, k, v', dk, rfl, hF⟩
  have hcells : ∀ j u', (byteCells (decDigits u))[j]? = some u' → ((putRow (fun (b : UInt8) => Value.int .u8 (b.toNat : Int)) (w.alloc (.cells zeros24 49)) w.heap.size 0 dk).drewN k).cell? ((⟨w.heap.size, 0, none⟩ : Addr).add j) = some u' := by
    intro j u' hj
    have hjl : j < (decDigits u).length := by
      have h5 := (List.getElem?_eq_some_iff.1 hj).1
      rwa [byteCells_length] at h5
    have e5 : (byteCells (decDigits u))[j]? = some (Value.int .u8 ((decDigits u)[j].toNat : Int)) := by simp [byteCells, hjl]
    rw [e5] at hj
    cases hj
    rw [row_is_numeral hF j hjl, add_plain, World.cell?_drewN]
    exact cell?_putRow (fun (b : UInt8) => Value.int .u8 (b.toNat : Int)) _ w.heap.size 0 _ dk HH0.out (by rw [hF.size, Array.size_replicate]) j (by rw [hF.size]; rw [decDigits_length] at hjl; exact hjl)
  obtain ⟨os, eo⟩ := fin_at w (.cells zeros24 49) dk k 0
  have hown2 : ((putRow (fun (b : UInt8) => Value.int .u8 (b.toNat : Int)) (w.alloc (.cells zeros24 49)) w.heap.size 0 dk).drewN k).ownsRow B 5 1 (.slice (some ⟨g, 0, none⟩) n cap) n xs := by rw [eo]; exact ownsRow_grow hown k os
  have hnx2 : Below B w ((putRow (fun (b : UInt8) => Value.int .u8 (b.toNat : Int)) (w.alloc (.cells zeros24 49)) w.heap.size 0 dk).drewN k) := by rw [eo]; exact below_grow B w hBw k os
  have hok2 : Stays g w ((putRow (fun (b : UInt8) => Value.int .u8 (b.toNat : Int)) (w.alloc (.cells zeros24 49)) w.heap.size 0 dk).drewN k) := by rw [eo]; exact Stays.of_below (below_grow w.heap.size w (Nat.le_refl _) k os)
  have hsz2 : w.heap.size ≤ ((putRow (fun (b : UInt8) => Value.int .u8 (b.toNat : Int)) (w.alloc (.cells zeros24 49)) w.heap.size 0 dk).drewN k).heap.size := by rw [eo]; exact size_grow w k os
  generalize (putRow (fun (b : UInt8) => Value.int .u8 (b.toNat : Int)) (w.alloc (.cells zeros24 49)) w.heap.size 0 dk).drewN k = W2 at hcells hown2 hnx2 hok2 hsz2 ⊢
  clear eo HH0 hfmt
  go_wp2_with (at_builtin; refine wpList_append_row _ rfl _ _ 32 rfl B 5 i0 (.int .u8 0) Tryd.underlying32 hi hz0 hz1 hz2 rfl g n cap xs rfl hown2 ⟨w.heap.size, 0, none⟩ (nDigits u) 24 (byteCells (decDigits u)) rfl ?c0 hcells ?c2 ?c3 ?c5 ?_)
  case c0 => rw [byteCells_length, decDigits_length]
  case c2 => exact byteCells_one _
  case c3 => omega
  case c5 => omega
  intro v2 w3 hown' hgrow _ hroom
  go_wp2
  go_ret
  refine ⟨v2, rfl, ?_, hnx2.grown hgrow (by omega) (fun k hk => (hown2.lt k hk).1), hok2.trans (Stays.of_grown hgrow) hsz2, hroom⟩
  rw [byteCells_length, decDigits_length]
  exact hown'

theorem appendUint (B g n cap u : Nat) (hu64 : u < 18446744073709551616) (xs : List Value) (w : World) (hown : w.ownsRow B 5 1 (.slice (some ⟨g, 0, none⟩) n cap) n xs) (hBw : B ≤ w.heap.size) (hlim : n + 20 ≤ 140737488355328)
    (htab : TabIs Tryd.prog w "internal/strconv.uint64pow10" .u64 pow10Tab) :
    Calls Tryd.prog 25 #[.slice (some ⟨g, 0, none⟩) n cap, .int .u64 u, .int .i64 10] w (Put B g n cap xs (byteCells (decDigits u)) w) := by
  by_cases h : u < 100
  · exact appendUint_small B g n cap u h xs w hown hBw hlim
  · exact appendUint_big B g n cap u (by omega) hu64 xs w hown hBw hlim htab

set_option maxHeartbeats 6400000 in
set_option maxRecDepth 100000 in
/-- internal/strconv.AppendInt, onto an empty slice whose row has room for the sign -/
theorem appendInt (B g cap : Nat) (i : Int) (h0 : -9223372036854775808 ≤ i) (h1 : i ≤ 9223372036854775807) (hc : 1 ≤ cap) (w : World) (hown : w.ownsRow B 5 1 (.slice (some ⟨g, 0, none⟩) 0 cap) 0 []) (hBw : B ≤ w.heap.size)
    (htab : TabBelow Tryd.prog B w "internal/strconv.uint64pow10" .u64 pow10Tab) :
    Calls Tryd.prog 22 #[.slice (some ⟨g, 0, none⟩) 0 cap, .int .i64 i, .int .i64 10] w (Put B g 0 cap [] (byteCells (itoa i)) w) := by
  obtain ⟨i0, hi, hz0, hz1, hz2⟩ := info5
  by_cases hneg : i < 0
  · obtain ⟨u, rfl⟩ : ∃ u : Nat, i = -(u : Int) := ⟨i.natAbs, by omega⟩
    have hu1 : 1 ≤ u := by omega
    have hu64 : u < 18446744073709551616 := by omega
    have hwr : IntKind.u64.wrap (-IntKind.u64.wrap (-(u : Int))) = (u : Int) := by rw [IntKind.wrap_u64, IntKind.wrap_u64]; omega
    rw [itoa_neg u hu1]
    go_enter Tryd.func22, Tryd.ntmps22
    go_wp2_with (at_builtin; refine wpList_append_row _ rfl _ _ 32 rfl B 5 i0 (.int .u8 0) Tryd.underlying32 hi hz0 hz1 hz2 rfl g 0 cap [] rfl (hown.alloc _) ⟨w.heap.size, 0, none⟩ 1 1 [Value.int .u8 45] rfl rfl (by intro j u' hj; match j, hj with | 0, hj => simp at hj; subst hj; simp [Addr.add]) (by intro u' hu'; simp at hu'; subst hu'; rfl) (by omega) (by simp; omega) ?_)
    intro v1 w1 hown1 hgrow hv1 hroom
    subst hv1
    have hnx1 : Below B w w1 := ((Below.refl B w).alloc hBw _).grown hgrow (by simp; omega) (fun k hk => (hown.lt k hk).1)
    have hst1 : Stays g w w1 := fun k hk hne => (Stays.of_grown hgrow k (by simp; omega) hne).trans (Lib.alloc_old w _ k hk)
    have htab1 : TabIs Tryd.prog w1 "internal/strconv.uint64pow10" .u64 pow10Tab := htab w1 hnx1
    go_wp2_with (go_at_call 25; refine (appendUint B g 1 cap u hu64 _ w1 hown1 (by have := hnx1.size; omega) (by omega) htab1).mono ?_; rintro e w2 ⟨v2, rfl, hown2, hnx2, hst2, hroom2⟩)
    go_wp2
    go_ret
    refine ⟨v2, rfl, ?_, hnx1.trans hnx2, hst1.trans hst2 hnx1.size, hroom2⟩
    have e1 : 0 + (byteCells (45 :: decDigits u)).length = 1 + (byteCells (decDigits u)).length := by simp [byteCells]; omega
    have e2 : [] ++ byteCells (45 :: decDigits u) = [Value.int .u8 45] ++ byteCells (decDigits u) := by simp [byteCells]
    rw [e1, e2]
    exact hown2
  · obtain ⟨u, rfl⟩ : ∃ u : Nat, i = u := ⟨i.toNat, by omega⟩
    have hu64 : u < 18446744073709551616 := by omega
    rw [itoa_nonneg]
    go_enter Tryd.func22, Tryd.ntmps22
    go_wp2_with (go_at_call 25; refine (appendUint B g 0 cap u hu64 [] w hown hBw (by omega) htab.here).mono ?_; rintro e w2 ⟨v2, rfl, hr⟩)
    go_wp2
    first | go_ret | go_ret2
    exact ⟨v2, rfl, hr⟩

set_option maxRecDepth 100000 in
/-- strconv.AppendInt -/
theorem appendIntPublic (B g cap : Nat) (i : Int) (h0 : -9223372036854775808 ≤ i) (h1 : i ≤ 9223372036854775807) (hc : 1 ≤ cap) (w : World) (hown : w.ownsRow B 5 1 (.slice (some ⟨g, 0, none⟩) 0 cap) 0 []) (hBw : B ≤ w.heap.size)
    (htab : TabBelow Tryd.prog B w "internal/strconv.uint64pow10" .u64 pow10Tab) :
    Calls Tryd.prog 17 #[.slice (some ⟨g, 0, none⟩) 0 cap, .int .i64 i, .int .i64 10] w (Put B g 0 cap [] (byteCells (itoa i)) w) := by
  go_enter Tryd.func17, Tryd.ntmps17
  go_wp2_with (go_at_call 22; refine (appendInt B g cap i h0 h1 hc w hown hBw htab).mono ?_; rintro e w2 ⟨v2, rfl, hr⟩)
  go_wp2
  go_ret
  exact ⟨v2, rfl, hr⟩
end Go.Proofs.YtomldkhafbpniaaDoor
