/-
  What laws.blank returns: as many spaces as there are bytes. Condition: at most 2 to the 47 bytes.
-/
import Derived.Test.YtdjnlfchdfhbhaaByt
namespace Go.Proofs.Ytdjnlfchdfhbhaa
open Go.RowKit

/-- the space that a byte tells -/
def spOf (x : UInt8) : UInt8 := [32, 9, 10, 13].getD (x.toNat % 4) 32
theorem spOf_sp (x : UInt8) : sp (spOf x) = true := by
  unfold spOf
  have h : x.toNat % 4 = 0 ∨ x.toNat % 4 = 1 ∨ x.toNat % 4 = 2 ∨ x.toNat % 4 = 3 := by omega
  rcases h with h | h | h | h <;> rw [h] <;> decide
def blanks (l : List UInt8) : List UInt8 := l.map spOf
theorem blanks_sp (l : List UInt8) : allSp (blanks l) := by
  intro c hc
  simp only [blanks, List.mem_map] at hc
  obtain ⟨x, _, rfl⟩ := hc
  exact spOf_sp x
theorem blanks_length (l : List UInt8) : (blanks l).length = l.length := by simp [blanks]
theorem take_snoc (l : List UInt8) (k : Nat) (h : k < l.length) : blanks (l.take k) ++ [spOf l[k]] = blanks (l.take (k + 1)) := by
  unfold blanks
  rw [List.take_succ_eq_append_getElem h, List.map_append]
  rfl
theorem idx0 (u : World) : (Instr.index 9 (.string ⟨#[32, 9, 10, 13]⟩) (.int .u8 0)).run Try.prog u = .ok (.int .u8 32) u := by kernel_rfl
theorem idx1 (u : World) : (Instr.index 9 (.string ⟨#[32, 9, 10, 13]⟩) (.int .u8 1)).run Try.prog u = .ok (.int .u8 9) u := by kernel_rfl
theorem idx2 (u : World) : (Instr.index 9 (.string ⟨#[32, 9, 10, 13]⟩) (.int .u8 2)).run Try.prog u = .ok (.int .u8 10) u := by kernel_rfl
theorem idx3 (u : World) : (Instr.index 9 (.string ⟨#[32, 9, 10, 13]⟩) (.int .u8 3)).run Try.prog u = .ok (.int .u8 13) u := by kernel_rfl
theorem idx_sp (x : UInt8) (r : Int) (hr : r = (x.toNat : Int) % 4) (u : World) : (Instr.index 9 (.string ⟨#[32, 9, 10, 13]⟩) (.int .u8 r)).run Try.prog u = .ok (.int .u8 ((spOf x).toNat : Int)) u := by
  have h : x.toNat % 4 = 0 ∨ x.toNat % 4 = 1 ∨ x.toNat % 4 = 2 ∨ x.toNat % 4 = 3 := by omega
  unfold spOf
  rcases h with h | h | h | h
  · obtain rfl : r = 0 := by omega
    rw [h]
    exact idx0 u
  · obtain rfl : r = 1 := by omega
    rw [h]
    exact idx1 u
  · obtain rfl : r = 2 := by omega
    rw [h]
    exact idx2 u
  · obtain rfl : r = 3 := by omega
    rw [h]
    exact idx3 u

set_option maxHeartbeats 400000 in
theorem blank_any (a : Option Addr) (n c : Nat) (l : List UInt8) (w : World) (h : BS w a n l) (hn : n ≤ 140737488351232) :
    Calls Try.prog 14 #[.slice a n c] w fun e w' => e = .returned (.string ⟨(blanks l).toArray⟩) ∧ Below w.heap.size w w' := by
  obtain ⟨i0, hi0, hz0, hz1, hz2⟩ := info_parts Try.info5
  have ho : (w.alloc (.cells #[] 5)).ownsRow w.heap.size 5 1 (.slice (some ⟨w.heap.size, 0, none⟩) 0 0) 0 (bvs []) := own_new w 5 [] _ (Nat.le_refl _) (by decide)
  have HLEN := Lib.hid h.1
  go_enter Try.func14, Try.ntmps14
  go_wp2
  go_loopw [3, 5, 9] (fun v _ i wr => ∃ k : Nat, k ≤ n ∧ i = .int .i64 (k : Int) ∧ (∃ a' c', v = .slice a' k c' ∧ wr.ownsRow w.heap.size 5 1 (.slice a' k c') k (bvs (blanks (l.take k)))) ∧ Below w.heap.size w wr) (fun _ _ i _ => n - (intOf i).toNat)
  case atStart => exact ⟨0, by omega, rfl, ⟨_, _, rfl, ho⟩, (Below.refl _ _).alloc (Nat.le_refl _) _⟩
  case round =>
    clear ho
    obtain ⟨k, hk, rfl, ⟨a', c', rfl, hown⟩, hb⟩ := hrel
    have hl := h.below hb
    have hsz := hb.size
    by_cases hlt : k < n
    · have hkl : k < l.length := by rw [HLEN.out]; exact hlt
      obtain ⟨b, off, rfl, hbl, hcell⟩ := hl.open_ (by omega)
      have hce := hcell k hlt
      rw [bt_of hkl] at hce
      have ix := fun r (hr : r = (l[k].toNat : Int) % 4) u => idx_sp l[k] r hr u
      have hx0 : (l[k].toNat : Int) ≤ 255 := by have := l[k].toNat_lt; omega
      have hone := BS.one wr 5 (spOf l[k]) ((spOf l[k]).toNat : Int) rfl
      generalize hX : l[k] = X at *
      have HX := Lib.hid hX
      have ix1 := fun u => ix ((X.toNat : Int) % 4) rfl u
      clear hcell hX ix
      go_wp2_with (at_builtin; refine wpList_append_bs _ rfl (.tmp 13) (.tmp 17) 25 rfl w.heap.size 5 i0 (.int .u8 0) Try.underlying25 hi0 hz0 hz1 hz2 rfl _ k _ rfl (hown.alloc _) _ 1 1 [spOf X] rfl hone (by omega) (by simp; omega) ?_; intro a2 c2 w2 ho2 hs2 hc2 hm2 hb2)
      go_roundw
      case rel => exact ⟨k + 1, by omega, by go_num, ⟨a2, c2, rfl, by rw [← take_snoc _ _ hkl, HX.out]; exact ho2⟩, (hb.alloc hb.size _).trans hb2⟩
      case measure => simp [intOf]; omega
    · obtain rfl : k = n := by omega
      obtain ⟨a2, c2, hv, hs2, hc2, _⟩ := BS.of_own hown
      injection hv with e1 _ e3
      subst e1 e3
      rw [List.take_of_length_le (by rw [HLEN.out]; exact Nat.le_refl _)] at hs2
      have ec := run_string_bs (P := Try.prog) 25 9 5 Try.underlying25 Try.underlying5 Try.underlying9 c' hs2
      go_wp2
      go_ret
      exact ⟨rfl, hb⟩
end Go.Proofs.Ytdjnlfchdfhbhaa
