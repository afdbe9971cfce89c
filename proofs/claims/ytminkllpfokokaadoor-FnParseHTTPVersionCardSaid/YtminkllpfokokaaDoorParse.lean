/-
  What internal/strconv.ParseUint returns for a text of one byte, base 10.
-/
import Derived.Test.YtminkllpfokokaaDoorRows
import Derived.WalkKit
import Derived.ProofKit
import Derived.OpenShut
import Derived.WalkLawsBesides
import Derived.Outline
import Derived.Laws.IdiomStrings
import Derived.Lib.Hide
import Derived.LoopN
namespace Go.Proofs.YtminkllpfokokaaDoor
open Go.RowKit

theorem mx_big : 9 ≤ IntKind.u64.wrap (IntKind.u64.wrap 18446744073709551616 - 1) := by
  rw [IntKind.wrap_u64, IntKind.wrap_u64]; omega
theorem or_bd (a b : Int) : 0 ≤ bits BinOp.or IntKind.u8 a b ∧ bits BinOp.or IntKind.u8 a b ≤ 255 := by
  show 0 ≤ IntKind.u8.wrap _ ∧ IntKind.u8.wrap _ ≤ 255
  rw [IntKind.wrap_u8]
  omega
theorem row_cell (w : World) (c : UInt8) (k : Nat) (m : Nat × Nat) : ((w.alloc (.cells (bytesRow ⟨#[c]⟩ k) 5 m)).drew).cell? ⟨w.heap.size, 0, none⟩ = some (.int .u8 (c.toNat : Int)) := by
  rw [World.cell?_drew, World.cell?_alloc_mark]
  unfold bytesRow
  rw [Array.getElem?_append_left (by simp)]
  simp

set_option maxRecDepth 100000 in
theorem one_digit (c : UInt8) (w : World) (h0 : 48 ≤ (c.toNat : Int)) (h9 : (c.toNat : Int) ≤ 57) :
    Calls Tryd.prog 16 #[.string ⟨#[c]⟩, .int .i64 10, .int .i64 0] w fun e w' => e = .returned (.tuple #[.int .u64 ((c.toNat : Int) - 48), .nilIface]) ∧ Below w.heap.size w w' := by
  have hcv := fun u => run_bytes_of_string (P := Tryd.prog) u 9 30 5 ⟨#[c]⟩ Tryd.underlying9 Tryd.underlying30 Tryd.underlying5
  go_enter Tryd.func16, Tryd.ntmps16
  go_wp2
  have hmx := mx_big
  generalize IntKind.u64.wrap (IntKind.u64.wrap 18446744073709551616 - 1) = mx at *
  have hb : Below w.heap.size w ((w.alloc (Obj.cells (bytesRow { data := #[c] } (grownCap w 1 0 5)) 5 ((bytesRow { data := #[c] } (grownCap w 1 0 5)).size, (bytesRow { data := #[c] } (grownCap w 1 0 5)).size + 1))).drew) := ((Below.refl _ _).alloc (Nat.le_refl _) _).drew
  have hc := row_cell w c (grownCap w 1 0 5) ((bytesRow { data := #[c] } (grownCap w 1 0 5)).size, (bytesRow { data := #[c] } (grownCap w 1 0 5)).size + 1)
  clear hcv
  generalize ((w.alloc (Obj.cells (bytesRow { data := #[c] } (grownCap w 1 0 5)) 5 ((bytesRow { data := #[c] } (grownCap w 1 0 5)).size, (bytesRow { data := #[c] } (grownCap w 1 0 5)).size + 1))).drew) = w1 at *
  refine wp_loop_rounds 2 ?_
  rw [rounds_succ]
  go_wp2
  rw [rounds_succ]
  go_wp2
  go_ret2
  exact ⟨rfl, hb⟩

set_option maxRecDepth 100000 in
theorem one_other (c : UInt8) (w : World) (hc0 : (c.toNat : Int) < 48 ∨ 57 < (c.toNat : Int)) :
    Calls Tryd.prog 16 #[.string ⟨#[c]⟩, .int .i64 10, .int .i64 0] w fun e w' => e = .returned (.tuple #[.int .u64 0, .iface 38 (.int .i64 2)]) ∧ Below w.heap.size w w' := by
  have hcv := fun u => run_bytes_of_string (P := Tryd.prog) u 9 30 5 ⟨#[c]⟩ Tryd.underlying9 Tryd.underlying30 Tryd.underlying5
  go_enter Tryd.func16, Tryd.ntmps16
  go_wp2
  have hmx := mx_big
  generalize IntKind.u64.wrap (IntKind.u64.wrap 18446744073709551616 - 1) = mx at *
  have hb : Below w.heap.size w ((w.alloc (Obj.cells (bytesRow { data := #[c] } (grownCap w 1 0 5)) 5 ((bytesRow { data := #[c] } (grownCap w 1 0 5)).size, (bytesRow { data := #[c] } (grownCap w 1 0 5)).size + 1))).drew) := ((Below.refl _ _).alloc (Nat.le_refl _) _).drew
  have hc := row_cell w c (grownCap w 1 0 5) ((bytesRow { data := #[c] } (grownCap w 1 0 5)).size, (bytesRow { data := #[c] } (grownCap w 1 0 5)).size + 1)
  clear hcv
  generalize ((w.alloc (Obj.cells (bytesRow { data := #[c] } (grownCap w 1 0 5)) 5 ((bytesRow { data := #[c] } (grownCap w 1 0 5)).size, (bytesRow { data := #[c] } (grownCap w 1 0 5)).size + 1))).drew) = w1 at *
  have hL := or_bd (c.toNat : Int) 32
  refine wp_loop_rounds 2 ?_
  rw [rounds_succ]
  go_wp2
  all_goals go_ret2
  all_goals exact ⟨rfl, hb⟩
end Go.Proofs.YtminkllpfokokaaDoor
