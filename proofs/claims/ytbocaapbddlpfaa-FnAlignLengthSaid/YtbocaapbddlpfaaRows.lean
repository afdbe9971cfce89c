/-
  No cell of these rows narrows 'for every input' (looked for: loops, veiled, ifaces, maps, wideKeys, modest, calm, conditions, laid).
  DERIVED. THE GIVEN ROWS OF THIS SEAT. 8 by the template 'for every input the law returns true; each argument reads behind the call as it read before'; 0 by the template 'total and deterministic' (their statements: YtbocaapbddlpfaaTotals.lean).
  GIVEN WITH THE SEED: the statements are not yours to turn. If you find one false, say at which input.
  Laid BY PROGRAM, IN A SANDBOX (cutbox-rows.mjs): the forced cells as the released guide's own fill.sh prints them over the translation 0e3438da42c113cc… (all of the seat's roots in one cut). By AI agents, Wed Nov 11 2026. No macro, syntax, notation, axiom, sorry.
-/
import Derived.Test.YtbocaapbddlpfaaChecked
import GoSem.Claim
import GoSem.ClaimJoined
import GoSem.ClaimMapViews
import Derived.JoinedTies
import Derived.KernelRfl
namespace Go.Proofs.Ytbocaapbddlpfaa
/- THE CELL 'sum', in the pinned program and in every row, IS THE sha256 OF THE DUMP (.gsa) THAT YtbocaapbddlpfaaProg.lean LOADS. Nothing in Lean hashes anything: it is a label: what it is worth is what the hold of that sum in a sandbox is worth. -/
noncomputable def Try.pinned : Pinned := { name := "ytbocaapbddlpfaa", sum := "0e3438da42c113ccb0cf767007fe1ae44b05f841ddabef073e8eeee654088522", checked := Try.checked }
namespace Rows
def none {H : Type} : Left H := { results := [], args := [] }

/-- 'laws.FnBitAt': WHATEVER THE INPUT: true; the input reads as it did. -/
def fnBitAtSpec : ChangeSpec := { name := "fnBitAt", fn := fun _ => fun
  | [d1, d2, d3] => { results := [.lit (.bool true)], args := [d1, d2, d3] }
  | _ => none }
def fnBitAtRow : OpenClaim := { program := "ytbocaapbddlpfaa", sum := "0e3438da42c113ccb0cf767007fe1ae44b05f841ddabef073e8eeee654088522", func := "loop.example/lib-g03233/laws.FnBitAt", spec := "fnBitAt", apart := false }
def FnBitAtSaid : Prop := fnBitAtRow.holds Try.pinned (OpenSpec.ofChange fnBitAtSpec)

/-- ITS FALSE NEIGHBOUR: 'it returns false'. Refute it at one input. -/
def fnBitAtWrong : ChangeSpec := { name := "fnBitAt", fn := fun _ => fun
  | [d1, d2, d3] => { results := [.lit (.bool false)], args := [d1, d2, d3] }
  | _ => none }
def FnBitAtWrongFalsely : Prop := fnBitAtRow.holds Try.pinned (OpenSpec.ofChange fnBitAtWrong)

/-- 'laws.FnBitInside': WHATEVER THE INPUT: true; the input reads as it did. -/
def fnBitInsideSpec : ChangeSpec := { name := "fnBitInside", fn := fun _ => fun
  | [d1, d2, d3] => { results := [.lit (.bool true)], args := [d1, d2, d3] }
  | _ => none }
def fnBitInsideRow : OpenClaim := { program := "ytbocaapbddlpfaa", sum := "0e3438da42c113ccb0cf767007fe1ae44b05f841ddabef073e8eeee654088522", func := "loop.example/lib-g03233/laws.FnBitInside", spec := "fnBitInside", apart := false }
def FnBitInsideSaid : Prop := fnBitInsideRow.holds Try.pinned (OpenSpec.ofChange fnBitInsideSpec)

/-- ITS FALSE NEIGHBOUR: 'it returns false'. Refute it at one input. -/
def fnBitInsideWrong : ChangeSpec := { name := "fnBitInside", fn := fun _ => fun
  | [d1, d2, d3] => { results := [.lit (.bool false)], args := [d1, d2, d3] }
  | _ => none }
def FnBitInsideWrongFalsely : Prop := fnBitInsideRow.holds Try.pinned (OpenSpec.ofChange fnBitInsideWrong)

/-- 'laws.FnBitOutside': WHATEVER THE INPUT: true; the input reads as it did. -/
def fnBitOutsideSpec : ChangeSpec := { name := "fnBitOutside", fn := fun _ => fun
  | [d1, d2, d3] => { results := [.lit (.bool true)], args := [d1, d2, d3] }
  | _ => none }
def fnBitOutsideRow : OpenClaim := { program := "ytbocaapbddlpfaa", sum := "0e3438da42c113ccb0cf767007fe1ae44b05f841ddabef073e8eeee654088522", func := "loop.example/lib-g03233/laws.FnBitOutside", spec := "fnBitOutside", apart := false }
def FnBitOutsideSaid : Prop := fnBitOutsideRow.holds Try.pinned (OpenSpec.ofChange fnBitOutsideSpec)

/-- ITS FALSE NEIGHBOUR: 'it returns false'. Refute it at one input. -/
def fnBitOutsideWrong : ChangeSpec := { name := "fnBitOutside", fn := fun _ => fun
  | [d1, d2, d3] => { results := [.lit (.bool false)], args := [d1, d2, d3] }
  | _ => none }
def FnBitOutsideWrongFalsely : Prop := fnBitOutsideRow.holds Try.pinned (OpenSpec.ofChange fnBitOutsideWrong)

/-- 'laws.FnBitsMakeByte': WHATEVER THE INPUT: true; the input reads as it did. -/
def fnBitsMakeByteSpec : ChangeSpec := { name := "fnBitsMakeByte", fn := fun _ => fun
  | [d1, d2] => { results := [.lit (.bool true)], args := [d1, d2] }
  | _ => none }
def fnBitsMakeByteRow : OpenClaim := { program := "ytbocaapbddlpfaa", sum := "0e3438da42c113ccb0cf767007fe1ae44b05f841ddabef073e8eeee654088522", func := "loop.example/lib-g03233/laws.FnBitsMakeByte", spec := "fnBitsMakeByte", apart := false }
def FnBitsMakeByteSaid : Prop := fnBitsMakeByteRow.holds Try.pinned (OpenSpec.ofChange fnBitsMakeByteSpec)

/-- ITS FALSE NEIGHBOUR: 'it returns false'. Refute it at one input. -/
def fnBitsMakeByteWrong : ChangeSpec := { name := "fnBitsMakeByte", fn := fun _ => fun
  | [d1, d2] => { results := [.lit (.bool false)], args := [d1, d2] }
  | _ => none }
def FnBitsMakeByteWrongFalsely : Prop := fnBitsMakeByteRow.holds Try.pinned (OpenSpec.ofChange fnBitsMakeByteWrong)

/-- 'laws.FnAlignLength': WHATEVER THE INPUT: true; the input reads as it did. -/
def fnAlignLengthSpec : ChangeSpec := { name := "fnAlignLength", fn := fun _ => fun
  | [d1, d2] => { results := [.lit (.bool true)], args := [d1, d2] }
  | _ => none }
def fnAlignLengthRow : OpenClaim := { program := "ytbocaapbddlpfaa", sum := "0e3438da42c113ccb0cf767007fe1ae44b05f841ddabef073e8eeee654088522", func := "loop.example/lib-g03233/laws.FnAlignLength", spec := "fnAlignLength", apart := false }
def FnAlignLengthSaid : Prop := fnAlignLengthRow.holds Try.pinned (OpenSpec.ofChange fnAlignLengthSpec)

/-- ITS FALSE NEIGHBOUR: 'it returns false'. Refute it at one input. -/
def fnAlignLengthWrong : ChangeSpec := { name := "fnAlignLength", fn := fun _ => fun
  | [d1, d2] => { results := [.lit (.bool false)], args := [d1, d2] }
  | _ => none }
def FnAlignLengthWrongFalsely : Prop := fnAlignLengthRow.holds Try.pinned (OpenSpec.ofChange fnAlignLengthWrong)

/-- 'laws.FnAlignNext': WHATEVER THE INPUT: true; the input reads as it did. -/
def fnAlignNextSpec : ChangeSpec := { name := "fnAlignNext", fn := fun _ => fun
  | [d1, d2] => { results := [.lit (.bool true)], args := [d1, d2] }
  | _ => none }
def fnAlignNextRow : OpenClaim := { program := "ytbocaapbddlpfaa", sum := "0e3438da42c113ccb0cf767007fe1ae44b05f841ddabef073e8eeee654088522", func := "loop.example/lib-g03233/laws.FnAlignNext", spec := "fnAlignNext", apart := false }
def FnAlignNextSaid : Prop := fnAlignNextRow.holds Try.pinned (OpenSpec.ofChange fnAlignNextSpec)

/-- ITS FALSE NEIGHBOUR: 'it returns false'. Refute it at one input. -/
def fnAlignNextWrong : ChangeSpec := { name := "fnAlignNext", fn := fun _ => fun
  | [d1, d2] => { results := [.lit (.bool false)], args := [d1, d2] }
  | _ => none }
def FnAlignNextWrongFalsely : Prop := fnAlignNextRow.holds Try.pinned (OpenSpec.ofChange fnAlignNextWrong)

/-- 'laws.FnRightAlign': WHATEVER THE INPUT: true; the input reads as it did. -/
def fnRightAlignSpec : ChangeSpec := { name := "fnRightAlign", fn := fun _ => fun
  | [d1, d2] => { results := [.lit (.bool true)], args := [d1, d2] }
  | _ => none }
def fnRightAlignRow : OpenClaim := { program := "ytbocaapbddlpfaa", sum := "0e3438da42c113ccb0cf767007fe1ae44b05f841ddabef073e8eeee654088522", func := "loop.example/lib-g03233/laws.FnRightAlign", spec := "fnRightAlign", apart := false }
def FnRightAlignSaid : Prop := fnRightAlignRow.holds Try.pinned (OpenSpec.ofChange fnRightAlignSpec)

/-- ITS FALSE NEIGHBOUR: 'it returns false'. Refute it at one input. -/
def fnRightAlignWrong : ChangeSpec := { name := "fnRightAlign", fn := fun _ => fun
  | [d1, d2] => { results := [.lit (.bool false)], args := [d1, d2] }
  | _ => none }
def FnRightAlignWrongFalsely : Prop := fnRightAlignRow.holds Try.pinned (OpenSpec.ofChange fnRightAlignWrong)

/-- 'laws.FnAlignBits': WHATEVER THE INPUT: true; the input reads as it did. -/
def fnAlignBitsSpec : ChangeSpec := { name := "fnAlignBits", fn := fun _ => fun
  | [d1, d2] => { results := [.lit (.bool true)], args := [d1, d2] }
  | _ => none }
def fnAlignBitsRow : OpenClaim := { program := "ytbocaapbddlpfaa", sum := "0e3438da42c113ccb0cf767007fe1ae44b05f841ddabef073e8eeee654088522", func := "loop.example/lib-g03233/laws.FnAlignBits", spec := "fnAlignBits", apart := false }
def FnAlignBitsSaid : Prop := fnAlignBitsRow.holds Try.pinned (OpenSpec.ofChange fnAlignBitsSpec)

/-- ITS FALSE NEIGHBOUR: 'it returns false'. Refute it at one input. -/
def fnAlignBitsWrong : ChangeSpec := { name := "fnAlignBits", fn := fun _ => fun
  | [d1, d2] => { results := [.lit (.bool false)], args := [d1, d2] }
  | _ => none }
def FnAlignBitsWrongFalsely : Prop := fnAlignBitsRow.holds Try.pinned (OpenSpec.ofChange fnAlignBitsWrong)

/- THE SECOND FORM. 'bulk': how many values and letters a reading holds, each counted each time it is reached (what is shared counts as often as it is met; a slice's spare places count too). A statement '..UptoSaid' is the law's where the arguments, and the package variables that the reading takes, are together of bulk at most 1048576: NARROWER than '..Said'. Prove '..Said' where nothing that the law and all that it calls make is longer than what came in: it says more and counts as full. Else prove '..UptoSaid'. A law counts once. -/
mutual
def uptoBulk {H : Type} : DataW H → Nat
  | .lit (.string bytes) => bytes.length + 1
  | .lit _ => 1
  | .nil => 1
  | .ptr d => uptoBulk d + 1
  | .slice elems spare => uptoBulkAll elems + uptoBulkAll spare + 1
  | .agg parts => uptoBulkAll parts + 1
  | .iface _ d => uptoBulk d + 1
  | .map entries => uptoBulkEntries entries + 1
  | .held _ => 1
def uptoBulkAll {H : Type} : List (DataW H) → Nat
  | [] => 0
  | d :: r => uptoBulk d + uptoBulkAll r
def uptoBulkEntries {H : Type} : List (Lit × DataW H) → Nat
  | [] => 0
  | x :: r => uptoBulkEntry x + uptoBulkEntries r
def uptoBulkEntry {H : Type} : Lit × DataW H → Nat
  | (.string bytes, d) => bytes.length + uptoBulk d + 1
  | (_, d) => uptoBulk d + 1
 end
def uptoSmall : (H : Type) → List (DataW H) → Bool := fun _ ds => decide (uptoBulkAll ds ≤ 1048576)
def OpenSpec.upto (s : _root_.Go.ChangeSpec) : _root_.Go.OpenSpec := { _root_.Go.OpenSpec.ofChange s with cond := some uptoSmall }

/-- 'laws.FnBitAt', WHERE WHAT IT READS IS OF BULK AT MOST 1048576: true; the input reads as it did. -/
def fnBitAtUptoRow : OpenClaim := { program := "ytbocaapbddlpfaa", sum := "0e3438da42c113ccb0cf767007fe1ae44b05f841ddabef073e8eeee654088522", func := "loop.example/lib-g03233/laws.FnBitAt", spec := "fnBitAt", apart := false, narrowed := true }
def FnBitAtUptoSaid : Prop := fnBitAtUptoRow.holds Try.pinned (OpenSpec.upto fnBitAtSpec)

/-- 'laws.FnBitInside', WHERE WHAT IT READS IS OF BULK AT MOST 1048576: true; the input reads as it did. -/
def fnBitInsideUptoRow : OpenClaim := { program := "ytbocaapbddlpfaa", sum := "0e3438da42c113ccb0cf767007fe1ae44b05f841ddabef073e8eeee654088522", func := "loop.example/lib-g03233/laws.FnBitInside", spec := "fnBitInside", apart := false, narrowed := true }
def FnBitInsideUptoSaid : Prop := fnBitInsideUptoRow.holds Try.pinned (OpenSpec.upto fnBitInsideSpec)

/-- 'laws.FnBitOutside', WHERE WHAT IT READS IS OF BULK AT MOST 1048576: true; the input reads as it did. -/
def fnBitOutsideUptoRow : OpenClaim := { program := "ytbocaapbddlpfaa", sum := "0e3438da42c113ccb0cf767007fe1ae44b05f841ddabef073e8eeee654088522", func := "loop.example/lib-g03233/laws.FnBitOutside", spec := "fnBitOutside", apart := false, narrowed := true }
def FnBitOutsideUptoSaid : Prop := fnBitOutsideUptoRow.holds Try.pinned (OpenSpec.upto fnBitOutsideSpec)

/-- 'laws.FnBitsMakeByte', WHERE WHAT IT READS IS OF BULK AT MOST 1048576: true; the input reads as it did. -/
def fnBitsMakeByteUptoRow : OpenClaim := { program := "ytbocaapbddlpfaa", sum := "0e3438da42c113ccb0cf767007fe1ae44b05f841ddabef073e8eeee654088522", func := "loop.example/lib-g03233/laws.FnBitsMakeByte", spec := "fnBitsMakeByte", apart := false, narrowed := true }
def FnBitsMakeByteUptoSaid : Prop := fnBitsMakeByteUptoRow.holds Try.pinned (OpenSpec.upto fnBitsMakeByteSpec)

/-- 'laws.FnAlignLength', WHERE WHAT IT READS IS OF BULK AT MOST 1048576: true; the input reads as it did. -/
def fnAlignLengthUptoRow : OpenClaim := { program := "ytbocaapbddlpfaa", sum := "0e3438da42c113ccb0cf767007fe1ae44b05f841ddabef073e8eeee654088522", func := "loop.example/lib-g03233/laws.FnAlignLength", spec := "fnAlignLength", apart := false, narrowed := true }
def FnAlignLengthUptoSaid : Prop := fnAlignLengthUptoRow.holds Try.pinned (OpenSpec.upto fnAlignLengthSpec)

/-- 'laws.FnAlignNext', WHERE WHAT IT READS IS OF BULK AT MOST 1048576: true; the input reads as it did. -/
def fnAlignNextUptoRow : OpenClaim := { program := "ytbocaapbddlpfaa", sum := "0e3438da42c113ccb0cf767007fe1ae44b05f841ddabef073e8eeee654088522", func := "loop.example/lib-g03233/laws.FnAlignNext", spec := "fnAlignNext", apart := false, narrowed := true }
def FnAlignNextUptoSaid : Prop := fnAlignNextUptoRow.holds Try.pinned (OpenSpec.upto fnAlignNextSpec)

/-- 'laws.FnRightAlign', WHERE WHAT IT READS IS OF BULK AT MOST 1048576: true; the input reads as it did. -/
def fnRightAlignUptoRow : OpenClaim := { program := "ytbocaapbddlpfaa", sum := "0e3438da42c113ccb0cf767007fe1ae44b05f841ddabef073e8eeee654088522", func := "loop.example/lib-g03233/laws.FnRightAlign", spec := "fnRightAlign", apart := false, narrowed := true }
def FnRightAlignUptoSaid : Prop := fnRightAlignUptoRow.holds Try.pinned (OpenSpec.upto fnRightAlignSpec)

/-- 'laws.FnAlignBits', WHERE WHAT IT READS IS OF BULK AT MOST 1048576: true; the input reads as it did. -/
def fnAlignBitsUptoRow : OpenClaim := { program := "ytbocaapbddlpfaa", sum := "0e3438da42c113ccb0cf767007fe1ae44b05f841ddabef073e8eeee654088522", func := "loop.example/lib-g03233/laws.FnAlignBits", spec := "fnAlignBits", apart := false, narrowed := true }
def FnAlignBitsUptoSaid : Prop := fnAlignBitsUptoRow.holds Try.pinned (OpenSpec.upto fnAlignBitsSpec)

end Rows
end Go.Proofs.Ytbocaapbddlpfaa
