/-
  No cell of these rows narrows 'for every input' (looked for: loops, veiled, ifaces, maps, wideKeys, modest, calm, conditions, laid).
  DERIVED. THE GIVEN ROWS OF THIS SEAT. 7 by the template 'for every input the law returns true; each argument reads behind the call as it read before'; 0 by the template 'total and deterministic' (their statements: YtdjnlfchdfhbhaaTotals.lean).
  GIVEN WITH THE SEED: the statements are not yours to turn. If you find one false, say at which input.
  Laid BY PROGRAM, IN A SANDBOX (cutbox-rows.mjs): the forced cells as the released guide's own fill.sh prints them over the translation 93878edf957c945b… (all of the seat's roots in one cut). By AI agents, Wed Nov 11 2026. No macro, syntax, notation, axiom, sorry.
-/
import Derived.Test.YtdjnlfchdfhbhaaChecked
import GoSem.Claim
import GoSem.ClaimJoined
import GoSem.ClaimMapViews
import Derived.JoinedTies
import Derived.KernelRfl
namespace Go.Proofs.Ytdjnlfchdfhbhaa
/- THE CELL 'sum', in the pinned program and in every row, IS THE sha256 OF THE DUMP (.gsa) THAT YtdjnlfchdfhbhaaProg.lean LOADS. Nothing in Lean hashes anything: it is a label: what it is worth is what the hold of that sum in a sandbox is worth. -/
noncomputable def Try.pinned : Pinned := { name := "ytdjnlfchdfhbhaa", sum := "93878edf957c945baac10815e7d34c09db4d48302792c64e05014fa747f60abd", checked := Try.checked }
namespace Rows
def none {H : Type} : Left H := { results := [], args := [] }

/-- 'laws.FnTrimAgain': WHATEVER THE INPUT: true; the input reads as it did. -/
def fnTrimAgainSpec : ChangeSpec := { name := "fnTrimAgain", fn := fun _ => fun
  | [d] => { results := [.lit (.bool true)], args := [d] }
  | _ => none }
def fnTrimAgainRow : OpenClaim := { program := "ytdjnlfchdfhbhaa", sum := "93878edf957c945baac10815e7d34c09db4d48302792c64e05014fa747f60abd", func := "loop.example/lib-g03233/laws.FnTrimAgain", spec := "fnTrimAgain", apart := false }
def FnTrimAgainSaid : Prop := fnTrimAgainRow.holds Try.pinned (OpenSpec.ofChange fnTrimAgainSpec)

/-- ITS FALSE NEIGHBOUR: 'it returns false'. Refute it at one input. -/
def fnTrimAgainWrong : ChangeSpec := { name := "fnTrimAgain", fn := fun _ => fun
  | [d] => { results := [.lit (.bool false)], args := [d] }
  | _ => none }
def FnTrimAgainWrongFalsely : Prop := fnTrimAgainRow.holds Try.pinned (OpenSpec.ofChange fnTrimAgainWrong)

/-- 'laws.FnTrimBytes': WHATEVER THE INPUT: true; the input reads as it did. -/
def fnTrimBytesSpec : ChangeSpec := { name := "fnTrimBytes", fn := fun _ => fun
  | [d] => { results := [.lit (.bool true)], args := [d] }
  | _ => none }
def fnTrimBytesRow : OpenClaim := { program := "ytdjnlfchdfhbhaa", sum := "93878edf957c945baac10815e7d34c09db4d48302792c64e05014fa747f60abd", func := "loop.example/lib-g03233/laws.FnTrimBytes", spec := "fnTrimBytes", apart := false }
def FnTrimBytesSaid : Prop := fnTrimBytesRow.holds Try.pinned (OpenSpec.ofChange fnTrimBytesSpec)

/-- ITS FALSE NEIGHBOUR: 'it returns false'. Refute it at one input. -/
def fnTrimBytesWrong : ChangeSpec := { name := "fnTrimBytes", fn := fun _ => fun
  | [d] => { results := [.lit (.bool false)], args := [d] }
  | _ => none }
def FnTrimBytesWrongFalsely : Prop := fnTrimBytesRow.holds Try.pinned (OpenSpec.ofChange fnTrimBytesWrong)

/-- 'laws.FnTrimParts': WHATEVER THE INPUT: true; the input reads as it did. -/
def fnTrimPartsSpec : ChangeSpec := { name := "fnTrimParts", fn := fun _ => fun
  | [d] => { results := [.lit (.bool true)], args := [d] }
  | _ => none }
def fnTrimPartsRow : OpenClaim := { program := "ytdjnlfchdfhbhaa", sum := "93878edf957c945baac10815e7d34c09db4d48302792c64e05014fa747f60abd", func := "loop.example/lib-g03233/laws.FnTrimParts", spec := "fnTrimParts", apart := false }
def FnTrimPartsSaid : Prop := fnTrimPartsRow.holds Try.pinned (OpenSpec.ofChange fnTrimPartsSpec)

/-- ITS FALSE NEIGHBOUR: 'it returns false'. Refute it at one input. -/
def fnTrimPartsWrong : ChangeSpec := { name := "fnTrimParts", fn := fun _ => fun
  | [d] => { results := [.lit (.bool false)], args := [d] }
  | _ => none }
def FnTrimPartsWrongFalsely : Prop := fnTrimPartsRow.holds Try.pinned (OpenSpec.ofChange fnTrimPartsWrong)

/-- 'laws.FnTrimString': WHATEVER THE INPUT: true; the input reads as it did. -/
def fnTrimStringSpec : ChangeSpec := { name := "fnTrimString", fn := fun _ => fun
  | [d] => { results := [.lit (.bool true)], args := [d] }
  | _ => none }
def fnTrimStringRow : OpenClaim := { program := "ytdjnlfchdfhbhaa", sum := "93878edf957c945baac10815e7d34c09db4d48302792c64e05014fa747f60abd", func := "loop.example/lib-g03233/laws.FnTrimString", spec := "fnTrimString", apart := false }
def FnTrimStringSaid : Prop := fnTrimStringRow.holds Try.pinned (OpenSpec.ofChange fnTrimStringSpec)

/-- ITS FALSE NEIGHBOUR: 'it returns false'. Refute it at one input. -/
def fnTrimStringWrong : ChangeSpec := { name := "fnTrimString", fn := fun _ => fun
  | [d] => { results := [.lit (.bool false)], args := [d] }
  | _ => none }
def FnTrimStringWrongFalsely : Prop := fnTrimStringRow.holds Try.pinned (OpenSpec.ofChange fnTrimStringWrong)

/-- 'laws.FnTrimBoth': WHATEVER THE INPUT: true; the input reads as it did. -/
def fnTrimBothSpec : ChangeSpec := { name := "fnTrimBoth", fn := fun _ => fun
  | [d] => { results := [.lit (.bool true)], args := [d] }
  | _ => none }
def fnTrimBothRow : OpenClaim := { program := "ytdjnlfchdfhbhaa", sum := "93878edf957c945baac10815e7d34c09db4d48302792c64e05014fa747f60abd", func := "loop.example/lib-g03233/laws.FnTrimBoth", spec := "fnTrimBoth", apart := false }
def FnTrimBothSaid : Prop := fnTrimBothRow.holds Try.pinned (OpenSpec.ofChange fnTrimBothSpec)

/-- ITS FALSE NEIGHBOUR: 'it returns false'. Refute it at one input. -/
def fnTrimBothWrong : ChangeSpec := { name := "fnTrimBoth", fn := fun _ => fun
  | [d] => { results := [.lit (.bool false)], args := [d] }
  | _ => none }
def FnTrimBothWrongFalsely : Prop := fnTrimBothRow.holds Try.pinned (OpenSpec.ofChange fnTrimBothWrong)

/-- 'laws.FnTrimInner': WHATEVER THE INPUT: true; the input reads as it did. -/
def fnTrimInnerSpec : ChangeSpec := { name := "fnTrimInner", fn := fun _ => fun
  | [d1, d2, d3] => { results := [.lit (.bool true)], args := [d1, d2, d3] }
  | _ => none }
def fnTrimInnerRow : OpenClaim := { program := "ytdjnlfchdfhbhaa", sum := "93878edf957c945baac10815e7d34c09db4d48302792c64e05014fa747f60abd", func := "loop.example/lib-g03233/laws.FnTrimInner", spec := "fnTrimInner", apart := false }
def FnTrimInnerSaid : Prop := fnTrimInnerRow.holds Try.pinned (OpenSpec.ofChange fnTrimInnerSpec)

/-- ITS FALSE NEIGHBOUR: 'it returns false'. Refute it at one input. -/
def fnTrimInnerWrong : ChangeSpec := { name := "fnTrimInner", fn := fun _ => fun
  | [d1, d2, d3] => { results := [.lit (.bool false)], args := [d1, d2, d3] }
  | _ => none }
def FnTrimInnerWrongFalsely : Prop := fnTrimInnerRow.holds Try.pinned (OpenSpec.ofChange fnTrimInnerWrong)

/-- 'laws.FnTrimPadded': WHATEVER THE INPUT: true; the input reads as it did. -/
def fnTrimPaddedSpec : ChangeSpec := { name := "fnTrimPadded", fn := fun _ => fun
  | [d1, d2, d3] => { results := [.lit (.bool true)], args := [d1, d2, d3] }
  | _ => none }
def fnTrimPaddedRow : OpenClaim := { program := "ytdjnlfchdfhbhaa", sum := "93878edf957c945baac10815e7d34c09db4d48302792c64e05014fa747f60abd", func := "loop.example/lib-g03233/laws.FnTrimPadded", spec := "fnTrimPadded", apart := false }
def FnTrimPaddedSaid : Prop := fnTrimPaddedRow.holds Try.pinned (OpenSpec.ofChange fnTrimPaddedSpec)

/-- ITS FALSE NEIGHBOUR: 'it returns false'. Refute it at one input. -/
def fnTrimPaddedWrong : ChangeSpec := { name := "fnTrimPadded", fn := fun _ => fun
  | [d1, d2, d3] => { results := [.lit (.bool false)], args := [d1, d2, d3] }
  | _ => none }
def FnTrimPaddedWrongFalsely : Prop := fnTrimPaddedRow.holds Try.pinned (OpenSpec.ofChange fnTrimPaddedWrong)

/- THE SECOND FORM. 'bulk': how many values and letters a reading holds, each counted each time it is reached (what is shared counts as often as it is met; a slice's spare places count too). A statement '..UptoSaid' is the law's where the arguments, and the package variables that the reading takes, are together of bulk at most 1048576: NARROWER than '..Said'. Prove '..Said' where nothing that the law and all that it calls make is longer than what came in: it says more and counts as full. Else prove '..UptoSaid'. A law counts once. -/
mutual
def uptoBulk {H : Type} : DataW H → Nat
  | .lit (.string bytes) => bytes.length + 1
  | .lit _ => 1
  | .nil => 1
  | .ptr d => uptoBulk d + 1
  | .slice elems spare => uptoBulkAll elems + uptoBulkAll spare + 1
  | .agg parts => uptoBulkAll parts + 1
  | .iface _ d => uptoBulk d + 1
  | .map entries => uptoBulkEntries entries + 1
  | .held _ => 1
def uptoBulkAll {H : Type} : List (DataW H) → Nat
  | [] => 0
  | d :: r => uptoBulk d + uptoBulkAll r
def uptoBulkEntries {H : Type} : List (Lit × DataW H) → Nat
  | [] => 0
  | x :: r => uptoBulkEntry x + uptoBulkEntries r
def uptoBulkEntry {H : Type} : Lit × DataW H → Nat
  | (.string bytes, d) => bytes.length + uptoBulk d + 1
  | (_, d) => uptoBulk d + 1
 end
def uptoSmall : (H : Type) → List (DataW H) → Bool := fun _ ds => decide (uptoBulkAll ds ≤ 1048576)
def OpenSpec.upto (s : _root_.Go.ChangeSpec) : _root_.Go.OpenSpec := { _root_.Go.OpenSpec.ofChange s with cond := some uptoSmall }

/-- 'laws.FnTrimAgain', WHERE WHAT IT READS IS OF BULK AT MOST 1048576: true; the input reads as it did. -/
def fnTrimAgainUptoRow : OpenClaim := { program := "ytdjnlfchdfhbhaa", sum := "93878edf957c945baac10815e7d34c09db4d48302792c64e05014fa747f60abd", func := "loop.example/lib-g03233/laws.FnTrimAgain", spec := "fnTrimAgain", apart := false, narrowed := true }
def FnTrimAgainUptoSaid : Prop := fnTrimAgainUptoRow.holds Try.pinned (OpenSpec.upto fnTrimAgainSpec)

/-- 'laws.FnTrimBytes', WHERE WHAT IT READS IS OF BULK AT MOST 1048576: true; the input reads as it did. -/
def fnTrimBytesUptoRow : OpenClaim := { program := "ytdjnlfchdfhbhaa", sum := "93878edf957c945baac10815e7d34c09db4d48302792c64e05014fa747f60abd", func := "loop.example/lib-g03233/laws.FnTrimBytes", spec := "fnTrimBytes", apart := false, narrowed := true }
def FnTrimBytesUptoSaid : Prop := fnTrimBytesUptoRow.holds Try.pinned (OpenSpec.upto fnTrimBytesSpec)

/-- 'laws.FnTrimParts', WHERE WHAT IT READS IS OF BULK AT MOST 1048576: true; the input reads as it did. -/
def fnTrimPartsUptoRow : OpenClaim := { program := "ytdjnlfchdfhbhaa", sum := "93878edf957c945baac10815e7d34c09db4d48302792c64e05014fa747f60abd", func := "loop.example/lib-g03233/laws.FnTrimParts", spec := "fnTrimParts", apart := false, narrowed := true }
def FnTrimPartsUptoSaid : Prop := fnTrimPartsUptoRow.holds Try.pinned (OpenSpec.upto fnTrimPartsSpec)

/-- 'laws.FnTrimString', WHERE WHAT IT READS IS OF BULK AT MOST 1048576: true; the input reads as it did. -/
def fnTrimStringUptoRow : OpenClaim := { program := "ytdjnlfchdfhbhaa", sum := "93878edf957c945baac10815e7d34c09db4d48302792c64e05014fa747f60abd", func := "loop.example/lib-g03233/laws.FnTrimString", spec := "fnTrimString", apart := false, narrowed := true }
def FnTrimStringUptoSaid : Prop := fnTrimStringUptoRow.holds Try.pinned (OpenSpec.upto fnTrimStringSpec)

/-- 'laws.FnTrimBoth', WHERE WHAT IT READS IS OF BULK AT MOST 1048576: true; the input reads as it did. -/
def fnTrimBothUptoRow : OpenClaim := { program := "ytdjnlfchdfhbhaa", sum := "93878edf957c945baac10815e7d34c09db4d48302792c64e05014fa747f60abd", func := "loop.example/lib-g03233/laws.FnTrimBoth", spec := "fnTrimBoth", apart := false, narrowed := true }
def FnTrimBothUptoSaid : Prop := fnTrimBothUptoRow.holds Try.pinned (OpenSpec.upto fnTrimBothSpec)

/-- 'laws.FnTrimInner', WHERE WHAT IT READS IS OF BULK AT MOST 1048576: true; the input reads as it did. -/
def fnTrimInnerUptoRow : OpenClaim := { program := "ytdjnlfchdfhbhaa", sum := "93878edf957c945baac10815e7d34c09db4d48302792c64e05014fa747f60abd", func := "loop.example/lib-g03233/laws.FnTrimInner", spec := "fnTrimInner", apart := false, narrowed := true }
def FnTrimInnerUptoSaid : Prop := fnTrimInnerUptoRow.holds Try.pinned (OpenSpec.upto fnTrimInnerSpec)

/-- 'laws.FnTrimPadded', WHERE WHAT IT READS IS OF BULK AT MOST 1048576: true; the input reads as it did. -/
def fnTrimPaddedUptoRow : OpenClaim := { program := "ytdjnlfchdfhbhaa", sum := "93878edf957c945baac10815e7d34c09db4d48302792c64e05014fa747f60abd", func := "loop.example/lib-g03233/laws.FnTrimPadded", spec := "fnTrimPadded", apart := false, narrowed := true }
def FnTrimPaddedUptoSaid : Prop := fnTrimPaddedUptoRow.holds Try.pinned (OpenSpec.upto fnTrimPaddedSpec)

end Rows
end Go.Proofs.Ytdjnlfchdfhbhaa
