/-
  No cell of these rows narrows 'for every input' (looked for: loops, veiled, ifaces, maps, wideKeys, modest, calm, conditions, laid).
  DERIVED. THE GIVEN ROWS OF THIS SEAT. 3 by the template 'for every input the law returns true; each argument reads behind the call as it read before'; 0 by the template 'total and deterministic' (their statements: YtomldkhafbpniaaTotals.lean).
  GIVEN WITH THE SEED: the statements are not yours to turn. If you find one false, say at which input.
  Laid BY PROGRAM, IN A SANDBOX (cutbox-rows.mjs): the forced cells as the released guide's own fill.sh prints them over the translation 616c6339d1b41e76… (all of the seat's roots in one cut). By AI agents, Wed Nov 11 2026. No macro, syntax, notation, axiom, sorry.
-/
import Derived.Test.YtomldkhafbpniaaChecked
import GoSem.Claim
import GoSem.ClaimJoined
import GoSem.ClaimMapViews
import Derived.JoinedTies
import Derived.KernelRfl
namespace Go.Proofs.Ytomldkhafbpniaa
/- THE CELL 'sum', in the pinned program and in every row, IS THE sha256 OF THE DUMP (.gsa) THAT YtomldkhafbpniaaProg.lean LOADS. Nothing in Lean hashes anything: it is a label: what it is worth is what the hold of that sum in a sandbox is worth. -/
noncomputable def Try.pinned : Pinned := { name := "ytomldkhafbpniaa", sum := "616c6339d1b41e76c997eb8e5c321e32c88e94668bbb8471296ba49082baad68", checked := Try.checked }
namespace Rows
def none {H : Type} : Left H := { results := [], args := [] }

/-- 'laws.FnOidEqual': WHATEVER THE INPUT: true; the input reads as it did. -/
def fnOidEqualSpec : ChangeSpec := { name := "fnOidEqual", fn := fun _ => fun
  | [d1, d2] => { results := [.lit (.bool true)], args := [d1, d2] }
  | _ => none }
def fnOidEqualRow : OpenClaim := { program := "ytomldkhafbpniaa", sum := "616c6339d1b41e76c997eb8e5c321e32c88e94668bbb8471296ba49082baad68", func := "loop.example/lib-g03233/laws.FnOidEqual", spec := "fnOidEqual", apart := false }
def FnOidEqualSaid : Prop := fnOidEqualRow.holds Try.pinned (OpenSpec.ofChange fnOidEqualSpec)

/-- ITS FALSE NEIGHBOUR: 'it returns false'. Refute it at one input. -/
def fnOidEqualWrong : ChangeSpec := { name := "fnOidEqual", fn := fun _ => fun
  | [d1, d2] => { results := [.lit (.bool false)], args := [d1, d2] }
  | _ => none }
def FnOidEqualWrongFalsely : Prop := fnOidEqualRow.holds Try.pinned (OpenSpec.ofChange fnOidEqualWrong)

/-- 'laws.FnOidThree': WHATEVER THE INPUT: true; the input reads as it did. -/
def fnOidThreeSpec : ChangeSpec := { name := "fnOidThree", fn := fun _ => fun
  | [d1, d2, d3] => { results := [.lit (.bool true)], args := [d1, d2, d3] }
  | _ => none }
def fnOidThreeRow : OpenClaim := { program := "ytomldkhafbpniaa", sum := "616c6339d1b41e76c997eb8e5c321e32c88e94668bbb8471296ba49082baad68", func := "loop.example/lib-g03233/laws.FnOidThree", spec := "fnOidThree", apart := false }
def FnOidThreeSaid : Prop := fnOidThreeRow.holds Try.pinned (OpenSpec.ofChange fnOidThreeSpec)

/-- ITS FALSE NEIGHBOUR: 'it returns false'. Refute it at one input. -/
def fnOidThreeWrong : ChangeSpec := { name := "fnOidThree", fn := fun _ => fun
  | [d1, d2, d3] => { results := [.lit (.bool false)], args := [d1, d2, d3] }
  | _ => none }
def FnOidThreeWrongFalsely : Prop := fnOidThreeRow.holds Try.pinned (OpenSpec.ofChange fnOidThreeWrong)

/-- 'laws.FnOidTurned': WHATEVER THE INPUT: true; the input reads as it did. -/
def fnOidTurnedSpec : ChangeSpec := { name := "fnOidTurned", fn := fun _ => fun
  | [d1, d2, d3] => { results := [.lit (.bool true)], args := [d1, d2, d3] }
  | _ => none }
def fnOidTurnedRow : OpenClaim := { program := "ytomldkhafbpniaa", sum := "616c6339d1b41e76c997eb8e5c321e32c88e94668bbb8471296ba49082baad68", func := "loop.example/lib-g03233/laws.FnOidTurned", spec := "fnOidTurned", apart := false }
def FnOidTurnedSaid : Prop := fnOidTurnedRow.holds Try.pinned (OpenSpec.ofChange fnOidTurnedSpec)

/-- ITS FALSE NEIGHBOUR: 'it returns false'. Refute it at one input. -/
def fnOidTurnedWrong : ChangeSpec := { name := "fnOidTurned", fn := fun _ => fun
  | [d1, d2, d3] => { results := [.lit (.bool false)], args := [d1, d2, d3] }
  | _ => none }
def FnOidTurnedWrongFalsely : Prop := fnOidTurnedRow.holds Try.pinned (OpenSpec.ofChange fnOidTurnedWrong)

/- THE SECOND FORM. 'bulk': how many values and letters a reading holds, each counted each time it is reached (what is shared counts as often as it is met; a slice's spare places count too). A statement '..UptoSaid' is the law's where the arguments, and the package variables that the reading takes, are together of bulk at most 1048576: NARROWER than '..Said'. Prove '..Said' where nothing that the law and all that it calls make is longer than what came in: it says more and counts as full. Else prove '..UptoSaid'. A law counts once. -/
mutual
def uptoBulk {H : Type} : DataW H → Nat
  | .lit (.string bytes) => bytes.length + 1
  | .lit _ => 1
  | .nil => 1
  | .ptr d => uptoBulk d + 1
  | .slice elems spare => uptoBulkAll elems + uptoBulkAll spare + 1
  | .agg parts => uptoBulkAll parts + 1
  | .iface _ d => uptoBulk d + 1
  | .map entries => uptoBulkEntries entries + 1
  | .held _ => 1
def uptoBulkAll {H : Type} : List (DataW H) → Nat
  | [] => 0
  | d :: r => uptoBulk d + uptoBulkAll r
def uptoBulkEntries {H : Type} : List (Lit × DataW H) → Nat
  | [] => 0
  | x :: r => uptoBulkEntry x + uptoBulkEntries r
def uptoBulkEntry {H : Type} : Lit × DataW H → Nat
  | (.string bytes, d) => bytes.length + uptoBulk d + 1
  | (_, d) => uptoBulk d + 1
 end
def uptoSmall : (H : Type) → List (DataW H) → Bool := fun _ ds => decide (uptoBulkAll ds ≤ 1048576)
def OpenSpec.upto (s : _root_.Go.ChangeSpec) : _root_.Go.OpenSpec := { _root_.Go.OpenSpec.ofChange s with cond := some uptoSmall }

/-- 'laws.FnOidEqual', WHERE WHAT IT READS IS OF BULK AT MOST 1048576: true; the input reads as it did. -/
def fnOidEqualUptoRow : OpenClaim := { program := "ytomldkhafbpniaa", sum := "616c6339d1b41e76c997eb8e5c321e32c88e94668bbb8471296ba49082baad68", func := "loop.example/lib-g03233/laws.FnOidEqual", spec := "fnOidEqual", apart := false, narrowed := true }
def FnOidEqualUptoSaid : Prop := fnOidEqualUptoRow.holds Try.pinned (OpenSpec.upto fnOidEqualSpec)

/-- 'laws.FnOidThree', WHERE WHAT IT READS IS OF BULK AT MOST 1048576: true; the input reads as it did. -/
def fnOidThreeUptoRow : OpenClaim := { program := "ytomldkhafbpniaa", sum := "616c6339d1b41e76c997eb8e5c321e32c88e94668bbb8471296ba49082baad68", func := "loop.example/lib-g03233/laws.FnOidThree", spec := "fnOidThree", apart := false, narrowed := true }
def FnOidThreeUptoSaid : Prop := fnOidThreeUptoRow.holds Try.pinned (OpenSpec.upto fnOidThreeSpec)

/-- 'laws.FnOidTurned', WHERE WHAT IT READS IS OF BULK AT MOST 1048576: true; the input reads as it did. -/
def fnOidTurnedUptoRow : OpenClaim := { program := "ytomldkhafbpniaa", sum := "616c6339d1b41e76c997eb8e5c321e32c88e94668bbb8471296ba49082baad68", func := "loop.example/lib-g03233/laws.FnOidTurned", spec := "fnOidTurned", apart := false, narrowed := true }
def FnOidTurnedUptoSaid : Prop := fnOidTurnedUptoRow.holds Try.pinned (OpenSpec.upto fnOidTurnedSpec)

end Rows
end Go.Proofs.Ytomldkhafbpniaa
