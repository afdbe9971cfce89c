/-
  No cell of these rows narrows 'for every input' (looked for: loops, veiled, ifaces, maps, wideKeys, modest, calm, conditions, laid).
  DERIVED. THE GIVEN ROWS OF THIS SEAT. 4 by the template 'for every input the law returns true; each argument reads behind the call as it read before'; 0 by the template 'total and deterministic' (their statements: YtgnhgbfdelambaaTotals.lean).
  GIVEN WITH THE SEED: the statements are not yours to turn. If you find one false, say at which input.
  Laid BY PROGRAM, IN A SANDBOX (cutbox-rows.mjs): the forced cells as the released guide's own fill.sh prints them over the translation c0738649bf4dcdc5… (all of the seat's roots in one cut). By AI agents, Wed Nov 11 2026. No macro, syntax, notation, axiom, sorry.
-/
import Derived.Test.YtgnhgbfdelambaaChecked
import GoSem.Claim
import GoSem.ClaimJoined
import GoSem.ClaimMapViews
import Derived.JoinedTies
import Derived.KernelRfl
namespace Go.Proofs.Ytgnhgbfdelambaa
/- THE CELL 'sum', in the pinned program and in every row, IS THE sha256 OF THE DUMP (.gsa) THAT YtgnhgbfdelambaaProg.lean LOADS. Nothing in Lean hashes anything: it is a label: what it is worth is what the hold of that sum in a sandbox is worth. -/
noncomputable def Try.pinned : Pinned := { name := "ytgnhgbfdelambaa", sum := "c0738649bf4dcdc5cc313b4306f4487ef20589f7a25ce36892107ddceff8b044", checked := Try.checked }
namespace Rows
def none {H : Type} : Left H := { results := [], args := [] }

/-- 'laws.FnStatusApart': WHATEVER THE INPUT: true; the input reads as it did. -/
def fnStatusApartSpec : ChangeSpec := { name := "fnStatusApart", fn := fun _ => fun
  | [d1, d2] => { results := [.lit (.bool true)], args := [d1, d2] }
  | _ => none }
def fnStatusApartRow : OpenClaim := { program := "ytgnhgbfdelambaa", sum := "c0738649bf4dcdc5cc313b4306f4487ef20589f7a25ce36892107ddceff8b044", func := "loop.example/lib-g03233/laws.FnStatusApart", spec := "fnStatusApart", apart := false }
def FnStatusApartSaid : Prop := fnStatusApartRow.holds Try.pinned (OpenSpec.ofChange fnStatusApartSpec)

/-- ITS FALSE NEIGHBOUR: 'it returns false'. Refute it at one input. -/
def fnStatusApartWrong : ChangeSpec := { name := "fnStatusApart", fn := fun _ => fun
  | [d1, d2] => { results := [.lit (.bool false)], args := [d1, d2] }
  | _ => none }
def FnStatusApartWrongFalsely : Prop := fnStatusApartRow.holds Try.pinned (OpenSpec.ofChange fnStatusApartWrong)

/-- 'laws.FnStatusRange': WHATEVER THE INPUT: true; the input reads as it did. -/
def fnStatusRangeSpec : ChangeSpec := { name := "fnStatusRange", fn := fun _ => fun
  | [d] => { results := [.lit (.bool true)], args := [d] }
  | _ => none }
def fnStatusRangeRow : OpenClaim := { program := "ytgnhgbfdelambaa", sum := "c0738649bf4dcdc5cc313b4306f4487ef20589f7a25ce36892107ddceff8b044", func := "loop.example/lib-g03233/laws.FnStatusRange", spec := "fnStatusRange", apart := false }
def FnStatusRangeSaid : Prop := fnStatusRangeRow.holds Try.pinned (OpenSpec.ofChange fnStatusRangeSpec)

/-- ITS FALSE NEIGHBOUR: 'it returns false'. Refute it at one input. -/
def fnStatusRangeWrong : ChangeSpec := { name := "fnStatusRange", fn := fun _ => fun
  | [d] => { results := [.lit (.bool false)], args := [d] }
  | _ => none }
def FnStatusRangeWrongFalsely : Prop := fnStatusRangeRow.holds Try.pinned (OpenSpec.ofChange fnStatusRangeWrong)

/-- 'laws.FnStatusText': WHATEVER THE INPUT: true; the input reads as it did. -/
def fnStatusTextSpec : ChangeSpec := { name := "fnStatusText", fn := fun _ => fun
  | [d] => { results := [.lit (.bool true)], args := [d] }
  | _ => none }
def fnStatusTextRow : OpenClaim := { program := "ytgnhgbfdelambaa", sum := "c0738649bf4dcdc5cc313b4306f4487ef20589f7a25ce36892107ddceff8b044", func := "loop.example/lib-g03233/laws.FnStatusText", spec := "fnStatusText", apart := false }
def FnStatusTextSaid : Prop := fnStatusTextRow.holds Try.pinned (OpenSpec.ofChange fnStatusTextSpec)

/-- ITS FALSE NEIGHBOUR: 'it returns false'. Refute it at one input. -/
def fnStatusTextWrong : ChangeSpec := { name := "fnStatusText", fn := fun _ => fun
  | [d] => { results := [.lit (.bool false)], args := [d] }
  | _ => none }
def FnStatusTextWrongFalsely : Prop := fnStatusTextRow.holds Try.pinned (OpenSpec.ofChange fnStatusTextWrong)

/-- 'laws.FnStatusWords': WHATEVER THE INPUT: true; the input reads as it did. -/
def fnStatusWordsSpec : ChangeSpec := { name := "fnStatusWords", fn := fun _ => fun
  | [d] => { results := [.lit (.bool true)], args := [d] }
  | _ => none }
def fnStatusWordsRow : OpenClaim := { program := "ytgnhgbfdelambaa", sum := "c0738649bf4dcdc5cc313b4306f4487ef20589f7a25ce36892107ddceff8b044", func := "loop.example/lib-g03233/laws.FnStatusWords", spec := "fnStatusWords", apart := false }
def FnStatusWordsSaid : Prop := fnStatusWordsRow.holds Try.pinned (OpenSpec.ofChange fnStatusWordsSpec)

/-- ITS FALSE NEIGHBOUR: 'it returns false'. Refute it at one input. -/
def fnStatusWordsWrong : ChangeSpec := { name := "fnStatusWords", fn := fun _ => fun
  | [d] => { results := [.lit (.bool false)], args := [d] }
  | _ => none }
def FnStatusWordsWrongFalsely : Prop := fnStatusWordsRow.holds Try.pinned (OpenSpec.ofChange fnStatusWordsWrong)

/- THE SECOND FORM. 'bulk': how many values and letters a reading holds, each counted each time it is reached (what is shared counts as often as it is met; a slice's spare places count too). A statement '..UptoSaid' is the law's where the arguments, and the package variables that the reading takes, are together of bulk at most 1048576: NARROWER than '..Said'. Prove '..Said' where nothing that the law and all that it calls make is longer than what came in: it says more and counts as full. Else prove '..UptoSaid'. A law counts once. -/
mutual
def uptoBulk {H : Type} : DataW H → Nat
  | .lit (.string bytes) => bytes.length + 1
  | .lit _ => 1
  | .nil => 1
  | .ptr d => uptoBulk d + 1
  | .slice elems spare => uptoBulkAll elems + uptoBulkAll spare + 1
  | .agg parts => uptoBulkAll parts + 1
  | .iface _ d => uptoBulk d + 1
  | .map entries => uptoBulkEntries entries + 1
  | .held _ => 1
def uptoBulkAll {H : Type} : List (DataW H) → Nat
  | [] => 0
  | d :: r => uptoBulk d + uptoBulkAll r
def uptoBulkEntries {H : Type} : List (Lit × DataW H) → Nat
  | [] => 0
  | x :: r => uptoBulkEntry x + uptoBulkEntries r
def uptoBulkEntry {H : Type} : Lit × DataW H → Nat
  | (.string bytes, d) => bytes.length + uptoBulk d + 1
  | (_, d) => uptoBulk d + 1
 end
def uptoSmall : (H : Type) → List (DataW H) → Bool := fun _ ds => decide (uptoBulkAll ds ≤ 1048576)
def OpenSpec.upto (s : _root_.Go.ChangeSpec) : _root_.Go.OpenSpec := { _root_.Go.OpenSpec.ofChange s with cond := some uptoSmall }

/-- 'laws.FnStatusApart', WHERE WHAT IT READS IS OF BULK AT MOST 1048576: true; the input reads as it did. -/
def fnStatusApartUptoRow : OpenClaim := { program := "ytgnhgbfdelambaa", sum := "c0738649bf4dcdc5cc313b4306f4487ef20589f7a25ce36892107ddceff8b044", func := "loop.example/lib-g03233/laws.FnStatusApart", spec := "fnStatusApart", apart := false, narrowed := true }
def FnStatusApartUptoSaid : Prop := fnStatusApartUptoRow.holds Try.pinned (OpenSpec.upto fnStatusApartSpec)

/-- 'laws.FnStatusRange', WHERE WHAT IT READS IS OF BULK AT MOST 1048576: true; the input reads as it did. -/
def fnStatusRangeUptoRow : OpenClaim := { program := "ytgnhgbfdelambaa", sum := "c0738649bf4dcdc5cc313b4306f4487ef20589f7a25ce36892107ddceff8b044", func := "loop.example/lib-g03233/laws.FnStatusRange", spec := "fnStatusRange", apart := false, narrowed := true }
def FnStatusRangeUptoSaid : Prop := fnStatusRangeUptoRow.holds Try.pinned (OpenSpec.upto fnStatusRangeSpec)

/-- 'laws.FnStatusText', WHERE WHAT IT READS IS OF BULK AT MOST 1048576: true; the input reads as it did. -/
def fnStatusTextUptoRow : OpenClaim := { program := "ytgnhgbfdelambaa", sum := "c0738649bf4dcdc5cc313b4306f4487ef20589f7a25ce36892107ddceff8b044", func := "loop.example/lib-g03233/laws.FnStatusText", spec := "fnStatusText", apart := false, narrowed := true }
def FnStatusTextUptoSaid : Prop := fnStatusTextUptoRow.holds Try.pinned (OpenSpec.upto fnStatusTextSpec)

/-- 'laws.FnStatusWords', WHERE WHAT IT READS IS OF BULK AT MOST 1048576: true; the input reads as it did. -/
def fnStatusWordsUptoRow : OpenClaim := { program := "ytgnhgbfdelambaa", sum := "c0738649bf4dcdc5cc313b4306f4487ef20589f7a25ce36892107ddceff8b044", func := "loop.example/lib-g03233/laws.FnStatusWords", spec := "fnStatusWords", apart := false, narrowed := true }
def FnStatusWordsUptoSaid : Prop := fnStatusWordsUptoRow.holds Try.pinned (OpenSpec.upto fnStatusWordsSpec)

end Rows
end Go.Proofs.Ytgnhgbfdelambaa
