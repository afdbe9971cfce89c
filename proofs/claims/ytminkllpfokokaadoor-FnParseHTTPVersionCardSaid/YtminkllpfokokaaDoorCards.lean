/-
  DERIVED. GIVEN WITH THE SEED: THE CARDS: each row of YtminkllpfokokaaDoorRows.lean that lists a variable, with what it lists TIED to the program's text (the seventh form; the later family's looks); each row that meets fmt, with fmt's text TOLD by the authors' own Lean function (tested against real Go, not proved from fmt's source: count such statements apart). THE CARD IS WHAT COUNTS. Prove the row's statement (the work); the ties are given (YtminkllpfokokaaDoorTie.lean); close each card by the builder's one call (the guide's Derived/Test/ToyasCard.lean, 'card_holds'). Laid BY PROGRAM, IN A SANDBOX (cutbox-door.mjs). By AI agents, Wed Nov 11 2026. No macro, syntax, notation, axiom, sorry.
-/
import Derived.Test.YtminkllpfokokaaDoorRows
import GoSem.ClaimSeven
namespace Go.Proofs.YtminkllpfokokaaDoor
namespace Rows

/-- THE TIED CARD OF 'laws.FnVersionBack'. -/
def fnVersionBackCard : Claim7 := { stood := { row := fnVersionBackRow, standIns := [], harness := (true, "1567079eebe9ec719239cc5dcf129934c8b2e1bb46789e9ffe9b750f4f34777b"), looks := true }, kinds := [], alts := [], laidByText := true, laidKinds := [.data, .data, .data, .sentinel, .sentinel], laidTests := true, laidLooks := .later }
def FnVersionBackCardSaid : Prop := Claim7.holds Tryd.pinned (.plain (OpenSpec.ofChange fnVersionBackSpec)) fnVersionBackCard

/-- THE TIED CARD OF 'laws.FnVersionMore'. -/
def fnVersionMoreCard : Claim7 := { stood := { row := fnVersionMoreRow, standIns := [], harness := (true, "1567079eebe9ec719239cc5dcf129934c8b2e1bb46789e9ffe9b750f4f34777b"), looks := true }, kinds := [], alts := [], laidByText := true, laidKinds := [.data, .data, .data, .sentinel, .sentinel], laidTests := true, laidLooks := .later }
def FnVersionMoreCardSaid : Prop := Claim7.holds Tryd.pinned (.plain (OpenSpec.ofChange fnVersionMoreSpec)) fnVersionMoreCard

/-- THE TIED CARD OF 'laws.FnVersionOf'. -/
def fnVersionOfCard : Claim7 := { stood := { row := fnVersionOfRow, standIns := [], harness := (true, "1567079eebe9ec719239cc5dcf129934c8b2e1bb46789e9ffe9b750f4f34777b"), looks := true }, kinds := [], alts := [], laidByText := true, laidKinds := [.data, .data, .data, .sentinel, .sentinel], laidTests := true, laidLooks := .later }
def FnVersionOfCardSaid : Prop := Claim7.holds Tryd.pinned (.plain (OpenSpec.ofChange fnVersionOfSpec)) fnVersionOfCard

/-- THE TIED CARD OF 'laws.FnParseHTTPVersion'. -/
def fnParseHTTPVersionCard : Claim7 := { stood := { row := fnParseHTTPVersionRow, standIns := [], harness := (true, "1567079eebe9ec719239cc5dcf129934c8b2e1bb46789e9ffe9b750f4f34777b"), looks := true }, kinds := [], alts := [], laidByText := true, laidKinds := [.data, .data, .data, .sentinel, .sentinel], laidTests := true, laidLooks := .later }
def FnParseHTTPVersionCardSaid : Prop := Claim7.holds Tryd.pinned (.plain (OpenSpec.ofChange fnParseHTTPVersionSpec)) fnParseHTTPVersionCard

/-- THE SECOND FORM's CARD OF 'laws.FnVersionBack'. -/
def fnVersionBackUptoCard : Claim7 := { stood := { row := fnVersionBackUptoRow, standIns := [], harness := (true, "1567079eebe9ec719239cc5dcf129934c8b2e1bb46789e9ffe9b750f4f34777b"), looks := true }, kinds := [], alts := [], laidByText := true, laidKinds := [.data, .data, .data, .sentinel, .sentinel], laidTests := true, laidLooks := .later }
def FnVersionBackUptoCardSaid : Prop := Claim7.holds Tryd.pinned (.plain (OpenSpec.upto fnVersionBackSpec)) fnVersionBackUptoCard

/-- THE SECOND FORM's CARD OF 'laws.FnVersionMore'. -/
def fnVersionMoreUptoCard : Claim7 := { stood := { row := fnVersionMoreUptoRow, standIns := [], harness := (true, "1567079eebe9ec719239cc5dcf129934c8b2e1bb46789e9ffe9b750f4f34777b"), looks := true }, kinds := [], alts := [], laidByText := true, laidKinds := [.data, .data, .data, .sentinel, .sentinel], laidTests := true, laidLooks := .later }
def FnVersionMoreUptoCardSaid : Prop := Claim7.holds Tryd.pinned (.plain (OpenSpec.upto fnVersionMoreSpec)) fnVersionMoreUptoCard

/-- THE SECOND FORM's CARD OF 'laws.FnVersionOf'. -/
def fnVersionOfUptoCard : Claim7 := { stood := { row := fnVersionOfUptoRow, standIns := [], harness := (true, "1567079eebe9ec719239cc5dcf129934c8b2e1bb46789e9ffe9b750f4f34777b"), looks := true }, kinds := [], alts := [], laidByText := true, laidKinds := [.data, .data, .data, .sentinel, .sentinel], laidTests := true, laidLooks := .later }
def FnVersionOfUptoCardSaid : Prop := Claim7.holds Tryd.pinned (.plain (OpenSpec.upto fnVersionOfSpec)) fnVersionOfUptoCard

/-- THE SECOND FORM's CARD OF 'laws.FnParseHTTPVersion'. -/
def fnParseHTTPVersionUptoCard : Claim7 := { stood := { row := fnParseHTTPVersionUptoRow, standIns := [], harness := (true, "1567079eebe9ec719239cc5dcf129934c8b2e1bb46789e9ffe9b750f4f34777b"), looks := true }, kinds := [], alts := [], laidByText := true, laidKinds := [.data, .data, .data, .sentinel, .sentinel], laidTests := true, laidLooks := .later }
def FnParseHTTPVersionUptoCardSaid : Prop := Claim7.holds Tryd.pinned (.plain (OpenSpec.upto fnParseHTTPVersionSpec)) fnParseHTTPVersionUptoCard
end Rows
end Go.Proofs.YtminkllpfokokaaDoor
