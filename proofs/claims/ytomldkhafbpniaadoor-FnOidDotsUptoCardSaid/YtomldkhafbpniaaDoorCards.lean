/-
  DERIVED. GIVEN WITH THE SEED: THE CARDS: each row of YtomldkhafbpniaaDoorRows.lean that lists a variable, with what it lists TIED to the program's text (the seventh form; the later family's looks); each row that meets fmt, with fmt's text TOLD by the authors' own Lean function (tested against real Go, not proved from fmt's source: count such statements apart). THE CARD IS WHAT COUNTS. Prove the row's statement (the work); the ties are given (YtomldkhafbpniaaDoorTie.lean); close each card by the builder's one call (the guide's Derived/Test/ToyasCard.lean, 'card_holds'). Laid BY PROGRAM, IN A SANDBOX (cutbox-door.mjs). By AI agents, Wed Nov 11 2026. No macro, syntax, notation, axiom, sorry.
-/
import Derived.Test.YtomldkhafbpniaaDoorRows
import GoSem.ClaimSeven
namespace Go.Proofs.YtomldkhafbpniaaDoor
namespace Rows

/-- THE TIED CARD OF 'laws.FnOidDots'. -/
def fnOidDotsCard : Claim7 := { stood := { row := fnOidDotsRow, standIns := [], harness := (true, "169129f90b62506175bd70f891b3d441010b6c60f0f05233af8ef1fb3f645c90"), looks := false }, kinds := [], alts := [], laidByText := true, laidKinds := [.data, .data, .data], laidTests := true, laidLooks := .later }
def FnOidDotsCardSaid : Prop := Claim7.holds Tryd.pinned (.plain (OpenSpec.ofChange fnOidDotsSpec)) fnOidDotsCard

/-- THE TIED CARD OF 'laws.FnOidJoined'. -/
def fnOidJoinedCard : Claim7 := { stood := { row := fnOidJoinedRow, standIns := [], harness := (true, "169129f90b62506175bd70f891b3d441010b6c60f0f05233af8ef1fb3f645c90"), looks := false }, kinds := [], alts := [], laidByText := true, laidKinds := [.data, .data, .data], laidTests := true, laidLooks := .later }
def FnOidJoinedCardSaid : Prop := Claim7.holds Tryd.pinned (.plain (OpenSpec.ofChange fnOidJoinedSpec)) fnOidJoinedCard

/-- THE TIED CARD OF 'laws.FnOidString'. -/
def fnOidStringCard : Claim7 := { stood := { row := fnOidStringRow, standIns := [], harness := (true, "169129f90b62506175bd70f891b3d441010b6c60f0f05233af8ef1fb3f645c90"), looks := false }, kinds := [], alts := [], laidByText := true, laidKinds := [.data, .data, .data], laidTests := true, laidLooks := .later }
def FnOidStringCardSaid : Prop := Claim7.holds Tryd.pinned (.plain (OpenSpec.ofChange fnOidStringSpec)) fnOidStringCard

/-- THE TIED CARD OF 'laws.FnOidTold'. -/
def fnOidToldCard : Claim7 := { stood := { row := fnOidToldRow, standIns := [], harness := (true, "169129f90b62506175bd70f891b3d441010b6c60f0f05233af8ef1fb3f645c90"), looks := false }, kinds := [], alts := [], laidByText := true, laidKinds := [.data, .data, .data], laidTests := true, laidLooks := .later }
def FnOidToldCardSaid : Prop := Claim7.holds Tryd.pinned (.plain (OpenSpec.ofChange fnOidToldSpec)) fnOidToldCard

/-- THE SECOND FORM's CARD OF 'laws.FnOidDots'. -/
def fnOidDotsUptoCard : Claim7 := { stood := { row := fnOidDotsUptoRow, standIns := [], harness := (true, "169129f90b62506175bd70f891b3d441010b6c60f0f05233af8ef1fb3f645c90"), looks := false }, kinds := [], alts := [], laidByText := true, laidKinds := [.data, .data, .data], laidTests := true, laidLooks := .later }
def FnOidDotsUptoCardSaid : Prop := Claim7.holds Tryd.pinned (.plain (OpenSpec.upto fnOidDotsSpec)) fnOidDotsUptoCard

/-- THE SECOND FORM's CARD OF 'laws.FnOidJoined'. -/
def fnOidJoinedUptoCard : Claim7 := { stood := { row := fnOidJoinedUptoRow, standIns := [], harness := (true, "169129f90b62506175bd70f891b3d441010b6c60f0f05233af8ef1fb3f645c90"), looks := false }, kinds := [], alts := [], laidByText := true, laidKinds := [.data, .data, .data], laidTests := true, laidLooks := .later }
def FnOidJoinedUptoCardSaid : Prop := Claim7.holds Tryd.pinned (.plain (OpenSpec.upto fnOidJoinedSpec)) fnOidJoinedUptoCard

/-- THE SECOND FORM's CARD OF 'laws.FnOidString'. -/
def fnOidStringUptoCard : Claim7 := { stood := { row := fnOidStringUptoRow, standIns := [], harness := (true, "169129f90b62506175bd70f891b3d441010b6c60f0f05233af8ef1fb3f645c90"), looks := false }, kinds := [], alts := [], laidByText := true, laidKinds := [.data, .data, .data], laidTests := true, laidLooks := .later }
def FnOidStringUptoCardSaid : Prop := Claim7.holds Tryd.pinned (.plain (OpenSpec.upto fnOidStringSpec)) fnOidStringUptoCard

/-- THE SECOND FORM's CARD OF 'laws.FnOidTold'. -/
def fnOidToldUptoCard : Claim7 := { stood := { row := fnOidToldUptoRow, standIns := [], harness := (true, "169129f90b62506175bd70f891b3d441010b6c60f0f05233af8ef1fb3f645c90"), looks := false }, kinds := [], alts := [], laidByText := true, laidKinds := [.data, .data, .data], laidTests := true, laidLooks := .later }
def FnOidToldUptoCardSaid : Prop := Claim7.holds Tryd.pinned (.plain (OpenSpec.upto fnOidToldSpec)) fnOidToldUptoCard
end Rows
end Go.Proofs.YtomldkhafbpniaaDoor
