/-
  DERIVED. GIVEN WITH THE SEED: THE CARDS: each row of YtocajelknojkbaaGreatDoorRows.lean that lists a variable, with what it lists TIED to the program's text (the seventh form; the later family's looks); each row that meets fmt, with fmt's text TOLD by the authors' own Lean function (tested against real Go, not proved from fmt's source: count such statements apart). THE CARD IS WHAT COUNTS. Prove the row's statement (the work); the ties are given (YtocajelknojkbaaGreatDoorTie.lean); close each card by the builder's one call (the guide's Derived/Test/ToyasCard.lean, 'card_holds'). Laid BY PROGRAM, IN A SANDBOX (cutbox-door.mjs). By AI agents, Wed Nov 11 2026. No macro, syntax, notation, axiom, sorry.
-/
import Derived.Test.YtocajelknojkbaaGreatDoorRows
import GoSem.ClaimSeven
namespace Go.Proofs.YtocajelknojkbaaGreatDoor
namespace Rows

/-- THE TIED CARD OF 'laws.FnServerKey'. -/
def fnServerKeyCard : Claim7 := { stood := { row := fnServerKeyRow, standIns := [], harness := (true, "76cafa85f8b4ab1ead64d7a8c59ba6e68e2bedb2dabb545367d2ac7280c1fae4"), looks := true }, kinds := [], alts := [], laidByText := true, laidKinds := [.data, .data, .data, .sentinel, .sentinel, .listed, .called, .called, .zero], laidTests := true, laidLooks := .later }
def FnServerKeyCardSaid : Prop := Claim7.holds Tryz.pinned (.plain (OpenSpec.ofChange fnServerKeySpec)) fnServerKeyCard

/-- THE TIED CARD OF 'laws.FnKeysMissing'. -/
def fnKeysMissingCard : Claim7 := { stood := { row := fnKeysMissingRow, standIns := [], harness := (true, "76cafa85f8b4ab1ead64d7a8c59ba6e68e2bedb2dabb545367d2ac7280c1fae4"), looks := true }, kinds := [], alts := [], laidByText := true, laidKinds := [.data, .data, .data, .sentinel, .sentinel, .listed, .called, .called, .zero], laidTests := true, laidLooks := .later }
def FnKeysMissingCardSaid : Prop := Claim7.holds Tryz.pinned (.plain (OpenSpec.ofChange fnKeysMissingSpec)) fnKeysMissingCard

/-- THE TIED CARD OF 'laws.FnFind'. -/
def fnFindCard : Claim7 := { stood := { row := fnFindRow, standIns := [], harness := (true, "76cafa85f8b4ab1ead64d7a8c59ba6e68e2bedb2dabb545367d2ac7280c1fae4"), looks := true }, kinds := [], alts := [], laidByText := true, laidKinds := [.data, .data, .data, .sentinel, .sentinel, .listed, .called, .called, .zero], laidTests := true, laidLooks := .later }
def FnFindCardSaid : Prop := Claim7.holds Tryz.pinned (.plain (OpenSpec.ofChange fnFindSpec)) fnFindCard

/-- THE SECOND FORM's CARD OF 'laws.FnServerKey'. -/
def fnServerKeyUptoCard : Claim7 := { stood := { row := fnServerKeyUptoRow, standIns := [], harness := (true, "76cafa85f8b4ab1ead64d7a8c59ba6e68e2bedb2dabb545367d2ac7280c1fae4"), looks := true }, kinds := [], alts := [], laidByText := true, laidKinds := [.data, .data, .data, .sentinel, .sentinel, .listed, .called, .called, .zero], laidTests := true, laidLooks := .later }
def FnServerKeyUptoCardSaid : Prop := Claim7.holds Tryz.pinned (.plain (OpenSpec.upto fnServerKeySpec)) fnServerKeyUptoCard

/-- THE SECOND FORM's CARD OF 'laws.FnKeysMissing'. -/
def fnKeysMissingUptoCard : Claim7 := { stood := { row := fnKeysMissingUptoRow, standIns := [], harness := (true, "76cafa85f8b4ab1ead64d7a8c59ba6e68e2bedb2dabb545367d2ac7280c1fae4"), looks := true }, kinds := [], alts := [], laidByText := true, laidKinds := [.data, .data, .data, .sentinel, .sentinel, .listed, .called, .called, .zero], laidTests := true, laidLooks := .later }
def FnKeysMissingUptoCardSaid : Prop := Claim7.holds Tryz.pinned (.plain (OpenSpec.upto fnKeysMissingSpec)) fnKeysMissingUptoCard

/-- THE SECOND FORM's CARD OF 'laws.FnFind'. -/
def fnFindUptoCard : Claim7 := { stood := { row := fnFindUptoRow, standIns := [], harness := (true, "76cafa85f8b4ab1ead64d7a8c59ba6e68e2bedb2dabb545367d2ac7280c1fae4"), looks := true }, kinds := [], alts := [], laidByText := true, laidKinds := [.data, .data, .data, .sentinel, .sentinel, .listed, .called, .called, .zero], laidTests := true, laidLooks := .later }
def FnFindUptoCardSaid : Prop := Claim7.holds Tryz.pinned (.plain (OpenSpec.upto fnFindSpec)) fnFindUptoCard
end Rows
end Go.Proofs.YtocajelknojkbaaGreatDoor
