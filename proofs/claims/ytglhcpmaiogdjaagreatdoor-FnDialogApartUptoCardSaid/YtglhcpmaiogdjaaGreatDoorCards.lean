/-
  DERIVED. GIVEN WITH THE SEED: THE CARDS: each row of YtglhcpmaiogdjaaGreatDoorRows.lean that lists a variable, with what it lists TIED to the program's text (the seventh form; the later family's looks); each row that meets fmt, with fmt's text TOLD by the authors' own Lean function (tested against real Go, not proved from fmt's source: count such statements apart). THE CARD IS WHAT COUNTS. Prove the row's statement (the work); the ties are given (YtglhcpmaiogdjaaGreatDoorTie.lean); close each card by the builder's one call (the guide's Derived/Test/ToyasCard.lean, 'card_holds'). Laid BY PROGRAM, IN A SANDBOX (cutbox-door.mjs). By AI agents, Wed Nov 11 2026. No macro, syntax, notation, axiom, sorry.
-/
import Derived.Test.YtglhcpmaiogdjaaGreatDoorRows
import GoSem.ClaimSeven
namespace Go.Proofs.YtglhcpmaiogdjaaGreatDoor
namespace Rows

/-- THE TIED CARD OF 'laws.FnClientKey'. -/
def fnClientKeyCard : Claim7 := { stood := { row := fnClientKeyRow, standIns := [], harness := (true, "c636b10f4ae6c81c3a4aa7c9c399be4998f7350326eec62a30bd8ab91ec5d876"), looks := true }, kinds := [], alts := [], laidByText := true, laidKinds := [.data, .data, .data, .sentinel, .sentinel, .listed, .called, .called, .zero], laidTests := true, laidLooks := .later }
def FnClientKeyCardSaid : Prop := Claim7.holds Tryz.pinned (.plain (OpenSpec.ofChange fnClientKeySpec)) fnClientKeyCard

/-- THE TIED CARD OF 'laws.FnDialog'. -/
def fnDialogCard : Claim7 := { stood := { row := fnDialogRow, standIns := [], harness := (true, "c636b10f4ae6c81c3a4aa7c9c399be4998f7350326eec62a30bd8ab91ec5d876"), looks := true }, kinds := [], alts := [], laidByText := true, laidKinds := [.data, .data, .data, .sentinel, .sentinel, .listed, .called, .called, .zero], laidTests := true, laidLooks := .later }
def FnDialogCardSaid : Prop := Claim7.holds Tryz.pinned (.plain (OpenSpec.ofChange fnDialogSpec)) fnDialogCard

/-- THE TIED CARD OF 'laws.FnDialogApart'. -/
def fnDialogApartCard : Claim7 := { stood := { row := fnDialogApartRow, standIns := [], harness := (true, "c636b10f4ae6c81c3a4aa7c9c399be4998f7350326eec62a30bd8ab91ec5d876"), looks := true }, kinds := [], alts := [], laidByText := true, laidKinds := [.data, .data, .data, .sentinel, .sentinel, .listed, .called, .called, .zero], laidTests := true, laidLooks := .later }
def FnDialogApartCardSaid : Prop := Claim7.holds Tryz.pinned (.plain (OpenSpec.ofChange fnDialogApartSpec)) fnDialogApartCard

/-- THE SECOND FORM's CARD OF 'laws.FnClientKey'. -/
def fnClientKeyUptoCard : Claim7 := { stood := { row := fnClientKeyUptoRow, standIns := [], harness := (true, "c636b10f4ae6c81c3a4aa7c9c399be4998f7350326eec62a30bd8ab91ec5d876"), looks := true }, kinds := [], alts := [], laidByText := true, laidKinds := [.data, .data, .data, .sentinel, .sentinel, .listed, .called, .called, .zero], laidTests := true, laidLooks := .later }
def FnClientKeyUptoCardSaid : Prop := Claim7.holds Tryz.pinned (.plain (OpenSpec.upto fnClientKeySpec)) fnClientKeyUptoCard

/-- THE SECOND FORM's CARD OF 'laws.FnDialog'. -/
def fnDialogUptoCard : Claim7 := { stood := { row := fnDialogUptoRow, standIns := [], harness := (true, "c636b10f4ae6c81c3a4aa7c9c399be4998f7350326eec62a30bd8ab91ec5d876"), looks := true }, kinds := [], alts := [], laidByText := true, laidKinds := [.data, .data, .data, .sentinel, .sentinel, .listed, .called, .called, .zero], laidTests := true, laidLooks := .later }
def FnDialogUptoCardSaid : Prop := Claim7.holds Tryz.pinned (.plain (OpenSpec.upto fnDialogSpec)) fnDialogUptoCard

/-- THE SECOND FORM's CARD OF 'laws.FnDialogApart'. -/
def fnDialogApartUptoCard : Claim7 := { stood := { row := fnDialogApartUptoRow, standIns := [], harness := (true, "c636b10f4ae6c81c3a4aa7c9c399be4998f7350326eec62a30bd8ab91ec5d876"), looks := true }, kinds := [], alts := [], laidByText := true, laidKinds := [.data, .data, .data, .sentinel, .sentinel, .listed, .called, .called, .zero], laidTests := true, laidLooks := .later }
def FnDialogApartUptoCardSaid : Prop := Claim7.holds Tryz.pinned (.plain (OpenSpec.upto fnDialogApartSpec)) fnDialogApartUptoCard
end Rows
end Go.Proofs.YtglhcpmaiogdjaaGreatDoor
