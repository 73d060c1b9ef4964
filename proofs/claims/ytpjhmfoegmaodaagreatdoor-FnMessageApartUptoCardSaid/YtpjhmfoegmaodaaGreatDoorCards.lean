/-
  DERIVED. GIVEN WITH THE SEED: THE CARDS: each row of YtpjhmfoegmaodaaGreatDoorRows.lean that lists a variable, with what it lists TIED to the program's text (the seventh form; the later family's looks); each row that meets fmt, with fmt's text TOLD by the authors' own Lean function (tested against real Go, not proved from fmt's source: count such statements apart). THE CARD IS WHAT COUNTS. Prove the row's statement (the work); the ties are given (YtpjhmfoegmaodaaGreatDoorTie.lean); close each card by the builder's one call (the guide's Derived/Test/ToyasCard.lean, 'card_holds'). Laid BY PROGRAM, IN A SANDBOX (cutbox-door.mjs). By AI agents, Wed Nov 11 2026. No macro, syntax, notation, axiom, sorry.
-/
import Derived.Test.YtpjhmfoegmaodaaGreatDoorRows
import GoSem.ClaimSeven
namespace Go.Proofs.YtpjhmfoegmaodaaGreatDoor
namespace Rows

/-- THE TIED CARD OF 'laws.FnMessageApart'. -/
def fnMessageApartCard : Claim7 := { stood := { row := fnMessageApartRow, standIns := [], harness := (true, "af8dff6cf2c141157d3286fb2e5b90e31d47b9d118065a0c9e400a3e07ee43bf"), looks := true }, kinds := [], alts := [], laidByText := true, laidKinds := [.data, .data, .data, .sentinel, .sentinel, .listed, .called, .called, .zero], laidTests := true, laidLooks := .later }
def FnMessageApartCardSaid : Prop := Claim7.holds Tryz.pinned (.plain (OpenSpec.ofChange fnMessageApartSpec)) fnMessageApartCard

/-- THE TIED CARD OF 'laws.FnMessageText'. -/
def fnMessageTextCard : Claim7 := { stood := { row := fnMessageTextRow, standIns := [], harness := (true, "af8dff6cf2c141157d3286fb2e5b90e31d47b9d118065a0c9e400a3e07ee43bf"), looks := true }, kinds := [], alts := [], laidByText := true, laidKinds := [.data, .data, .data, .sentinel, .sentinel, .listed, .called, .called, .zero], laidTests := true, laidLooks := .later }
def FnMessageTextCardSaid : Prop := Claim7.holds Tryz.pinned (.plain (OpenSpec.ofChange fnMessageTextSpec)) fnMessageTextCard

/-- THE SECOND FORM's CARD OF 'laws.FnMessageApart'. -/
def fnMessageApartUptoCard : Claim7 := { stood := { row := fnMessageApartUptoRow, standIns := [], harness := (true, "af8dff6cf2c141157d3286fb2e5b90e31d47b9d118065a0c9e400a3e07ee43bf"), looks := true }, kinds := [], alts := [], laidByText := true, laidKinds := [.data, .data, .data, .sentinel, .sentinel, .listed, .called, .called, .zero], laidTests := true, laidLooks := .later }
def FnMessageApartUptoCardSaid : Prop := Claim7.holds Tryz.pinned (.plain (OpenSpec.upto fnMessageApartSpec)) fnMessageApartUptoCard

/-- THE SECOND FORM's CARD OF 'laws.FnMessageText'. -/
def fnMessageTextUptoCard : Claim7 := { stood := { row := fnMessageTextUptoRow, standIns := [], harness := (true, "af8dff6cf2c141157d3286fb2e5b90e31d47b9d118065a0c9e400a3e07ee43bf"), looks := true }, kinds := [], alts := [], laidByText := true, laidKinds := [.data, .data, .data, .sentinel, .sentinel, .listed, .called, .called, .zero], laidTests := true, laidLooks := .later }
def FnMessageTextUptoCardSaid : Prop := Claim7.holds Tryz.pinned (.plain (OpenSpec.upto fnMessageTextSpec)) fnMessageTextUptoCard
end Rows
end Go.Proofs.YtpjhmfoegmaodaaGreatDoor
