/-
  DERIVED. GIVEN WITH THE SEED: THE CARDS: each row of YtpoepgnapneeaaaGreatDoorRows.lean that lists a variable, with what it lists TIED to the program's text (the seventh form; the later family's looks); each row that meets fmt, with fmt's text TOLD by the authors' own Lean function (tested against real Go, not proved from fmt's source: count such statements apart). THE CARD IS WHAT COUNTS. Prove the row's statement (the work); the ties are given (YtpoepgnapneeaaaGreatDoorTie.lean); close each card by the builder's one call (the guide's Derived/Test/ToyasCard.lean, 'card_holds'). Laid BY PROGRAM, IN A SANDBOX (cutbox-door.mjs). By AI agents, Wed Nov 11 2026. No macro, syntax, notation, axiom, sorry.
-/
import Derived.Test.YtpoepgnapneeaaaGreatDoorRows
import GoSem.ClaimSeven
namespace Go.Proofs.YtpoepgnapneeaaaGreatDoor
namespace Rows

/-- THE TIED CARD OF 'laws.FnFormatInt'. -/
def fnFormatIntCard : Claim7 := { stood := { row := fnFormatIntRow, standIns := [], harness := (true, "407107788d82b6a047438a03d7ea8a5d8807f43ff14dc71d00afa54238a37d29"), looks := true }, kinds := [], alts := [], laidByText := true, laidKinds := [.data, .data, .data, .data, .sentinel, .sentinel, .sentinel, .data, .sentinel, .sentinel, .data, .data, .data, .data, .data, .pinned, .pinned], laidTests := true, laidLooks := .later }
def FnFormatIntCardSaid : Prop := Claim7.holds Tryz.pinned (.plain (OpenSpec.ofChange fnFormatIntSpec)) fnFormatIntCard

/-- THE SECOND FORM's CARD OF 'laws.FnFormatInt'. -/
def fnFormatIntUptoCard : Claim7 := { stood := { row := fnFormatIntUptoRow, standIns := [], harness := (true, "407107788d82b6a047438a03d7ea8a5d8807f43ff14dc71d00afa54238a37d29"), looks := true }, kinds := [], alts := [], laidByText := true, laidKinds := [.data, .data, .data, .data, .sentinel, .sentinel, .sentinel, .data, .sentinel, .sentinel, .data, .data, .data, .data, .data, .pinned, .pinned], laidTests := true, laidLooks := .later }
def FnFormatIntUptoCardSaid : Prop := Claim7.holds Tryz.pinned (.plain (OpenSpec.upto fnFormatIntSpec)) fnFormatIntUptoCard
end Rows
end Go.Proofs.YtpoepgnapneeaaaGreatDoor
