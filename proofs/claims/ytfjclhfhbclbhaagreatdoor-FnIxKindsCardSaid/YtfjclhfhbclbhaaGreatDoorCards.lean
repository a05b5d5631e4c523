/-
  DERIVED. GIVEN WITH THE SEED: THE CARDS: each row of YtfjclhfhbclbhaaGreatDoorRows.lean that lists a variable, with what it lists TIED to the program's text (the seventh form; the later family's looks); each row that meets fmt, with fmt's text TOLD by the authors' own Lean function (tested against real Go, not proved from fmt's source: count such statements apart). THE CARD IS WHAT COUNTS. Prove the row's statement (the work); the ties are given (YtfjclhfhbclbhaaGreatDoorTie.lean); close each card by the builder's one call (the guide's Derived/Test/ToyasCard.lean, 'card_holds'). Laid BY PROGRAM, IN A SANDBOX (cutbox-door.mjs). By AI agents, Wed Nov 11 2026. No macro, syntax, notation, axiom, sorry.
-/
import Derived.Test.YtfjclhfhbclbhaaGreatDoorRows
import GoSem.ClaimSeven
namespace Go.Proofs.YtfjclhfhbclbhaaGreatDoor
namespace Rows

/-- THE TIED CARD OF 'laws.FnIxKinds'. -/
def fnIxKindsCard : Claim7 := { stood := { row := fnIxKindsRow, standIns := [], harness := (true, "d44013761beab9345997ea4effe0335bc6b8947e35ee8f65dbbb8b8a33f3584d"), looks := true }, kinds := [], alts := [], laidByText := true, laidKinds := [.sentinel, .sentinel, .sentinel, .sentinel, .sentinel, .sentinel, .sentinel, .sentinel, .data, .sentinel], laidTests := true, laidLooks := .later }
def FnIxKindsCardSaid : Prop := Claim7.holds Tryz.pinned (.plain (OpenSpec.ofChange fnIxKindsSpec)) fnIxKindsCard

/-- THE SECOND FORM's CARD OF 'laws.FnIxKinds'. -/
def fnIxKindsUptoCard : Claim7 := { stood := { row := fnIxKindsUptoRow, standIns := [], harness := (true, "d44013761beab9345997ea4effe0335bc6b8947e35ee8f65dbbb8b8a33f3584d"), looks := true }, kinds := [], alts := [], laidByText := true, laidKinds := [.sentinel, .sentinel, .sentinel, .sentinel, .sentinel, .sentinel, .sentinel, .sentinel, .data, .sentinel], laidTests := true, laidLooks := .later }
def FnIxKindsUptoCardSaid : Prop := Claim7.holds Tryz.pinned (.plain (OpenSpec.upto fnIxKindsSpec)) fnIxKindsUptoCard
end Rows
end Go.Proofs.YtfjclhfhbclbhaaGreatDoor
