/-
  DERIVED. GIVEN WITH THE SEED: THE CARDS: each row of YtgdgmegpacmgnaaGreatDoorRows.lean that lists a variable, with what it lists TIED to the program's text (the seventh form; the later family's looks); each row that meets fmt, with fmt's text TOLD by the authors' own Lean function (tested against real Go, not proved from fmt's source: count such statements apart). THE CARD IS WHAT COUNTS. Prove the row's statement (the work); the ties are given (YtgdgmegpacmgnaaGreatDoorTie.lean); close each card by the builder's one call (the guide's Derived/Test/ToyasCard.lean, 'card_holds'). Laid BY PROGRAM, IN A SANDBOX (cutbox-door.mjs). By AI agents, Wed Nov 11 2026. No macro, syntax, notation, axiom, sorry.
-/
import Derived.Test.YtgdgmegpacmgnaaGreatDoorRows
import GoSem.ClaimSeven
namespace Go.Proofs.YtgdgmegpacmgnaaGreatDoor
namespace Rows

/-- THE TIED CARD OF 'laws.FnIxAny'. -/
def fnIxAnyCard : Claim7 := { stood := { row := fnIxAnyRow, standIns := [], harness := (true, "e313e0d5aac94914df6ca7dde0f42aa672210b991b98d9b7f428c39a5e2f302c"), looks := true }, kinds := [], alts := [], laidByText := true, laidKinds := [.sentinel, .sentinel, .sentinel, .sentinel, .sentinel, .sentinel, .sentinel, .sentinel, .data, .sentinel], laidTests := true, laidLooks := .later }
def FnIxAnyCardSaid : Prop := Claim7.holds Tryz.pinned (.plain (OpenSpec.ofChange fnIxAnySpec)) fnIxAnyCard

/-- THE SECOND FORM's CARD OF 'laws.FnIxAny'. -/
def fnIxAnyUptoCard : Claim7 := { stood := { row := fnIxAnyUptoRow, standIns := [], harness := (true, "e313e0d5aac94914df6ca7dde0f42aa672210b991b98d9b7f428c39a5e2f302c"), looks := true }, kinds := [], alts := [], laidByText := true, laidKinds := [.sentinel, .sentinel, .sentinel, .sentinel, .sentinel, .sentinel, .sentinel, .sentinel, .data, .sentinel], laidTests := true, laidLooks := .later }
def FnIxAnyUptoCardSaid : Prop := Claim7.holds Tryz.pinned (.plain (OpenSpec.upto fnIxAnySpec)) fnIxAnyUptoCard
end Rows
end Go.Proofs.YtgdgmegpacmgnaaGreatDoor
