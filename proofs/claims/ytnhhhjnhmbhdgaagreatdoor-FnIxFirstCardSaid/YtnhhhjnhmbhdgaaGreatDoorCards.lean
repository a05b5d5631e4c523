/-
  DERIVED. GIVEN WITH THE SEED: THE CARDS: each row of YtnhhhjnhmbhdgaaGreatDoorRows.lean that lists a variable, with what it lists TIED to the program's text (the seventh form; the later family's looks); each row that meets fmt, with fmt's text TOLD by the authors' own Lean function (tested against real Go, not proved from fmt's source: count such statements apart). THE CARD IS WHAT COUNTS. Prove the row's statement (the work); the ties are given (YtnhhhjnhmbhdgaaGreatDoorTie.lean); close each card by the builder's one call (the guide's Derived/Test/ToyasCard.lean, 'card_holds'). Laid BY PROGRAM, IN A SANDBOX (cutbox-door.mjs). By AI agents, Wed Nov 11 2026. No macro, syntax, notation, axiom, sorry.
-/
import Derived.Test.YtnhhhjnhmbhdgaaGreatDoorRows
import GoSem.ClaimSeven
namespace Go.Proofs.YtnhhhjnhmbhdgaaGreatDoor
namespace Rows

/-- THE TIED CARD OF 'laws.FnIxFirst'. -/
def fnIxFirstCard : Claim7 := { stood := { row := fnIxFirstRow, standIns := [], harness := (true, "f7008fa464e4098707fd497cbe0e04422edf0c627b0f87e56ee5ff5c12b4755b"), looks := true }, kinds := [], alts := [], laidByText := true, laidKinds := [.sentinel, .sentinel, .sentinel, .sentinel, .sentinel, .sentinel, .sentinel, .sentinel, .data, .sentinel], laidTests := true, laidLooks := .later }
def FnIxFirstCardSaid : Prop := Claim7.holds Tryz.pinned (.plain (OpenSpec.ofChange fnIxFirstSpec)) fnIxFirstCard

/-- THE SECOND FORM's CARD OF 'laws.FnIxFirst'. -/
def fnIxFirstUptoCard : Claim7 := { stood := { row := fnIxFirstUptoRow, standIns := [], harness := (true, "f7008fa464e4098707fd497cbe0e04422edf0c627b0f87e56ee5ff5c12b4755b"), looks := true }, kinds := [], alts := [], laidByText := true, laidKinds := [.sentinel, .sentinel, .sentinel, .sentinel, .sentinel, .sentinel, .sentinel, .sentinel, .data, .sentinel], laidTests := true, laidLooks := .later }
def FnIxFirstUptoCardSaid : Prop := Claim7.holds Tryz.pinned (.plain (OpenSpec.upto fnIxFirstSpec)) fnIxFirstUptoCard
end Rows
end Go.Proofs.YtnhhhjnhmbhdgaaGreatDoor
