/-
  DERIVED. GIVEN WITH THE SEED: THE CARDS: each row of YtifoicdnibgdaaaGreatDoorRows.lean that lists a variable, with what it lists TIED to the program's text (the seventh form; the later family's looks); each row that meets fmt, with fmt's text TOLD by the authors' own Lean function (tested against real Go, not proved from fmt's source: count such statements apart). THE CARD IS WHAT COUNTS. Prove the row's statement (the work); the ties are given (YtifoicdnibgdaaaGreatDoorTie.lean); close each card by the builder's one call (the guide's Derived/Test/ToyasCard.lean, 'card_holds'). Laid BY PROGRAM, IN A SANDBOX (cutbox-door.mjs). By AI agents, Wed Nov 11 2026. No macro, syntax, notation, axiom, sorry.
-/
import Derived.Test.YtifoicdnibgdaaaGreatDoorRows
import GoSem.ClaimSeven
namespace Go.Proofs.YtifoicdnibgdaaaGreatDoor
namespace Rows

/-- THE TIED CARD OF 'laws.FnIiEach'. -/
def fnIiEachCard : Claim7 := { stood := { row := fnIiEachRow, standIns := [], harness := (true, "5894343b5d382cb69203a9465e5963eeb6ff0360c4c0a4512f9e9b57b8d05df1"), looks := true }, kinds := [], alts := [], laidByText := true, laidKinds := [.data, .data, .sentinel, .sentinel, .sentinel, .sentinel, .sentinel, .sentinel, .data], laidTests := true, laidLooks := .later }
def FnIiEachCardSaid : Prop := Claim7.holds Tryz.pinned (.plain (OpenSpec.ofChange fnIiEachSpec)) fnIiEachCard

/-- THE TIED CARD OF 'laws.FnStShould'. -/
def fnStShouldCard : Claim7 := { stood := { row := fnStShouldRow, standIns := [], harness := (true, "5894343b5d382cb69203a9465e5963eeb6ff0360c4c0a4512f9e9b57b8d05df1"), looks := true }, kinds := [], alts := [], laidByText := true, laidKinds := [.data, .data, .sentinel, .sentinel, .sentinel, .sentinel, .sentinel, .sentinel, .data, .sentinel, .sentinel], laidTests := true, laidLooks := .later }
def FnStShouldCardSaid : Prop := Claim7.holds Tryz.pinned (.plain (OpenSpec.ofChange fnStShouldSpec)) fnStShouldCard

/-- THE SECOND FORM's CARD OF 'laws.FnIiEach'. -/
def fnIiEachUptoCard : Claim7 := { stood := { row := fnIiEachUptoRow, standIns := [], harness := (true, "5894343b5d382cb69203a9465e5963eeb6ff0360c4c0a4512f9e9b57b8d05df1"), looks := true }, kinds := [], alts := [], laidByText := true, laidKinds := [.data, .data, .sentinel, .sentinel, .sentinel, .sentinel, .sentinel, .sentinel, .data], laidTests := true, laidLooks := .later }
def FnIiEachUptoCardSaid : Prop := Claim7.holds Tryz.pinned (.plain (OpenSpec.upto fnIiEachSpec)) fnIiEachUptoCard

/-- THE SECOND FORM's CARD OF 'laws.FnStShould'. -/
def fnStShouldUptoCard : Claim7 := { stood := { row := fnStShouldUptoRow, standIns := [], harness := (true, "5894343b5d382cb69203a9465e5963eeb6ff0360c4c0a4512f9e9b57b8d05df1"), looks := true }, kinds := [], alts := [], laidByText := true, laidKinds := [.data, .data, .sentinel, .sentinel, .sentinel, .sentinel, .sentinel, .sentinel, .data, .sentinel, .sentinel], laidTests := true, laidLooks := .later }
def FnStShouldUptoCardSaid : Prop := Claim7.holds Tryz.pinned (.plain (OpenSpec.upto fnStShouldSpec)) fnStShouldUptoCard
end Rows
end Go.Proofs.YtifoicdnibgdaaaGreatDoor
