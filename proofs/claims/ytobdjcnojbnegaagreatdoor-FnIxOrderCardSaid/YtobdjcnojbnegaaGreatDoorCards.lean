/-
  DERIVED. GIVEN WITH THE SEED: THE CARDS: each row of YtobdjcnojbnegaaGreatDoorRows.lean that lists a variable, with what it lists TIED to the program's text (the seventh form; the later family's looks); each row that meets fmt, with fmt's text TOLD by the authors' own Lean function (tested against real Go, not proved from fmt's source: count such statements apart). THE CARD IS WHAT COUNTS. Prove the row's statement (the work); the ties are given (YtobdjcnojbnegaaGreatDoorTie.lean); close each card by the builder's one call (the guide's Derived/Test/ToyasCard.lean, 'card_holds'). Laid BY PROGRAM, IN A SANDBOX (cutbox-door.mjs). By AI agents, Wed Nov 11 2026. No macro, syntax, notation, axiom, sorry.
-/
import Derived.Test.YtobdjcnojbnegaaGreatDoorRows
import GoSem.ClaimSeven
namespace Go.Proofs.YtobdjcnojbnegaaGreatDoor
namespace Rows

/-- THE TIED CARD OF 'laws.FnIxKindsAgree'. -/
def fnIxKindsAgreeCard : Claim7 := { stood := { row := fnIxKindsAgreeRow, standIns := [], harness := (true, "609926084c80e5ad48a2c3fd3aaf813d3af447decc6ab816016f349ee43ad245"), looks := true }, kinds := [], alts := [], laidByText := true, laidKinds := [.sentinel, .sentinel, .sentinel, .sentinel, .sentinel, .sentinel, .sentinel, .sentinel, .data, .sentinel], laidTests := true, laidLooks := .later }
def FnIxKindsAgreeCardSaid : Prop := Claim7.holds Tryz.pinned (.plain (OpenSpec.ofChange fnIxKindsAgreeSpec)) fnIxKindsAgreeCard

/-- THE TIED CARD OF 'laws.FnIxOrder'. -/
def fnIxOrderCard : Claim7 := { stood := { row := fnIxOrderRow, standIns := [], harness := (true, "609926084c80e5ad48a2c3fd3aaf813d3af447decc6ab816016f349ee43ad245"), looks := true }, kinds := [], alts := [], laidByText := true, laidKinds := [.sentinel, .sentinel, .sentinel, .sentinel, .sentinel, .sentinel, .sentinel, .sentinel, .data, .sentinel], laidTests := true, laidLooks := .later }
def FnIxOrderCardSaid : Prop := Claim7.holds Tryz.pinned (.plain (OpenSpec.ofChange fnIxOrderSpec)) fnIxOrderCard

/-- THE TIED CARD OF 'laws.FnIxAny'. -/
def fnIxAnyCard : Claim7 := { stood := { row := fnIxAnyRow, standIns := [], harness := (true, "609926084c80e5ad48a2c3fd3aaf813d3af447decc6ab816016f349ee43ad245"), looks := true }, kinds := [], alts := [], laidByText := true, laidKinds := [.sentinel, .sentinel, .sentinel, .sentinel, .sentinel, .sentinel, .sentinel, .sentinel, .data, .sentinel], laidTests := true, laidLooks := .later }
def FnIxAnyCardSaid : Prop := Claim7.holds Tryz.pinned (.plain (OpenSpec.ofChange fnIxAnySpec)) fnIxAnyCard

/-- THE SECOND FORM's CARD OF 'laws.FnIxKindsAgree'. -/
def fnIxKindsAgreeUptoCard : Claim7 := { stood := { row := fnIxKindsAgreeUptoRow, standIns := [], harness := (true, "609926084c80e5ad48a2c3fd3aaf813d3af447decc6ab816016f349ee43ad245"), looks := true }, kinds := [], alts := [], laidByText := true, laidKinds := [.sentinel, .sentinel, .sentinel, .sentinel, .sentinel, .sentinel, .sentinel, .sentinel, .data, .sentinel], laidTests := true, laidLooks := .later }
def FnIxKindsAgreeUptoCardSaid : Prop := Claim7.holds Tryz.pinned (.plain (OpenSpec.upto fnIxKindsAgreeSpec)) fnIxKindsAgreeUptoCard

/-- THE SECOND FORM's CARD OF 'laws.FnIxOrder'. -/
def fnIxOrderUptoCard : Claim7 := { stood := { row := fnIxOrderUptoRow, standIns := [], harness := (true, "609926084c80e5ad48a2c3fd3aaf813d3af447decc6ab816016f349ee43ad245"), looks := true }, kinds := [], alts := [], laidByText := true, laidKinds := [.sentinel, .sentinel, .sentinel, .sentinel, .sentinel, .sentinel, .sentinel, .sentinel, .data, .sentinel], laidTests := true, laidLooks := .later }
def FnIxOrderUptoCardSaid : Prop := Claim7.holds Tryz.pinned (.plain (OpenSpec.upto fnIxOrderSpec)) fnIxOrderUptoCard

/-- THE SECOND FORM's CARD OF 'laws.FnIxAny'. -/
def fnIxAnyUptoCard : Claim7 := { stood := { row := fnIxAnyUptoRow, standIns := [], harness := (true, "609926084c80e5ad48a2c3fd3aaf813d3af447decc6ab816016f349ee43ad245"), looks := true }, kinds := [], alts := [], laidByText := true, laidKinds := [.sentinel, .sentinel, .sentinel, .sentinel, .sentinel, .sentinel, .sentinel, .sentinel, .data, .sentinel], laidTests := true, laidLooks := .later }
def FnIxAnyUptoCardSaid : Prop := Claim7.holds Tryz.pinned (.plain (OpenSpec.upto fnIxAnySpec)) fnIxAnyUptoCard
end Rows
end Go.Proofs.YtobdjcnojbnegaaGreatDoor
