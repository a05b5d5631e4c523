/- A block is put into a store just as the reference says: FnStShould, for every input that its row lets in. -/
import Derived.Test.YtifoicdnibgdaaaGreatDoorLastp
import Derived.Test.YtifoicdnibgdaaaGreatDoorSha
import Derived.Test.YtifoicdnibgdaaaGreatDoorFit
namespace Go.Proofs.YtifoicdnibgdaaaGreatDoor

theorem fitOkP : FitOkP := fun W => Fitting_ok (fun w xs h => sha256Of_ok w xs h) W

/-- FnStShould. -/
theorem fnStShould_card : Rows.FnStShouldCardSaid := card_ofP fitOkP
end Go.Proofs.YtifoicdnibgdaaaGreatDoor
