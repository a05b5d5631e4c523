/- The entries of an insertion index stand sorted by their digests: FnIiEach, for every input that its row lets in. -/
import Derived.Test.YtifoicdnibgdaaaGreatDoorLast
import Derived.Test.YtifoicdnibgdaaaGreatDoorSha
import Derived.Test.YtifoicdnibgdaaaGreatDoorFit
namespace Go.Proofs.YtifoicdnibgdaaaGreatDoor

theorem fitOk : FitOk := fun W => (Fitting_ok (fun w xs h => sha256Of_ok w xs h) W).mono (by
  rintro e w' ⟨⟨d, hd, rfl⟩, hb⟩
  exact ⟨d, hd, rfl, hb⟩)

/-- FnIiEach. -/
theorem fnIiEach_card : Rows.FnIiEachCardSaid := card_of fitOk
end Go.Proofs.YtifoicdnibgdaaaGreatDoor
