/- spec.Sum of no bytes by SHA-256: only the shapes. -/
import Derived.Test.YtfjclhfhbclbhaaGreatDoorProg
import Derived.Test.YtfjclhfhbclbhaaGreatDoorCid
import Derived.Outline
import Derived.Deep.QuietTactic
import Derived.Laws.BitsAllLaws
import Derived.Laws.Tables
import Derived.Deep.WholeRow
import Derived.BigQuiet
import Derived.Maps.AppendAt
namespace Go.Proofs.YtfjclhfhbclbhaaGreatDoor
open Go.RowKit
set_option linter.unusedVariables false
set_option linter.unusedSimpArgs false
attribute [local go_sem] setCell_drewN alloc_drewN

set_option maxRecDepth 100000 in
theorem right32_ok (a : Int) (n : Nat) (hn : n ≤ 32) (w : World) : Calls Tryz.prog 58 #[.int .u32 a, .int .u64 n] w fun e w' => (∃ r, e = .returned (.int .u32 r)) ∧ w = w' := by
  have h1 : IntKind.u64.wrap (32 - (n : Int)) = ((32 - n : Nat) : Int) := by rw [IntKind.wrap_u64]; omega
  go_enter Tryz.func58, Tryz.ntmps58
  go_wp2_with fail
  go_ret
  exact ⟨⟨_, rfl⟩, rfl⟩

/-- An array of n numbers of 32 bits, as a value. -/
def U32s (n : Nat) (v : Value) : Prop := ∃ xs : List Int, xs.length = n ∧ v = .agg (xs.map (Value.int .u32)).toArray

set_option maxRecDepth 100000 in
theorem small256_ok (w : World) : Calls Tryz.prog 38 #[] w fun e w' => (∃ v, U32s 8 v ∧ e = .returned v) ∧ Below w.heap.size w w' := by
  go_enter Tryz.func38, Tryz.ntmps38
  go_wp2_with fail
  refine bodyPost_ret (v := .agg #[.int .u32 1779033703, .int .u32 3144134277, .int .u32 1013904242, .int .u32 2773480762, .int .u32 1359893119, .int .u32 2600822924, .int .u32 528734635, .int .u32 1541459225]) (by simp [results, Tryz.results38, go_sem]) rfl ?_
  exact ⟨⟨_, ⟨[1779033703, 3144134277, 1013904242, 2773480762, 1359893119, 2600822924, 528734635, 1541459225], rfl, rfl⟩, rfl⟩, by (repeat (first | (with_reducible exact Below.refl _ _) | (with_reducible exact below_boxed _ _) | (with_reducible refine below_box ?_ _) | (with_reducible refine below_drew1 ?_) | (with_reducible refine below_drewn ?_ _) | (with_reducible refine below_bytes ?_ _ _) | (with_reducible refine below_next ?_ (by assumption)) | (with_reducible refine below_set ?_ (by first | (simp; done) | (simp; omega) | omega) _)))⟩
end Go.Proofs.YtfjclhfhbclbhaaGreatDoor
