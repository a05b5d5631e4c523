/- spec.Sum and spec.Fitting of no bytes by SHA-256. -/
import Derived.Test.YtifoicdnibgdaaaGreatDoorShk
import Derived.Test.YtifoicdnibgdaaaGreatDoorCidb
namespace Go.Proofs.YtifoicdnibgdaaaGreatDoor
open Go.RowKit
set_option linter.unusedVariables false
set_option linter.unusedSimpArgs false
attribute [local go_sem] setCell_drewN alloc_drewN

def ShaOk : Prop := ∀ (w : World) (xs : List Int), xs.length = 8 → Calls Tryz.prog 36 #[.string ⟨#[]⟩, .agg (numCells .u32 xs)] w fun e w' => (∃ d : List UInt8, d.length = 32 ∧ e = .returned (.string ⟨d.toArray⟩)) ∧ Below w.heap.size w w'

set_option maxRecDepth 100000 in
theorem Sum_ok (hsha : ShaOk) (w : World) : Calls Tryz.prog 19 #[.int .u64 18, .string ⟨#[]⟩] w fun e w' => (∃ d : List UInt8, d.length = 32 ∧ e = .returned (.tuple #[.string ⟨d.toArray⟩, .bool true])) ∧ Below w.heap.size w w' := by
  go_enter Tryz.func19, Tryz.ntmps19
  go_wp2_with (first | (go_at_call 37; refine (small256_ok _).mono ?_; rintro e w1 ⟨⟨v, ⟨xs, hxs, rfl⟩, rfl⟩, hb1⟩) | (go_at_call 36; refine (hsha _ xs hxs).mono ?_; rintro e w2 ⟨⟨d, hd, rfl⟩, hb2⟩))
  have he : (⟨d.toArray⟩ : ByteArray).extract 0 32 = ⟨d.toArray⟩ := by
    apply ByteArray.ext
    rw [ByteArray.data_extract]
    apply Array.ext'
    simp [List.take_of_length_le (Nat.le_of_eq hd)]
  refine bodyPost_ret (v := .tuple #[.string ⟨d.toArray⟩, .bool true]) (by simp [results, Tryz.results19, go_sem, he]) rfl ?_
  exact ⟨⟨d, hd, rfl⟩, below_next hb1 hb2⟩

set_option maxRecDepth 100000 in
theorem Fitting_ok (hsha : ShaOk) (w : World) : Calls Tryz.prog 8 #[.int .u64 1, .int .u64 85, .int .u64 18, .string ⟨#[]⟩] w fun e w' => (∃ d : List UInt8, d.length = 32 ∧ e = .returned (.agg #[.int .u64 1, .int .u64 85, .int .u64 18, .string (sOf d)])) ∧ Below w.heap.size w w' := by
  go_enter Tryz.func8, Tryz.ntmps8
  go_wp2_with (go_at_call 19; refine (Sum_ok hsha _).mono ?_; rintro e w1 ⟨⟨d, hd, rfl⟩, hb1⟩; obtain ⟨hcc, hff⟩ := bcell hb1; have hz1 := hb1.size)
  refine bodyPost_ret (v := .agg #[.int .u64 1, .int .u64 85, .int .u64 18, .string (sOf d)]) (by simp [results, Tryz.results8, go_sem, hcc, hff, sOf]) rfl ?_
  exact ⟨⟨d, hd, rfl⟩, by (repeat (first | (with_reducible exact Below.refl _ _) | (with_reducible exact below_boxed _ _) | (with_reducible refine below_box ?_ _) | (with_reducible refine below_drew1 ?_) | (with_reducible refine below_drewn ?_ _) | (with_reducible refine below_bytes ?_ _ _) | (with_reducible refine below_next ?_ (by assumption)) | (with_reducible refine below_set ?_ (by first | (simp; done) | (simp; omega) | omega) _)))⟩
end Go.Proofs.YtifoicdnibgdaaaGreatDoor
