/- Entries of an index as they come in. -/
import Derived.Test.YtfjclhfhbclbhaaGreatDoorCidb
namespace Go.Proofs.YtfjclhfhbclbhaaGreatDoor
open Go.RowKit
set_option linter.unusedVariables false
set_option linter.unusedSimpArgs false

/-- The entries as they came in: a slice of rows of five cells. -/
def EntCells (x : CidOf × Int) : List Value := [.int .u64 x.1.ver, .int .u64 x.1.codec, .int .u64 x.1.code, .string (sOf x.1.dig), .int .u64 x.2]
def RowsAt (w : World) (A : Option Addr) (l : List (CidOf × Int)) : Prop :=
  l = [] ∨ ∃ g o, A = some ⟨g, o, none⟩ ∧ ∀ i x, l[i]? = some x → ∀ j v, (EntCells x)[j]? = some v → w.cell? ⟨g, o + i * 5 + j, none⟩ = some v

theorem RowsAt.below {w w' : World} {A : Option Addr} {l : List (CidOf × Int)} (h : RowsAt w A l) (hb : Below w.heap.size w w') : RowsAt w' A l := by
  rcases h with h | ⟨g, o, e, hc⟩
  · exact .inl h
  · exact .inr ⟨g, o, e, fun i x hx j v hj => (hb.cell (World.block_lt_of_cell? w _ (hc i x hx j v hj))).trans (hc i x hx j v hj)⟩

theorem RowsAt.row {w wr : World} {A : Option Addr} {l : List (CidOf × Int)} (hR : RowsAt w A l) (hb : Below w.heap.size w wr) {k : Nat} {x : CidOf × Int} (hx : l[k]? = some x) :
    ∃ g0 o, A = some ⟨g0, o, none⟩ ∧ g0 < w.heap.size ∧ wr.cell? ⟨g0, o + k * 5, none⟩ = some (.int .u64 x.1.ver) ∧ wr.cell? ⟨g0, o + k * 5 + 1, none⟩ = some (.int .u64 x.1.codec) ∧ wr.cell? ⟨g0, o + k * 5 + 2, none⟩ = some (.int .u64 x.1.code) ∧ wr.cell? ⟨g0, o + k * 5 + 3, none⟩ = some (.string (sOf x.1.dig)) ∧ wr.cell? ⟨g0, o + k * 5 + 4, none⟩ = some (.int .u64 x.2) := by
  rcases hR with rfl | ⟨g0, o, rfl, hc⟩
  · simp at hx
  have c0 := hc k x hx 0 _ rfl
  have hg0 : g0 < w.heap.size := World.block_lt_of_cell? w _ c0
  have h := fun j v hj => (hb.cell (p := ⟨g0, o + k * 5 + j, none⟩) hg0).trans (hc k x hx j v hj)
  exact ⟨g0, o, rfl, hg0, h 0 _ rfl, h 1 _ rfl, h 2 _ rfl, h 3 _ rfl, h 4 _ rfl⟩

end Go.Proofs.YtfjclhfhbclbhaaGreatDoor
