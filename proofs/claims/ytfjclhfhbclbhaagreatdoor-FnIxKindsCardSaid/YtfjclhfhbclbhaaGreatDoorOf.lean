/- The offsets that are told, collected. -/
import Derived.Test.YtfjclhfhbclbhaaGreatDoorGa
import Derived.Lib.OthersKept
import Derived.OwnWalk
namespace Go.Proofs.YtfjclhfhbclbhaaGreatDoor
open Go.RowKit
set_option linter.unusedVariables false
set_option linter.unusedSimpArgs false
attribute [local go_sem] setCell_drewN alloc_drewN

def offVal (o : Nat) : Value := .int .u64 (o : Int)
/-- What was told: os, in the variable at block ob; at most so many, in the one at block mb. -/
structure OutAt (w : World) (ob mb most : Nat) (os : List Nat) : Prop where
  blk : ∃ v, w.heap[ob]? = some (.cells #[v] 55 (0, 0)) ∧ w.ownsRow (ob + 1) 22 1 v os.length (os.map offVal)
  most : w.cell? ⟨mb, 0, none⟩ = some (.int .i64 (most : Int))
  lt : mb < ob

theorem info_u64 : (Tryz.prog.info? 22).map (fun i => (i.zero, i.size, i.bytes)) = some (some (.int .u64 0), 1, 8) := by kernel_rfl
/-- What an append or a told offset keeps: all below ob, and what is no row of offsets. -/
structure Told (ob : Nat) (w w' : World) : Prop where
  bel : Below ob w w'
  oth : Lib.OthersKept 22 (some ob) w w'
theorem Told.refl (ob : Nat) (w : World) : Told ob w w := ⟨Below.refl _ _, Lib.OthersKept.refl _ _ _⟩
theorem Told.trans {ob : Nat} {a b c : World} (h : Told ob a b) (k : Told ob b c) : Told ob a c := ⟨h.bel.trans k.bel, h.oth.trans k.oth⟩
theorem Told.drewN {ob : Nat} {a b : World} (h : Told ob a b) (n : Nat) : Told ob a (b.drewN n) := ⟨⟨h.bel.os, h.bel.tape, h.bel.output, h.bel.size, h.bel.block⟩, h.oth⟩
theorem Told.cells {ob : Nat} {w w' : World} (h : Told ob w w') {g : Nat} {cs : Array Value} {t : TypeId} {fz : Nat × Nat} (hg : w.heap[g]? = some (.cells cs t fz)) (hn : g ≠ ob) (ht : t ≠ 22) : w'.heap[g]? = some (.cells cs t fz) :=
  h.oth g _ hg (fun e => hn (by simpa using e)) (fun c z e => by cases e; exact ht rfl)

set_option maxRecDepth 100000 in
set_option maxHeartbeats 800000 in
theorem tell_ok (ob mb most : Nat) (os : List Nat) (o : Nat) (w : World) (h : OutAt w ob mb most os) (hl : os.length ≤ 1000000) :
    Calls Tryz.prog 44 #[.int .u64 (o : Int), .pointer (some ⟨ob, 0, none⟩), .pointer (some ⟨mb, 0, none⟩)] w fun e w' => e = .returned (.bool (decide (os.length + 1 < most))) ∧ OutAt w' ob mb most (os ++ [o]) ∧ Told ob w w' := by
  obtain ⟨i0, hi, hz0, hz1, hz2⟩ := info_parts info_u64
  obtain ⟨⟨v, hb, hown⟩, hm, hlt⟩ := h
  have c0 := (blk_cell' hb 0).trans (show _ = some v from rfl)
  have f0 := blk_free' hb 0
  have hob := (Array.getElem?_eq_some_iff.1 hb).1
  go_enter Tryz.func44, Tryz.ntmps44
  go_wp2_with (at_builtin; refine wpList_append_own _ rfl _ _ 55 rfl (ob + 1) 22 i0 (.int .u64 0) 1 8 Tryz.underlying55 hi hz0 hz1 hz2 rfl (by decide) _ _ _ rfl (hown.alloc _) ⟨w.heap.size, 0, none⟩ 1 1 [.int .u64 (o : Int)] rfl rfl (one_cell _ _ _) (ints_oneCell .u64 [(o : Int)]) ?c3 ?c4 ?c5 ?_)
  case c3 => unfold maxLen; omega
  case c4 => omega
  case c5 => simp; omega
  intro v' w1 hown1 hgrow _
  have hg1 : (w.alloc (.cells #[.int .u64 (o : Int)] 22)).grownBy w1 v.ownBlock := hgrow
  have hvo : ∀ k, v.ownBlock = some k → ob + 1 ≤ k ∧ k < w.heap.size := hown.lt
  have hb1 : w1.heap[ob]? = some (.cells #[v] 55 (0, 0)) := (hgrow.block ob (by simp; omega) (fun e => by have := (hvo ob e.symm).1; omega)).trans ((heap_alloc_old w _ hob).trans hb)
  have f1 := blk_free' hb1 0
  have k1 := (blk_cell' hb1 0).trans (show _ = some v from rfl)
  have hz1 : w.heap.size < w1.heap.size := by have := hgrow.size; simp at this; omega
  have hm1 : w1.cell? ⟨mb, 0, none⟩ = some (.int .i64 (most : Int)) := (World.cell?_of_block (w := w) ((hgrow.block mb (by simp; omega) (fun e => by have := (hvo mb e.symm).1; omega)).trans (heap_alloc_old w _ (by omega)))).trans hm
  rcases hown1.2 with ⟨_, hbad⟩ | ⟨g, cap, cur, rfl, hge, hg, hle, hcm, hcs, htk⟩
  · omega
  have hne : g ≠ ob := by omega
  go_wp2_with fail
  go_ret
  have hb2 : (w1.setCell ⟨ob, 0, none⟩ (.slice (some ⟨g, 0, none⟩) (os.length + 1) cap)).heap[ob]? = some (.cells #[.slice (some ⟨g, 0, none⟩) (os.length + 1) cap] 55 (0, 0)) := by
    rw [setCell_eq_setRow w1 ob 0 _ _ _ _ hb1, setRow_heap w1 ob _ _ _ _ hb1]; rfl
  have hbel : Below ob w w1 := ((below_boxed w _).mono (Nat.le_of_lt hob)).trans ⟨hgrow.os, hgrow.tape, hgrow.output, hgrow.size, fun k hk => hgrow.block k (by simp; omega) (fun e => by have := (hvo k e.symm).1; omega)⟩
  have hoth : Lib.OthersKept 22 (some ob) w w1 := ((Lib.OthersKept.refl _ _ w).alloc _).grown hgrow (fun g' hg' => by
    rcases (hown.alloc (.cells #[.int .u64 (o : Int)] 22)).2 with ⟨rfl, _⟩ | ⟨g2, cap2, cur2, rfl, _, h2, _⟩
    · cases hg'
    · cases hg'; exact ⟨_, _, h2⟩)
  refine ⟨congrArg (fun b => Ending.returned (.bool b)) (decide_eq_decide.2 (by omega)), ⟨⟨_, hb2, ?_⟩, ?_, hlt⟩, ⟨hbel.setCell (Nat.le_refl _) _, hoth.setCell _ rfl _⟩⟩
  · refine ⟨by simp, .inr ⟨g, cap, cur, by simp, hge, (Below.heap_setCell _ _ _ _ hne).trans hg, by simpa using hle, hcm, hcs, ?_⟩⟩
    simp only [List.length_append, List.length_cons, List.length_nil, List.map_append, List.map_cons, List.map_nil, offVal] at htk ⊢
    exact htk
  · exact (World.cell?_of_block (w := w1) (Below.heap_setCell _ _ _ _ (by show mb ≠ ob; omega))).trans hm1
end Go.Proofs.YtfjclhfhbclbhaaGreatDoor
