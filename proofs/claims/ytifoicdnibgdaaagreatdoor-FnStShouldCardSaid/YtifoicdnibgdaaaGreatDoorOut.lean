/- What the index tells of each entry is put behind the others. -/
import Derived.Test.YtifoicdnibgdaaaGreatDoorEach
import Derived.Deep.AppendLies
import Derived.Deep.RegionLaw
import Derived.StillTactics
namespace Go.Proofs.YtifoicdnibgdaaaGreatDoor
open Go.RowKit
set_option linter.unusedVariables false
set_option linter.unusedSimpArgs false
attribute [local go_sem] setCell_drewN alloc_drewN

theorem info_entry : (Tryz.prog.info? 30).map (fun i => (i.zero, i.size, i.bytes)) = some (some (.agg #[.int .u64 0, .int .u64 0, .int .u64 0, .string ⟨#[]⟩, .int .u64 0]), 5, 48) := by kernel_rfl

/-- A variable at block p that holds a slice of the call's own, with these rows. -/
structure OutAt (w : World) (p B : Nat) (v : Value) (l : List (CidOf × Int)) : Prop where
  blk : w.heap[p]? = some (.cells #[v] 22 (0, 0))
  own : w.ownsRow B 30 5 v l.length (l.flatMap EntCells)
  ne : v.ownBlock ≠ some p

theorem own_below {w w' : World} {B : Nat} {e : TypeId} {size : Nat} {v : Value} {n : Nat} {xs : List Value} (h : w.ownsRow B e size v n xs) (hb : Below w.heap.size w w') : w'.ownsRow B e size v n xs :=
  h.kept (row := none) ⟨hb.os, hb.tape, hb.output, hb.size, fun i hi _ => hb.block i hi⟩ (by cases hv : v.ownBlock <;> simp)

theorem own_lt {w : World} {B : Nat} {e : TypeId} {size : Nat} {v : Value} {n : Nat} {xs : List Value} (h : w.ownsRow B e size v n xs) (k : Nat) (hk : v.ownBlock = some k) : k < w.heap.size := by
  rcases h.2 with ⟨rfl, _⟩ | ⟨g, cap, cur, rfl, _, hh, _⟩
  · cases hk
  · cases hk
    exact (Array.getElem?_eq_some_iff.1 hh).1
theorem grown_cell {a b : World} {row : Option Nat} (hg : a.grownBy b row) {p : Addr} (hlt : p.block < a.heap.size) (hne : some p.block ≠ row) : b.cell? p = a.cell? p := World.cell?_of_block (w := a) (hg.block _ hlt hne)
theorem grown_frozen {a b : World} {row : Option Nat} (hg : a.grownBy b row) {p : Addr} (hlt : p.block < a.heap.size) (hne : some p.block ≠ row) : b.frozen? p = a.frozen? p := World.frozen?_of_block (w := a) (hg.block _ hlt hne)

theorem EntCells_length (x : CidOf × Int) : (EntCells x).length = 5 := rfl

/-- Behind the append and the store of the grown slice. -/
theorem out_done {p B : Nat} {v : Value} {l : List (CidOf × Int)} {x : CidOf × Int} {w w1 w2 : World} {g cap : Nat} {o : Obj} (h : OutAt w p B v l) (hb : Below w.heap.size w w1) (hgrow : (w1.alloc o).grownBy w2 v.ownBlock)
    (hown : w2.ownsRow B 30 5 (.slice (some ⟨g, 0, none⟩) (l.length + 1) cap) (l.length + 1) (l.flatMap EntCells ++ EntCells x)) (hat : v.ownBlock = some g ∨ g = (w1.alloc o).heap.size) :
    OutAt (w2.setCell ⟨p, 0, none⟩ (.slice (some ⟨g, 0, none⟩) (l.length + 1) cap)) p B (.slice (some ⟨g, 0, none⟩) (l.length + 1) cap) (l ++ [x]) ∧
    Kp (fun i => i = p ∨ some i = v.ownBlock) w (w2.setCell ⟨p, 0, none⟩ (.slice (some ⟨g, 0, none⟩) (l.length + 1) cap)) ∧
    (∀ i, (Value.slice (some ⟨g, 0, none⟩) (l.length + 1) cap).ownBlock = some i → v.ownBlock = some i ∨ w.heap.size ≤ i) := by
  have hplt := (Array.getElem?_eq_some_iff.1 h.blk).1
  have hs1 : w.heap.size ≤ w1.heap.size := hb.size
  have hsz : (w1.alloc o).heap.size = w1.heap.size + 1 := by simp
  have hpne : some p ≠ v.ownBlock := fun e => h.ne e.symm
  have hpg : p ≠ g := by
    rcases hat with e | e
    · intro e'; exact h.ne (by rw [e, e'])
    · omega
  have hb2 : Below w.heap.size w (w1.alloc o) := below_box hb o
  have hblk2 : w2.heap[p]? = some (.cells #[v] 22 (0, 0)) := (hgrow.block p (by omega) hpne).trans ((hb2.block p hplt).trans h.blk)
  refine ⟨⟨?_, ?_, ?_⟩, ?_, ?_⟩
  · simpa using blk_set hblk2 0 (.slice (some ⟨g, 0, none⟩) (l.length + 1) cap)
  · have := hown.kept (w' := w2.setCell ⟨p, 0, none⟩ (.slice (some ⟨g, 0, none⟩) (l.length + 1) cap)) (row := some p) ⟨rfl, rfl, rfl, by simp [World.setCell], fun k _ hk => Below.heap_setCell w2 ⟨p, 0, none⟩ _ k (by intro e; exact hk (by rw [e]))⟩ (.inr (by simp [Value.ownBlock]; omega))
    simpa using this
  · simp [Value.ownBlock]; omega
  · exact Kp.set ⟨hgrow.os.trans hb2.os, hgrow.tape.trans hb2.tape, hgrow.output.trans hb2.output, by have := hgrow.size; omega, fun k hk hn => (hgrow.block k (by omega) (fun e => hn (.inr e))).trans (hb2.block k hk)⟩ (p := ⟨p, 0, none⟩) (.inl (.inl rfl)) _
  · intro i hi
    have hi' : g = i := by simpa [Value.ownBlock] using hi
    subst hi'
    rcases hat with e | e
    · exact .inl e
    · right; omega

set_option maxRecDepth 100000 in
set_option maxHeartbeats 3200000 in
theorem each1_ok (p B : Nat) (v : Value) (l : List (CidOf × Int)) (hlen : l.length < 1000000) (c : CidOf) (hc : c.Ok) (off : Int) (w : World) (h : OutAt w p B v l) (hB : B ≤ w.heap.size) :
    Calls Tryz.prog 17 #[.agg #[.string c.str], .int .u64 off, .pointer (some ⟨p, 0, none⟩)] w fun e w' => ∃ v', e = .returned .nilIface ∧ OutAt w' p B v' (l ++ [(c, off)]) ∧ Kp (fun i => i = p ∨ some i = v.ownBlock) w w' ∧ (∀ i, v'.ownBlock = some i → v.ownBlock = some i ∨ w.heap.size ≤ i) := by
  obtain ⟨i0, hi0, hz0, hz1, hz2⟩ := info_parts info_entry
  have hO := fun W => cidOut_ok c hc W
  have cp := (blk_cell h.blk 0).trans (show _ = some v from rfl)
  have fp := blk_free h.blk 0
  have hplt := (Array.getElem?_eq_some_iff.1 h.blk).1
  obtain ⟨vA, vn, vc, hvs⟩ : ∃ A n c, v = .slice A n c := by
    rcases h.own.2 with ⟨h1, _⟩ | ⟨g, cap, cur, h1, _⟩
    · exact ⟨_, _, _, h1⟩
    · exact ⟨_, _, _, h1⟩
  subst hvs
  generalize c.str = s at *
  go_enter Tryz.func17, Tryz.ntmps17
  go_wp2_with fail
  have hcp0 : ((w.alloc (.cells #[.string s] 49)).drew).cell? ⟨p, 0, none⟩ = some (.slice vA vn vc) := ((below_boxed w (.cells #[.string s] 49)).cell (p := ⟨p, 0, none⟩) hplt).trans cp
  have hfp0 : ((w.alloc (.cells #[.string s] 49)).drew).frozen? ⟨p, 0, none⟩ = false := ((below_boxed w (.cells #[.string s] 49)).frozen (p := ⟨p, 0, none⟩) hplt).trans fp
  have hcw0 : ((w.alloc (.cells #[.string s] 49)).drew).cell? ⟨w.heap.size, 0, none⟩ = some (.string s) := blk_cell (heap_alloc_new w (.cells #[.string s] 49)) 0
  have hplt1 : p < ((w.alloc (.cells #[.string s] 49)).drew).heap.size := by simp; omega
  have hwlt1 : w.heap.size < ((w.alloc (.cells #[.string s] 49)).drew).heap.size := by simp
  have hpne : some p ≠ (Value.slice vA vn vc).ownBlock := fun e => h.ne e.symm
  have hwne : some w.heap.size ≠ (Value.slice vA vn vc).ownBlock := by
    intro e
    have := own_lt h.own _ e.symm
    omega
  go_region_law (first | (go_simp; go_at_call 18; refine (hO _).mono ?_; rintro e w1 ⟨rfl, hb1⟩; have hcp1 := (hb1.cell (p := ⟨p, 0, none⟩) hplt1).trans hcp0; have hcp2 := fun o => ((below_box (Below.refl w1.heap.size w1) o).cell (p := ⟨p, 0, none⟩) (Nat.lt_of_lt_of_le hplt1 hb1.size)).trans hcp1) | (refine step_append_lies _ (by rfl) _ _ _ (by rfl) B 30 i0 _ 5 48 Tryz.underlying22 hi0 hz0 hz1 hz2 rfl (by omega) (.slice vA vn vc) l.length (l.flatMap EntCells) (by rfl) (own_below h.own (by (repeat (first | (with_reducible exact Below.refl _ _) | (with_reducible exact below_boxed _ _) | (with_reducible refine below_box ?_ _) | (with_reducible refine below_drew1 ?_) | (with_reducible refine below_drewn ?_ _) | (with_reducible refine below_bytes ?_ _ _) | (with_reducible refine below_next ?_ (by assumption)) | (with_reducible refine below_set ?_ (by first | (simp; done) | (simp; omega) | omega) _))))) ⟨w1.heap.size, 0, none⟩ 1 1 (EntCells (c, off)) (by rfl) (by rfl) (World.news_of_block (cs := (EntCells (c, off)).toArray) (t := 30) (fr := (0, 0)) (heap_alloc_new w1 _)) (by intro u hu; simp [EntCells] at hu; rcases hu with rfl | rfl | rfl | rfl | rfl <;> rfl) (by omega) (by unfold maxLen; omega) (by omega) (by have := hb1.size; simp at this ⊢; omega) _ rfl ?_; intro g cap w2 hown hgrow hat hlt; have hcp3 := (grown_cell hgrow (p := ⟨p, 0, none⟩) (by have := hb1.size; simp at this ⊢; omega) hpne).trans (hcp2 _); have hfp3 := (grown_frozen hgrow (p := ⟨p, 0, none⟩) (by have := hb1.size; simp at this ⊢; omega) hpne).trans (((below_box (Below.refl w1.heap.size w1) _).frozen (p := ⟨p, 0, none⟩) (Nat.lt_of_lt_of_le hplt1 hb1.size)).trans ((hb1.frozen (p := ⟨p, 0, none⟩) hplt1).trans hfp0))))
  all_goals go_wp2_with fail
  all_goals (refine bodyPost_ret (v := .nilIface) (by simp [results, Tryz.results17, go_sem]) rfl ?_; exact ⟨_, rfl, out_done h (below_next (below_drew1 (below_boxed w _)) hb1) hgrow hown hat⟩)
end Go.Proofs.YtifoicdnibgdaaaGreatDoor
