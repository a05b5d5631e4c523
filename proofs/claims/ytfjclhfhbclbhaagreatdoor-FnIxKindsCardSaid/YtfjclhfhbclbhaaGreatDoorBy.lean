/- spec.ByDigest: entries sorted by their digests. -/
import Derived.Test.YtfjclhfhbclbhaaGreatDoorWd
import Derived.Shelf.GgSortMore.Stable
namespace Go.Proofs.YtfjclhfhbclbhaaGreatDoor
open Go.RowKit Go.Lib Go.Sort
set_option linter.unusedVariables false
set_option linter.unusedSimpArgs false
attribute [local go_sem] setCell_drewN alloc_drewN

def entRow (l : List (CidOf × Int)) : List Value := l.flatMap EntCells
def SortedD (l : List (CidOf × Int)) : Prop := l.Pairwise fun x y => Lib.compareBytes x.1.dig y.1.dig ≤ 0
/-- sort.SliceStable by digests, of at most so many entries. -/
def StableEnts (most : Nat) : Prop := ∀ (g cap vb : Nat) (l : List (CidOf × Int)) (tail : List Value) (w : World), l.length ≤ most → w.heap[g]? = some (.cells (entRow l ++ tail).toArray 54 (0, 0)) →
  w.cell? ⟨vb, 0, none⟩ = some (.slice (some ⟨g, 0, none⟩) l.length cap) →
  Calls Tryz.prog 75 #[.iface 31 (.slice (some ⟨g, 0, none⟩) l.length cap), .func (.func 76) #[] #[.pointer (some ⟨vb, 0, none⟩)]] w fun e w' =>
    e = .returned (.tuple #[]) ∧ ∃ l', l'.Perm l ∧ SortedD l' ∧ w'.heap[g]? = some (.cells (entRow l' ++ tail).toArray 54 (0, 0)) ∧ Kp (fun i => i = g) w w'

theorem entRow_get : ∀ {l : List (CidOf × Int)} {i : Nat} {x : CidOf × Int} {j : Nat} {v : Value}, l[i]? = some x → (EntCells x)[j]? = some v → (entRow l)[i * 5 + j]? = some v := by
  intro l
  induction l with
  | nil => intro i x j v h; simp at h
  | cons y l ih =>
    intro i x j v h hj
    have hjl : j < 5 := by have := (List.getElem?_eq_some_iff.1 hj).1; simpa [EntCells] using this
    rw [entRow, List.flatMap_cons]
    cases i with
    | zero =>
      simp only [List.getElem?_cons_zero, Option.some.injEq] at h
      subst h
      rw [List.getElem?_append_left (by simp [EntCells]; omega)]
      simpa using hj
    | succ i =>
      rw [List.getElem?_append_right (by simp [EntCells]; omega)]
      have := ih (i := i) (x := x) (j := j) (v := v) (by simpa using h) hj
      rw [show (i + 1) * 5 + j - (EntCells y).length = i * 5 + j by simp [EntCells]; omega]
      exact this
theorem entRow_len (l : List (CidOf × Int)) : (entRow l).length = l.length * 5 := by
  induction l with
  | nil => rfl
  | cons x l ih => rw [entRow, List.flatMap_cons, List.length_append, List.length_cons]; have : (EntCells x).length = 5 := rfl; rw [this]; rw [entRow] at ih; omega
theorem rows_of_cells {w : World} {g : Nat} {l : List (CidOf × Int)} {tail : List Value} {t : TypeId} {fz : Nat × Nat} (h : w.heap[g]? = some (.cells (entRow l ++ tail).toArray t fz)) : RowsAt w (some ⟨g, 0, none⟩) l := by
  refine .inr ⟨g, 0, rfl, fun i x hx j v hj => ?_⟩
  have hjl : j < 5 := by have := (List.getElem?_eq_some_iff.1 hj).1; simpa [EntCells] using this
  have hil := (List.getElem?_eq_some_iff.1 hx).1
  rw [blk_cell' h, List.getElem?_toArray, Nat.zero_add, List.getElem?_append_left (by rw [entRow_len]; omega)]
  exact entRow_get hx hj

theorem entInfo : (Tryz.prog.info? 54).map (fun i => (i.size, i.bytes)) = some (5, 48) := by kernel_rfl
noncomputable def entsT : TypeInfo := (Tryz.prog.info? 31).get (by kernel_rfl)
noncomputable def entT : TypeInfo := (Tryz.prog.info? 54).get (by kernel_rfl)
theorem entInfo0 : (Tryz.prog.info? 54).map (fun i => (i.zero, i.size, i.bytes)) = some (some (.agg #[.int .u64 0, .int .u64 0, .int .u64 0, .string ⟨#[]⟩, .int .u64 0]), 5, 48) := by kernel_rfl
theorem ent_one (x : CidOf × Int) : ∀ u ∈ EntCells x, u.oneCell' = true := by
  intro u hu
  simp [EntCells] at hu
  rcases hu with rfl | rfl | rfl | rfl | rfl <;> rfl
theorem entRow_one (l : List (CidOf × Int)) : ∀ u ∈ entRow l, u.oneCell' = true := by
  intro u hu
  obtain ⟨x, _, h⟩ := List.mem_flatMap.1 hu
  exact ent_one x u h
theorem entRow_news {w : World} {g o : Nat} {l : List (CidOf × Int)} (hc : ∀ i x, l[i]? = some x → ∀ j v, (EntCells x)[j]? = some v → w.cell? ⟨g, o + i * 5 + j, none⟩ = some v) :
    ∀ j u, (entRow l)[j]? = some u → w.cell? ((⟨g, o, none⟩ : Addr).add j) = some u := by
  intro j u hj
  have hlt : j < l.length * 5 := by have := (List.getElem?_eq_some_iff.1 hj).1; rwa [entRow_len] at this
  have hi : j / 5 < l.length := by omega
  obtain ⟨x, hx⟩ : ∃ x, l[j / 5]? = some x := ⟨_, List.getElem?_eq_getElem hi⟩
  obtain ⟨v, hv⟩ : ∃ v, (EntCells x)[j % 5]? = some v := ⟨_, List.getElem?_eq_getElem (by show j % 5 < 5; omega)⟩
  have h1 := entRow_get hx hv
  rw [show j / 5 * 5 + j % 5 = j by omega, hj] at h1
  cases h1
  have := hc _ _ hx _ _ hv
  rw [show o + j / 5 * 5 + j % 5 = o + j by omega] at this
  by_cases h0 : j = 0
  · subst h0; simpa [Addr.add] using this
  · simpa [Addr.add, h0] using this

set_option maxRecDepth 100000 in
set_option maxHeartbeats 1600000 in
theorem ByDigest_ok (most : Nat) (hS : StableEnts most) (l : List (CidOf × Int)) (A : Option Addr) (cap : Nat) (w : World) (hR : RowsAt w A l) (h0 : 0 < l.length) (hlen : l.length ≤ 1000000) (hle : l.length ≤ most) :
    Calls Tryz.prog 64 #[.slice A l.length cap] w fun e w' => ∃ l' g c, l'.Perm l ∧ SortedD l' ∧ e = .returned (.slice (some ⟨g, 0, none⟩) l.length c) ∧ w.heap.size ≤ g ∧ RowsAt w' (some ⟨g, 0, none⟩) l' ∧ g < w'.heap.size ∧ Below w.heap.size w w' := by
  obtain ⟨i0, hi, hz0, hz1, hz2⟩ := info_parts entInfo0
  obtain ⟨g0, o, rfl, hc⟩ : ∃ g o, A = some ⟨g, o, none⟩ ∧ ∀ i x, l[i]? = some x → ∀ j v, (EntCells x)[j]? = some v → w.cell? ⟨g, o + i * 5 + j, none⟩ = some v := by
    rcases hR with h | h
    · subst h; simp at h0
    · exact h
  have hN := entRow_news hc
  have HN := Lib.hid hN
  have HL := Lib.hid hlen
  have HE := Lib.hid hle
  clear hN hc
  go_enter Tryz.func64, Tryz.ntmps64
  go_wp2_with (at_builtin; refine later ?_)
  have hO0 : (w.alloc (.cells #[] 54)).ownsRow w.heap.size 54 5 (.slice (some ⟨w.heap.size, 0, none⟩) 0 0) 0 [] := ⟨rfl, .inr ⟨_, 0, #[], rfl, Nat.le_refl _, heap_alloc_new w _, Nat.le_refl _, by unfold maxLen; omega, rfl, rfl⟩⟩
  have hnews : ∀ j u, (entRow l)[j]? = some u → (w.alloc (.cells #[] 54)).cell? ((⟨g0, o, none⟩ : Addr).add j) = some u := fun j u h => by
    have h1 := HN.out j u h
    exact ((below_boxed w _).cell (World.block_lt_of_cell? w _ h1)).trans h1
  refine now ?_
  refine wpList_append_own_at _ rfl _ _ 31 rfl w.heap.size 54 i0 _ 5 48 Tryz.underlying31 hi hz0 hz1 hz2 rfl (by decide) _ _ _ rfl hO0 ⟨g0, o, none⟩ l.length cap (entRow l) rfl (entRow_len l) hnews (entRow_one l) ?c3 ?c4 ?c5 ?_
  case c3 => unfold maxLen; omega
  case c4 => omega
  case c5 => simp
  intro v' w2 hown hgrow hnn hloc
  have hB2 : Below w.heap.size w w2 := (below_boxed w _).trans ⟨hgrow.os, hgrow.tape, hgrow.output, hgrow.size, fun i hi => hgrow.block i (by simp; omega) (fun e => by have e' : some i = some w.heap.size := e; cases e'; omega)⟩
  have hz2 : w.heap.size < w2.heap.size := by have := hgrow.size; simp at this; omega
  obtain ⟨g, cap2, cur, rfl, hge, hgc, hgle, hgcm, hgs, htk⟩ : ∃ g cap cur, v' = .slice (some ⟨g, 0, none⟩) l.length cap ∧ w.heap.size ≤ g ∧ w2.heap[g]? = some (.cells cur 54 (0, 0)) ∧ l.length ≤ cap ∧ cap ≤ maxLen ∧ cur.size = cap * 5 ∧ cur.toList.take (l.length * 5) = entRow l := by
    rcases hown.2 with ⟨_, h⟩ | h
    · omega
    · simpa using h
  have hgw : w2.heap[g]? = some (.cells (entRow l ++ cur.toList.drop (l.length * 5)).toArray 54 (0, 0)) := by
    rw [hgc, ← htk, List.take_append_drop]
  have hglt := (Array.getElem?_eq_some_iff.1 hgc).1
  clear hown hgrow hnn hloc hgc htk hgs hO0 hnews hgcm
  go_wp2_with fail
  have hg3 : (w2.alloc (.cells #[.slice (some ⟨g, 0, none⟩) l.length cap2] 31)).heap[g]? = some (.cells (entRow l ++ cur.toList.drop (l.length * 5)).toArray 54 (0, 0)) := (heap_alloc_old w2 _ hglt).trans hgw
  have hbox := heap_alloc_new w2 (.cells #[.slice (some ⟨g, 0, none⟩) l.length cap2] 31)
  refine (hS g cap2 w2.heap.size l _ _ HE.out hg3 (blk_cell' hbox 0)).mono ?_
  rintro e w3 ⟨rfl, l', hp, hsd, hg', hK⟩
  have hb3 := (hK.block w2.heap.size (by simp) (by omega)).trans hbox
  have k1 := (blk_cell' hb3 0).trans (show _ = some (Value.slice (some ⟨g, 0, none⟩) l.length cap2) from rfl)
  have hB3 : Below w.heap.size w w3 := (below_box hB2 _).trans ⟨hK.os, hK.tape, hK.output, hK.size, fun i hi => hK.block i (by simp; omega) (by omega)⟩
  have hR3 : RowsAt w3 (some ⟨g, 0, none⟩) l' := rows_of_cells hg'
  have hlt3 := (Array.getElem?_eq_some_iff.1 hg').1
  clear hK hg' hg3 hbox hgw hB2 HN HE hR
  go_wp2_with fail
  go_ret
  exact ⟨l', g, cap2, hp, hsd, rfl, hge, hR3, hlt3, hB3⟩

theorem kp_growS (w : World) (os : Array Obj) (S : Nat → Prop) : Kp S w (grow w os) := ⟨rfl, rfl, rfl, by rw [size_grow]; omega, fun i hi _ => heap_grow_old w os hi⟩
/-- One entry or none is sorted. -/
theorem stable_one : StableEnts 1 := by
  intro g cap vb l tail w hl hg hv
  have hglt := (Array.getElem?_eq_some_iff.1 hg).1
  have hE : Calls Tryz.prog 75 #[.iface 31 (.slice (some ⟨g, 0, none⟩) l.length cap), .func (.func 76) #[] #[.pointer (some ⟨vb, 0, none⟩)]] w fun e w' => e = .returned (.tuple #[]) ∧ ∃ os, w' = grow w os := by
    match l, hl with
    | [], _ => exact Any.sort_SliceStable_tiny Tryz.laysGt8 31 54 entsT entT (by kernel_rfl) (by kernel_rfl) (by kernel_rfl) (by kernel_rfl) 25 (fun w => by kernel_rfl) _ 0 cap (by omega) 90 (by kernel_rfl) _ _ _ w
    | [x], _ => exact Any.sort_SliceStable_tiny Tryz.laysGt8 31 54 entsT entT (by kernel_rfl) (by kernel_rfl) (by kernel_rfl) (by kernel_rfl) 25 (fun w => by kernel_rfl) _ 1 cap (by omega) 91 (by kernel_rfl) _ _ _ w
  refine hE.mono ?_
  rintro e w' ⟨rfl, os, rfl⟩
  refine ⟨rfl, l, List.Perm.refl _, ?_, (heap_grow_old w os hglt).trans hg, kp_growS w os _⟩
  clear hE hg hv hglt
  match l, hl with
  | [], _ => exact List.Pairwise.nil
  | [x], _ => exact List.pairwise_singleton _ _
end Go.Proofs.YtfjclhfhbclbhaaGreatDoor
