/- append onto a row of bytes of the call's own whose frozen range, if any, begins at its end or behind it (what '[]byte(s)' leaves). -/
import Derived.Test.YtfjclhfhbclbhaaGreatDoorBase
import Derived.Laws.AppendOwn
import Derived.Laws.CopyRow
import Derived.OwnWalk
import Derived.Lib.ConvBytes
namespace Go.Proofs.YtfjclhfhbclbhaaGreatDoor
open Go.RowKit
set_option linter.unusedVariables false
set_option linter.unusedSimpArgs false

theorem storeCells_z (P : Program) (g o : Nat) (t : TypeId) (fz : Nat × Nat) : ∀ (vs : List Value) (i : Nat) (cur : Array Value) (w : World), w.heap[g]? = some (.cells cur t fz) → cur.size ≤ fz.1 → o + i + vs.length ≤ cur.size → (∀ v ∈ vs, v.oneCell' = true) →
    (storeCells ⟨g, o, none⟩ vs i).run P w = .ok () (w.setRow g (cur.toList.take (o + i) ++ vs ++ cur.toList.drop (o + i + vs.length)).toArray)
  | [], i, cur, w, hg, _, _, _ => by
    simp only [storeCells, List.append_nil, List.length_nil, Nat.add_zero, List.take_append_drop, Array.toArray_toList]
    rw [setRow_self w g cur t fz hg]
    rfl
  | v :: rest, i, cur, w, hg, hz, hl, h1 => by
    have hi : o + i < cur.size := by simp at hl; omega
    have hadd : (⟨g, o, none⟩ : Addr).add i = ⟨g, o + i, none⟩ := by unfold Addr.add; split <;> simp_all
    have hcell : w.cell? ⟨g, o + i, none⟩ = some cur[o + i] := by simp [World.cell?, hg, hi]
    have hfro : w.frozen? ⟨g, o + i, none⟩ = false := by
      simp [World.frozen?, hg]
      intro h
      omega
    have hst : (store ((⟨g, o, none⟩ : Addr).add i) v).run P w = .ok () (w.setRow g (cur.setIfInBounds (o + i) v)) := by
      rw [hadd, run_store P w _ v _ (h1 v (by simp)), hcell]
      simp [hfro, setCell_eq_setRow w g (o + i) cur t fz v hg]
    have ih := storeCells_z P g o t fz rest (i + 1) (cur.setIfInBounds (o + i) v) (w.setRow g (cur.setIfInBounds (o + i) v)) (setRow_heap w g cur _ t fz hg) (by simpa using hz) (by simp at hl ⊢; omega) (fun x hx => h1 x (by simp [hx]))
    simp only [storeCells, Sem.run_bind, hst, Result.andThen_ok, ih, setRow_setRow]
    congr 3
    have e := list_seg_step cur.toList (o + i) v rest (by simp at hl ⊢; omega)
    simpa [Array.toList_setIfInBounds, Nat.add_assoc] using e

/-- v, of n bytes, owns the cells xs. -/
def RowZ (w : World) (base : Nat) (e : TypeId) (v : Value) (n : Nat) (xs : List Value) : Prop :=
  xs.length = n ∧ ∃ g cap cur fz, v = .slice (some ⟨g, 0, none⟩) n cap ∧ base ≤ g ∧ w.heap[g]? = some (.cells cur e fz) ∧ (fz = (0, 0) ∨ cur.size ≤ fz.1) ∧ n ≤ cap ∧ cap ≤ maxLen ∧ cur.size = cap ∧ cur.toList.take n = xs

theorem RowZ.kept {w w' : World} {base : Nat} {e : TypeId} {v : Value} {n : Nat} {xs : List Value} {row : Option Nat} (h : RowZ w base e v n xs) (hg : w.grownBy w' row) (hne : v.ownBlock ≠ row) : RowZ w' base e v n xs := by
  obtain ⟨hl, g, cap, cur, fz, rfl, hb, hgg, rest⟩ := h
  refine ⟨hl, g, cap, cur, fz, rfl, hb, ?_, rest⟩
  rw [hg.block g (Array.getElem?_eq_some_iff.1 hgg).1 (by simpa [Value.ownBlock] using hne)]
  exact hgg

theorem RowZ.cells {w : World} {base : Nat} {e : TypeId} {v : Value} {n : Nat} {xs : List Value} (h : RowZ w base e v n xs) {g : Nat} (hg : v.ownBlock = some g) : ∀ j u, xs[j]? = some u → w.cell? ((⟨g, 0, none⟩ : Addr).add j) = some u := by
  obtain ⟨hl, g', cap, cur, fz, rfl, _, hgg, _, _, _, _, htake⟩ := h
  simp [Value.ownBlock] at hg
  subst hg
  intro j u hu
  have hadd : (⟨g', 0, none⟩ : Addr).add j = ⟨g', j, none⟩ := by unfold Addr.add; split <;> simp_all
  rw [hadd]
  rw [← htake, List.getElem?_take] at hu
  split at hu
  · simp [World.cell?, hgg]; simpa using hu
  · cases hu

theorem run_append_z {P : Program} (w : World) (base : Nat) (t ty e : TypeId) (i : TypeInfo) (z : Value) (ht : P.underlying t = some (.slice e)) (hi : P.info? e = some i) (hz : i.zero = some z)
    (hsize : i.size = 1) (hby : i.bytes = 1) (hzs : z.cells.size = 1)
    (v : Value) (n : Nat) (xs : List Value) (hown : RowZ w base e v n xs)
    (a : Addr) (m c : Nat) (news : List Value) (hl : news.length = m) (hnews : ∀ j u, news[j]? = some u → w.cell? (a.add j) = some u) (h1 : ∀ u ∈ news, u.oneCell' = true)
    (h63 : n + m ≤ maxLen) (hbytes : n + m ≤ 140737488355328) (hbase : base ≤ w.heap.size) :
    ∃ v' w', (Builtin.append_ #[t, t] ty #[v, .slice (some a) m c]).run P w = .ok v' w' ∧ RowZ w' base e v' (n + m) (xs ++ news) ∧ w.grownBy w' v.ownBlock ∧ (v'.ownBlock = v.ownBlock ∨ v'.ownBlock = some w.heap.size) := by
  have hown' := hown
  obtain ⟨hx, g, cap, cur, fz, rfl, hbg, hg, hfz, hnc, hcm, hcs, htake⟩ := hown
  have hsmall : n + m ≤ 9223372036854775807 := by simp only [maxLen] at h63; omega
  have hlen : (xs ++ news).length = n + m := by rw [List.length_append, hx, hl]
  by_cases hroom : n + m ≤ cap
  · have hf := run_firstCells_some (P := P) w i.size m a m c news (by rw [hsize, hl, Nat.mul_one]) hnews
    have hst : (storeCells ⟨g, n, none⟩ news 0).run P w = .ok () (w.setRow g (cur.toList.take n ++ news ++ cur.toList.drop (n + news.length)).toArray) := by
      rcases hfz with rfl | hfz
      · have := run_storeCells_at P g n e news 0 cur w hg (by rw [hl, hcs]; omega) h1
        simpa using this
      · have := storeCells_z P g n e fz news 0 cur w hg hfz (by rw [hl, hcs]; omega) h1
        simpa using this
    refine ⟨.slice (some ⟨g, 0, none⟩) (n + m) cap, w.setRow g (cur.toList.take n ++ news ++ cur.toList.drop (n + news.length)).toArray, ?_, ⟨hlen, g, cap, (cur.toList.take n ++ news ++ cur.toList.drop (n + news.length)).toArray, fz, rfl, hbg, setRow_heap w g cur _ e _ hg, ?_, hroom, hcm, ?_, ?_⟩, ⟨rfl, rfl, rfl, by simp, fun k _ hk => setRow_other w g k _ (fun e => hk (by simp [Value.ownBlock, e]))⟩, Or.inl rfl⟩
    · rw [hsize] at hf
      simp [Builtin.append_, run_underlying ht, sizeOf, typeInfo, hi, Builtin.lenOf, hroom, hf, Addr.add_lit, hst, hsize]
    · rcases hfz with h | h
      · exact .inl h
      · right
        have : (cur.toList.take n ++ news ++ cur.toList.drop (n + news.length)).toArray.size = cur.size := by
          simp only [List.size_toArray, List.length_append, List.length_take, List.length_drop, Array.length_toList]; omega
        rw [this]; exact h
    · simp only [List.size_toArray, List.length_append, List.length_take, List.length_drop, Array.length_toList]; omega
    · rw [htake, ← hlen]; exact List.take_left
  · have holds : ∀ j u, xs[j]? = some u → w.cell? ((⟨g, 0, none⟩ : Addr).add j) = some u := hown'.cells (g := g) rfl
    have hr := run_append_grow (P := P) w t ty e i z ht hi hz ⟨g, 0, none⟩ n cap xs (by rw [hsize, hx, Nat.mul_one]) holds a m c news (by rw [hsize, hl, Nat.mul_one]) hnews (by omega) (by omega) (growslice_fits (by omega) (by rw [hby]; omega))
    have hge := grownCap_ge w (n + m) cap e
    have hcm : grownCap w (n + m) cap e ≤ maxLen := grownCap_le_maxLen w (n + m) cap e h63
    refine ⟨_, _, hr, ⟨hlen, w.heap.size, _, _, (0, 0), rfl, hbase, heap_alloc_new w.drew _, .inl rfl, hge, hcm, ?_, ?_⟩, ⟨rfl, rfl, rfl, by simp, fun k hk _ => Below.heap_alloc w.drew _ k hk⟩, Or.inr rfl⟩
    · simp only [Array.size_append, List.size_toArray, size_zeroCells, hzs, hx, hl]
      omega
    · simp only [Array.toList_append, List.append_assoc]
      rw [← List.append_assoc, ← hlen]
      exact List.take_left

theorem wp_append_z {P : Program} {w : World} {ops : Array Oper} {rest : List Oper} {o : Oper} {a : Act} {Q : Exit → Act → World → Prop} (hgd : o.guard = none) (s x : Operand) (t : TypeId)
    (ho : o.op = .call { callee := .builtin .append, args := #[s, x], argTypes := #[t, t] })
    (base : Nat) (e : TypeId) (i : TypeInfo) (z : Value) (ht : P.underlying t = some (.slice e)) (hi : P.info? e = some i) (hz : i.zero = some z)
    (hsize : i.size = 1) (hby : i.bytes = 1) (hzs : z.cells.size = 1)
    (v : Value) (n : Nat) (xs : List Value) (hs : a.eval s = v) (hown : RowZ w base e v n xs)
    (ad : Addr) (m c : Nat) (news : List Value) (hx : a.eval x = .slice (some ad) m c) (hl : news.length = m) (hnews : ∀ j u, news[j]? = some u → w.cell? (ad.add j) = some u) (h1 : ∀ u ∈ news, u.oneCell' = true)
    (h63 : n + m ≤ maxLen) (hbytes : n + m ≤ 140737488355328) (hbase : base ≤ w.heap.size)
    (h : ∀ g cap w', RowZ w' base e (.slice (some ⟨g, 0, none⟩) (n + m) cap) (n + m) (xs ++ news) → w.grownBy w' v.ownBlock → wpList P ops Q rest (a.put o.dst (.slice (some ⟨g, 0, none⟩) (n + m) cap)) w') :
    wpList P ops Q (o :: rest) a w := by
  refine wpList_plain hgd fun K hK => ?_
  obtain ⟨v', w', hr, h2, h3, h5⟩ := run_append_z (P := P) w base t o.type e i z ht hi hz hsize hby hzs v n xs hown ad m c news hl hnews h1 h63 hbytes hbase
  unfold Oper.wp execOp
  simp only [ho, resolve, invoke, builtin, Sem.run_bind, Sem.run_pure, Result.andThen_ok, List.map_toArray, List.map_cons, List.map_nil, hs, hx, hr]
  obtain ⟨_, g, cap, cur, fz, rfl, _⟩ := id h2
  exact hK _ _ (h g cap w' h2 h3)

/-- '[]byte("")': a row of no bytes. -/
theorem RowZ.conv (w : World) (e : TypeId) : RowZ (Lib.bytesWorld w e ⟨#[]⟩) w.heap.size e (.slice (some ⟨w.heap.size, 0, none⟩) 0 (grownCap w 0 0 e)) 0 [] := by
  refine ⟨rfl, w.heap.size, grownCap w 0 0 e, Lib.bytesCells w e ⟨#[]⟩, ((Lib.bytesCells w e ⟨#[]⟩).size, (Lib.bytesCells w e ⟨#[]⟩).size + 1), rfl, Nat.le_refl _, ?_, .inr (Nat.le_refl _), Nat.zero_le _, grownCap_le_maxLen w 0 0 e (by decide), ?_, ?_⟩
  · have h : (w.drew.alloc (.cells (Lib.bytesCells w e ⟨#[]⟩) e)).heap[w.heap.size]? = some (.cells (Lib.bytesCells w e ⟨#[]⟩) e (0, 0)) := heap_alloc_new w.drew _
    unfold Lib.bytesWorld World.freeze
    rw [if_neg (by decide)]
    dsimp only
    rw [Array.getElem?_modify, if_pos rfl, h]
    rfl
  · simp [Lib.bytesCells]
    rfl
  · simp
end Go.Proofs.YtfjclhfhbclbhaaGreatDoor
