/- The tree: insertion. -/
import Derived.Test.YtifoicdnibgdaaaGreatDoorUp
namespace Go.Proofs.YtifoicdnibgdaaaGreatDoor
open Go.RowKit
set_option linter.unusedVariables false
set_option linter.unusedSimpArgs false
attribute [local go_sem] setCell_drewN alloc_drewN

def Ent.lt (x y : Ent) : Bool := decide (Lib.compareBytes x.dig y.dig < 0)

namespace Tr
def ins (n : Nat) (e : Ent) : Tr → Tr
  | nil => node n e nil nil false
  | node b x l r k => if e.lt x then (node b x (ins n e l) r k).up else (node b x l (ins n e r) k).up
theorem ins_perm (n : Nat) (e : Ent) : ∀ t : Tr, (t.ins n e).blocks.Perm (n :: t.blocks)
  | nil => List.Perm.refl _
  | node b x l r k => by
    unfold ins
    split
    · refine (up_perm _).trans ?_
      have h := ins_perm n e l
      rw [List.perm_iff_count] at h ⊢
      intro a
      have := h a
      simp only [blocks, List.count_cons, List.count_append] at this ⊢
      omega
    · refine (up_perm _).trans ?_
      have h := ins_perm n e r
      rw [List.perm_iff_count] at h ⊢
      intro a
      have := h a
      simp only [blocks, List.count_cons, List.count_append] at this ⊢
      omega
theorem ins_nodup {n : Nat} {e : Ent} {t : Tr} (h : t.blocks.Nodup) (hn : n ∉ t.blocks) : (t.ins n e).blocks.Nodup :=
  (ins_perm n e t).nodup_iff.2 (List.nodup_cons.2 ⟨hn, h⟩)
theorem ins_mem {n : Nat} {e : Ent} {t : Tr} {i : Nat} : i ∈ (t.ins n e).blocks ↔ i = n ∨ i ∈ t.blocks := by
  rw [(ins_perm n e t).mem_iff, List.mem_cons]
/-- All entries of the tree lie in memory. -/
def Ents (w : World) (t : Tr) : Prop := ∀ x, x ∈ t.items → x.At w
end Tr

theorem Ent.At.below {w w' : World} {x : Ent} (h : x.At w) (hb : Below w.heap.size w w') : x.At w' := ⟨h.1.below hb, h.2.below hb⟩
theorem Ent.At.tree {w w' : World} {x : Ent} {t : Tr} (h : x.At w) (ht : t.At w) (k : Kp (fun i => i ∈ t.blocks) w w') : x.At w' := by
  refine h.kp k fun i cs fr hi => ?_
  obtain ⟨cs', hh⟩ := Tr.At.typed ht i hi
  rw [hh]
  intro e
  have := (Obj.cells.inj (Option.some.inj e)).2.1
  exact absurd this (by decide)
theorem Tr.At.below {w w' : World} {t : Tr} (h : t.At w) (hb : Below w.heap.size w w') : t.At w' := h.same fun i hi => hb.block i (h.lt i hi)

set_option maxRecDepth 100000 in
theorem newNode_ok (x : Ent) (w : World) : Calls Tryz.prog 115 #[x.val] w fun e w' => e = .returned (.pointer (some ⟨w.heap.size, 0, none⟩)) ∧ w' = w.alloc (.cells #[x.val, .pointer none, .pointer none, .bool false] 127) := by
  unfold Ent.val
  generalize x.agg = v
  go_enter Tryz.func115, Tryz.ntmps115
  go_wp2_with fail
  go_ret
  exact ⟨rfl, rfl⟩

theorem walkDown_ok (v : Value) (w : World) : Calls Tryz.prog 116 #[v] w fun e w' => e = .returned v ∧ w = w' := by
  go_enter Tryz.func116, Tryz.ntmps116
  go_wp2_with fail
  go_ret
  exact ⟨rfl, rfl⟩

set_option maxRecDepth 100000 in
set_option maxHeartbeats 1600000 in
theorem ins_ok (p : Option Addr) (e : Ent) : ∀ (t : Tr) (w : World), t.At w → t.blocks.Nodup → t.Ents w → e.At w →
    Calls Tryz.prog 103 #[.pointer p, .pointer t.ptr, e.val] w fun en w' => ∃ n, w.heap.size ≤ n ∧ en = .returned (.pointer (t.ins n e).ptr) ∧ (t.ins n e).At w' ∧ Kp (fun i => i ∈ t.blocks) w w' := by
  intro t
  induction t with
  | nil =>
    intro w hAt hd hE he
    have hN := fun W => newNode_ok e W
    have hv : e.val = .iface 80 e.agg := rfl
    have HV := Lib.hid hv; clear hv
    generalize e.val = v at *
    show Calls Tryz.prog 103 #[.pointer p, .pointer none, v] w _
    go_enter Tryz.func103, Tryz.ntmps103
    go_wp2_with fail
    refine (hN _).mono ?_
    rintro en w1 ⟨rfl, rfl⟩
    go_wp2_with fail
    go_ret
    refine ⟨w.heap.size, Nat.le_refl _, rfl, ⟨?_, trivial, trivial⟩, Kp.of_below (below_boxed _ _)⟩
    rw [HV.out]
    have := heap_alloc_new w (.cells #[v, .pointer none, .pointer none, .bool false] 127)
    rw [HV.out] at this
    exact this
  | node b x l r k ihl ihr =>
    intro w hAt hd hE he
    have hAt0 := hAt
    obtain ⟨hb, hl, hr⟩ := hAt
    obtain ⟨nl, nr, ndl, ndr, dis⟩ := Tr.nd hd
    have hx : x.At w := hE x (by simp [Tr.items])
    have hEl : l.Ents w := fun y hy => hE y (by simp [Tr.items, hy])
    have hEr : r.Ents w := fun y hy => hE y (by simp [Tr.items, hy])
    have q0 := (blk_cell hb 0).trans (show _ = some x.val from rfl)
    have q1 := (blk_cell hb 1).trans (show _ = some (Value.pointer l.ptr) from rfl)
    have q2 := (blk_cell hb 2).trans (show _ = some (Value.pointer r.ptr) from rfl)
    have hlt := Tr.At.lt hAt0 b (by simp [Tr.blocks])
    have hLs := fun W h1 h2 => less_ok e x W h1 h2
    have hv : e.val = .iface 80 e.agg := rfl
    have HV := Lib.hid hv; clear hv
    have hxv : x.val = .iface 80 x.agg := rfl
    rw [hxv] at q0 hLs
    have HXV := Lib.hid hxv; clear hxv
    generalize e.val = v at *
    have HB := Lib.hid hb; clear hb
    have HAt := Lib.hid hAt0; clear hAt0
    show Calls Tryz.prog 103 #[.pointer p, .pointer (some ⟨b, 0, none⟩), v] w _
    cases hc : e.lt x with
    | true =>
      have hcc : decide (Lib.compareBytes e.dig x.dig < 0) = true := hc
      have hins : ∀ n, (Tr.node b x l r k).ins n e = (Tr.node b x (l.ins n e) r k).up := fun n => by rw [Tr.ins, if_pos hc]
      have HI := Lib.hid hins; clear hins
      go_enter Tryz.func103, Tryz.ntmps103
      go_wp2_with fail
      refine (walkDown_ok _ _).mono ?_
      rintro en w1 ⟨rfl, rfl⟩
      go_wp2_with fail
      refine (hLs _ he hx).mono ?_
      rintro en w1 ⟨rfl, hb1⟩
      rw [hcc]
      have q1' : w1.cell? ⟨b, 1, none⟩ = some (.pointer l.ptr) := (hb1.cell hlt).trans q1
      go_wp2_with fail
      refine (ihl w1 (hl.below hb1) ndl (fun y hy => (hEl y hy).below hb1) (he.below hb1)).mono ?_
      rintro en w2 ⟨n, hn, rfl, hAt2, hK2⟩
      have hlt1 : b < w1.heap.size := Nat.lt_of_lt_of_le hlt hb1.size
      have hblk2 : w2.heap[b]? = some (.cells #[x.val, .pointer l.ptr, .pointer r.ptr, .bool k] 127 (0, 0)) := (hK2.block b hlt1 nl).trans ((hb1.block b hlt).trans HB.out)
      have q2 : w2.cell? ⟨b, 1, none⟩ = some (.pointer l.ptr) := blk_cell hblk2 1
      have f2 : w2.frozen? ⟨b, 1, none⟩ = false := blk_free hblk2 1
      have HB2 := Lib.hid hblk2; clear hblk2
      go_wp2_with fail
      have hbn : b ≠ n := by omega
      have hnl : n ∉ l.blocks := fun h' => by have := hl.lt n h'; have := hb1.size; omega
      have hnr : n ∉ r.blocks := fun h' => by have := hr.lt n h'; have := hb1.size; omega
      have hblkN : (w2.setCell ⟨b, 1, none⟩ (.pointer (l.ins n e).ptr)).heap[b]? = some (.cells #[x.val, .pointer (l.ins n e).ptr, .pointer r.ptr, .bool k] 127 (0, 0)) := blk_set HB2.out 1 _
      have hAtL : (l.ins n e).At (w2.setCell ⟨b, 1, none⟩ (.pointer (l.ins n e).ptr)) := hAt2.same fun i hi => Below.heap_setCell _ _ _ _ (fun (e' : i = b) => by
        rcases Tr.ins_mem.1 hi with h' | h'
        · exact hbn (e'.symm.trans h')
        · exact nl (e' ▸ h'))
      have hAtR : r.At (w2.setCell ⟨b, 1, none⟩ (.pointer (l.ins n e).ptr)) := hr.same fun i hi => by
        rw [Below.heap_setCell _ _ _ _ (fun e' : i = b => nr (e' ▸ hi)), hK2.block i (Nat.lt_of_lt_of_le (hr.lt i hi) hb1.size) (fun h' => dis i h' hi), hb1.block i (hr.lt i hi)]
      have hAtN : (Tr.node b x (l.ins n e) r k).At (w2.setCell ⟨b, 1, none⟩ (.pointer (l.ins n e).ptr)) := ⟨hblkN, hAtL, hAtR⟩
      have hdN : (Tr.node b x (l.ins n e) r k).blocks.Nodup := Tr.nd_mk (fun h' => (Tr.ins_mem.1 h').elim hbn nl) nr (Tr.ins_nodup ndl hnl) ndr (fun i hi => (Tr.ins_mem.1 hi).elim (fun e' => e' ▸ hnr) (dis i))
      clear hblkN hAtL hAtR
      refine (up_ok b x (l.ins n e) r k _ hAtN hdN).mono ?_
      rintro en w3 ⟨rfl, hAt3, hK3⟩
      go_wp2_with fail
      go_ret
      refine ⟨n, Nat.le_trans hb1.size hn, by rw [HI.out]; rfl, by rw [HI.out]; exact hAt3, ?_⟩
      have k1 : Kp (fun i => i ∈ (Tr.node b x l r k).blocks) w w2 := (Kp.of_below hb1).trans hK2 fun i hi => .inl (by simp [Tr.blocks, hi])
      have k2 := k1.set (p := ⟨b, 1, none⟩) (.inl (by simp [Tr.blocks])) (.pointer (l.ins n e).ptr)
      refine k2.trans hK3 fun i hi => ?_
      simp only [Tr.blocks, List.mem_cons, List.mem_append, Tr.ins_mem] at hi ⊢
      have := hb1.size
      rcases hi with h' | (h' | h') | h'
      · exact .inl (.inl h')
      · exact .inr (by omega)
      · exact .inl (.inr (.inl h'))
      · exact .inl (.inr (.inr h'))
    | false =>
      have hcc : decide (Lib.compareBytes e.dig x.dig < 0) = false := hc
      have hins : ∀ n, (Tr.node b x l r k).ins n e = (Tr.node b x l (r.ins n e) k).up := fun n => by rw [Tr.ins, if_neg (by rw [hc]; exact Bool.false_ne_true)]
      have HI := Lib.hid hins; clear hins
      go_enter Tryz.func103, Tryz.ntmps103
      go_wp2_with fail
      refine (walkDown_ok _ _).mono ?_
      rintro en w1 ⟨rfl, rfl⟩
      go_wp2_with fail
      refine (hLs _ he hx).mono ?_
      rintro en w1 ⟨rfl, hb1⟩
      rw [hcc]
      have q1' : w1.cell? ⟨b, 2, none⟩ = some (.pointer r.ptr) := (hb1.cell hlt).trans q2
      go_wp2_with fail
      refine (ihr w1 (hr.below hb1) ndr (fun y hy => (hEr y hy).below hb1) (he.below hb1)).mono ?_
      rintro en w2 ⟨n, hn, rfl, hAt2, hK2⟩
      have hlt1 : b < w1.heap.size := Nat.lt_of_lt_of_le hlt hb1.size
      have hblk2 : w2.heap[b]? = some (.cells #[x.val, .pointer l.ptr, .pointer r.ptr, .bool k] 127 (0, 0)) := (hK2.block b hlt1 nr).trans ((hb1.block b hlt).trans HB.out)
      have q2 : w2.cell? ⟨b, 2, none⟩ = some (.pointer r.ptr) := blk_cell hblk2 2
      have f2 : w2.frozen? ⟨b, 2, none⟩ = false := blk_free hblk2 2
      have HB2 := Lib.hid hblk2; clear hblk2
      go_wp2_with fail
      have hbn : b ≠ n := by omega
      have hnl : n ∉ l.blocks := fun h' => by have := hl.lt n h'; have := hb1.size; omega
      have hnr : n ∉ r.blocks := fun h' => by have := hr.lt n h'; have := hb1.size; omega
      have hblkN : (w2.setCell ⟨b, 2, none⟩ (.pointer (r.ins n e).ptr)).heap[b]? = some (.cells #[x.val, .pointer l.ptr, .pointer (r.ins n e).ptr, .bool k] 127 (0, 0)) := blk_set HB2.out 2 _
      have hAtR : (r.ins n e).At (w2.setCell ⟨b, 2, none⟩ (.pointer (r.ins n e).ptr)) := hAt2.same fun i hi => Below.heap_setCell _ _ _ _ (fun (e' : i = b) => by
        rcases Tr.ins_mem.1 hi with h' | h'
        · exact hbn (e'.symm.trans h')
        · exact nr (e' ▸ h'))
      have hAtL : l.At (w2.setCell ⟨b, 2, none⟩ (.pointer (r.ins n e).ptr)) := hl.same fun i hi => by
        rw [Below.heap_setCell _ _ _ _ (fun e' : i = b => nl (e' ▸ hi)), hK2.block i (Nat.lt_of_lt_of_le (hl.lt i hi) hb1.size) (fun h' => dis i hi h'), hb1.block i (hl.lt i hi)]
      have hAtN : (Tr.node b x l (r.ins n e) k).At (w2.setCell ⟨b, 2, none⟩ (.pointer (r.ins n e).ptr)) := ⟨hblkN, hAtL, hAtR⟩
      have hdN : (Tr.node b x l (r.ins n e) k).blocks.Nodup := Tr.nd_mk nl (fun h' => (Tr.ins_mem.1 h').elim hbn nr) ndl (Tr.ins_nodup ndr hnr) (fun i hi h' => (Tr.ins_mem.1 h').elim (fun e' => hnl (e' ▸ hi)) (dis i hi))
      clear hblkN hAtL hAtR
      refine (up_ok b x l (r.ins n e) k _ hAtN hdN).mono ?_
      rintro en w3 ⟨rfl, hAt3, hK3⟩
      go_wp2_with fail
      go_ret
      refine ⟨n, Nat.le_trans hb1.size hn, by rw [HI.out]; rfl, by rw [HI.out]; exact hAt3, ?_⟩
      have k1 : Kp (fun i => i ∈ (Tr.node b x l r k).blocks) w w2 := (Kp.of_below hb1).trans hK2 fun i hi => .inl (by simp [Tr.blocks, hi])
      have k2 := k1.set (p := ⟨b, 2, none⟩) (.inl (by simp [Tr.blocks])) (.pointer (r.ins n e).ptr)
      refine k2.trans hK3 fun i hi => ?_
      simp only [Tr.blocks, List.mem_cons, List.mem_append, Tr.ins_mem] at hi ⊢
      have := hb1.size
      rcases hi with h' | h' | (h' | h')
      · exact .inl (.inl h')
      · exact .inl (.inr (.inl h'))
      · exact .inr (by omega)
      · exact .inl (.inr (.inr h'))

/-- An insertion index in memory: the block of its two cells, its tree, the tree's entries. -/
structure IiAt (w : World) (g : Nat) (t : Tr) (n : Int) : Prop where
  blk : w.heap[g]? = some (.cells #[.int .i64 n, .pointer t.ptr] 71 (0, 0))
  tree : t.At w
  nodup : t.blocks.Nodup
  ents : t.Ents w

theorem IiAt.notin {w : World} {g : Nat} {t : Tr} {n : Int} (h : IiAt w g t n) : g ∉ t.blocks := by
  intro hg
  obtain ⟨cs, hh⟩ := Tr.At.typed h.tree g hg
  rw [h.blk] at hh
  have := (Obj.cells.inj (Option.some.inj hh)).2.1
  exact absurd this (by decide)

theorem IiAt.below {w w' : World} {g : Nat} {t : Tr} {n : Int} (h : IiAt w g t n) (hb : Below w.heap.size w w') : IiAt w' g t n :=
  ⟨(hb.block g (Array.getElem?_eq_some_iff.1 h.blk).1).trans h.blk, h.tree.below hb, h.nodup, fun x hx => (h.ents x hx).below hb⟩

theorem Tr.up_node (t : Tr) (b : Nat) (x : Ent) (l r : Tr) (k : Bool) (h : t = .node b x l r k) : ∃ b x l r k, t.up = .node b x l r k := by
  have hne : ∀ s : Tr, s.blocks ≠ [] → ∃ b x l r k, s = .node b x l r k := by
    intro s hs
    cases s with
    | nil => exact absurd rfl hs
    | node b x l r k => exact ⟨b, x, l, r, k, rfl⟩
  refine hne _ fun e => ?_
  have := (Tr.up_perm t).length_eq
  rw [e, h] at this
  simp [Tr.blocks] at this

theorem Tr.ins_node (n : Nat) (e : Ent) (t : Tr) : ∃ b x l r k, t.ins n e = .node b x l r k := by
  cases t with
  | nil => exact ⟨_, _, _, _, _, rfl⟩
  | node b x l r k =>
    unfold Tr.ins
    split
    · exact Tr.up_node _ _ _ _ _ _ rfl
    · exact Tr.up_node _ _ _ _ _ _ rfl

theorem Tr.ins_items_mem (n : Nat) (e : Ent) : ∀ (t : Tr) (y : Ent), y ∈ (t.ins n e).items ↔ y = e ∨ y ∈ t.items
  | .nil, y => by simp [Tr.ins, Tr.items]
  | .node b x l r k, y => by
    have hl := Tr.ins_items_mem n e l y
    have hr := Tr.ins_items_mem n e r y
    unfold Tr.ins
    split
    · rw [Tr.up_items]
      simp only [Tr.items, List.mem_append, List.mem_cons, hl]
      constructor
      · rintro ((h | h) | h | h) <;> simp [h]
      · rintro (h | h | h | h) <;> simp [h]
    · rw [Tr.up_items]
      simp only [Tr.items, List.mem_append, List.mem_cons, hr]
      constructor
      · rintro (h | h | h | h) <;> simp [h]
      · rintro (h | h | h | h) <;> simp [h]

/-- The root is made black. -/
def Tr.black : Tr → Tr
  | .nil => .nil
  | .node b x l r _ => .node b x l r true

set_option maxRecDepth 100000 in
set_option maxHeartbeats 1600000 in
theorem llrbInsert_ok (g : Nat) (t : Tr) (n : Int) (e : Ent) (w : World) (h : IiAt w g t n) (he : e.At w) (hn : 0 ≤ n ∧ n < 9223372036854775807) :
    Calls Tryz.prog 64 #[.pointer (some ⟨g, 0, none⟩), e.val] w fun en w' => ∃ nb, w.heap.size ≤ nb ∧ en = .returned (.tuple #[]) ∧ IiAt w' g (t.ins nb e).black (n + 1) ∧ Kp (fun i => i = g ∨ i ∈ t.blocks) w w' := by
  have hI := fun W h1 h2 h3 h4 => ins_ok (some ⟨g, 0, none⟩) e t W h1 h2 h3 h4
  have hglt := (Array.getElem?_eq_some_iff.1 h.blk).1
  have hgn := h.notin
  have q0 := (blk_cell h.blk 0).trans (show _ = some (Value.int .i64 n) from rfl)
  have q1 := (blk_cell h.blk 1).trans (show _ = some (Value.pointer t.ptr) from rfl)
  have hv : e.val = .iface 80 e.agg := rfl
  rw [hv] at hI
  show Calls Tryz.prog 64 #[.pointer (some ⟨g, 0, none⟩), .iface 80 e.agg] w _
  have HV := Lib.hid hv; clear hv
  go_enter Tryz.func64, Tryz.ntmps64
  go_wp2_with fail
  refine (hI _ h.tree h.nodup h.ents he).mono ?_
  rintro en w1 ⟨nb, hnb, rfl, hAt1, hK1⟩
  obtain ⟨b1, x1, l1, r1, k1, hins⟩ := Tr.ins_node nb e t
  have hblk1 := (hK1.block g hglt hgn).trans h.blk
  have hd1 : (t.ins nb e).blocks.Nodup := Tr.ins_nodup h.nodup (fun h' => by have := h.tree.lt nb h'; omega)
  have hgn1 : g ∉ (t.ins nb e).blocks := fun h' => (Tr.ins_mem.1 h').elim (fun e' => by omega) hgn
  rw [hins] at hAt1 hd1 hgn1 ⊢
  have HINS := Lib.hid hins; clear hins
  have HAT := Lib.hid hAt1
  obtain ⟨hb1, hl1, hr1⟩ := hAt1
  have hne : ¬ g = b1 := fun e' => hgn1 (by rw [e']; simp [Tr.blocks])
  have hne' : ¬ b1 = g := fun e' => hne e'.symm
  have c0 := (blk_cell hblk1 0).trans (show _ = some (Value.int .i64 n) from rfl)
  have c1 := (blk_cell hblk1 1).trans (show _ = some (Value.pointer t.ptr) from rfl)
  have d3 := (blk_cell hb1 3).trans (show _ = some (Value.bool k1) from rfl)
  have fg := fun i => blk_free hblk1 i
  have fb := fun i => blk_free hb1 i
  have HB1 := Lib.hid hb1; clear hb1
  have HG1 := Lib.hid hblk1; clear hblk1
  have hptr : (Tr.node b1 x1 l1 r1 k1).ptr = some ⟨b1, 0, none⟩ := rfl
  rw [hptr]
  go_wp2
  go_end0
  have nd := Tr.nd hd1
  have hmem : ∀ i, i ∈ (Tr.node b1 x1 l1 r1 k1).blocks → i = nb ∨ i ∈ t.blocks := fun i hi => by rw [← HINS.out] at hi; exact Tr.ins_mem.1 hi
  have keep : ∀ (s : Tr), s.At w1 → g ∉ s.blocks → b1 ∉ s.blocks → s.At (((w1.setCell ⟨g, 1, none⟩ (.pointer (some ⟨b1, 0, none⟩))).setCell ⟨b1, 3, none⟩ (.bool true)).setCell ⟨g, 0, none⟩ (.int .i64 (n + 1))) := by
    intro s hs h1 h2
    refine hs.same fun i hi => ?_
    have e1 : i ≠ g := fun e => h1 (e ▸ hi)
    have e2 : i ≠ b1 := fun e => h2 (e ▸ hi)
    rw [Below.heap_setCell _ _ _ _ e1, Below.heap_setCell _ _ _ _ e2, Below.heap_setCell _ _ _ _ e1]
  have hg1l : g ∉ l1.blocks := fun h' => hgn1 (by simp [Tr.blocks, h'])
  have hg1r : g ∉ r1.blocks := fun h' => hgn1 (by simp [Tr.blocks, h'])
  have hb1lt : b1 < w.heap.size ∨ w.heap.size ≤ b1 := by omega
  have kk : Kp (fun i => i = g ∨ i ∈ t.blocks) w (((w1.setCell ⟨g, 1, none⟩ (.pointer (some ⟨b1, 0, none⟩))).setCell ⟨b1, 3, none⟩ (.bool true)).setCell ⟨g, 0, none⟩ (.int .i64 (n + 1))) := by
    refine (((hK1.mono fun i hi => .inl (.inr hi)).set (p := ⟨g, 1, none⟩) (.inl (.inl rfl)) _).set (p := ⟨b1, 3, none⟩) ?_ _).set (p := ⟨g, 0, none⟩) (.inl (.inl rfl)) _
    rcases hmem b1 (by simp [Tr.blocks]) with h' | h'
    · exact .inr (by show w.heap.size ≤ b1; omega)
    · exact .inl (.inr h')
  refine ⟨nb, hnb, rfl, ?_, kk⟩
  rw [HINS.out]
  refine ⟨?_, ⟨?_, keep l1 hl1 hg1l nd.1, keep r1 hr1 hg1r nd.2.1⟩, hd1, ?_⟩
  · exact blk_set (blk_far (blk_set HG1.out 1 _) (p := ⟨b1, 3, none⟩) hne _) 0 _
  · exact blk_far (blk_set (blk_far HB1.out (p := ⟨g, 1, none⟩) hne' _) 3 _) (p := ⟨g, 0, none⟩) hne' _
  · intro y hy
    have hy' : y = e ∨ y ∈ t.items := (Tr.ins_items_mem nb e t y).1 (by rw [HINS.out]; exact hy)
    have hyw : y.At w := by rcases hy' with rfl | h'; exact he; exact h.ents y h'
    refine hyw.kp kk fun i cs fr hi => ?_
    rcases hi with rfl | hi
    · rw [h.blk]
      intro e'
      exact absurd (Obj.cells.inj (Option.some.inj e')).2.1 (by decide)
    · obtain ⟨cs', hh⟩ := Tr.At.typed h.tree i hi
      rw [hh]
      intro e'
      exact absurd (Obj.cells.inj (Option.some.inj e')).2.1 (by decide)
end Go.Proofs.YtifoicdnibgdaaaGreatDoor
