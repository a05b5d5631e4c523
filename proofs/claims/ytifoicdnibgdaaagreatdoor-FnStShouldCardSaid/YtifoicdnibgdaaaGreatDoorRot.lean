/- The nodes of the tree: rotations. -/
import Derived.Test.YtifoicdnibgdaaaGreatDoorTree
import Derived.Deep.DeepCutAuto
import Derived.Deep.CutBlock
namespace Go.Proofs.YtifoicdnibgdaaaGreatDoor
open Go.RowKit
set_option linter.unusedVariables false
set_option linter.unusedSimpArgs false
attribute [local go_sem] setCell_drewN alloc_drewN

/-- What a call keeps: all blocks that were there but those of S; the streams. -/
structure Kp (S : Nat → Prop) (w w' : World) : Prop where
  os : w'.os = w.os
  tape : w'.tape = w.tape
  output : w'.output = w.output
  size : w.heap.size ≤ w'.heap.size
  block : ∀ k, k < w.heap.size → ¬ S k → w'.heap[k]? = w.heap[k]?

theorem Kp.refl (S : Nat → Prop) (w : World) : Kp S w w := ⟨rfl, rfl, rfl, Nat.le_refl _, fun _ _ _ => rfl⟩
theorem Kp.of_below {S : Nat → Prop} {w w' : World} (h : Below w.heap.size w w') : Kp S w w' := ⟨h.os, h.tape, h.output, h.size, fun k hk _ => h.block k hk⟩
theorem Kp.trans {S S' : Nat → Prop} {a b c : World} (h : Kp S a b) (k : Kp S' b c) (hs : ∀ i, S' i → S i ∨ a.heap.size ≤ i) : Kp S a c :=
  ⟨k.os.trans h.os, k.tape.trans h.tape, k.output.trans h.output, Nat.le_trans h.size k.size, fun i hi hn => (k.block i (Nat.lt_of_lt_of_le hi h.size) (fun h' => by rcases hs i h' with h1 | h1; exact hn h1; omega)).trans (h.block i hi hn)⟩
theorem Kp.mono {S S' : Nat → Prop} {a b : World} (h : Kp S a b) (hs : ∀ i, S i → S' i ∨ a.heap.size ≤ i) : Kp S' a b :=
  ⟨h.os, h.tape, h.output, h.size, fun i hi hn => h.block i hi (fun h' => by rcases hs i h' with h1 | h1; exact hn h1; omega)⟩
theorem Kp.set {S : Nat → Prop} {a b : World} (h : Kp S a b) {p : Addr} (hp : S p.block ∨ a.heap.size ≤ p.block) (v : Value) : Kp S a (b.setCell p v) :=
  h.trans (S' := fun i => i = p.block) ⟨rfl, rfl, rfl, by simp [World.setCell], fun k _ hk => Below.heap_setCell b p v k hk⟩ (fun i e => by rw [e]; exact hp)
theorem Kp.cell {S : Nat → Prop} {w w' : World} (h : Kp S w w') {p : Addr} (hp : p.block < w.heap.size) (hs : ¬ S p.block) : w'.cell? p = w.cell? p := World.cell?_of_block (w := w) (h.block _ hp hs)

theorem Ent.At.kp {S : Nat → Prop} {w w' : World} {x : Ent} (h : x.At w) (k : Kp S w w') (hs : ∀ i cs fr, S i → w.heap[i]? ≠ some (.cells cs 5 fr)) : x.At w' := by
  have hk : ∀ ad, x.A = some ad → w'.heap[ad.block]? = w.heap[ad.block]? := by
    intro ad e
    obtain ⟨cs, fr, hh⟩ := h.2 ad e
    exact k.block _ (Array.getElem?_eq_some_iff.1 hh).1 (fun hS => hs _ _ _ hS hh)
  exact ⟨h.1.upd hk, h.2.upd hk⟩

inductive Tr where
  | nil
  | node (b : Nat) (x : Ent) (l r : Tr) (k : Bool)

namespace Tr
def ptr : Tr → Option Addr
  | nil => none
  | node b _ _ _ _ => some ⟨b, 0, none⟩
def red : Tr → Bool
  | nil => false
  | node _ _ _ _ k => !k
def At (w : World) : Tr → Prop
  | nil => True
  | node b x l r k => w.heap[b]? = some (.cells #[x.val, .pointer l.ptr, .pointer r.ptr, .bool k] 127 (0, 0)) ∧ l.At w ∧ r.At w
def blocks : Tr → List Nat
  | nil => []
  | node b _ l r _ => b :: (l.blocks ++ r.blocks)
def items : Tr → List Ent
  | nil => []
  | node _ x l r _ => l.items ++ x :: r.items
def rotL : Tr → Tr
  | node b x l (node rb y rl rr _) k => node rb y (node b x l rl false) rr k
  | t => t
def rotR : Tr → Tr
  | node b x (node lb y ll lr _) r k => node lb y ll (node b x lr r false) k
  | t => t
def turn : Tr → Tr
  | nil => nil
  | node b x l r k => node b x l r (!k)
def flip : Tr → Tr
  | nil => nil
  | node b x l r k => node b x l.turn r.turn (!k)
def left : Tr → Tr
  | nil => nil
  | node _ _ l _ _ => l
def right : Tr → Tr
  | nil => nil
  | node _ _ _ r _ => r
def upA (t : Tr) : Tr := if t.right.red && !t.left.red then t.rotL else t
def upB (t : Tr) : Tr := if t.left.red && t.left.left.red then t.rotR else t
def upC (t : Tr) : Tr := if t.left.red && t.right.red then t.flip else t
def up (t : Tr) : Tr := t.upA.upB.upC

theorem At.same {w w' : World} : ∀ {t : Tr}, t.At w → (∀ i, i ∈ t.blocks → w'.heap[i]? = w.heap[i]?) → t.At w'
  | nil, _, _ => trivial
  | node b x l r k, h, hs => ⟨(hs b (by simp [blocks])).trans h.1, At.same h.2.1 (fun i hi => hs i (by simp [blocks, hi])), At.same h.2.2 (fun i hi => hs i (by simp [blocks, hi]))⟩
theorem At.lt {w : World} : ∀ {t : Tr}, t.At w → ∀ i, i ∈ t.blocks → i < w.heap.size
  | node b x l r k, h, i, hi => by
    simp only [blocks, List.mem_cons, List.mem_append] at hi
    rcases hi with rfl | hi | hi
    · exact (Array.getElem?_eq_some_iff.1 h.1).1
    · exact At.lt h.2.1 i hi
    · exact At.lt h.2.2 i hi
theorem At.typed {w : World} : ∀ {t : Tr}, t.At w → ∀ i, i ∈ t.blocks → ∃ cs, w.heap[i]? = some (.cells cs 127 (0, 0))
  | node b x l r k, h, i, hi => by
    simp only [blocks, List.mem_cons, List.mem_append] at hi
    rcases hi with rfl | hi | hi
    · exact ⟨_, h.1⟩
    · exact At.typed h.2.1 i hi
    · exact At.typed h.2.2 i hi
end Tr

theorem blk_cell {w : World} {g : Nat} {cs : Array Value} {t : TypeId} {fr : Nat × Nat} (h : w.heap[g]? = some (.cells cs t fr)) (i : Nat) : w.cell? ⟨g, i, none⟩ = cs[i]? := by
  simp [World.cell?, h]
theorem blk_free {w : World} {g : Nat} {cs : Array Value} {t : TypeId} (h : w.heap[g]? = some (.cells cs t (0, 0))) (i : Nat) : w.frozen? ⟨g, i, none⟩ = false := by
  simp [World.frozen?, h]
theorem blk_set {w : World} {g : Nat} {t : TypeId} {cs : Array Value} (h : w.heap[g]? = some (.cells cs t (0, 0))) (i : Nat) (u : Value) : (w.setCell ⟨g, i, none⟩ u).heap[g]? = some (.cells (cs.setIfInBounds i u) t (0, 0)) := by
  simp [World.setCell, Array.getElem?_modify, h]
theorem blk_far {w : World} {g : Nat} {o : Obj} (h : w.heap[g]? = some o) {p : Addr} (hp : g ≠ p.block) (u : Value) : (w.setCell p u).heap[g]? = some o := (Below.heap_setCell w p u g hp).trans h

theorem isRed_ok (t : Tr) (w : World) (h : t.At w) : Calls Tryz.prog 124 #[.pointer t.ptr] w fun e w' => e = .returned (.bool t.red) ∧ w = w' := by
  cases t with
  | nil =>
    unfold Tr.ptr Tr.red
    go_enter Tryz.func124, Tryz.ntmps124
    go_wp2
    go_ret
    exact ⟨rfl, rfl⟩
  | node b x l r k =>
    have hc := blk_cell h.1 3
    simp only [List.getElem?_toArray] at hc
    replace hc : w.cell? ⟨b, 3, none⟩ = some (.bool k) := hc
    unfold Tr.ptr Tr.red
    go_enter Tryz.func124, Tryz.ntmps124
    go_wp2
    go_ret
    exact ⟨rfl, rfl⟩

set_option maxRecDepth 100000 in
set_option maxHeartbeats 800000 in
theorem rotL_ok (b rb : Nat) (x y : Ent) (l rl rr : Tr) (k : Bool) (w : World) (h : (Tr.node b x l (.node rb y rl rr false) k).At w) (hd : (Tr.node b x l (.node rb y rl rr false) k).blocks.Nodup) :
    Calls Tryz.prog 125 #[.pointer (some ⟨b, 0, none⟩)] w fun e w' => e = .returned (.pointer (some ⟨rb, 0, none⟩)) ∧ (Tr.node rb y (.node b x l rl false) rr k).At w' ∧ Kp (fun i => i = b ∨ i = rb) w w' := by
  obtain ⟨hb, hl, hr, hrl, hrr⟩ := h
  have b2 : w.cell? ⟨b, 2, none⟩ = some (.pointer (some ⟨rb, 0, none⟩)) := blk_cell hb 2
  have b3 : w.cell? ⟨b, 3, none⟩ = some (.bool k) := blk_cell hb 3
  have r1 : w.cell? ⟨rb, 1, none⟩ = some (.pointer rl.ptr) := blk_cell hr 1
  have r3 : w.cell? ⟨rb, 3, none⟩ = some (.bool false) := blk_cell hr 3
  have fb := fun i => blk_free hb i
  have fr := fun i => blk_free hr i
  have hne : ¬ b = rb := by intro e; subst e; simp [Tr.blocks] at hd
  have hne' : ¬ rb = b := fun e => hne e.symm
  have HB := Lib.hid hb; clear hb
  have HR := Lib.hid hr; clear hr
  go_enter Tryz.func125, Tryz.ntmps125
  go_wp2
  go_ret
  have hdd := hd
  simp only [Tr.blocks, List.cons_append, List.nodup_cons, List.mem_append, List.mem_cons, List.nodup_append, not_or] at hdd
  obtain ⟨⟨nbl, _, nbrl, nbrr⟩, _, ⟨⟨nrrl, nrrr⟩, _⟩, dis⟩ := hdd
  have keep : ∀ (s : Tr), s.At w → b ∉ s.blocks → rb ∉ s.blocks → s.At ((((w.setCell ⟨b, 2, none⟩ (.pointer rl.ptr)).setCell ⟨rb, 1, none⟩ (.pointer (some ⟨b, 0, none⟩))).setCell ⟨rb, 3, none⟩ (.bool k)).setCell ⟨b, 3, none⟩ (.bool false)) := by
    intro s hs h1 h2
    refine hs.same fun i hi => ?_
    have e1 : i ≠ b := fun e => h1 (e ▸ hi)
    have e2 : i ≠ rb := fun e => h2 (e ▸ hi)
    rw [Below.heap_setCell _ _ _ _ e1, Below.heap_setCell _ _ _ _ e2, Below.heap_setCell _ _ _ _ e2, Below.heap_setCell _ _ _ _ e1]
  have nrl : rb ∉ l.blocks := fun h' => dis rb h' rb (by simp) rfl
  refine ⟨rfl, ⟨?_, ⟨?_, keep l hl nbl nrl, keep rl hrl nbrl nrrl⟩, keep rr hrr nbrr nrrr⟩, ?_⟩
  · have h1 := blk_far HR.out (p := ⟨b, 2, none⟩) hne' (.pointer rl.ptr)
    have h2 := blk_set (blk_set h1 1 (.pointer (some ⟨b, 0, none⟩))) 3 (.bool k)
    exact blk_far h2 (p := ⟨b, 3, none⟩) hne' _
  · have h1 := blk_set HB.out 2 (.pointer rl.ptr)
    have h2 := blk_far (blk_far h1 (p := ⟨rb, 1, none⟩) hne (.pointer (some ⟨b, 0, none⟩))) (p := ⟨rb, 3, none⟩) hne (.bool k)
    exact blk_set h2 3 (.bool false)
  · exact ((((Kp.refl _ w).set (p := ⟨b, 2, none⟩) (.inl (.inl rfl)) _).set (p := ⟨rb, 1, none⟩) (.inl (.inr rfl)) _).set (p := ⟨rb, 3, none⟩) (.inl (.inr rfl)) _).set (p := ⟨b, 3, none⟩) (.inl (.inl rfl)) _

set_option maxRecDepth 100000 in
set_option maxHeartbeats 800000 in
theorem rotR_ok (b lb : Nat) (x y : Ent) (r ll lr : Tr) (k : Bool) (w : World) (h : (Tr.node b x (.node lb y ll lr false) r k).At w) (hd : (Tr.node b x (.node lb y ll lr false) r k).blocks.Nodup) :
    Calls Tryz.prog 126 #[.pointer (some ⟨b, 0, none⟩)] w fun e w' => e = .returned (.pointer (some ⟨lb, 0, none⟩)) ∧ (Tr.node lb y ll (.node b x lr r false) k).At w' ∧ Kp (fun i => i = b ∨ i = lb) w w' := by
  obtain ⟨hb, ⟨hl, hll, hlr⟩, hr⟩ := h
  have b1 : w.cell? ⟨b, 1, none⟩ = some (.pointer (some ⟨lb, 0, none⟩)) := blk_cell hb 1
  have b3 : w.cell? ⟨b, 3, none⟩ = some (.bool k) := blk_cell hb 3
  have r2 : w.cell? ⟨lb, 2, none⟩ = some (.pointer lr.ptr) := blk_cell hl 2
  have r3 : w.cell? ⟨lb, 3, none⟩ = some (.bool false) := blk_cell hl 3
  have fb := fun i => blk_free hb i
  have fr := fun i => blk_free hl i
  have hne : ¬ b = lb := by intro e; subst e; simp [Tr.blocks] at hd
  have hne' : ¬ lb = b := fun e => hne e.symm
  have HB := Lib.hid hb; clear hb
  have HR := Lib.hid hl; clear hl
  go_enter Tryz.func126, Tryz.ntmps126
  go_wp2
  go_ret
  have hdd := hd
  simp only [Tr.blocks, List.cons_append, List.nodup_cons, List.mem_append, List.mem_cons, List.nodup_append, not_or] at hdd
  obtain ⟨⟨_, ⟨nbll, nblr⟩, nbr⟩, ⟨⟨nlll, nllr⟩, nlr⟩, _⟩ := hdd
  have keep : ∀ (s : Tr), s.At w → b ∉ s.blocks → lb ∉ s.blocks → s.At ((((w.setCell ⟨b, 1, none⟩ (.pointer lr.ptr)).setCell ⟨lb, 2, none⟩ (.pointer (some ⟨b, 0, none⟩))).setCell ⟨lb, 3, none⟩ (.bool k)).setCell ⟨b, 3, none⟩ (.bool false)) := by
    intro s hs h1 h2
    refine hs.same fun i hi => ?_
    have e1 : i ≠ b := fun e => h1 (e ▸ hi)
    have e2 : i ≠ lb := fun e => h2 (e ▸ hi)
    rw [Below.heap_setCell _ _ _ _ e1, Below.heap_setCell _ _ _ _ e2, Below.heap_setCell _ _ _ _ e2, Below.heap_setCell _ _ _ _ e1]
  refine ⟨rfl, ⟨?_, keep ll hll nbll nlll, ?_, keep lr hlr nblr nllr, keep r hr nbr nlr⟩, ?_⟩
  · have h1 := blk_far HR.out (p := ⟨b, 1, none⟩) hne' (.pointer lr.ptr)
    have h2 := blk_set (blk_set h1 2 (.pointer (some ⟨b, 0, none⟩))) 3 (.bool k)
    exact blk_far h2 (p := ⟨b, 3, none⟩) hne' _
  · have h1 := blk_set HB.out 1 (.pointer lr.ptr)
    have h2 := blk_far (blk_far h1 (p := ⟨lb, 2, none⟩) hne (.pointer (some ⟨b, 0, none⟩))) (p := ⟨lb, 3, none⟩) hne (.bool k)
    exact blk_set h2 3 (.bool false)
  · exact ((((Kp.refl _ w).set (p := ⟨b, 1, none⟩) (.inl (.inl rfl)) _).set (p := ⟨lb, 2, none⟩) (.inl (.inr rfl)) _).set (p := ⟨lb, 3, none⟩) (.inl (.inr rfl)) _).set (p := ⟨b, 3, none⟩) (.inl (.inl rfl)) _
end Go.Proofs.YtifoicdnibgdaaaGreatDoor
