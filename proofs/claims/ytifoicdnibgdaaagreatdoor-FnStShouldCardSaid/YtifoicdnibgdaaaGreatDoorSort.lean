/- The order of digests; the entries of the tree stand sorted. Plain. -/
import Derived.Test.YtifoicdnibgdaaaGreatDoorIi
namespace Go.Proofs.YtifoicdnibgdaaaGreatDoor
open Go.RowKit
set_option linter.unusedVariables false

theorem cmp_vals : ∀ a b : List UInt8, Lib.compareBytes a b = -1 ∨ Lib.compareBytes a b = 0 ∨ Lib.compareBytes a b = 1
  | [], [] => .inr (.inl rfl)
  | [], _ :: _ => .inl rfl
  | _ :: _, [] => .inr (.inr rfl)
  | a :: s, b :: u => by
    unfold Lib.compareBytes
    split
    · exact .inl rfl
    · split
      · exact .inr (.inr rfl)
      · exact cmp_vals s u

theorem cmp_neg : ∀ a b : List UInt8, Lib.compareBytes b a = - Lib.compareBytes a b
  | [], [] => rfl
  | [], _ :: _ => rfl
  | _ :: _, [] => rfl
  | a :: s, b :: u => by
    unfold Lib.compareBytes
    have ih := cmp_neg s u
    by_cases h1 : a < b
    · have h2 : ¬ b < a := by rw [UInt8.lt_iff_toNat_lt] at h1 ⊢; omega
      rw [if_neg h2, if_pos h1, if_pos h1]; rfl
    · by_cases h2 : b < a
      · rw [if_pos h2, if_neg h1, if_pos h2]
      · rw [if_neg h1, if_neg h2, if_neg h2, if_neg h1, ih]

theorem cmp_trans : ∀ a b c : List UInt8, Lib.compareBytes a b ≤ 0 → Lib.compareBytes b c ≤ 0 → Lib.compareBytes a c ≤ 0
  | [], b, [], _, _ => by decide
  | [], b, _ :: _, _, _ => by show (-1 : Int) ≤ 0; decide
  | a :: s, [], c, h, _ => by exact absurd h (by show ¬ (1 : Int) ≤ 0; decide)
  | a :: s, b :: u, [], _, h => by exact absurd h (by show ¬ (1 : Int) ≤ 0; decide)
  | a :: s, b :: u, c :: v, h1, h2 => by
    have ih := cmp_trans s u v
    unfold Lib.compareBytes at h1 h2 ⊢
    simp only [UInt8.lt_iff_toNat_lt] at h1 h2 ⊢
    by_cases p1 : a.toNat < c.toNat
    · rw [if_pos p1]; decide
    · rw [if_neg p1]
      by_cases p2 : c.toNat < a.toNat
      · exfalso
        by_cases q1 : a.toNat < b.toNat
        · rw [if_neg (by omega), if_pos (by omega)] at h2; exact absurd h2 (by decide)
        · rw [if_neg q1] at h1
          by_cases q2 : b.toNat < a.toNat
          · rw [if_pos q2] at h1; exact absurd h1 (by decide)
          · rw [if_neg (by omega), if_pos (by omega)] at h2; exact absurd h2 (by decide)
      · rw [if_neg p2]
        by_cases q1 : a.toNat < b.toNat
        · rw [if_neg (by omega), if_pos (by omega)] at h2; exact absurd h2 (by decide)
        · rw [if_neg q1] at h1
          by_cases q2 : b.toNat < a.toNat
          · rw [if_pos q2] at h1; exact absurd h1 (by decide)
          · rw [if_neg q2] at h1
            rw [if_neg (by omega), if_neg (by omega)] at h2
            exact ih h1 h2

theorem cmp_refl : ∀ a : List UInt8, Lib.compareBytes a a = 0
  | [] => rfl
  | a :: s => by
    unfold Lib.compareBytes
    have h : ¬ a < a := by rw [UInt8.lt_iff_toNat_lt]; omega
    rw [if_neg h, if_neg h, cmp_refl s]

/-- Sorted by digests. -/
def Sorted (l : List Ent) : Prop := l.Pairwise fun x y => Lib.compareBytes x.dig y.dig ≤ 0

theorem ins_sorted (n : Nat) (e : Ent) : ∀ t : Tr, Sorted t.items → Sorted (t.ins n e).items
  | .nil, _ => by simp [Tr.ins, Tr.items, Sorted]
  | .node b x l r k, h => by
    unfold Sorted Tr.items at h
    rw [List.pairwise_append, List.pairwise_cons] at h
    obtain ⟨hl, ⟨hxr, hr⟩, hlr⟩ := h
    have il := ins_sorted n e l hl
    have ir := ins_sorted n e r hr
    unfold Tr.ins
    by_cases hc : e.lt x = true
    · have hle : Lib.compareBytes e.dig x.dig ≤ 0 := by have := of_decide_eq_true hc; omega
      rw [if_pos hc, Tr.up_items]
      unfold Sorted Tr.items
      rw [List.pairwise_append, List.pairwise_cons]
      refine ⟨il, ⟨hxr, hr⟩, fun y hy z hz => ?_⟩
      rcases (Tr.ins_items_mem n e l y).1 hy with rfl | hy'
      · rcases List.mem_cons.1 hz with rfl | hz'
        · exact hle
        · exact cmp_trans _ _ _ hle (hxr z hz')
      · exact hlr y hy' z hz
    · have hge : Lib.compareBytes x.dig e.dig ≤ 0 := by
        have h1 : ¬ Lib.compareBytes e.dig x.dig < 0 := fun h' => hc (decide_eq_true h')
        have := cmp_neg e.dig x.dig
        omega
      rw [if_neg hc, Tr.up_items]
      unfold Sorted Tr.items
      rw [List.pairwise_append, List.pairwise_cons]
      refine ⟨hl, ⟨fun z hz => ?_, ir⟩, fun y hy z hz => ?_⟩
      · rcases (Tr.ins_items_mem n e r z).1 hz with rfl | hz'
        · exact hge
        · exact hxr z hz'
      · rcases List.mem_cons.1 hz with rfl | hz'
        · exact hlr y hy _ (by simp)
        · rcases (Tr.ins_items_mem n e r z).1 hz' with rfl | hz''
          · exact cmp_trans _ _ _ (hlr y hy x (by simp)) hge
          · exact hlr y hy z (by simp [hz''])

theorem ins_items_perm (n : Nat) (e : Ent) : ∀ t : Tr, (t.ins n e).items.Perm (e :: t.items)
  | .nil => List.Perm.refl _
  | .node b x l r k => by
    unfold Tr.ins
    split
    · rw [Tr.up_items]
      show ((l.ins n e).items ++ x :: r.items).Perm (e :: (l.items ++ x :: r.items))
      exact (ins_items_perm n e l).append_right _
    · rw [Tr.up_items]
      show (l.items ++ x :: (r.ins n e).items).Perm (e :: (l.items ++ x :: r.items))
      refine (((ins_items_perm n e r).cons x).append_left l.items).trans ?_
      refine (List.Perm.append_left l.items (List.Perm.swap e x r.items)).trans ?_
      exact List.perm_middle

/-- What an entry is without its place in memory. -/
def Ent.key (x : Ent) : ByteArray × Int × List UInt8 := (x.str, x.off, x.dig)

theorem Built.sorted {l : List (CidOf × Int)} {t : Tr} (h : Built l t) : Sorted t.items := by
  induction h with
  | nil => exact List.Pairwise.nil
  | snoc c off nb A cap h ih => rw [Tr.black_items]; exact ins_sorted _ _ _ ih

theorem Built.perm {l : List (CidOf × Int)} {t : Tr} (h : Built l t) : (t.items.map Ent.key).Perm (l.map fun x => (x.1.str, x.2, x.1.dig)) := by
  induction h with
  | nil => exact List.Perm.refl _
  | snoc c off nb A cap h ih =>
    rw [Tr.black_items, List.map_append]
    refine ((ins_items_perm _ _ _).map _).trans ?_
    refine List.Perm.trans ?_ List.perm_append_comm
    exact ih.cons _
end Go.Proofs.YtifoicdnibgdaaaGreatDoor
