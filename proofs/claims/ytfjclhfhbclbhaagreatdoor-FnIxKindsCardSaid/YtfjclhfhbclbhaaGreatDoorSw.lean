/- A row of an index of one width, read. -/
import Derived.Test.YtfjclhfhbclbhaaGreatDoorRb
import Derived.Deep.Cut
namespace Go.Proofs.YtfjclhfhbclbhaaGreatDoor
open Go.RowKit
set_option linter.unusedVariables false
set_option linter.unusedSimpArgs false
attribute [local go_sem] setCell_drewN alloc_drewN

/-- The struct of one width, at block g. -/
def SwAt (w : World) (g : Nat) (width len : Nat) (idx : Value) : Prop := w.heap[g]? = some (.cells #[.int .u32 (width : Int), .int .u64 (len : Int), idx] 271 (0, 0))

theorem row3_set0 {w : World} {g : Nat} {a b c : Value} {t : TypeId} (h : w.heap[g]? = some (.cells #[a, b, c] t (0, 0))) (v : Value) : (w.setCell ⟨g, 0, none⟩ v).heap[g]? = some (.cells #[v, b, c] t (0, 0)) := by
  rw [setCell_eq_setRow w g 0 _ _ _ _ h, setRow_heap w g _ _ _ _ h]; rfl
theorem row3_set1 {w : World} {g : Nat} {a b c : Value} {t : TypeId} (h : w.heap[g]? = some (.cells #[a, b, c] t (0, 0))) (v : Value) : (w.setCell ⟨g, 1, none⟩ v).heap[g]? = some (.cells #[a, v, c] t (0, 0)) := by
  rw [setCell_eq_setRow w g 1 _ _ _ _ h, setRow_heap w g _ _ _ _ h]; rfl
theorem row3_set2 {w : World} {g : Nat} {a b c : Value} {t : TypeId} (h : w.heap[g]? = some (.cells #[a, b, c] t (0, 0))) (v : Value) : (w.setCell ⟨g, 2, none⟩ v).heap[g]? = some (.cells #[a, b, v] t (0, 0)) := by
  rw [setCell_eq_setRow w g 2 _ _ _ _ h, setRow_heap w g _ _ _ _ h]; rfl
theorem kp_set (w : World) (p : Addr) (v : Value) : Kp (fun i => i = p.block) w (w.setCell p v) := Kp.set (S := fun i => i = p.block) (Kp.refl _ _) (.inl rfl) _

set_option maxRecDepth 100000 in
set_option maxHeartbeats 800000 in
theorem checkLengths_ok (g : Nat) (width L : Nat) (h8 : 8 ≤ width) (hw : width ≤ 33554432) (hL : L < 9223372036854775808) (a b c : Value) (w : World) (h : w.heap[g]? = some (.cells #[a, b, c] 271 (0, 0))) :
    Calls Tryz.prog 232 #[.pointer (some ⟨g, 0, none⟩), .int .u32 width, .int .u64 L, .int .u64 0] w fun e w' => e = .returned .nilIface ∧ SwAt w' g width (L / width) c ∧ Kp (fun i => i = g) w w' := by
  have c0 := (blk_cell' h 0).trans (show _ = some a from rfl)
  have c1 := (blk_cell' h 1).trans (show _ = some b from rfl)
  have f0 := blk_free' h 0
  have f1 := blk_free' h 1
  have hw0 : ¬ ((width : Int) < 8) := by omega
  have hw1 : ¬ ((33554432 : Int) < (width : Int)) := by omega
  have hL1 : (L : Int) < 9223372036854775808 := by omega
  have hw1' : ¬ ((33554432 : Int) < (width : Int)) := by omega
  have hwL : IntKind.i64.wrap (L : Int) = (L : Int) := by rw [IntKind.wrap_i64]; omega
  have hL0 : ¬ ((L : Int) < 0) := by omega
  have hwz : ((width : Int) == 0) = false := by simp; omega
  have HW := Lib.hid (And.intro h8 (And.intro hw hL))
  clear h8 hw hL hw1
  go_enter Tryz.func232, Tryz.ntmps232
  go_wp2_with fail
  go_ret
  have hdv : IntKind.u64.wrap ((L : Int) / (width : Int)) = ((L / width : Nat) : Int) := by
    rw [IntKind.wrap_u64]
    have e : ((L : Int) / (width : Int)) = ((L / width : Nat) : Int) := by simp
    have hle : L / width ≤ L := Nat.div_le_self _ _
    rw [e]; clear e; generalize L / width = q at hle ⊢; omega
  rw [hdv]
  exact ⟨rfl, row3_set1 (row3_set0 h _) _, Kp.set (S := fun i => i = g) (kp_set w ⟨g, 0, none⟩ _) (.inl rfl) _⟩

theorem make8k (kl : IntKind) (n : Nat) (hn : n ≤ 281474976710656) (W : World) : (Instr.makeSlice 27 (.int kl (n : Int)) (.int kl (n : Int))).run Tryz.prog W = .ok (.slice (some ⟨W.heap.size, 0, none⟩) n n) (W.alloc (.cells (zeros8 n).toArray 5)) := by
  obtain ⟨i0, hi, hz0, hz1, hz2⟩ := info_parts info3_u8
  have h := run_make (P := Tryz.prog) W 27 5 i0 (.int .u8 0) Tryz.underlying27 hi hz0 kl kl (n : Int) (n : Int) (by omega) (by omega) (by rw [hz2]; omega) (by omega)
  rw [hz1] at h
  simp only [Int.toNat_natCast, Nat.mul_one] at h
  rw [h, show (Value.int .u8 0).cells = #[Value.int .u8 0] from rfl, madeCells_one]; rfl

set_option maxRecDepth 100000 in
set_option maxHeartbeats 1600000 in
theorem SwUnmarshal_ok (b : Nat) (A : Option Addr) (cap : Nat) (bs : List UInt8) (pos : Nat) (g width : Nat) (data rest : List UInt8) (h8 : 8 ≤ width) (hw : width ≤ 33554432) (x y z : Value) (w : World)
    (h : RdAt w b A cap bs pos) (hbs : bs.drop pos = Lib.leBytes 4 width ++ (Lib.leBytes 8 data.length ++ (data ++ rest))) (hg : w.heap[g]? = some (.cells #[x, y, z] 271 (0, 0))) (hgb : g ≠ b)
    (hA : ∀ g' o, A = some ⟨g', o, none⟩ → g' < w.heap.size ∧ g' ≠ g) :
    Calls Tryz.prog 212 #[.pointer (some ⟨g, 0, none⟩), .iface 32 (.pointer (some ⟨b, 0, none⟩))] w fun e w' => e = .returned .nilIface ∧ RdAt w' b A cap bs (pos + 12 + data.length) ∧
      (∃ gd, w.heap.size ≤ gd ∧ SwAt w' g width (data.length / width) (.slice (some ⟨gd, 0, none⟩) data.length data.length) ∧ w'.heap[gd]? = some (.cells (bcells data).toArray 5 (0, 0))) ∧ Kp (fun i => i = b ∨ i = g) w w' := by
  have hbl : b < w.heap.size := by obtain ⟨pr, hp⟩ := h.blk; exact (Array.getElem?_eq_some_iff.1 hp).1
  have hgl : g < w.heap.size := (Array.getElem?_eq_some_iff.1 hg).1
  have hbig := h.big
  have hlen : pos + 12 + data.length ≤ bs.length := by
    have := congrArg List.length hbs
    simp only [List.length_drop, List.length_append, le4_cases, le8_cases, List.length_cons, List.length_nil] at this
    omega
  have hbs2 : bs.drop (pos + 4) = Lib.leBytes 8 data.length ++ (data ++ rest) := by rw [← List.drop_drop, hbs, le4_cases]; rfl
  have hbs3 : bs.drop (pos + 4 + 8) = data ++ rest := by rw [← List.drop_drop, hbs2, le8_cases]; rfl
  have hR1 := zzRead32_ok b A cap bs pos width (by omega) _ ⟨w.heap.size, 0, none⟩ (.int .u32 0) (w.alloc (.cells #[.int .u32 0] 99)) (rd_alloc h _) hbs (by simp [go_sem]) (by simp [go_sem]) (by show w.heap.size ≠ b; omega) (fun g' o e => by have := (hA g' o e).1; simp; omega)
  have HB := Lib.hid (And.intro hbs2 hbs3); clear hbs hbs2 hbs3
  go_enter Tryz.func212, Tryz.ntmps212
  go_wp2_with fail
  refine hR1.mono ?_
  rintro e w1 ⟨rfl, hR1, hc1, hK1⟩
  have hz1 : w.heap.size < w1.heap.size := by have := hK1.size; simp at this; omega
  have hKa : Kp (fun i => i = b ∨ i = g) w w1 := ((kp_alloc w _).mono (S' := fun i => i = b ∨ i = g) (fun i hi => hi.elim)).trans hK1 (fun i hi => hi.elim (fun e => .inl (.inl e)) (fun e => .inr (by rw [e]; exact Nat.le_refl _)))
  have hg1 : w1.heap[g]? = some (.cells #[x, y, z] 271 (0, 0)) := by
    have := hK1.block g (by simp; omega) (by simp; omega)
    rw [this, Below.heap_alloc w _ g hgl]; exact hg
  have hR2 := zzRead64_ok b A cap bs (pos + 4) data.length (by omega) _ ⟨w1.heap.size, 0, none⟩ (.int .u64 0) (w1.alloc (.cells #[.int .u64 0] 22)) (rd_alloc hR1 _) HB.out.1 (by simp [go_sem]) (by simp [go_sem]) (by show w1.heap.size ≠ b; omega) (fun g' o e => by have := (hA g' o e).1; simp; omega)
  clear hR1 hK1
  go_wp2_with fail
  refine hR2.mono ?_
  rintro e w2 ⟨rfl, hR2, hc2, hK2⟩
  have hz2 : w1.heap.size < w2.heap.size := by have := hK2.size; simp at this; omega
  have hKb : Kp (fun i => i = b ∨ i = g) w w2 := hKa.trans (((kp_alloc w1 _).mono (S' := fun i => i = b ∨ w1.heap.size ≤ i) (fun i hi => hi.elim)).trans hK2 (fun i hi => hi.elim (fun e => .inl (.inl e)) (fun e => .inr (by rw [e]; exact Nat.le_refl _)))) (fun i hi => hi.elim (fun e => .inl (.inl e)) (fun e => .inr (by omega)))
  have hg2 : w2.heap[g]? = some (.cells #[x, y, z] 271 (0, 0)) := by
    have := hK2.block g (by simp; omega) (by simp; omega)
    rw [this, Below.heap_alloc w1 _ g (by omega)]; exact hg1
  have hc5 : w2.cell? ⟨w.heap.size, 0, none⟩ = some (.int .u32 (width : Int)) := by
    have h1 := hK2.cell (p := ⟨w.heap.size, 0, none⟩) (by simp; omega) (by simp; omega)
    rw [h1, World.cell?_of_block (w := w1) (Below.heap_alloc w1 _ _ hz1)]; exact hc1
  clear hKa hK2 hg1 hc1
  go_wp2_with fail
  refine (checkLengths_ok g width data.length h8 hw (by omega) x y z w2 hg2).mono ?_
  rintro e w3 ⟨rfl, hg3, hK3⟩
  have hR3 : RdAt w3 b A cap bs (pos + 4 + 8) := hR2.keep hK3 (by omega) (fun g' o e => (hA g' o e).2)
  have hc7 := (hK3.cell (p := ⟨w1.heap.size, 0, none⟩) hz2 (by simp; omega)).trans hc2
  have hz3 := hK3.size
  have hKc : Kp (fun i => i = b ∨ i = g) w w3 := hKb.trans hK3 (fun i hi => .inl (.inr hi))
  have hmk := make8k .u64 data.length (by omega)
  have hR4 := ReadFull_all b A cap bs (pos + 4 + 8) w3.heap.size data.length (zeros8 data.length).toArray (w3.alloc (.cells (zeros8 data.length).toArray 5)) (rd_alloc hR3 _) (by omega) (heap_alloc_last _ _) (by simp [zeros8_length]) (by omega) (fun g' o e => by have := (hA g' o e).1; omega)
  rw [HB.out.2, List.take_left' rfl] at hR4
  clear hR2 hR3 hKb hK3 hc2 hc5 hg2
  go_wp2_with fail
  refine hR4.mono ?_
  rintro e w4 ⟨rfl, hR4, hg4, hK4⟩
  have hz4 : w3.heap.size < w4.heap.size := by have := hK4.size; simp at this; omega
  have hg5 : w4.heap[g]? = some (.cells #[.int .u32 (width : Int), .int .u64 ((data.length / width : Nat) : Int), z] 271 (0, 0)) := by
    have := hK4.block g (by simp; omega) (by simp; omega)
    rw [this, Below.heap_alloc w3 _ g (by omega)]; exact hg3
  have hKd : Kp (fun i => i = b ∨ i = g) w w4 := hKc.trans (((kp_alloc w3 _).mono (S' := fun i => i = b ∨ w3.heap.size ≤ i) (fun i hi => hi.elim)).trans hK4 (fun i hi => hi.elim (fun e => .inl (.inl e)) (fun e => .inr (by rw [e]; exact Nat.le_refl _)))) (fun i hi => hi.elim (fun e => .inl (.inl e)) (fun e => .inr (by omega)))
  have k2 := (blk_cell' hg5 2).trans (show _ = some z from rfl)
  have kf := blk_free' hg5 2
  clear hKc hK4 hg3 hc7
  go_wp2_with fail
  go_ret
  refine ⟨rfl, hR4.keep (kp_set w4 ⟨g, 2, none⟩ _) (fun e => by simp at e; omega) (fun g' o e => (hA g' o e).2), ⟨w3.heap.size, by omega, row3_set2 hg5 _, (Below.heap_setCell _ _ _ _ (by simp; omega)).trans hg4⟩, Kp.set (S := fun i => i = b ∨ i = g) hKd (.inl (.inr rfl)) _⟩
end Go.Proofs.YtfjclhfhbclbhaaGreatDoor
