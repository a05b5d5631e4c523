/- A bytes.Buffer that is written. -/
import Derived.Test.YtfjclhfhbclbhaaGreatDoorMu
import Derived.Test.YtfjclhfhbclbhaaGreatDoorEnc
import Derived.Test.YtfjclhfhbclbhaaGreatDoorGa
import Derived.Lib.OthersKept
import Derived.Lib.Buffer
namespace Go.Proofs.YtfjclhfhbclbhaaGreatDoor
open Go.RowKit
set_option linter.unusedVariables false
set_option linter.unusedSimpArgs false
attribute [local go_sem] setCell_drewN alloc_drewN

/-- A buffer at block b, its row from block B on, that holds bs. -/
def BufAt (w : World) (B b : Nat) (bs : List UInt8) : Prop := Lib.IsBuffer 43 5 B b (bcells bs) w
/-- What a write keeps. -/
structure WrK (B b : Nat) (w w' : World) : Prop where
  bel : Below B w w'
  oth : Lib.OthersKept 5 (some b) w w'
theorem WrK.refl (B b : Nat) (w : World) : WrK B b w w := ⟨Below.refl _ _, Lib.OthersKept.refl _ _ _⟩
theorem WrK.trans {B b : Nat} {x y z : World} (h : WrK B b x y) (k : WrK B b y z) : WrK B b x z := ⟨h.bel.trans k.bel, h.oth.trans k.oth⟩
theorem WrK.of_below {B b : Nat} {w w' : World} (h : Below w.heap.size w w') (hl : B ≤ w.heap.size) : WrK B b w w' :=
  ⟨h.mono hl, fun k o hk _ _ => (h.block k (Array.getElem?_eq_some_iff.1 hk).1).trans hk⟩
theorem WrK.drewN {B b : Nat} {x y : World} (h : WrK B b x y) (n : Nat) : WrK B b x (y.drewN n) := ⟨⟨h.bel.os, h.bel.tape, h.bel.output, h.bel.size, h.bel.block⟩, h.oth⟩
theorem WrK.cells {B b : Nat} {w w' : World} (h : WrK B b w w') {g : Nat} {o : Obj} (hg : w.heap[g]? = some o) (hn : g ≠ b) (ht : ∀ c fz, o ≠ .cells c 5 fz) : w'.heap[g]? = some o :=
  h.oth g _ hg (fun e => hn (by simpa using e)) ht
theorem BufAt.lt {w : World} {B b : Nat} {bs : List UInt8} (h : BufAt w B b bs) : b < w.heap.size := Lib.IsBuffer.lt h
theorem BufAt.below {w w' : World} {B b : Nat} {bs : List UInt8} (h : BufAt w B b bs) (hb : Below w.heap.size w w') : BufAt w' B b bs := by
  have hl := h.lt
  obtain ⟨h1, v, lr, h2, h3, h4⟩ := h
  refine ⟨h1, v, lr, (hb.block _ hl).trans h2, ⟨h3.1, ?_⟩, h4⟩
  rcases h3.2 with h | ⟨g, cap, cur, e1, e2, e3, e4⟩
  · exact .inl h
  · exact .inr ⟨g, cap, cur, e1, e2, (hb.block _ (Array.getElem?_eq_some_iff.1 e3).1).trans e3, e4⟩
theorem BufAt.same {w w' : World} {B b : Nat} {bs : List UInt8} (h : BufAt w B b bs) (hw : w'.heap = w.heap) : BufAt w' B b bs := by
  obtain ⟨h1, v, lr, h2, h3, h4⟩ := h
  refine ⟨h1, v, lr, by rw [hw]; exact h2, ⟨h3.1, ?_⟩, h4⟩
  rcases h3.2 with h | ⟨g, cap, cur, e1, e2, e3, e4⟩
  · exact .inl h
  · exact .inr ⟨g, cap, cur, e1, e2, by rw [hw]; exact e3, e4⟩
theorem BufAt.kp {S : Nat → Prop} {w w' : World} {B b : Nat} {bs : List UInt8} (h : BufAt w B b bs) (hk : Kp S w w') (h1 : ¬ S b) (h2 : ∀ g cs fz, S g → w.heap[g]? ≠ some (.cells cs 5 fz)) : BufAt w' B b bs := by
  have hl := h.lt
  obtain ⟨h3, v, lr, h4, h5, h6⟩ := h
  refine ⟨h3, v, lr, (hk.block _ hl h1).trans h4, ⟨h5.1, ?_⟩, h6⟩
  rcases h5.2 with h | ⟨g, cap, cur, e1, e2, e3, e4⟩
  · exact .inl h
  · exact .inr ⟨g, cap, cur, e1, e2, (hk.block _ (Array.getElem?_eq_some_iff.1 e3).1 (fun hs => h2 g _ _ hs e3)).trans e3, e4⟩
theorem bcells_one (l : List UInt8) : ∀ v ∈ bcells l, v.oneCell' = true := by
  intro v hv
  unfold bcells at hv
  obtain ⟨x, _, rfl⟩ := List.mem_map.1 hv
  rfl
theorem bcells_append (a b : List UInt8) : bcells a ++ bcells b = bcells (a ++ b) := by simp [bcells]

theorem bufWrite_ok (B b : Nat) (bs cs : List UInt8) (A : Addr) (n c : Nat) (w : World) (h : BufAt w B b bs) (hB : B ≤ w.heap.size) (hA : BytesAt w (some A) cs) (hn : cs.length = n) (hab : A.block ≠ b) (hlim : bs.length + n ≤ 1099511627776) :
    Calls Tryz.prog 162 #[.pointer (some ⟨b, 0, none⟩), .slice (some A) n c] w fun e w' => e = .returned (.tuple #[.int .i64 n, .nilIface]) ∧ BufAt w' B b (bs ++ cs) ∧ WrK B b w w' := by
  have hsrc : ∀ j v, (bcells cs)[j]? = some v → w.cell? (A.add j) = some v := by
    intro j v hj
    rcases hA with hA | ⟨g, o, e, hc⟩
    · subst hA; simp [bcells] at hj
    · cases e
      rw [Addr.add_mid]
      simp only [bcells, List.getElem?_map] at hj
      cases hq : cs[j]? with
      | none => rw [hq] at hj; cases hj
      | some x => rw [hq] at hj; cases hj; exact hc j x hq
  refine (Tryz.Buffer_Write_any B b (bcells bs) (bcells cs) A n c w h hB (bcells_one _) (by rw [bcells_len]; exact hn) hab hsrc (bcells_one _) (by rw [bcells_len]; omega)).mono ?_
  rintro e w' ⟨rfl, h1, h2, h3⟩
  rw [bcells_append] at h1
  exact ⟨rfl, h1, h2, h3⟩

theorem method_bufWrite (v : Value) (w : World) : (method 448 46 v "Write").run Tryz.prog w = .ok (162, v) w := by kernel_rfl
theorem ahead_bufWrite (p : Addr) (w : World) : (nilAhead 448 46 (.pointer (some p)) "Write").run Tryz.prog w = .ok (some false) w := by kernel_rfl

set_option maxRecDepth 100000 in
set_option maxHeartbeats 1600000 in
theorem zzWrite32_ok (B b : Nat) (bs : List UInt8) (v : Nat) (hv : v < 4294967296) (w : World) (h : BufAt w B b bs) (hB : B ≤ w.heap.size) (hlim : bs.length + 4 ≤ 1099511627776) :
    Calls Tryz.prog 181 #[.iface 46 (.pointer (some ⟨b, 0, none⟩)), .int .u32 (v : Int)] w fun e w' => e = .returned .nilIface ∧ BufAt w' B b (bs ++ Lib.leBytes 4 v) ∧ WrK B b w w' := by
  have hme := method_bufWrite
  have hmk : ∀ W : World, (Instr.makeSlice 27 (.int .i64 4) (.int .i64 4)).run Tryz.prog W = .ok (.slice (some ⟨W.heap.size, 0, none⟩) 4 4) (W.alloc (.cells (zeros8 4).toArray 5)) := fun W => make8 4 4 rfl (by omega) W
  have hbl := h.lt
  have hg : (w.alloc (.cells (zeros8 4).toArray 5)).heap[w.heap.size]? = some (.cells (zeros8 4).toArray 5 (0, 0)) := heap_alloc_last _ _
  have z0 := (blk_cell' hg 0).trans (show _ = some (Value.int .u8 0) from rfl)
  have z1 := (blk_cell' hg (0 + 1)).trans (show _ = some (Value.int .u8 0) from rfl)
  have z2 := (blk_cell' hg (0 + 2)).trans (show _ = some (Value.int .u8 0) from rfl)
  have z3 := (blk_cell' hg (0 + 3)).trans (show _ = some (Value.int .u8 0) from rfl)
  have f0 := blk_free' hg 0
  have f1 := blk_free' hg (0 + 1)
  have f2 := blk_free' hg (0 + 2)
  have f3 := blk_free' hg (0 + 3)
  have hP := Tryz.binary_LE_PutUint32 w.heap.size 0 4 4 v hv _ _ _ _ (w.alloc (.cells (zeros8 4).toArray 5)) (by omega) z0 z1 z2 z3 f0 f1 f2 f3
  have hb0 : Below w.heap.size w (((w.alloc (.cells (zeros8 4).toArray 5)).alloc (.cells #[] 283)).setCells w.heap.size 0 (Lib.byteCells (Lib.leBytes 4 v))) :=
    (by (repeat (first | (with_reducible exact Below.refl _ _) | (with_reducible exact below_boxed _ _) | (with_reducible refine below_box ?_ _) | (with_reducible refine below_drew1 ?_) | (with_reducible refine below_drewn ?_ _) | (with_reducible refine below_bytes ?_ _ _) | (with_reducible refine below_next ?_ (by assumption)) | (with_reducible refine below_set ?_ (by first | (simp; done) | (simp; omega) | omega) _))) : Below w.heap.size w ((w.alloc (.cells (zeros8 4).toArray 5)).alloc (.cells #[] 283))).trans (below_setCells _ _ (Nat.le_refl _) _ _ _)
  have hrow := heap_setCells w.heap.size 5 (Lib.byteCells (Lib.leBytes 4 v)) 0 (zeros8 4) ((w.alloc (.cells (zeros8 4).toArray 5)).alloc (.cells #[] 283)) ((heap_alloc_old _ _ (by simp)).trans hg) (by simp [zeros8_length, Lib.byteCells, le4_len])
  clear z0 z1 z2 z3 f0 f1 f2 f3 hg
  obtain ⟨W, hW⟩ : ∃ W, W = (((w.alloc (.cells (zeros8 4).toArray 5)).alloc (.cells #[] 283)).setCells w.heap.size 0 (Lib.byteCells (Lib.leBytes 4 v))) := ⟨_, rfl⟩
  rw [← hW] at hb0 hrow hP
  have HW := Lib.hid hW; clear hW
  have hrow' : W.heap[w.heap.size]? = some (.cells (bcells (Lib.leBytes 4 v)).toArray 5 (0, 0)) := hrow
  have hWr := bufWrite_ok B b bs (Lib.leBytes 4 v) ⟨w.heap.size, 0, none⟩ 4 4 W (h.below hb0) (Nat.le_trans hB hb0.size) (by have := row_bytes hrow' 0 4; rwa [List.drop_zero, List.take_of_length_le (Nat.le_of_eq (le4_len v))] at this) (le4_len v) (by show w.heap.size ≠ b; omega) hlim
  clear hrow hrow'
  go_enter Tryz.func181, Tryz.ntmps181
  go_wp2_with fail
  refine hP.mono ?_
  clear hP
  rintro e w1 ⟨rfl, rfl⟩
  go_wp2_with fail
  refine hWr.mono ?_
  clear hWr
  rintro e w1 ⟨rfl, hB1, hK1⟩
  go_wp2_with fail
  go_ret
  exact ⟨rfl, hB1, (WrK.of_below hb0 hB).trans hK1⟩
set_option maxRecDepth 100000 in
set_option maxHeartbeats 1600000 in
theorem zzWrite64_ok (B b : Nat) (bs : List UInt8) (v : Nat) (hv : v < 18446744073709551616) (w : World) (h : BufAt w B b bs) (hB : B ≤ w.heap.size) (hlim : bs.length + 8 ≤ 1099511627776) :
    Calls Tryz.prog 194 #[.iface 46 (.pointer (some ⟨b, 0, none⟩)), .int .u64 (v : Int)] w fun e w' => e = .returned .nilIface ∧ BufAt w' B b (bs ++ Lib.leBytes 8 v) ∧ WrK B b w w' := by
  have hme := method_bufWrite
  have hmk : ∀ W : World, (Instr.makeSlice 27 (.int .i64 8) (.int .i64 8)).run Tryz.prog W = .ok (.slice (some ⟨W.heap.size, 0, none⟩) 8 8) (W.alloc (.cells (zeros8 8).toArray 5)) := fun W => make8 8 8 rfl (by omega) W
  have hbl := h.lt
  have hg : (w.alloc (.cells (zeros8 8).toArray 5)).heap[w.heap.size]? = some (.cells (zeros8 8).toArray 5 (0, 0)) := heap_alloc_last _ _
  have z0 := (blk_cell' hg 0).trans (show _ = some (Value.int .u8 0) from rfl)
  have z1 := (blk_cell' hg (0 + 1)).trans (show _ = some (Value.int .u8 0) from rfl)
  have z2 := (blk_cell' hg (0 + 2)).trans (show _ = some (Value.int .u8 0) from rfl)
  have z3 := (blk_cell' hg (0 + 3)).trans (show _ = some (Value.int .u8 0) from rfl)
  have z4 := (blk_cell' hg (0 + 4)).trans (show _ = some (Value.int .u8 0) from rfl)
  have z5 := (blk_cell' hg (0 + 5)).trans (show _ = some (Value.int .u8 0) from rfl)
  have z6 := (blk_cell' hg (0 + 6)).trans (show _ = some (Value.int .u8 0) from rfl)
  have z7 := (blk_cell' hg (0 + 7)).trans (show _ = some (Value.int .u8 0) from rfl)
  have f0 := blk_free' hg 0
  have f1 := blk_free' hg (0 + 1)
  have f2 := blk_free' hg (0 + 2)
  have f3 := blk_free' hg (0 + 3)
  have f4 := blk_free' hg (0 + 4)
  have f5 := blk_free' hg (0 + 5)
  have f6 := blk_free' hg (0 + 6)
  have f7 := blk_free' hg (0 + 7)
  have hP := Tryz.binary_LE_PutUint64 w.heap.size 0 8 8 v hv _ _ _ _ _ _ _ _ (w.alloc (.cells (zeros8 8).toArray 5)) (by omega) z0 z1 z2 z3 z4 z5 z6 z7 f0 f1 f2 f3 f4 f5 f6 f7
  have hb0 : Below w.heap.size w (((w.alloc (.cells (zeros8 8).toArray 5)).alloc (.cells #[] 283)).setCells w.heap.size 0 (Lib.byteCells (Lib.leBytes 8 v))) :=
    (by (repeat (first | (with_reducible exact Below.refl _ _) | (with_reducible exact below_boxed _ _) | (with_reducible refine below_box ?_ _) | (with_reducible refine below_drew1 ?_) | (with_reducible refine below_drewn ?_ _) | (with_reducible refine below_bytes ?_ _ _) | (with_reducible refine below_next ?_ (by assumption)) | (with_reducible refine below_set ?_ (by first | (simp; done) | (simp; omega) | omega) _))) : Below w.heap.size w ((w.alloc (.cells (zeros8 8).toArray 5)).alloc (.cells #[] 283))).trans (below_setCells _ _ (Nat.le_refl _) _ _ _)
  have hrow := heap_setCells w.heap.size 5 (Lib.byteCells (Lib.leBytes 8 v)) 0 (zeros8 8) ((w.alloc (.cells (zeros8 8).toArray 5)).alloc (.cells #[] 283)) ((heap_alloc_old _ _ (by simp)).trans hg) (by simp [zeros8_length, Lib.byteCells, le8_len])
  clear z0 z1 z2 z3 z4 z5 z6 z7 f0 f1 f2 f3 f4 f5 f6 f7 hg
  obtain ⟨W, hW⟩ : ∃ W, W = (((w.alloc (.cells (zeros8 8).toArray 5)).alloc (.cells #[] 283)).setCells w.heap.size 0 (Lib.byteCells (Lib.leBytes 8 v))) := ⟨_, rfl⟩
  rw [← hW] at hb0 hrow hP
  have HW := Lib.hid hW; clear hW
  have hrow' : W.heap[w.heap.size]? = some (.cells (bcells (Lib.leBytes 8 v)).toArray 5 (0, 0)) := hrow
  have hWr := bufWrite_ok B b bs (Lib.leBytes 8 v) ⟨w.heap.size, 0, none⟩ 8 8 W (h.below hb0) (Nat.le_trans hB hb0.size) (by have := row_bytes hrow' 0 8; rwa [List.drop_zero, List.take_of_length_le (Nat.le_of_eq (le8_len v))] at this) (le8_len v) (by show w.heap.size ≠ b; omega) hlim
  clear hrow hrow'
  go_enter Tryz.func194, Tryz.ntmps194
  go_wp2_with fail
  refine hP.mono ?_
  clear hP
  rintro e w1 ⟨rfl, rfl⟩
  go_wp2_with fail
  refine hWr.mono ?_
  clear hWr
  rintro e w1 ⟨rfl, hB1, hK1⟩
  go_wp2_with fail
  go_ret
  exact ⟨rfl, hB1, (WrK.of_below hb0 hB).trans hK1⟩
end Go.Proofs.YtfjclhfhbclbhaaGreatDoor
