/- Words of the proof of spec.sha256Of: blocks of numbers. -/
import Derived.Test.YtfjclhfhbclbhaaGreatDoorPad
import Derived.Test.YtfjclhfhbclbhaaGreatDoorLarge
import Derived.StillTailTactics
import Derived.Laws.Rows
namespace Go.Proofs.YtfjclhfhbclbhaaGreatDoor
open Go.RowKit
set_option linter.unusedVariables false
set_option linter.unusedSimpArgs false
attribute [local go_sem] setCell_drewN alloc_drewN

theorem info_w : (Tryz.prog.info? 140).map (fun i => (i.zero, i.size)) = some (some (.agg (numCells .u32 (List.replicate 64 0))), 64) := by kernel_rfl
theorem info_h : (Tryz.prog.info? 100).map (fun i => (i.zero, i.size)) = some (some (.agg (numCells .u32 (List.replicate 8 0))), 8) := by kernel_rfl

theorem NumBlk.of {k : IntKind} {t : TypeId} {n b : Nat} {w w' : World} (h : NumBlk k t n w b) (e : w'.heap[b]? = w.heap[b]?) : NumBlk k t n w' b := by
  obtain ⟨xs, hx, hb⟩ := h
  exact ⟨xs, hx, by rw [e, hb]⟩
theorem NumBlk.lt {k : IntKind} {t : TypeId} {n b : Nat} {w : World} (h : NumBlk k t n w b) : b < w.heap.size := by
  obtain ⟨xs, _, hb⟩ := h
  exact (Array.getElem?_eq_some_iff.1 hb).1
theorem NumBlk.cell {k : IntKind} {t : TypeId} {n b : Nat} {w : World} (h : NumBlk k t n w b) (i : Nat) (hi : i < n) : ∃ m, w.cell? ⟨b, i, none⟩ = some (.int k m) := by
  obtain ⟨xs, hx, hb⟩ := h
  have hi' : i < xs.length := by omega
  exact ⟨xs[i], by rw [cell_of_row w b i _ t _ hb]; simp [hi']⟩
theorem NumBlk.free {k : IntKind} {t : TypeId} {n b : Nat} {w : World} (h : NumBlk k t n w b) (o : Nat) : w.frozen? ⟨b, o, none⟩ = false := by
  obtain ⟨xs, hx, hb⟩ := h
  simp [World.frozen?, hb]
theorem NumBlk.set {k : IntKind} {t : TypeId} {n b : Nat} {w : World} (h : NumBlk k t n w b) (i : Nat) (m : Int) : NumBlk k t n (w.setCell ⟨b, i, none⟩ (.int k m)) b := by
  obtain ⟨xs, hx, hb⟩ := h
  refine ⟨xs.set i m, by simp [hx], ?_⟩
  rw [setCell_eq_setRow w b i _ t _ _ hb, setRow_heap w b _ _ t _ hb]
  congr 2
  apply Array.ext'
  simp
theorem NumBlk.other {k : IntKind} {t : TypeId} {n b : Nat} {w : World} (h : NumBlk k t n w b) (a : Addr) (hne : b ≠ a.block) (v : Value) : NumBlk k t n (w.setCell a v) b := h.of (Below.heap_setCell _ _ _ _ hne)
theorem NumBlk.drew {k : IntKind} {t : TypeId} {n b : Nat} {w : World} (h : NumBlk k t n w b) : NumBlk k t n w.drew b := h
theorem NumBlk.drewN {k : IntKind} {t : TypeId} {n b : Nat} {w : World} (h : NumBlk k t n w b) (m : Nat) : NumBlk k t n (w.drewN m) b := h
theorem NumBlk.alloc {k : IntKind} {t : TypeId} {n b : Nat} {w : World} (h : NumBlk k t n w b) (o : Obj) : NumBlk k t n (w.alloc o) b := h.of (Below.heap_alloc _ _ _ h.lt)
theorem NumBlk.new {k : IntKind} {t : TypeId} {n : Nat} {w : World} (xs : List Int) (h : xs.length = n) : NumBlk k t n (w.alloc (.cells (numCells k xs) t)) w.heap.size := ⟨xs, h, heap_alloc_last _ _⟩
theorem NumBlk.row {k : IntKind} {t : TypeId} {n b : Nat} {w : World} (h : NumBlk k t n w b) (ys : List Int) (hy : ys.length = n) : NumBlk k t n (w.setRow b (numCells k ys)) b := by
  obtain ⟨xs, hx, hb⟩ := h
  exact ⟨ys, hy, setRow_heap w b _ _ t _ hb⟩

/-- Bytes that lie at the head of a block. -/
def ByBlk (n : Nat) (w : World) (g : Nat) : Prop := ∀ i, i < n → ∃ m, w.cell? ⟨g, i, none⟩ = some (.int .u8 m)
theorem ByBlk.of {n g : Nat} {w w' : World} (h : ByBlk n w g) (e : w'.heap[g]? = w.heap[g]?) : ByBlk n w' g := fun i hi => by
  obtain ⟨m, hm⟩ := h i hi
  exact ⟨m, by rw [World.cell?_of_block (w := w) e]; exact hm⟩
theorem ByBlk.row {n g : Nat} {w : World} {base : Nat} {e : TypeId} {cap : Nat} {xs : List Value} (h : RowZ w base e (.slice (some ⟨g, 0, none⟩) n cap) n xs) (hb : Bys xs) : ByBlk n w g := fun i hi => by
  have hl : i < xs.length := by rw [h.1]; exact hi
  obtain ⟨m, hm⟩ := hb xs[i] (List.getElem_mem hl)
  refine ⟨m, ?_⟩
  have := h.cells (g := g) rfl i xs[i] (List.getElem?_eq_getElem hl)
  rw [← hm]
  rwa [Addr.add_mid, Nat.zero_add] at this

theorem ByBlk.lt {n g : Nat} {w : World} (h : ByBlk n w g) (hn : 0 < n) : g < w.heap.size := by
  obtain ⟨m, hm⟩ := h 0 hn
  exact World.block_lt_of_cell? w _ hm

/-- The blocks of sha256Of: the state h, the table. -/
structure Sh (w wr : World) (hb tb : Nat) : Prop where
  h : NumBlk .u32 100 8 wr hb
  t : NumBlk .u64 148 80 wr tb
  hge : w.heap.size ≤ hb
  ne : hb < tb
  bel : Below w.heap.size w wr
theorem Sh.alloc {w wr : World} {hb tb : Nat} (h : Sh w wr hb tb) (o : Obj) : Sh w (wr.alloc o) hb tb := ⟨h.h.alloc o, h.t.alloc o, h.hge, h.ne, below_box h.bel o⟩
theorem Sh.drew {w wr : World} {hb tb : Nat} (h : Sh w wr hb tb) : Sh w wr.drew hb tb := ⟨h.h, h.t, h.hge, h.ne, below_drew1 h.bel⟩
theorem Sh.drewN {w wr : World} {hb tb : Nat} (h : Sh w wr hb tb) (n : Nat) : Sh w (wr.drewN n) hb tb := ⟨h.h, h.t, h.hge, h.ne, below_drewn h.bel n⟩
theorem Sh.set {w wr : World} {hb tb : Nat} (h : Sh w wr hb tb) (a : Addr) (ha : tb < a.block) (v : Value) : Sh w (wr.setCell a v) hb tb :=
  ⟨h.h.other a (by have := h.ne; omega) v, h.t.other a (by omega) v, h.hge, h.ne, below_set h.bel (by have := h.ne; have := h.hge; omega) v⟩

/-- With the words w, and the bytes b. -/
structure Sw (w wr : World) (hb tb g wb : Nat) : Prop where
  sh : Sh w wr hb tb
  w : NumBlk .u32 140 64 wr wb
  b : ByBlk 64 wr g
  gt : tb < g
  wt : g < wb
theorem Sw.drew {w wr : World} {hb tb g wb : Nat} (h : Sw w wr hb tb g wb) : Sw w wr.drew hb tb g wb := ⟨h.sh.drew, h.w, h.b, h.gt, h.wt⟩
theorem Sw.drewN {w wr : World} {hb tb g wb : Nat} (h : Sw w wr hb tb g wb) (n : Nat) : Sw w (wr.drewN n) hb tb g wb := ⟨h.sh.drewN n, h.w, h.b, h.gt, h.wt⟩
theorem Sw.set {w wr : World} {hb tb g wb : Nat} (h : Sw w wr hb tb g wb) (i : Nat) (m : Int) : Sw w (wr.setCell ⟨wb, i, none⟩ (.int .u32 m)) hb tb g wb :=
  ⟨h.sh.set _ (by have := h.gt; have := h.wt; simp; omega) _, h.w.set i m, h.b.of (Below.heap_setCell _ _ _ _ (by have := h.wt; simp; omega)), h.gt, h.wt⟩

theorem Sw.alloc {w wr : World} {hb tb g wb : Nat} (h : Sw w wr hb tb g wb) (hg : g < wr.heap.size) (o : Obj) : Sw w (wr.alloc o) hb tb g wb := ⟨h.sh.alloc o, h.w.alloc o, h.b.of (Below.heap_alloc _ _ _ hg), h.gt, h.wt⟩

/-- A whole block of numbers, loaded. -/
theorem NumBlk.load {P : Program} {ops : Array Oper} {rest : List Oper} {o : Oper} {a : Act} {Q : Exit → Act → World → Prop} {w : World} {k : IntKind} {t : TypeId} {n b : Nat} (h : NumBlk k t n w b) (hgd : o.guard = none)
    (x : Operand) (ty : TypeId) (ho : o.op = .load ty x) (hx : a.eval x = .pointer (some ⟨b, 0, none⟩)) {m : Nat} {e : TypeId} (hu : P.underlying ty = some (.array m e)) (hi : (P.info? ty).map (·.size) = some n)
    (hK : ∀ ys : List Int, ys.length = n → wpList P ops Q rest (a.put o.dst (.agg (numCells k ys))) w) : wpList P ops Q (o :: rest) a w := by
  obtain ⟨ys, hy, hb⟩ := h
  have hl := run_loadVar_row (P := P) w b t ty (numCells k ys) (0, 0) _ hb hu rfl (by rw [hi]; simp [numCells, hy])
  refine event_run hgd (v := .agg (numCells k ys)) ?_ (hK ys hy)
  simp [execOp, ho, hx, Instr.loadAt, Instr.sureAddr, Sem.run_bind, hl]

/-- A whole block of numbers, stored. -/
theorem NumBlk.store {P : Program} {ops : Array Oper} {rest : List Oper} {o : Oper} {a : Act} {Q : Exit → Act → World → Prop} {w : World} {k : IntKind} {t : TypeId} {n b : Nat} (h : NumBlk k t n w b) (hgd : o.guard = none)
    (x y : Operand) (ty : TypeId) (ho : o.op = .store ty x y) (hx : a.eval x = .pointer (some ⟨b, 0, none⟩)) {cells : Array Value} (hy : a.eval y = .agg cells) (ys : List Int) (hc : cells = numCells k ys) (hys : ys.length = n) (hi : (P.info? ty).map (·.size) = some n)
    (hK : wpList P ops Q rest (a.put o.dst undef) (w.setRow b (numCells k ys))) : wpList P ops Q (o :: rest) a w := by
  subst hc
  obtain ⟨xs, hx0, hb⟩ := h
  exact wpList_store_row hgd ty x y ho b (numCells k ys) hx hy t _ hb (by rw [hi]; simp [numCells, hys]) (by simp [numCells, hys, hx0]) (by simp [numCells, Value.oneCell']) hK

theorem below_setRow {w w1 : World} (h : Below w.heap.size w w1) {b : Nat} (hb : w.heap.size ≤ b) (cs : Array Value) : Below w.heap.size w (w1.setRow b cs) :=
  ⟨h.os, h.tape, h.output, by rw [setRow_size]; exact h.size, fun k hk => by rw [setRow_other _ _ _ _ (by omega)]; exact h.block k hk⟩

/-- With the words v besides. -/
structure Sv (w wr : World) (hb tb g wb vb : Nat) : Prop where
  sw : Sw w wr hb tb g wb
  v : NumBlk .u32 100 8 wr vb
  vt : wb < vb
theorem Sv.drew {w wr : World} {hb tb g wb vb : Nat} (h : Sv w wr hb tb g wb vb) : Sv w wr.drew hb tb g wb vb := ⟨h.sw.drew, h.v, h.vt⟩
theorem Sv.setRow {w wr : World} {hb tb g wb vb : Nat} (h : Sv w wr hb tb g wb vb) (ys : List Int) (hy : ys.length = 8) : Sv w (wr.setRow vb (numCells .u32 ys)) hb tb g wb vb := by
  have h1 := h.sw.gt; have h2 := h.sw.wt; have h3 := h.vt; have h4 := h.sw.sh.ne; have h5 := h.sw.sh.hge
  exact ⟨⟨⟨h.sw.sh.h.of (setRow_other _ _ _ _ (by omega)), h.sw.sh.t.of (setRow_other _ _ _ _ (by omega)), h5, h4, below_setRow h.sw.sh.bel (by omega) _⟩, h.sw.w.of (setRow_other _ _ _ _ (by omega)), h.sw.b.of (setRow_other _ _ _ _ (by omega)), h1, h2⟩, h.v.row ys hy, h3⟩
theorem Sv.setH {w wr : World} {hb tb g wb vb : Nat} (h : Sv w wr hb tb g wb vb) (i : Nat) (m : Int) : Sv w (wr.setCell ⟨hb, i, none⟩ (.int .u32 m)) hb tb g wb vb := by
  have h1 := h.sw.gt; have h2 := h.sw.wt; have h3 := h.vt; have h4 := h.sw.sh.ne; have h5 := h.sw.sh.hge
  exact ⟨⟨⟨h.sw.sh.h.set i m, h.sw.sh.t.other _ (by simp; omega) _, h5, h4, below_set h.sw.sh.bel (by simp; omega) _⟩, h.sw.w.other _ (by simp; omega) _, h.sw.b.of (Below.heap_setCell _ _ _ _ (by simp; omega)), h1, h2⟩, h.v.other _ (by simp; omega) _, h3⟩

/-- A region that draws its order, and reads and calls quietly. -/
theorem still_drew {P : Program} {id : Nat} {Q : Exit → Act → World → Prop} {a : Act} {w : World} {l : List Oper} (hm : P.follows .mixedOrders = true) (hB : Region.lexB .any l.toArray = true)
    (h : wpStill P l.toArray w.drew (fun a' => Q .normal a' w.drew) l a) : (Code.region id l.toArray true).wp P Q a w := wp_region_still_lit hm hB h
/-- The same, with a tail that writes. -/
theorem still_tail_drew {P : Program} {id : Nat} {Q : Exit → Act → World → Prop} {a : Act} {w : World} {l : List Oper} (n : Nat) (hm : P.follows .mixedOrders = true) (hB : Region.lexTailB .any l.toArray n = true)
    (h : wpStill P l.toArray w.drew (fun a' => wpList P l.toArray Q (l.drop n) a' w.drew) (l.take n) a) : (Code.region id l.toArray true).wp P Q a w := wp_region_still_tail n hm hB h

/-- A word turned to the right. -/
def rot32 (a : Int) (n : Nat) : Int := bits BinOp.or IntKind.u32 (a / 2 ^ n) (a * 2 ^ (32 - n) % 4294967296)
set_option maxRecDepth 100000 in
theorem right32_v (a z : Int) (h0 : 0 ≤ z) (hz : z ≤ 32) (w : World) : Calls Tryz.prog 58 #[.int .u32 a, .int .u64 z] w fun e w' => e = .returned (.int .u32 (rot32 a z.toNat)) ∧ w' = w := by
  obtain ⟨n, rfl⟩ := Int.eq_ofNat_of_zero_le h0
  have hn : n ≤ 32 := by omega
  have h1 : IntKind.u64.wrap (32 - (n : Int)) = ((32 - n : Nat) : Int) := by rw [IntKind.wrap_u64]; omega
  go_enter Tryz.func58, Tryz.ntmps58
  go_wp2_with fail
  go_ret
  exact ⟨rfl, rfl⟩
theorem index_h (hs : List Int) (hh : hs.length = 8) (k : Nat) (hk : k < 8) : ∃ m, ∀ w, (Instr.index 100 (.agg (numCells .u32 hs)) (.int .i64 (k : Int))).run Tryz.prog w = .ok (.int .u32 m) w := by
  match hs, hh with
  | [a0, a1, a2, a3, a4, a5, a6, a7], _ =>
    match k, hk with
    | 0, _ => exact ⟨a0, fun w => by simp [go_sem, numCells, Instr.index]⟩
    | 1, _ => exact ⟨a1, fun w => by simp [go_sem, numCells, Instr.index]⟩
    | 2, _ => exact ⟨a2, fun w => by simp [go_sem, numCells, Instr.index]⟩
    | 3, _ => exact ⟨a3, fun w => by simp [go_sem, numCells, Instr.index]⟩
    | 4, _ => exact ⟨a4, fun w => by simp [go_sem, numCells, Instr.index]⟩
    | 5, _ => exact ⟨a5, fun w => by simp [go_sem, numCells, Instr.index]⟩
    | 6, _ => exact ⟨a6, fun w => by simp [go_sem, numCells, Instr.index]⟩
    | 7, _ => exact ⟨a7, fun w => by simp [go_sem, numCells, Instr.index]⟩

/-- A byte out of a number. -/
theorem byte_of (n : Int) (h0 : 0 ≤ n) (h1 : n < 256) : ∃ b : UInt8, n = (b.toNat : Int) := by
  refine ⟨UInt8.ofNat n.toNat, ?_⟩
  have : n.toNat < 256 := by omega
  simp [UInt8.toNat_ofNat', Nat.mod_eq_of_lt this]
  omega
theorem own_bytes {w : World} {base : Nat} {e : TypeId} {v : Value} {n : Nat} {bs : List UInt8} (h : w.ownsRow base e 1 v n (Lib.byteCells bs)) (hn : 0 < n) (hl : bs.length = n) : ∃ g cap, v = .slice (some ⟨g, 0, none⟩) n cap ∧ BytesAt w (some ⟨g, 0, none⟩) bs := by
  rcases h.2 with ⟨_, h0⟩ | ⟨g, cap, cur, rfl, _, hg, _, _, _, htk⟩
  · omega
  · refine ⟨g, cap, rfl, .inr ⟨g, 0, rfl, fun j x hj => ?_⟩⟩
    rw [cell_of_row w g (0 + j) cur _ _ hg, Nat.zero_add]
    have hj' : j < bs.length := (List.getElem?_eq_some_iff.1 hj).1
    have h2 : (cur.toList.take (n * 1))[j]? = some (.int .u8 (x.toNat : Int)) := by
      rw [htk]; simp [Lib.byteCells, hj]
    rw [List.getElem?_take] at h2
    split at h2
    · simpa using h2
    · cases h2
theorem own_grow {w w1 w2 : World} {B : Nat} {e : TypeId} {v : Value} {n : Nat} {xs : List Value} (h : w1.ownsRow w.heap.size e 1 v n xs) (hb : Below w.heap.size w w1) (hg : w1.grownBy w2 v.ownBlock) : Below w.heap.size w w2 :=
  hb.grown hg hb.size (fun k hk => by
    rcases h.2 with ⟨rfl, _⟩ | ⟨g, cap, cur, rfl, hge, _⟩
    · cases hk
    · cases hk; exact hge)
end Go.Proofs.YtfjclhfhbclbhaaGreatDoor
