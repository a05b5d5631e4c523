import Derived.Test.YtgdgmegpacmgnaaGreatDoorG11
import Derived.StillTailTactics
import Derived.Laws.Rows
import Derived.Test.YtgdgmegpacmgnaaGreatDoorG01
import Derived.RegionCalls
import Derived.Deep.RegionWith
import Derived.Deep.RegionHeld3
import Derived.Test.YtgdgmegpacmgnaaGreatDoorShelf
import Derived.Test.YtgdgmegpacmgnaaGreatDoorG08
import Derived.Shelf.GgSortFunc.Whole
import Derived.Shelf.GgSortFunc.Tiny
import Derived.Sort.OwnSorted
import Derived.BigQuiet
import Derived.Test.YtgdgmegpacmgnaaGreatDoorG10
import Derived.Test.YtgdgmegpacmgnaaGreatDoorG09
/- Words of the proof of spec.sha256Of: blocks of numbers. -/
namespace Go.Proofs.YtgdgmegpacmgnaaGreatDoor
open Go.RowKit
set_option linter.unusedVariables false
set_option linter.unusedSimpArgs false
attribute [local go_sem] setCell_drewN alloc_drewN

theorem info_w : (Tryz.prog.info? 143).map (fun i => (i.zero, i.size)) = some (some (.agg (numCells .u32 (List.replicate 64 0))), 64) := by kernel_rfl
theorem info_h : (Tryz.prog.info? 104).map (fun i => (i.zero, i.size)) = some (some (.agg (numCells .u32 (List.replicate 8 0))), 8) := by kernel_rfl

theorem NumBlk.of {k : IntKind} {t : TypeId} {n b : Nat} {w w' : World} (h : NumBlk k t n w b) (e : w'.heap[b]? = w.heap[b]?) : NumBlk k t n w' b := by
  obtain ⟨xs, hx, hb⟩ := h
  exact ⟨xs, hx, by rw [e, hb]⟩
theorem NumBlk.lt {k : IntKind} {t : TypeId} {n b : Nat} {w : World} (h : NumBlk k t n w b) : b < w.heap.size := by
  obtain ⟨xs, _, hb⟩ := h
  exact (Array.getElem?_eq_some_iff.1 hb).1
theorem NumBlk.cell {k : IntKind} {t : TypeId} {n b : Nat} {w : World} (h : NumBlk k t n w b) (i : Nat) (hi : i < n) : ∃ m, w.cell? ⟨b, i, none⟩ = some (.int k m) := by
  obtain ⟨xs, hx, hb⟩ := h
  have hi' : i < xs.length := by omega
  exact ⟨xs[i], by rw [cell_of_row w b i _ t _ hb]; simp [hi']⟩
theorem NumBlk.free {k : IntKind} {t : TypeId} {n b : Nat} {w : World} (h : NumBlk k t n w b) (o : Nat) : w.frozen? ⟨b, o, none⟩ = false := by
  obtain ⟨xs, hx, hb⟩ := h
  simp [World.frozen?, hb]
theorem NumBlk.set {k : IntKind} {t : TypeId} {n b : Nat} {w : World} (h : NumBlk k t n w b) (i : Nat) (m : Int) : NumBlk k t n (w.setCell ⟨b, i, none⟩ (.int k m)) b := by
  obtain ⟨xs, hx, hb⟩ := h
  refine ⟨xs.set i m, by simp [hx], ?_⟩
  rw [setCell_eq_setRow w b i _ t _ _ hb, setRow_heap w b _ _ t _ hb]
  congr 2
  apply Array.ext'
  simp
theorem NumBlk.other {k : IntKind} {t : TypeId} {n b : Nat} {w : World} (h : NumBlk k t n w b) (a : Addr) (hne : b ≠ a.block) (v : Value) : NumBlk k t n (w.setCell a v) b := h.of (Below.heap_setCell _ _ _ _ hne)
theorem NumBlk.drew {k : IntKind} {t : TypeId} {n b : Nat} {w : World} (h : NumBlk k t n w b) : NumBlk k t n w.drew b := h
theorem NumBlk.drewN {k : IntKind} {t : TypeId} {n b : Nat} {w : World} (h : NumBlk k t n w b) (m : Nat) : NumBlk k t n (w.drewN m) b := h
theorem NumBlk.alloc {k : IntKind} {t : TypeId} {n b : Nat} {w : World} (h : NumBlk k t n w b) (o : Obj) : NumBlk k t n (w.alloc o) b := h.of (Below.heap_alloc _ _ _ h.lt)
theorem NumBlk.new {k : IntKind} {t : TypeId} {n : Nat} {w : World} (xs : List Int) (h : xs.length = n) : NumBlk k t n (w.alloc (.cells (numCells k xs) t)) w.heap.size := ⟨xs, h, heap_alloc_last _ _⟩
theorem NumBlk.row {k : IntKind} {t : TypeId} {n b : Nat} {w : World} (h : NumBlk k t n w b) (ys : List Int) (hy : ys.length = n) : NumBlk k t n (w.setRow b (numCells k ys)) b := by
  obtain ⟨xs, hx, hb⟩ := h
  exact ⟨ys, hy, setRow_heap w b _ _ t _ hb⟩

/-- Bytes that lie at the head of a block. -/
def ByBlk (n : Nat) (w : World) (g : Nat) : Prop := ∀ i, i < n → ∃ m, w.cell? ⟨g, i, none⟩ = some (.int .u8 m)
theorem ByBlk.of {n g : Nat} {w w' : World} (h : ByBlk n w g) (e : w'.heap[g]? = w.heap[g]?) : ByBlk n w' g := fun i hi => by
  obtain ⟨m, hm⟩ := h i hi
  exact ⟨m, by rw [World.cell?_of_block (w := w) e]; exact hm⟩
theorem ByBlk.row {n g : Nat} {w : World} {base : Nat} {e : TypeId} {cap : Nat} {xs : List Value} (h : RowZ w base e (.slice (some ⟨g, 0, none⟩) n cap) n xs) (hb : Bys xs) : ByBlk n w g := fun i hi => by
  have hl : i < xs.length := by rw [h.1]; exact hi
  obtain ⟨m, hm⟩ := hb xs[i] (List.getElem_mem hl)
  refine ⟨m, ?_⟩
  have := h.cells (g := g) rfl i xs[i] (List.getElem?_eq_getElem hl)
  rw [← hm]
  rwa [Addr.add_mid, Nat.zero_add] at this

theorem ByBlk.lt {n g : Nat} {w : World} (h : ByBlk n w g) (hn : 0 < n) : g < w.heap.size := by
  obtain ⟨m, hm⟩ := h 0 hn
  exact World.block_lt_of_cell? w _ hm

/-- The blocks of sha256Of: the state h, the table. -/
structure Sh (w wr : World) (hb tb : Nat) : Prop where
  h : NumBlk .u32 104 8 wr hb
  t : NumBlk .u64 151 80 wr tb
  hge : w.heap.size ≤ hb
  ne : hb < tb
  bel : Below w.heap.size w wr
theorem Sh.alloc {w wr : World} {hb tb : Nat} (h : Sh w wr hb tb) (o : Obj) : Sh w (wr.alloc o) hb tb := ⟨h.h.alloc o, h.t.alloc o, h.hge, h.ne, below_box h.bel o⟩
theorem Sh.drew {w wr : World} {hb tb : Nat} (h : Sh w wr hb tb) : Sh w wr.drew hb tb := ⟨h.h, h.t, h.hge, h.ne, below_drew1 h.bel⟩
theorem Sh.drewN {w wr : World} {hb tb : Nat} (h : Sh w wr hb tb) (n : Nat) : Sh w (wr.drewN n) hb tb := ⟨h.h, h.t, h.hge, h.ne, below_drewn h.bel n⟩
theorem Sh.set {w wr : World} {hb tb : Nat} (h : Sh w wr hb tb) (a : Addr) (ha : tb < a.block) (v : Value) : Sh w (wr.setCell a v) hb tb :=
  ⟨h.h.other a (by have := h.ne; omega) v, h.t.other a (by omega) v, h.hge, h.ne, below_set h.bel (by have := h.ne; have := h.hge; omega) v⟩

/-- With the words w, and the bytes b. -/
structure Sw (w wr : World) (hb tb g wb : Nat) : Prop where
  sh : Sh w wr hb tb
  w : NumBlk .u32 143 64 wr wb
  b : ByBlk 64 wr g
  gt : tb < g
  wt : g < wb
theorem Sw.drew {w wr : World} {hb tb g wb : Nat} (h : Sw w wr hb tb g wb) : Sw w wr.drew hb tb g wb := ⟨h.sh.drew, h.w, h.b, h.gt, h.wt⟩
theorem Sw.drewN {w wr : World} {hb tb g wb : Nat} (h : Sw w wr hb tb g wb) (n : Nat) : Sw w (wr.drewN n) hb tb g wb := ⟨h.sh.drewN n, h.w, h.b, h.gt, h.wt⟩
theorem Sw.set {w wr : World} {hb tb g wb : Nat} (h : Sw w wr hb tb g wb) (i : Nat) (m : Int) : Sw w (wr.setCell ⟨wb, i, none⟩ (.int .u32 m)) hb tb g wb :=
  ⟨h.sh.set _ (by have := h.gt; have := h.wt; simp; omega) _, h.w.set i m, h.b.of (Below.heap_setCell _ _ _ _ (by have := h.wt; simp; omega)), h.gt, h.wt⟩

theorem Sw.alloc {w wr : World} {hb tb g wb : Nat} (h : Sw w wr hb tb g wb) (hg : g < wr.heap.size) (o : Obj) : Sw w (wr.alloc o) hb tb g wb := ⟨h.sh.alloc o, h.w.alloc o, h.b.of (Below.heap_alloc _ _ _ hg), h.gt, h.wt⟩

/-- A whole block of numbers, loaded. -/
theorem NumBlk.load {P : Program} {ops : Array Oper} {rest : List Oper} {o : Oper} {a : Act} {Q : Exit → Act → World → Prop} {w : World} {k : IntKind} {t : TypeId} {n b : Nat} (h : NumBlk k t n w b) (hgd : o.guard = none)
    (x : Operand) (ty : TypeId) (ho : o.op = .load ty x) (hx : a.eval x = .pointer (some ⟨b, 0, none⟩)) {m : Nat} {e : TypeId} (hu : P.underlying ty = some (.array m e)) (hi : (P.info? ty).map (·.size) = some n)
    (hK : ∀ ys : List Int, ys.length = n → wpList P ops Q rest (a.put o.dst (.agg (numCells k ys))) w) : wpList P ops Q (o :: rest) a w := by
  obtain ⟨ys, hy, hb⟩ := h
  have hl := run_loadVar_row (P := P) w b t ty (numCells k ys) (0, 0) _ hb hu rfl (by rw [hi]; simp [numCells, hy])
  refine event_run hgd (v := .agg (numCells k ys)) ?_ (hK ys hy)
  simp [execOp, ho, hx, Instr.loadAt, Instr.sureAddr, Sem.run_bind, hl]

/-- A whole block of numbers, stored. -/
theorem NumBlk.store {P : Program} {ops : Array Oper} {rest : List Oper} {o : Oper} {a : Act} {Q : Exit → Act → World → Prop} {w : World} {k : IntKind} {t : TypeId} {n b : Nat} (h : NumBlk k t n w b) (hgd : o.guard = none)
    (x y : Operand) (ty : TypeId) (ho : o.op = .store ty x y) (hx : a.eval x = .pointer (some ⟨b, 0, none⟩)) {cells : Array Value} (hy : a.eval y = .agg cells) (ys : List Int) (hc : cells = numCells k ys) (hys : ys.length = n) (hi : (P.info? ty).map (·.size) = some n)
    (hK : wpList P ops Q rest (a.put o.dst undef) (w.setRow b (numCells k ys))) : wpList P ops Q (o :: rest) a w := by
  subst hc
  obtain ⟨xs, hx0, hb⟩ := h
  exact wpList_store_row hgd ty x y ho b (numCells k ys) hx hy t _ hb (by rw [hi]; simp [numCells, hys]) (by simp [numCells, hys, hx0]) (by simp [numCells, Value.oneCell']) hK

theorem below_setRow {w w1 : World} (h : Below w.heap.size w w1) {b : Nat} (hb : w.heap.size ≤ b) (cs : Array Value) : Below w.heap.size w (w1.setRow b cs) :=
  ⟨h.os, h.tape, h.output, by rw [setRow_size]; exact h.size, fun k hk => by rw [setRow_other _ _ _ _ (by omega)]; exact h.block k hk⟩

/-- With the words v besides. -/
structure Sv (w wr : World) (hb tb g wb vb : Nat) : Prop where
  sw : Sw w wr hb tb g wb
  v : NumBlk .u32 104 8 wr vb
  vt : wb < vb
theorem Sv.drew {w wr : World} {hb tb g wb vb : Nat} (h : Sv w wr hb tb g wb vb) : Sv w wr.drew hb tb g wb vb := ⟨h.sw.drew, h.v, h.vt⟩
theorem Sv.setRow {w wr : World} {hb tb g wb vb : Nat} (h : Sv w wr hb tb g wb vb) (ys : List Int) (hy : ys.length = 8) : Sv w (wr.setRow vb (numCells .u32 ys)) hb tb g wb vb := by
  have h1 := h.sw.gt; have h2 := h.sw.wt; have h3 := h.vt; have h4 := h.sw.sh.ne; have h5 := h.sw.sh.hge
  exact ⟨⟨⟨h.sw.sh.h.of (setRow_other _ _ _ _ (by omega)), h.sw.sh.t.of (setRow_other _ _ _ _ (by omega)), h5, h4, below_setRow h.sw.sh.bel (by omega) _⟩, h.sw.w.of (setRow_other _ _ _ _ (by omega)), h.sw.b.of (setRow_other _ _ _ _ (by omega)), h1, h2⟩, h.v.row ys hy, h3⟩
theorem Sv.setH {w wr : World} {hb tb g wb vb : Nat} (h : Sv w wr hb tb g wb vb) (i : Nat) (m : Int) : Sv w (wr.setCell ⟨hb, i, none⟩ (.int .u32 m)) hb tb g wb vb := by
  have h1 := h.sw.gt; have h2 := h.sw.wt; have h3 := h.vt; have h4 := h.sw.sh.ne; have h5 := h.sw.sh.hge
  exact ⟨⟨⟨h.sw.sh.h.set i m, h.sw.sh.t.other _ (by simp; omega) _, h5, h4, below_set h.sw.sh.bel (by simp; omega) _⟩, h.sw.w.other _ (by simp; omega) _, h.sw.b.of (Below.heap_setCell _ _ _ _ (by simp; omega)), h1, h2⟩, h.v.other _ (by simp; omega) _, h3⟩

/-- A region that draws its order, and reads and calls quietly. -/
theorem still_drew {P : Program} {id : Nat} {Q : Exit → Act → World → Prop} {a : Act} {w : World} {l : List Oper} (hm : P.follows .mixedOrders = true) (hB : Region.lexB .any l.toArray = true)
    (h : wpStill P l.toArray w.drew (fun a' => Q .normal a' w.drew) l a) : (Code.region id l.toArray true).wp P Q a w := wp_region_still_lit hm hB h
/-- The same, with a tail that writes. -/
theorem still_tail_drew {P : Program} {id : Nat} {Q : Exit → Act → World → Prop} {a : Act} {w : World} {l : List Oper} (n : Nat) (hm : P.follows .mixedOrders = true) (hB : Region.lexTailB .any l.toArray n = true)
    (h : wpStill P l.toArray w.drew (fun a' => wpList P l.toArray Q (l.drop n) a' w.drew) (l.take n) a) : (Code.region id l.toArray true).wp P Q a w := wp_region_still_tail n hm hB h

/-- A word turned to the right. -/
def rot32 (a : Int) (n : Nat) : Int := bits BinOp.or IntKind.u32 (a / 2 ^ n) (a * 2 ^ (32 - n) % 4294967296)
set_option maxRecDepth 100000 in
theorem right32_v (a z : Int) (h0 : 0 ≤ z) (hz : z ≤ 32) (w : World) : Calls Tryz.prog 54 #[.int .u32 a, .int .u64 z] w fun e w' => e = .returned (.int .u32 (rot32 a z.toNat)) ∧ w' = w := by
  obtain ⟨n, rfl⟩ := Int.eq_ofNat_of_zero_le h0
  have hn : n ≤ 32 := by omega
  have h1 : IntKind.u64.wrap (32 - (n : Int)) = ((32 - n : Nat) : Int) := by rw [IntKind.wrap_u64]; omega
  go_enter Tryz.func54, Tryz.ntmps54
  go_wp2_with fail
  go_ret
  exact ⟨rfl, rfl⟩
theorem index_h (hs : List Int) (hh : hs.length = 8) (k : Nat) (hk : k < 8) : ∃ m, ∀ w, (Instr.index 104 (.agg (numCells .u32 hs)) (.int .i64 (k : Int))).run Tryz.prog w = .ok (.int .u32 m) w := by
  match hs, hh with
  | [a0, a1, a2, a3, a4, a5, a6, a7], _ =>
    match k, hk with
    | 0, _ => exact ⟨a0, fun w => by simp [go_sem, numCells, Instr.index]⟩
    | 1, _ => exact ⟨a1, fun w => by simp [go_sem, numCells, Instr.index]⟩
    | 2, _ => exact ⟨a2, fun w => by simp [go_sem, numCells, Instr.index]⟩
    | 3, _ => exact ⟨a3, fun w => by simp [go_sem, numCells, Instr.index]⟩
    | 4, _ => exact ⟨a4, fun w => by simp [go_sem, numCells, Instr.index]⟩
    | 5, _ => exact ⟨a5, fun w => by simp [go_sem, numCells, Instr.index]⟩
    | 6, _ => exact ⟨a6, fun w => by simp [go_sem, numCells, Instr.index]⟩
    | 7, _ => exact ⟨a7, fun w => by simp [go_sem, numCells, Instr.index]⟩

/-- A byte out of a number. -/
theorem byte_of (n : Int) (h0 : 0 ≤ n) (h1 : n < 256) : ∃ b : UInt8, n = (b.toNat : Int) := by
  refine ⟨UInt8.ofNat n.toNat, ?_⟩
  have : n.toNat < 256 := by omega
  simp [UInt8.toNat_ofNat', Nat.mod_eq_of_lt this]
  omega
theorem own_bytes {w : World} {base : Nat} {e : TypeId} {v : Value} {n : Nat} {bs : List UInt8} (h : w.ownsRow base e 1 v n (Lib.byteCells bs)) (hn : 0 < n) (hl : bs.length = n) : ∃ g cap, v = .slice (some ⟨g, 0, none⟩) n cap ∧ BytesAt w (some ⟨g, 0, none⟩) bs := by
  rcases h.2 with ⟨_, h0⟩ | ⟨g, cap, cur, rfl, _, hg, _, _, _, htk⟩
  · omega
  · refine ⟨g, cap, rfl, .inr ⟨g, 0, rfl, fun j x hj => ?_⟩⟩
    rw [cell_of_row w g (0 + j) cur _ _ hg, Nat.zero_add]
    have hj' : j < bs.length := (List.getElem?_eq_some_iff.1 hj).1
    have h2 : (cur.toList.take (n * 1))[j]? = some (.int .u8 (x.toNat : Int)) := by
      rw [htk]; simp [Lib.byteCells, hj]
    rw [List.getElem?_take] at h2
    split at h2
    · simpa using h2
    · cases h2
theorem own_grow {w w1 w2 : World} {B : Nat} {e : TypeId} {v : Value} {n : Nat} {xs : List Value} (h : w1.ownsRow w.heap.size e 1 v n xs) (hb : Below w.heap.size w w1) (hg : w1.grownBy w2 v.ownBlock) : Below w.heap.size w w2 :=
  hb.grown hg hb.size (fun k hk => by
    rcases h.2 with ⟨rfl, _⟩ | ⟨g, cap, cur, rfl, hge, _⟩
    · cases hk
    · cases hk; exact hge)
end Go.Proofs.YtgdgmegpacmgnaaGreatDoor

/- spec.Varint, MultihashBytes, CidBytes: an identifier's bytes. -/
namespace Go.Proofs.YtgdgmegpacmgnaaGreatDoor
open Go.RowKit
set_option linter.unusedVariables false
set_option linter.unusedSimpArgs false
attribute [local go_sem] setCell_drewN alloc_drewN

theorem or128 (m : Nat) : bits .or .u8 ((m : Int) % 256) 128 = ((m % 128 + 128 : Nat) : Int) := by
  have e : ((m : Int) % 256) = ((m % 256 : Nat) : Int) := by omega
  have e2 : (128 : Int) = ((128 : Nat) : Int) := rfl
  rw [e, e2, u8_or_nat _ _ (by omega) (by omega)]
  congr 1
  have h1 : m % 128 ||| 128 = m % 128 + 128 := by
    have := nat_or_add (m % 128) 1 7 (by omega)
    simpa using this
  rcases Nat.lt_or_ge (m % 256) 128 with h | h
  · have e3 : m % 256 = m % 128 := by omega
    rw [e3, h1]
  · have e3 : m % 256 = m % 128 + 128 := by omega
    rw [e3, ← h1, Nat.or_assoc, Nat.or_self]

theorem toU8_toNat (x : Nat) (h : x < 256) : ((x.toUInt8).toNat : Int) = (x : Int) := by
  simp [Nat.toUInt8, UInt8.toNat_ofNat', Nat.mod_eq_of_lt h]

set_option maxRecDepth 100000 in
theorem Varint_ok (n : Nat) (hn : n < 18446744073709551616) (w : World) : Calls Tryz.prog 27 #[.int .u64 n] w fun e w' => ∃ v, e = .returned v ∧ w'.ownsRow w.heap.size 5 1 v (Lib.uvarint n).length (Lib.byteCells (Lib.uvarint n)) ∧ Below w.heap.size w w' := by
  obtain ⟨i0, hi, hz0, hz1, hz2⟩ := info_parts info_byte
  have hlen : (Lib.uvarint n).length ≤ 10 := Lib.uvarint_length 9 n (Nat.lt_of_lt_of_le hn (by decide))
  go_enter Tryz.func27, Tryz.ntmps27
  go_wp2_with fail
  go_loopw [3, 0] (fun v vm wr => ∃ m : Nat, vm = .int .u64 m ∧ m ≤ n ∧ ∃ pre : List UInt8, Lib.uvarint n = pre ++ Lib.uvarint m ∧ wr.ownsRow w.heap.size 5 1 v pre.length (Lib.byteCells pre) ∧ Below w.heap.size w wr) (fun _ vm _ => (intOf vm).toNat)
  case atStart => exact ⟨n, rfl, Nat.le_refl _, [], rfl, ⟨rfl, .inl ⟨rfl, rfl⟩⟩, Below.refl _ _⟩
  case round =>
    obtain ⟨m, rfl, hm, pre, hpre, hown, hbel⟩ := hrel
    have hpl : pre.length + (Lib.uvarint m).length ≤ 10 := by rw [hpre] at hlen; simpa using hlen
    by_cases h : m < 128
    · have hs := Lib.uvarint_small h
      have e0 : (m : Int) % 256 = (m : Int) := by omega
      go_wp2_with (at_builtin; refine wpList_append_own _ rfl _ _ 42 rfl w.heap.size 5 i0 (.int .u8 0) 1 1 Tryz.underlying42 hi hz0 hz1 hz2 rfl (by decide) _ _ _ rfl (hown.alloc _) ⟨wr.heap.size, 0, none⟩ 1 1 [.int .u8 (m : Int)] rfl rfl ?c1 ?c2 ?c3 ?c4 ?c5 ?_)
      case c1 =>
        intro j u hj
        match j, hj with
        | 0, hj => simp at hj; subst hj; simp [Addr.add]
      case c2 => intro u hu; simp at hu; subst hu; rfl
      case c3 => unfold maxLen; omega
      case c4 => omega
      case c5 => have := hbel.size; simp; omega
      intro v' w2 hown' hgrow _
      have hbel' := own_grow (B := 0) (hown.alloc _) (below_box hbel _) hgrow
      go_wp2_with fail
      go_ret
      refine ⟨_, rfl, ?_, hbel'⟩
      rw [← toU8_toNat m (by omega)] at hown'
      rw [hpre, hs]
      simpa [Lib.byteCells] using hown'
    · have hs := Lib.uvarint_big (x := m) (by omega)
      rw [hs] at hpl
      go_wp2_with (at_builtin; refine wpList_append_own _ rfl _ _ 42 rfl w.heap.size 5 i0 (.int .u8 0) 1 1 Tryz.underlying42 hi hz0 hz1 hz2 rfl (by decide) _ _ _ rfl (hown.alloc _) ⟨wr.heap.size, 0, none⟩ 1 1 [.int .u8 (bits .or .u8 ((m : Int) % 256) 128)] rfl rfl ?d1 ?d2 ?d3 ?d4 ?d5 ?_)
      case d1 =>
        intro j u hj
        match j, hj with
        | 0, hj => simp at hj; subst hj; simp [Addr.add]
      case d2 => intro u hu; simp at hu; subst hu; rfl
      case d3 => unfold maxLen; simp at hpl; omega
      case d4 => simp at hpl; omega
      case d5 => have := hbel.size; simp; omega
      intro v' w2 hown' hgrow _
      have hbel' := own_grow (B := 0) (hown.alloc _) (below_box hbel _) hgrow
      go_wp2_with fail
      refine ⟨⟨m / 128, by simp, by omega, pre ++ [(m % 128 + 128).toUInt8], by rw [hpre, hs]; simp, ?_, hbel'⟩, by simp [intOf]; omega⟩
      rw [or128, ← toU8_toNat (m % 128 + 128) (by omega)] at hown'
      simpa [Lib.byteCells] using hown'

theorem uvarint_ne (n : Nat) : 0 < (Lib.uvarint n).length := by
  rw [Lib.uvarint]; split <;> simp

/-- The same, as bytes that lie there. -/
theorem Varint_bytes (n : Nat) (hn : n < 18446744073709551616) (w : World) : Calls Tryz.prog 27 #[.int .u64 n] w fun e w' => ∃ g c, e = .returned (.slice (some ⟨g, 0, none⟩) (Lib.uvarint n).length c) ∧ BytesAt w' (some ⟨g, 0, none⟩) (Lib.uvarint n) ∧ g < w'.heap.size ∧ Below w.heap.size w w' := by
  refine (Varint_ok n hn w).mono ?_
  rintro e w' ⟨v, rfl, hown, hb⟩
  obtain ⟨g, c, rfl, hby⟩ := own_bytes hown (uvarint_ne n) rfl
  refine ⟨g, c, rfl, hby, ?_, hb⟩
  rcases hby with h | ⟨g', o, e, hc⟩
  · have := uvarint_ne n; rw [h] at this; cases this
  · cases e
    exact World.block_lt_of_cell? w' _ (hc 0 _ (List.getElem?_eq_getElem (uvarint_ne n)))

/-- '[]byte' into 'string', under a name of its own: so that the walk of a region that draws does not try to take it first. -/
def cvs (x : Operand) : Op := Op.convert 42 9 x
attribute [local go_sem] cvs
theorem sOf_append (a b : List UInt8) : (⟨a.toArray⟩ : ByteArray) ++ (⟨b.toArray⟩ : ByteArray) = ⟨(a ++ b).toArray⟩ := by
  apply ByteArray.ext
  rw [ByteArray.data_append]
  apply Array.ext'
  simp

end Go.Proofs.YtgdgmegpacmgnaaGreatDoor

/- spec.IndexBytes of entries, sorted by their digests. -/
namespace Go.Proofs.YtgdgmegpacmgnaaGreatDoor
open Go.RowKit
set_option linter.unusedVariables false
set_option linter.unusedSimpArgs false
attribute [local go_sem] setCell_drewN alloc_drewN

theorem sortedSpec_le {l l' : List (CidOf × Int)} (hP : l'.Perm l) (hlen : l.length ≤ 10000) (hd : ∀ x ∈ l, x.1.dig.length ≤ 1000) : (sortedSpec l l').length ≤ 4 + 10000 * (12 + 10000 * 1008) := by
  have h1 := widthSecs_le l' (fun x hx => hd x (hP.mem_iff.1 hx)) (sortN (widthsOf l))
  have h2 := widthsOf_le l
  have h3 := sortN_len (widthsOf l)
  have h4 := hP.length_eq
  have h5 : (sortN (widthsOf l)).length * (12 + l'.length * 1008) ≤ 10000 * (12 + 10000 * 1008) := Nat.mul_le_mul (by omega) (by omega)
  rw [sortedSpec, List.length_append, le_length]; omega
theorem sortedSpec_pos (l l' : List (CidOf × Int)) : 0 < (sortedSpec l l').length := by rw [sortedSpec, List.length_append, le_length]; omega

set_option maxRecDepth 100000 in
set_option maxHeartbeats 1600000 in
theorem IndexBody_sorted (most : Nat) (hS : StableEnts most) (l : List (CidOf × Int)) (A : Option Addr) (cap : Nat) (w : World) (hR : RowsAt w A l) (h0 : 0 < l.length) (hlen : l.length ≤ 10000) (hle : l.length ≤ most) (hcap : l.length ≤ cap)
    (hd : ∀ x ∈ l, x.1.dig.length ≤ 1000) (ho : ∀ x ∈ l, 0 ≤ x.2 ∧ x.2 < 18446744073709551616) :
    Calls Tryz.prog 28 #[.slice A l.length cap, .int .u64 1024] w fun e w' => ∃ l', l'.Perm l ∧ SortedD l' ∧ e = .returned (.string (sOf (sortedSpec l l'))) ∧ Below w.heap.size w w' := by
  have hB := sortedBytes_ok most hS w.heap.size (.slice none 0 0) [] l A cap w hR h0 hlen hle hcap hd ho (by simp) (Nat.le_refl _) ⟨rfl, .inl ⟨rfl, rfl⟩⟩ (fun _ _ _ e => by cases e)
  clear hR hd ho
  go_enter Tryz.func28, Tryz.ntmps28
  go_wp2_with fail
  refine hB.mono ?_
  rintro e w1 ⟨l', v', hP, hSD, rfl, hU, hA⟩
  have hb : Below w.heap.size w w1 := hA.below (Nat.le_refl _) (fun i e => by cases e)
  obtain ⟨g, c, rfl, hby⟩ := own_bytes (bs := sortedSpec l l') hU (by simpa using sortedSpec_pos l l') (by simp)
  have hp := sortedSpec_pos l l'
  have HP := Lib.hid hP; have HSD := Lib.hid hSD
  have hcv := bytes_string (P := Tryz.prog) Tryz.underlying42 Tryz.underlying5 Tryz.underlying9 w1 _ (sortedSpec l l') c hby
  have hnl : ([] ++ sortedSpec l l').length = (sortedSpec l l').length := rfl
  rw [hnl]
  clear hP hSD hU hA hby hB
  go_wp2_with fail
  go_ret
  exact ⟨l', HP.out, HSD.out, rfl, hb⟩

set_option maxRecDepth 100000 in
set_option maxHeartbeats 1600000 in
theorem IndexBytes_sorted (most : Nat) (hS : StableEnts most) (l : List (CidOf × Int)) (A : Option Addr) (cap : Nat) (w : World) (hR : RowsAt w A l) (h0 : 0 < l.length) (hlen : l.length ≤ 10000) (hle : l.length ≤ most) (hcap : l.length ≤ cap)
    (hd : ∀ x ∈ l, x.1.dig.length ≤ 1000) (ho : ∀ x ∈ l, 0 ≤ x.2 ∧ x.2 < 18446744073709551616) :
    Calls Tryz.prog 19 #[.slice A l.length cap, .int .u64 1024] w fun e w' => ∃ l', l'.Perm l ∧ SortedD l' ∧ e = .returned (.string (sOf (Lib.uvarint 1024 ++ sortedSpec l l'))) ∧ Below w.heap.size w w' := by
  have hlv : (Lib.uvarint 1024).length ≤ 10 := Lib.uvarint_length 9 1024 (by decide)
  have hwl := widthsOf_le l
  go_enter Tryz.func19, Tryz.ntmps19
  go_wp2_with fail
  have HD := Lib.hid hd; have HO := Lib.hid ho; have HR := Lib.hid hR
  clear hd ho hR
  go_region_with (first | (go_at_call 27; refine (Varint_bytes 1024 (by omega) _).mono ?_; rintro e w1 ⟨g1, c1, rfl, hby1, hg1, hb1⟩; have hv1 := bytes_string (P := Tryz.prog) Tryz.underlying42 Tryz.underlying5 Tryz.underlying9 w1 _ _ c1 hby1; have hR1 : RowsAt w1 A l := RowsAt.below HR.out (Below.trans (b := w.drew) ⟨rfl, rfl, rfl, Nat.le_refl _, fun _ _ => rfl⟩ hb1)) | (go_at_call 28; (refine (IndexBody_sorted most hS l A cap _ hR1 h0 hlen hle hcap HD.out HO.out).mono ?_; rintro e w2 ⟨l', hP, hSD, rfl, hb2⟩; have hv2 := bytes_string (P := Tryz.prog) Tryz.underlying42 Tryz.underlying5 Tryz.underlying9 w2 _ _ c1 (hby1.below hb2); have hls := sortedSpec_le hP hlen HD.out; have hl1 : ¬ 9223372036854775807 < (Lib.uvarint 1024).length + (sortedSpec l l').length := (by omega); have HP := Lib.hid hP; have HSD := Lib.hid hSD; clear hP hSD)))
  all_goals (go_wp2_with fail; go_ret; exact ⟨l', HP.out, HSD.out, by simp [sOf, sOf_append, Act.put], by (repeat (first | (with_reducible exact Below.refl _ _) | (with_reducible exact below_boxed _ _) | (with_reducible refine below_box ?_ _) | (with_reducible refine below_drew1 ?_) | (with_reducible refine below_drewn ?_ _) | (with_reducible refine below_bytes ?_ _ _) | (with_reducible refine below_next ?_ (by assumption)) | (with_reducible refine below_set ?_ (by first | (simp; done) | (simp; omega) | omega) _)))⟩)
end Go.Proofs.YtgdgmegpacmgnaaGreatDoor

/- sort.Slice of numbers, as spec.Codes and spec.Offsets call it. -/
namespace Go.Proofs.YtgdgmegpacmgnaaGreatDoor
open Go.Shelf Go.RowKit Go.Lib Go.Sort
set_option linter.unusedVariables false
set_option linter.unusedSimpArgs false
attribute [local go_sem] setCell_drewN alloc_drewN

noncomputable def u64sT : TypeInfo := (Tryz.prog.info? 66).get (by kernel_rfl)
noncomputable def u64E : TypeInfo := (Tryz.prog.info? 22).get (by kernel_rfl)
theorem u64K (n : Nat) (h2 : 2 ≤ n) : Lib.swapperK n u64E 11 = 5 := by
  have a : u64E.hasPointers = false := by kernel_rfl
  have b : u64E.bytes = 8 := by kernel_rfl
  have c : (n == 0) = false := by simp; omega
  have d : (n == 1) = false := by simp; omega
  simp [Lib.swapperK, a, b, c, d]
def ltInt64 (x y : Int) : Bool := decide (x < y)
theorem ltInt64_swo : SWO ltInt64 where
  irrefl x := by simp [ltInt64]
  trans x y z h1 h2 := by simp only [ltInt64, decide_eq_true_eq] at *; omega
  ntrans x y z h1 h2 := by simp only [ltInt64, decide_eq_false_iff_not] at *; omega

/-- What is asked of the closure that compares. -/
def LessU (f : Nat) : Prop := ∀ (g c vb n : Nat) (W : World) (G : Nat → Int), W.cell? ⟨vb, 0, none⟩ = some (.slice (some ⟨g, 0, none⟩) n c) → (∀ t, t < n → W.cell? ⟨g, t, none⟩ = some (.int .u64 (G t))) → ∀ i j : Nat, i < n → j < n → n ≤ 1000000 →
  Calls Tryz.prog f #[.int .i64 (i : Int), .int .i64 (j : Int), .pointer (some ⟨vb, 0, none⟩)] W fun e w' => e = .returned (.bool (decide (G i < G j))) ∧ ∃ q, w' = W.drewN q

set_option maxRecDepth 100000 in
set_option maxHeartbeats 1600000 in
theorem less_codes : LessU 66 := by
  intro g c vb n W G hs hc i j hi hj hn
  have ci := hc i hi
  have cj := hc j hj
  clear hc
  go_enter Tryz.func66, Tryz.ntmps66
  go_wp2
  go_quiet (fail)
  go_wp2
  go_ret
  exact ⟨rfl, nq, rfl⟩

theorem heap_sorted64 {w : World} {g n : Nat} {os : Array Obj} {cur : Array Value} {e : TypeId} {fr : Nat × Nat} (d : Array Int) (hb : w.heap[g]? = some (.cells cur e fr)) :
    (grow (putRow (Value.int .u64) (Sort.ahead w n) g 0 d) os).heap[g]? = some (.cells (putCells (Value.int .u64) 0 d cur) e fr) := by
  have hg : g < w.heap.size := (Array.getElem?_eq_some_iff.1 hb).1
  rw [heap_grow_old _ _ (by simpa using hg)]
  simp [putRow, mapBlock, Sort.ahead, Array.getElem?_modify, hb, onCells]
theorem take_putCells64 (cur : Array Value) (ts : List Int) (h : ts.length ≤ cur.size) : (putCells (Value.int .u64) 0 ts.toArray cur).toList.take ts.length = ts.map (Value.int .u64) := by
  apply List.ext_getElem?
  intro j
  by_cases hj : j < ts.length
  · rw [List.getElem?_take_of_lt hj, Array.getElem?_toList]
    simp [putCells, hj, show j < cur.size by omega]
  · rw [List.getElem?_take_eq_none (by omega), List.getElem?_eq_none (by simp; omega)]
theorem kp_sort64 (w : World) (g n : Nat) (os : Array Obj) (d : Array Int) : Kp (fun i => i = g) w (grow (putRow (Value.int .u64) (Sort.ahead w n) g 0 d) os) := by
  refine ⟨rfl, rfl, rfl, by simp, fun i hi hne => ?_⟩
  rw [heap_grow_old _ _ (by simpa using hi)]
  have : ¬ g = i := fun e => hne e.symm
  simp [putRow, mapBlock, Sort.ahead, Array.getElem?_modify, this]

/-- sort.Slice of numbers. -/
theorem SliceU64 (f : Nat) (hL : LessU f) (eg : ∀ args w, (callFunc f args).run Tryz.prog w = .ok (.enter f args) w) (g cap vb : Nat) (l : List Int) (cur : Array Value) (w : World) (hl : l.length ≤ 1000000) (hg : w.heap[g]? = some (.cells cur 22 (0, 0))) (hcs : l.length ≤ cur.size)
    (htk : cur.toList.take l.length = l.map (Value.int .u64)) (hv : w.cell? ⟨vb, 0, none⟩ = some (.slice (some ⟨g, 0, none⟩) l.length cap)) (hvg : vb ≠ g) :
    Calls Tryz.prog 65 #[.iface 66 (.slice (some ⟨g, 0, none⟩) l.length cap), .func (.func f) #[] #[.pointer (some ⟨vb, 0, none⟩)]] w fun e w' => e = .returned (.tuple #[]) ∧
      ∃ (l' : List Int) (cur' : Array Value), l'.Perm l ∧ w'.heap[g]? = some (.cells cur' 22 (0, 0)) ∧ cur'.size = cur.size ∧ cur'.toList.take l'.length = l'.map (Value.int .u64) ∧ l'.Pairwise (· ≤ ·) ∧ Kp (fun i => i = g) w w' := by
  have hglt := (Array.getElem?_eq_some_iff.1 hg).1
  have hvlt := World.block_lt_of_cell? w _ hv
  by_cases h2 : 2 ≤ l.length
  · have hcell : ∀ j, j < l.length → w.cell? ⟨g, j, none⟩ = some (.int .u64 l.toArray[j]!) := fun j hj => by
      have h1 : (cur.toList.take l.length)[j]? = (l.map (Value.int .u64))[j]? := by rw [htk]
      rw [List.getElem?_take_of_lt hj, Array.getElem?_toList] at h1
      rw [blk_cell' hg, h1]
      simp [hj]
    have hH : Holds (Value.int .u64) w g 0 l.toArray := fun j hj => by
      rw [Nat.zero_add]
      exact ⟨hcell j (by simpa using hj), blk_free' hg j⟩
    have hless : LessReads Tryz.prog f #[.pointer (some ⟨vb, 0, none⟩)] (Value.int .u64) ltInt64 g 0 l.toArray.size w := by
      intro m os dk hs i j hi hj
      have e : sortWorld (Value.int .u64) w g 0 m dk os = putRow (Value.int .u64) (grow (Sort.ahead w m) os) g 0 dk := by
        unfold sortWorld; rw [putRow_grow _ (Sort.ahead w m) _ g 0 _ hglt]
      have hHg : Holds (Value.int .u64) (grow (Sort.ahead w m) os) g 0 l.toArray := holds_grow _ _ _ g 0 l.toArray hglt (holds_ahead _ _ _ _ _ _ hH)
      refine hL g cap vb l.toArray.size _ (fun t => dk[t]!) ?_ (fun t ht => ?_) i j hi hj (by simpa using hl)
      · rw [e, cell?_putRow_other _ _ g 0 dk _ (Or.inl hvg), cell?_grow _ _ _ (by exact hvlt)]
        simpa using hv
      · rw [e]
        have := cell?_putRow _ _ g 0 l.toArray dk hHg hs t (by omega)
        rwa [Nat.zero_add] at this
    have hS := Any.sort_Slice_sorted Tryz.laysGg6 66 22 u64sT u64E (by kernel_rfl) (by kernel_rfl) (by kernel_rfl) (by kernel_rfl) 11 (fun _ => by kernel_rfl) (by kernel_rfl) (fun _ => by kernel_rfl) (Value.int .u64) (fun _ => rfl) ltInt64 ltInt64_swo f _
      eg g 0 cap l.toArray (by simpa using h2) (by simp; omega) 97 (by rw [u64K _ (by simpa using h2)]; kernel_rfl) true
      (fun args W => run_callFunc_extern Tryz.func97 (by kernel_rfl) (by kernel_rfl) (by kernel_rfl) (e := Extern.ReflectliteSwapper.swap true) (by kernel_rfl) args W) w hless hH hglt
    have hS' : Calls Tryz.prog 65 #[.iface 66 (.slice (some ⟨g, 0, none⟩) l.length cap), .func (.func f) #[] #[.pointer (some ⟨vb, 0, none⟩)]] w _ := hS
    refine hS'.mono ?_
    rintro e w' ⟨rfl, d', n, os, hP, hSo, rfl⟩
    have hsz : d'.size = l.length := by simpa using hP.1
    refine ⟨rfl, d'.toList, _, ?_, heap_sorted64 d' hg, by simp [putCells], ?_, ?_, kp_sort64 w g n os d'⟩
    · have := hP.2.2
      rw [show d'.extract 0 l.toArray.size = d' by rw [show l.toArray.size = d'.size by simp [hsz]]; simp, show l.toArray.extract 0 l.toArray.size = l.toArray by simp] at this
      simpa using this
    · have := take_putCells64 cur d'.toList (by simpa [hsz] using hcs)
      simpa using this
    · refine List.pairwise_iff_getElem.2 fun i j hi hj hij => ?_
      have hi' : i < d'.size := by simpa using hi
      have hj' : j < d'.size := by simpa using hj
      have := hSo i j (Nat.zero_le _) hij (by simpa [hsz] using hj')
      rw [getElem!_pos d' i hi', getElem!_pos d' j hj'] at this
      simp only [ltInt64, decide_eq_false_iff_not] at this
      simp only [Array.getElem_toList]; omega
  · have hE : Calls Tryz.prog 65 #[.iface 66 (.slice (some ⟨g, 0, none⟩) l.length cap), .func (.func f) #[] #[.pointer (some ⟨vb, 0, none⟩)]] w fun e w' => e = .returned (.tuple #[]) ∧ ∃ os, w' = grow w os := by
      rcases Nat.lt_or_ge l.length 1 with h | h
      · rw [show l.length = 0 by omega]
        exact Any.sort_Slice_tiny Tryz.laysGg6 66 22 u64sT u64E (by kernel_rfl) (by kernel_rfl) (by kernel_rfl) (by kernel_rfl) 11 (fun w => by kernel_rfl) _ 0 cap (by omega) 93 (by kernel_rfl) _ _ _ w
      · rw [show l.length = 1 by omega]
        exact Any.sort_Slice_tiny Tryz.laysGg6 66 22 u64sT u64E (by kernel_rfl) (by kernel_rfl) (by kernel_rfl) (by kernel_rfl) 11 (fun w => by kernel_rfl) _ 1 cap (by omega) 94 (by kernel_rfl) _ _ _ w
    refine hE.mono ?_
    rintro e w' ⟨rfl, os, rfl⟩
    refine ⟨rfl, l, cur, List.Perm.refl _, (heap_grow_old w os hglt).trans hg, rfl, htk, ?_, ⟨rfl, rfl, rfl, by rw [size_grow]; omega, fun i hi _ => heap_grow_old w os hi⟩⟩
    exact List.pairwise_iff_getElem.2 fun i j hi hj hij => by omega
end Go.Proofs.YtgdgmegpacmgnaaGreatDoor

/- spec.Codes: the codes of entries' hash functions. -/
namespace Go.Proofs.YtgdgmegpacmgnaaGreatDoor
open Go.RowKit Go.Lib Go.Sort
set_option linter.unusedVariables false
set_option linter.unusedSimpArgs false
attribute [local go_sem] setCell_drewN alloc_drewN

def codeStep (acc : List Nat) (x : CidOf × Int) : List Nat := if x.1.code ∈ acc then acc else acc ++ [x.1.code]
/-- The codes of entries' hash functions, each once. -/
def codesOf (l : List (CidOf × Int)) : List Nat := l.foldl codeStep []
theorem codesOf_snoc (l : List (CidOf × Int)) (x : CidOf × Int) : codesOf (l ++ [x]) = codeStep (codesOf l) x := by simp [codesOf]
theorem codesOf_le (l : List (CidOf × Int)) : (codesOf l).length ≤ l.length := by
  have : ∀ (l : List (CidOf × Int)) (acc : List Nat), (l.foldl codeStep acc).length ≤ acc.length + l.length := by
    intro l
    induction l with
    | nil => intro acc; simp
    | cons x l ih =>
      intro acc
      have h := ih (codeStep acc x)
      have h2 : (codeStep acc x).length ≤ acc.length + 1 := by unfold codeStep; split <;> simp
      simp only [List.foldl_cons, List.length_cons]; omega
  have h := this l []
  simpa [codesOf] using h
/-- Numbers in a variable, in a row behind it. -/
def BoxU (w : World) (ob : Nat) (os : List Nat) : Prop := ∃ v, w.heap[ob]? = some (.cells #[v] 66 (0, 0)) ∧ w.ownsRow (ob + 1) 22 1 v os.length (os.map offVal) ∧ (v = .slice none 0 0 → os = [])
theorem BoxU.lt {w : World} {ob : Nat} {os : List Nat} (h : BoxU w ob os) : ob < w.heap.size := by obtain ⟨v, h1, _⟩ := h; exact (Array.getElem?_eq_some_iff.1 h1).1
theorem BoxU.kp {S : Nat → Prop} {w w' : World} {ob : Nat} {os : List Nat} (h : BoxU w ob os) (k : Kp S w w') (hs : ¬ S ob) (hv : ∀ g cs, w.heap[g]? = some (.cells cs 22 (0, 0)) → ¬ S g) : BoxU w' ob os := by
  obtain ⟨v, h1, h2, h3⟩ := h
  refine ⟨v, (k.block _ (Array.getElem?_eq_some_iff.1 h1).1 hs).trans h1, own_kp h2 k fun g e => ?_, h3⟩
  obtain ⟨_, cur, hc⟩ := own_cells h2 e
  exact hv g cur hc
theorem BoxU.alloc {w : World} {ob : Nat} {os : List Nat} (h : BoxU w ob os) (o : Obj) : BoxU (w.alloc o) ob os := h.kp (S := fun _ => False) (kp_alloc w o) id (fun _ _ _ => id)
/-- The numbers are put in order. -/
theorem perm_sortN {os : List Nat} {l' : List Int} (hP : l'.Perm (os.map fun n : Nat => (n : Int))) (hS : l'.Pairwise (· ≤ ·)) : l' = (sortN os).map fun n : Nat => (n : Int) := by
  rw [← sortInts_eq]
  have tr : ∀ a b c : Int, decide (a ≤ b) = true → decide (b ≤ c) = true → decide (a ≤ c) = true := fun a b c h1 h2 => by simp only [decide_eq_true_eq] at *; omega
  have to : ∀ a b : Int, (decide (a ≤ b) || decide (b ≤ a)) = true := fun a b => by simp only [Bool.or_eq_true, decide_eq_true_eq]; omega
  refine List.Perm.eq_of_pairwise (le := fun a b => decide (a ≤ b) = true) (fun a b _ _ h1 h2 => ?_) (hS.imp fun h => by simpa using h) (List.pairwise_mergeSort tr to _) (hP.trans (List.mergeSort_perm _ _).symm)
  simp only [decide_eq_true_eq] at h1 h2; omega
theorem map_offVal (os : List Nat) : os.map offVal = (os.map fun n : Nat => (n : Int)).map (Value.int .u64) := by rw [List.map_map]; rfl

set_option maxRecDepth 100000 in
set_option maxHeartbeats 3200000 in
/-- The variable's numbers are sorted by sort.Slice, through a closure that sees the variable. -/
theorem sortBox (f : Nat) (hL : LessU f) (eg : ∀ args w, (callFunc f args).run Tryz.prog w = .ok (.enter f args) w) (ob : Nat) (os : List Nat) (v : Value) (w : World) (hos : os.length ≤ 1000000) (hb : w.heap[ob]? = some (.cells #[v] 66 (0, 0))) (hown : w.ownsRow (ob + 1) 22 1 v os.length (os.map offVal)) (hn : v = .slice none 0 0 → os = []) :
    Calls Tryz.prog 65 #[.iface 66 v, .func (.func f) #[] #[.pointer (some ⟨ob, 0, none⟩)]] w fun e w' => e = .returned (.tuple #[]) ∧ w'.heap[ob]? = some (.cells #[v] 66 (0, 0)) ∧ OutOf w' (ob + 1) v (sortN os) ∧ Below (ob + 1) w w' := by
  have hlt := (Array.getElem?_eq_some_iff.1 hb).1
  by_cases hnil : v = .slice none 0 0
  · have h0 := hn hnil
    subst hnil; subst h0
    refine (Any.sort_Slice_tiny Tryz.laysGg6 66 22 u64sT u64E (by kernel_rfl) (by kernel_rfl) (by kernel_rfl) (by kernel_rfl) 11 (fun w => by kernel_rfl) none 0 0 (by omega) 93 (by kernel_rfl) _ _ _ w).mono ?_
    rintro e w' ⟨rfl, os, rfl⟩
    refine ⟨rfl, (heap_grow_old w os hlt).trans hb, ⟨by simp [sortN], .inl ⟨rfl, by simp [sortN]⟩⟩, rfl, rfl, rfl, by rw [size_grow]; omega, fun i hi => heap_grow_old w os (by omega)⟩
  · obtain ⟨g, cap, cur, rfl, hge, hgc, hgle, hgcm, hgs, htk⟩ : ∃ g cap cur, v = .slice (some ⟨g, 0, none⟩) os.length cap ∧ ob + 1 ≤ g ∧ w.heap[g]? = some (.cells cur 22 (0, 0)) ∧ os.length ≤ cap ∧ cap ≤ maxLen ∧ cur.size = cap * 1 ∧ cur.toList.take (os.length * 1) = os.map offVal := by
      rcases hown.2 with ⟨h, _⟩ | h
      · exact absurd h hnil
      · exact h
    rw [Nat.mul_one] at htk hgs
    have hS := SliceU64 f hL eg g cap ob (os.map fun n : Nat => (n : Int)) cur w (by simpa using hos) hgc (by simp; omega) (by rw [List.length_map, htk, map_offVal]) (by rw [List.length_map]; exact (blk_cell' hb 0).trans rfl) (by omega)
    rw [List.length_map] at hS
    refine hS.mono ?_
    rintro e w' ⟨rfl, l', cur', hP, hg', hcs, htk', hPw, hK⟩
    have hl' := perm_sortN hP hPw
    have hll : l'.length = os.length := by rw [hP.length_eq, List.length_map]
    refine ⟨rfl, (hK.block ob hlt (by omega)).trans hb, ⟨by simp, .inr ⟨g, cap, cur', by rw [sortN_len], hge, hg', by rw [sortN_len]; exact hgle, hgcm, by omega, ?_⟩⟩, ?_⟩
    · rw [Nat.mul_one, sortN_len, ← hll, htk', hl', ← map_offVal]
    · exact ⟨hK.os, hK.tape, hK.output, hK.size, fun i hi => hK.block i (by omega) (by omega)⟩

set_option maxRecDepth 100000 in
set_option maxHeartbeats 3200000 in
theorem Codes_ok (l : List (CidOf × Int)) (A : Option Addr) (cap : Nat) (w : World) (hR : RowsAt w A l) (hlen : l.length ≤ 1000000) (hcap : l.length ≤ cap) :
    Calls Tryz.prog 49 #[.slice A l.length cap] w fun e w' => ∃ v, e = .returned v ∧ OutOf w' w.heap.size v (sortN (codesOf l)) ∧ Below w.heap.size w w' := by
  obtain ⟨i0, ti, tz0, tz1, tz2⟩ := info_parts info_u64
  have hmm := @run_makeMap Tryz.prog
  go_enter Tryz.func49, Tryz.ntmps49
  go_wp2_with fail
  go_loopw [10] (fun vi wr => ∃ k : Nat, k ≤ l.length ∧ vi = .int .i64 (k : Int) ∧ ImAt wr (w.heap.size + 1) .u64 (seenPairs (codesOf (l.take k))) ∧ BoxU wr w.heap.size (codesOf (l.take k)) ∧ Below w.heap.size w wr ∧ w.heap.size + 1 < wr.heap.size) (fun vi _ => l.length - (intOf vi).toNat)
  case atStart =>
    refine ⟨0, Nat.zero_le _, rfl, ?_, ?_, by (repeat (first | (with_reducible exact Below.refl _ _) | (with_reducible exact below_boxed _ _) | (with_reducible refine below_box ?_ _) | (with_reducible refine below_drew1 ?_) | (with_reducible refine below_drewn ?_ _) | (with_reducible refine below_bytes ?_ _ _) | (with_reducible refine below_next ?_ (by assumption)) | (with_reducible refine below_set ?_ (by first | (simp; done) | (simp; omega) | omega) _))), by simp⟩
    · have := ImAt.made (w.alloc (.cells #[.slice none 0 0] 66)) .u64
      simpa [codesOf, seenPairs] using this
    · exact BoxU.alloc ⟨_, heap_alloc_new w _, World.ownsRow_nil _ _ _ _, fun _ => rfl⟩ _
  case round =>
    obtain ⟨k, hk, rfl, hI, hBx, hB, hz⟩ := hrel
    by_cases hlt : k < l.length
    · obtain ⟨x, hx⟩ : ∃ x, l[k]? = some x := ⟨_, List.getElem?_eq_getElem hlt⟩
      obtain ⟨g0, o, rfl, hg0, r0, r1, r2, r3, r4⟩ := hR.row hB hx
      have htk := take_snoc' hx
      have hwl := codesOf_le (l.take k)
      rw [List.length_take] at hwl
      obtain ⟨ws, hws⟩ : ∃ ws, ws = codesOf (l.take k) := ⟨_, rfl⟩
      rw [← hws] at hI hBx hwl
      have HW : Hid (codesOf (l.take (k + 1)) = codeStep ws x) := Lib.hid (by rw [htk, codesOf_snoc, hws])
      have hg0r : g0 < wr.heap.size := by have := hB.size; omega
      clear hws htk hx
      have hIb := (hI.upd (w' := wr.alloc (.cells #[.int .u64 x.1.ver, .int .u64 x.1.codec, .int .u64 x.1.code, .string (sOf x.1.dig), .int .u64 x.2] 62)) (heap_alloc_old _ _ hI.lt))
      have hOb := hBx.alloc (.cells #[.int .u64 x.1.ver, .int .u64 x.1.codec, .int .u64 x.1.code, .string (sOf x.1.dig), .int .u64 x.2] 62)
      have hbb : Below w.heap.size w (wr.alloc (.cells #[.int .u64 x.1.ver, .int .u64 x.1.codec, .int .u64 x.1.code, .string (sOf x.1.dig), .int .u64 x.2] 62)) := below_box hB _
      by_cases hmem : x.1.code ∈ ws
      · have hlk := hIb.look (P := Tryz.prog) Tryz.underlying36 Tryz.underlying22 (k := (x.1.code : Int)) (v := .bool true) (by rw [ilook_seen, if_pos hmem]) false
        simp only [Bool.false_eq_true, if_false] at hlk
        have HWW : Hid (codesOf (l.take (k + 1)) = ws) := Lib.hid (by rw [HW.out, codeStep, if_pos hmem])
        clear hmem hBx hI
        go_wp2_with fail
        go_roundw
        case rel => exact ⟨k + 1, by omega, by go_num, by rw [HWW.out]; exact hIb, by rw [HWW.out]; exact hOb, hbb, by simp; omega⟩
        case measure => simp [intOf]; omega
      · have hlk := hIb.look_no (P := Tryz.prog) Tryz.underlying36 Tryz.underlying22 (k := (x.1.code : Int)) (by rw [ilook_seen, if_neg hmem]) false _ boolZero
        simp only [Bool.false_eq_true, if_false] at hlk
        have HWW : Hid (codesOf (l.take (k + 1)) = ws ++ [x.1.code]) := Lib.hid (by rw [HW.out, codeStep, if_neg hmem])
        have HMem := Lib.hid hmem
        have hzb : wr.heap.size < (wr.alloc (.cells #[.int .u64 x.1.ver, .int .u64 x.1.codec, .int .u64 x.1.code, .string (sOf x.1.dig), .int .u64 x.2] 62)).heap.size := by simp
        have hbxe := heap_alloc_new wr (.cells #[.int .u64 x.1.ver, .int .u64 x.1.codec, .int .u64 x.1.code, .string (sOf x.1.dig), .int .u64 x.2] 62)
        clear hmem hBx hI
        go_wp2_with (at_mapUpdate; refine step_put_im rfl _ _ _ 36 rfl Tryz.underlying36 Tryz.underlying22 rfl hIb (k := (x.1.code : Int)) (val := .bool true) rfl rfl ?_; intro w3 hI3 hK3 hs3; refine later ?_)
        rw [iput_seen HMem.out] at hI3
        have hO3 : BoxU w3 w.heap.size ws := hOb.kp hK3 (by omega) (fun g cs hc e => by
          have e' : g = w.heap.size + 1 := e
          subst e'
          obtain ⟨es, cl, hm, _⟩ := hIb
          rw [hm] at hc; cases hc)
        have hB3 : Below w.heap.size w w3 := hbb.trans ⟨hK3.os, hK3.tape, hK3.output, hK3.size, fun i hi => hK3.block i (by have := hbb.size; omega) (by omega)⟩
        have hbx3 := (hK3.block wr.heap.size hzb (by omega)).trans hbxe
        have q2 := (blk_cell' hbx3 2).trans (show _ = some (Value.int .u64 x.1.code) from rfl)
        have hz3 : wr.heap.size < w3.heap.size := by omega
        obtain ⟨v3, hb3, hown3, hn3⟩ := hO3
        have c3 := (blk_cell' hb3 0).trans (show _ = some v3 from rfl)
        clear hIb hOb hbb hlk hK3 hs3 hzb hB hbxe hbx3
        refine now ?_
        go_wp2_with (at_builtin; refine wpList_append_own _ rfl _ _ 66 rfl (w.heap.size + 1) 22 i0 (.int .u64 0) 1 8 Tryz.underlying66 ti tz0 tz1 tz2 rfl (by decide) _ _ _ rfl (hown3.alloc _) ⟨w3.heap.size, 0, none⟩ 1 1 [.int .u64 (x.1.code : Int)] rfl rfl (one_cell _ _ _) (ints_oneCell .u64 [(x.1.code : Int)]) ?c3 ?c4 ?c5 ?_)
        case c3 => unfold maxLen; omega
        case c4 => omega
        case c5 => simp; omega
        intro v' w4 hown4 hgrow hnn
        have hvo : ∀ j, v3.ownBlock = some j → w.heap.size + 1 ≤ j ∧ j < w3.heap.size := hown3.lt
        have hne3 : v3.ownBlock ≠ some (w.heap.size + 1) := by
          intro e
          obtain ⟨_, cur, hc⟩ := own_cells hown3 e
          obtain ⟨es, cl, hm, _⟩ := hI3
          rw [hm] at hc; cases hc
        have hI4 : ImAt w4 (w.heap.size + 1) .u64 (seenPairs (ws ++ [x.1.code])) := (hI3.kp (kp_alloc w3 _) id).kp (kp_grown hgrow) (fun e => hne3 e.symm)
        have hb4 : w4.heap[w.heap.size]? = some (.cells #[v3] 66 (0, 0)) := (hgrow.block _ (by simp; omega) (fun e => by have := (hvo _ e.symm).1; omega)).trans ((heap_alloc_old w3 _ (by omega)).trans hb3)
        have f4 := blk_free' hb4 0
        have c4 := (blk_cell' hb4 0).trans (show _ = some v3 from rfl)
        have hB4 : Below w.heap.size w w4 := (below_box hB3 _).trans ⟨hgrow.os, hgrow.tape, hgrow.output, hgrow.size, fun i hi => hgrow.block i (by simp; omega) (fun e => by have := (hvo i e.symm).1; omega)⟩
        have hz4 : w.heap.size + 1 < w4.heap.size := by have := hgrow.size; simp at this; omega
        rcases hown4.2 with ⟨_, hbad⟩ | ⟨g, capg, cur, rfl, hge, hg, hle, hcm, hcs, htk⟩
        · simp at hbad
        have hne : g ≠ w.heap.size := by omega
        clear hown4 hgrow hI3 hown3 hB3 hvo hnn c3 hb3 q2
        go_wp2_with fail
        go_roundw
        case rel =>
          have hb5 : (w4.setCell ⟨w.heap.size, 0, none⟩ (.slice (some ⟨g, 0, none⟩) (ws.length + 1) capg)).heap[w.heap.size]? = some (.cells #[.slice (some ⟨g, 0, none⟩) (ws.length + 1) capg] 66 (0, 0)) := by
            rw [setCell_eq_setRow w4 w.heap.size 0 _ _ _ _ hb4, setRow_heap w4 w.heap.size _ _ _ _ hb4]; rfl
          refine ⟨k + 1, by omega, by go_num, ?_, ?_, hB4.setCell (Nat.le_refl _) _, by simpa using hz4⟩
          · rw [HWW.out]; exact hI4.upd (Below.heap_setCell _ _ _ _ (by show w.heap.size + 1 ≠ w.heap.size; omega))
          · rw [HWW.out]
            refine ⟨_, hb5, ⟨by simp, .inr ⟨g, capg, cur, by simp, hge, (Below.heap_setCell _ _ _ _ hne).trans hg, by simpa using hle, hcm, hcs, ?_⟩⟩, fun e => by cases e⟩
            simp only [List.length_append, List.length_cons, List.length_nil, List.map_append, List.map_cons, List.map_nil, offVal] at htk ⊢
            exact htk
        case measure => simp [intOf]; omega
    · obtain rfl : k = l.length := by omega
      rw [List.take_length] at hI hBx
      have hwl := codesOf_le l
      obtain ⟨ws, hws⟩ : ∃ ws, ws = codesOf l := ⟨_, rfl⟩
      rw [← hws] at hBx hwl
      have HW := Lib.hid hws
      clear hI hws
      obtain ⟨v, hb, hown, hn⟩ := hBx
      have hS := sortBox 66 less_codes (enters_of Tryz.func66 (by kernel_rfl) rfl) w.heap.size ws v wr (by omega) hb hown hn
      have c0 := (blk_cell' hb 0).trans (show _ = some v from rfl)
      have hmf : ∀ (fn : Fn) (first cap : Array Value) (w : World), (Instr.makeFunc fn first cap).run Tryz.prog w = .ok (.func fn first cap) w := fun _ _ _ _ => rfl
      clear hb hown hn
      go_wp2_with fail
      refine hS.mono ?_
      clear hS
      rintro e w1 ⟨rfl, hb1, hO1, hB1⟩
      have c1 := (blk_cell' hb1 0).trans (show _ = some v from rfl)
      go_wp2_with fail
      go_ret
      refine ⟨v, rfl, by rw [← HW.out]; exact hO1.mono (by omega), hB.trans (hB1.mono (by omega))⟩
end Go.Proofs.YtgdgmegpacmgnaaGreatDoor
