import Derived.Test.YtobdjcnojbnegaaGreatDoorG10
import Derived.StillTailTactics
import Derived.Laws.Rows
import Derived.Test.YtobdjcnojbnegaaGreatDoorG00
import Derived.RegionCalls
import Derived.Deep.RegionWith
import Derived.Deep.RegionHeld3
import Derived.Test.YtobdjcnojbnegaaGreatDoorG07
import Derived.Test.YtobdjcnojbnegaaGreatDoorG08
import Derived.Test.YtobdjcnojbnegaaGreatDoorG09
import Derived.Lib.Bytealg
import Derived.Sort.LotA
/- Words of the proof of spec.sha256Of: blocks of numbers. -/
namespace Go.Proofs.YtobdjcnojbnegaaGreatDoor
open Go.RowKit
set_option linter.unusedVariables false
set_option linter.unusedSimpArgs false
attribute [local go_sem] setCell_drewN alloc_drewN

theorem info_w : (Tryz.prog.info? 189).map (fun i => (i.zero, i.size)) = some (some (.agg (numCells .u32 (List.replicate 64 0))), 64) := by kernel_rfl
theorem info_h : (Tryz.prog.info? 150).map (fun i => (i.zero, i.size)) = some (some (.agg (numCells .u32 (List.replicate 8 0))), 8) := by kernel_rfl

theorem NumBlk.of {k : IntKind} {t : TypeId} {n b : Nat} {w w' : World} (h : NumBlk k t n w b) (e : w'.heap[b]? = w.heap[b]?) : NumBlk k t n w' b := by
  obtain ⟨xs, hx, hb⟩ := h
  exact ⟨xs, hx, by rw [e, hb]⟩
theorem NumBlk.lt {k : IntKind} {t : TypeId} {n b : Nat} {w : World} (h : NumBlk k t n w b) : b < w.heap.size := by
  obtain ⟨xs, _, hb⟩ := h
  exact (Array.getElem?_eq_some_iff.1 hb).1
theorem NumBlk.cell {k : IntKind} {t : TypeId} {n b : Nat} {w : World} (h : NumBlk k t n w b) (i : Nat) (hi : i < n) : ∃ m, w.cell? ⟨b, i, none⟩ = some (.int k m) := by
  obtain ⟨xs, hx, hb⟩ := h
  have hi' : i < xs.length := by omega
  exact ⟨xs[i], by rw [cell_of_row w b i _ t _ hb]; simp [hi']⟩
theorem NumBlk.free {k : IntKind} {t : TypeId} {n b : Nat} {w : World} (h : NumBlk k t n w b) (o : Nat) : w.frozen? ⟨b, o, none⟩ = false := by
  obtain ⟨xs, hx, hb⟩ := h
  simp [World.frozen?, hb]
theorem NumBlk.set {k : IntKind} {t : TypeId} {n b : Nat} {w : World} (h : NumBlk k t n w b) (i : Nat) (m : Int) : NumBlk k t n (w.setCell ⟨b, i, none⟩ (.int k m)) b := by
  obtain ⟨xs, hx, hb⟩ := h
  refine ⟨xs.set i m, by simp [hx], ?_⟩
  rw [setCell_eq_setRow w b i _ t _ _ hb, setRow_heap w b _ _ t _ hb]
  congr 2
  apply Array.ext'
  simp
theorem NumBlk.other {k : IntKind} {t : TypeId} {n b : Nat} {w : World} (h : NumBlk k t n w b) (a : Addr) (hne : b ≠ a.block) (v : Value) : NumBlk k t n (w.setCell a v) b := h.of (Below.heap_setCell _ _ _ _ hne)
theorem NumBlk.drew {k : IntKind} {t : TypeId} {n b : Nat} {w : World} (h : NumBlk k t n w b) : NumBlk k t n w.drew b := h
theorem NumBlk.drewN {k : IntKind} {t : TypeId} {n b : Nat} {w : World} (h : NumBlk k t n w b) (m : Nat) : NumBlk k t n (w.drewN m) b := h
theorem NumBlk.alloc {k : IntKind} {t : TypeId} {n b : Nat} {w : World} (h : NumBlk k t n w b) (o : Obj) : NumBlk k t n (w.alloc o) b := h.of (Below.heap_alloc _ _ _ h.lt)
theorem NumBlk.new {k : IntKind} {t : TypeId} {n : Nat} {w : World} (xs : List Int) (h : xs.length = n) : NumBlk k t n (w.alloc (.cells (numCells k xs) t)) w.heap.size := ⟨xs, h, heap_alloc_last _ _⟩
theorem NumBlk.row {k : IntKind} {t : TypeId} {n b : Nat} {w : World} (h : NumBlk k t n w b) (ys : List Int) (hy : ys.length = n) : NumBlk k t n (w.setRow b (numCells k ys)) b := by
  obtain ⟨xs, hx, hb⟩ := h
  exact ⟨ys, hy, setRow_heap w b _ _ t _ hb⟩

/-- Bytes that lie at the head of a block. -/
def ByBlk (n : Nat) (w : World) (g : Nat) : Prop := ∀ i, i < n → ∃ m, w.cell? ⟨g, i, none⟩ = some (.int .u8 m)
theorem ByBlk.of {n g : Nat} {w w' : World} (h : ByBlk n w g) (e : w'.heap[g]? = w.heap[g]?) : ByBlk n w' g := fun i hi => by
  obtain ⟨m, hm⟩ := h i hi
  exact ⟨m, by rw [World.cell?_of_block (w := w) e]; exact hm⟩
theorem ByBlk.row {n g : Nat} {w : World} {base : Nat} {e : TypeId} {cap : Nat} {xs : List Value} (h : RowZ w base e (.slice (some ⟨g, 0, none⟩) n cap) n xs) (hb : Bys xs) : ByBlk n w g := fun i hi => by
  have hl : i < xs.length := by rw [h.1]; exact hi
  obtain ⟨m, hm⟩ := hb xs[i] (List.getElem_mem hl)
  refine ⟨m, ?_⟩
  have := h.cells (g := g) rfl i xs[i] (List.getElem?_eq_getElem hl)
  rw [← hm]
  rwa [Addr.add_mid, Nat.zero_add] at this

theorem ByBlk.lt {n g : Nat} {w : World} (h : ByBlk n w g) (hn : 0 < n) : g < w.heap.size := by
  obtain ⟨m, hm⟩ := h 0 hn
  exact World.block_lt_of_cell? w _ hm

/-- The blocks of sha256Of: the state h, the table. -/
structure Sh (w wr : World) (hb tb : Nat) : Prop where
  h : NumBlk .u32 150 8 wr hb
  t : NumBlk .u64 197 80 wr tb
  hge : w.heap.size ≤ hb
  ne : hb < tb
  bel : Below w.heap.size w wr
theorem Sh.alloc {w wr : World} {hb tb : Nat} (h : Sh w wr hb tb) (o : Obj) : Sh w (wr.alloc o) hb tb := ⟨h.h.alloc o, h.t.alloc o, h.hge, h.ne, below_box h.bel o⟩
theorem Sh.drew {w wr : World} {hb tb : Nat} (h : Sh w wr hb tb) : Sh w wr.drew hb tb := ⟨h.h, h.t, h.hge, h.ne, below_drew1 h.bel⟩
theorem Sh.drewN {w wr : World} {hb tb : Nat} (h : Sh w wr hb tb) (n : Nat) : Sh w (wr.drewN n) hb tb := ⟨h.h, h.t, h.hge, h.ne, below_drewn h.bel n⟩
theorem Sh.set {w wr : World} {hb tb : Nat} (h : Sh w wr hb tb) (a : Addr) (ha : tb < a.block) (v : Value) : Sh w (wr.setCell a v) hb tb :=
  ⟨h.h.other a (by have := h.ne; omega) v, h.t.other a (by omega) v, h.hge, h.ne, below_set h.bel (by have := h.ne; have := h.hge; omega) v⟩

/-- With the words w, and the bytes b. -/
structure Sw (w wr : World) (hb tb g wb : Nat) : Prop where
  sh : Sh w wr hb tb
  w : NumBlk .u32 189 64 wr wb
  b : ByBlk 64 wr g
  gt : tb < g
  wt : g < wb
theorem Sw.drew {w wr : World} {hb tb g wb : Nat} (h : Sw w wr hb tb g wb) : Sw w wr.drew hb tb g wb := ⟨h.sh.drew, h.w, h.b, h.gt, h.wt⟩
theorem Sw.drewN {w wr : World} {hb tb g wb : Nat} (h : Sw w wr hb tb g wb) (n : Nat) : Sw w (wr.drewN n) hb tb g wb := ⟨h.sh.drewN n, h.w, h.b, h.gt, h.wt⟩
theorem Sw.set {w wr : World} {hb tb g wb : Nat} (h : Sw w wr hb tb g wb) (i : Nat) (m : Int) : Sw w (wr.setCell ⟨wb, i, none⟩ (.int .u32 m)) hb tb g wb :=
  ⟨h.sh.set _ (by have := h.gt; have := h.wt; simp; omega) _, h.w.set i m, h.b.of (Below.heap_setCell _ _ _ _ (by have := h.wt; simp; omega)), h.gt, h.wt⟩

theorem Sw.alloc {w wr : World} {hb tb g wb : Nat} (h : Sw w wr hb tb g wb) (hg : g < wr.heap.size) (o : Obj) : Sw w (wr.alloc o) hb tb g wb := ⟨h.sh.alloc o, h.w.alloc o, h.b.of (Below.heap_alloc _ _ _ hg), h.gt, h.wt⟩

/-- A whole block of numbers, loaded. -/
theorem NumBlk.load {P : Program} {ops : Array Oper} {rest : List Oper} {o : Oper} {a : Act} {Q : Exit → Act → World → Prop} {w : World} {k : IntKind} {t : TypeId} {n b : Nat} (h : NumBlk k t n w b) (hgd : o.guard = none)
    (x : Operand) (ty : TypeId) (ho : o.op = .load ty x) (hx : a.eval x = .pointer (some ⟨b, 0, none⟩)) {m : Nat} {e : TypeId} (hu : P.underlying ty = some (.array m e)) (hi : (P.info? ty).map (·.size) = some n)
    (hK : ∀ ys : List Int, ys.length = n → wpList P ops Q rest (a.put o.dst (.agg (numCells k ys))) w) : wpList P ops Q (o :: rest) a w := by
  obtain ⟨ys, hy, hb⟩ := h
  have hl := run_loadVar_row (P := P) w b t ty (numCells k ys) (0, 0) _ hb hu rfl (by rw [hi]; simp [numCells, hy])
  refine event_run hgd (v := .agg (numCells k ys)) ?_ (hK ys hy)
  simp [execOp, ho, hx, Instr.loadAt, Instr.sureAddr, Sem.run_bind, hl]

/-- A whole block of numbers, stored. -/
theorem NumBlk.store {P : Program} {ops : Array Oper} {rest : List Oper} {o : Oper} {a : Act} {Q : Exit → Act → World → Prop} {w : World} {k : IntKind} {t : TypeId} {n b : Nat} (h : NumBlk k t n w b) (hgd : o.guard = none)
    (x y : Operand) (ty : TypeId) (ho : o.op = .store ty x y) (hx : a.eval x = .pointer (some ⟨b, 0, none⟩)) {cells : Array Value} (hy : a.eval y = .agg cells) (ys : List Int) (hc : cells = numCells k ys) (hys : ys.length = n) (hi : (P.info? ty).map (·.size) = some n)
    (hK : wpList P ops Q rest (a.put o.dst undef) (w.setRow b (numCells k ys))) : wpList P ops Q (o :: rest) a w := by
  subst hc
  obtain ⟨xs, hx0, hb⟩ := h
  exact wpList_store_row hgd ty x y ho b (numCells k ys) hx hy t _ hb (by rw [hi]; simp [numCells, hys]) (by simp [numCells, hys, hx0]) (by simp [numCells, Value.oneCell']) hK

theorem below_setRow {w w1 : World} (h : Below w.heap.size w w1) {b : Nat} (hb : w.heap.size ≤ b) (cs : Array Value) : Below w.heap.size w (w1.setRow b cs) :=
  ⟨h.os, h.tape, h.output, by rw [setRow_size]; exact h.size, fun k hk => by rw [setRow_other _ _ _ _ (by omega)]; exact h.block k hk⟩

/-- With the words v besides. -/
structure Sv (w wr : World) (hb tb g wb vb : Nat) : Prop where
  sw : Sw w wr hb tb g wb
  v : NumBlk .u32 150 8 wr vb
  vt : wb < vb
theorem Sv.drew {w wr : World} {hb tb g wb vb : Nat} (h : Sv w wr hb tb g wb vb) : Sv w wr.drew hb tb g wb vb := ⟨h.sw.drew, h.v, h.vt⟩
theorem Sv.setRow {w wr : World} {hb tb g wb vb : Nat} (h : Sv w wr hb tb g wb vb) (ys : List Int) (hy : ys.length = 8) : Sv w (wr.setRow vb (numCells .u32 ys)) hb tb g wb vb := by
  have h1 := h.sw.gt; have h2 := h.sw.wt; have h3 := h.vt; have h4 := h.sw.sh.ne; have h5 := h.sw.sh.hge
  exact ⟨⟨⟨h.sw.sh.h.of (setRow_other _ _ _ _ (by omega)), h.sw.sh.t.of (setRow_other _ _ _ _ (by omega)), h5, h4, below_setRow h.sw.sh.bel (by omega) _⟩, h.sw.w.of (setRow_other _ _ _ _ (by omega)), h.sw.b.of (setRow_other _ _ _ _ (by omega)), h1, h2⟩, h.v.row ys hy, h3⟩
theorem Sv.setH {w wr : World} {hb tb g wb vb : Nat} (h : Sv w wr hb tb g wb vb) (i : Nat) (m : Int) : Sv w (wr.setCell ⟨hb, i, none⟩ (.int .u32 m)) hb tb g wb vb := by
  have h1 := h.sw.gt; have h2 := h.sw.wt; have h3 := h.vt; have h4 := h.sw.sh.ne; have h5 := h.sw.sh.hge
  exact ⟨⟨⟨h.sw.sh.h.set i m, h.sw.sh.t.other _ (by simp; omega) _, h5, h4, below_set h.sw.sh.bel (by simp; omega) _⟩, h.sw.w.other _ (by simp; omega) _, h.sw.b.of (Below.heap_setCell _ _ _ _ (by simp; omega)), h1, h2⟩, h.v.other _ (by simp; omega) _, h3⟩

/-- A region that draws its order, and reads and calls quietly. -/
theorem still_drew {P : Program} {id : Nat} {Q : Exit → Act → World → Prop} {a : Act} {w : World} {l : List Oper} (hm : P.follows .mixedOrders = true) (hB : Region.lexB .any l.toArray = true)
    (h : wpStill P l.toArray w.drew (fun a' => Q .normal a' w.drew) l a) : (Code.region id l.toArray true).wp P Q a w := wp_region_still_lit hm hB h
/-- The same, with a tail that writes. -/
theorem still_tail_drew {P : Program} {id : Nat} {Q : Exit → Act → World → Prop} {a : Act} {w : World} {l : List Oper} (n : Nat) (hm : P.follows .mixedOrders = true) (hB : Region.lexTailB .any l.toArray n = true)
    (h : wpStill P l.toArray w.drew (fun a' => wpList P l.toArray Q (l.drop n) a' w.drew) (l.take n) a) : (Code.region id l.toArray true).wp P Q a w := wp_region_still_tail n hm hB h

/-- A word turned to the right. -/
def rot32 (a : Int) (n : Nat) : Int := bits BinOp.or IntKind.u32 (a / 2 ^ n) (a * 2 ^ (32 - n) % 4294967296)
set_option maxRecDepth 100000 in
theorem right32_v (a z : Int) (h0 : 0 ≤ z) (hz : z ≤ 32) (w : World) : Calls Tryz.prog 106 #[.int .u32 a, .int .u64 z] w fun e w' => e = .returned (.int .u32 (rot32 a z.toNat)) ∧ w' = w := by
  obtain ⟨n, rfl⟩ := Int.eq_ofNat_of_zero_le h0
  have hn : n ≤ 32 := by omega
  have h1 : IntKind.u64.wrap (32 - (n : Int)) = ((32 - n : Nat) : Int) := by rw [IntKind.wrap_u64]; omega
  go_enter Tryz.func106, Tryz.ntmps106
  go_wp2_with fail
  go_ret
  exact ⟨rfl, rfl⟩
theorem index_h (hs : List Int) (hh : hs.length = 8) (k : Nat) (hk : k < 8) : ∃ m, ∀ w, (Instr.index 150 (.agg (numCells .u32 hs)) (.int .i64 (k : Int))).run Tryz.prog w = .ok (.int .u32 m) w := by
  match hs, hh with
  | [a0, a1, a2, a3, a4, a5, a6, a7], _ =>
    match k, hk with
    | 0, _ => exact ⟨a0, fun w => by simp [go_sem, numCells, Instr.index]⟩
    | 1, _ => exact ⟨a1, fun w => by simp [go_sem, numCells, Instr.index]⟩
    | 2, _ => exact ⟨a2, fun w => by simp [go_sem, numCells, Instr.index]⟩
    | 3, _ => exact ⟨a3, fun w => by simp [go_sem, numCells, Instr.index]⟩
    | 4, _ => exact ⟨a4, fun w => by simp [go_sem, numCells, Instr.index]⟩
    | 5, _ => exact ⟨a5, fun w => by simp [go_sem, numCells, Instr.index]⟩
    | 6, _ => exact ⟨a6, fun w => by simp [go_sem, numCells, Instr.index]⟩
    | 7, _ => exact ⟨a7, fun w => by simp [go_sem, numCells, Instr.index]⟩

/-- A byte out of a number. -/
theorem byte_of (n : Int) (h0 : 0 ≤ n) (h1 : n < 256) : ∃ b : UInt8, n = (b.toNat : Int) := by
  refine ⟨UInt8.ofNat n.toNat, ?_⟩
  have : n.toNat < 256 := by omega
  simp [UInt8.toNat_ofNat', Nat.mod_eq_of_lt this]
  omega
theorem own_bytes {w : World} {base : Nat} {e : TypeId} {v : Value} {n : Nat} {bs : List UInt8} (h : w.ownsRow base e 1 v n (Lib.byteCells bs)) (hn : 0 < n) (hl : bs.length = n) : ∃ g cap, v = .slice (some ⟨g, 0, none⟩) n cap ∧ BytesAt w (some ⟨g, 0, none⟩) bs := by
  rcases h.2 with ⟨_, h0⟩ | ⟨g, cap, cur, rfl, _, hg, _, _, _, htk⟩
  · omega
  · refine ⟨g, cap, rfl, .inr ⟨g, 0, rfl, fun j x hj => ?_⟩⟩
    rw [cell_of_row w g (0 + j) cur _ _ hg, Nat.zero_add]
    have hj' : j < bs.length := (List.getElem?_eq_some_iff.1 hj).1
    have h2 : (cur.toList.take (n * 1))[j]? = some (.int .u8 (x.toNat : Int)) := by
      rw [htk]; simp [Lib.byteCells, hj]
    rw [List.getElem?_take] at h2
    split at h2
    · simpa using h2
    · cases h2
theorem own_grow {w w1 w2 : World} {B : Nat} {e : TypeId} {v : Value} {n : Nat} {xs : List Value} (h : w1.ownsRow w.heap.size e 1 v n xs) (hb : Below w.heap.size w w1) (hg : w1.grownBy w2 v.ownBlock) : Below w.heap.size w w2 :=
  hb.grown hg hb.size (fun k hk => by
    rcases h.2 with ⟨rfl, _⟩ | ⟨g, cap, cur, rfl, hge, _⟩
    · cases hk
    · cases hk; exact hge)
end Go.Proofs.YtobdjcnojbnegaaGreatDoor

/- spec.Varint, MultihashBytes, CidBytes: an identifier's bytes. -/
namespace Go.Proofs.YtobdjcnojbnegaaGreatDoor
open Go.RowKit
set_option linter.unusedVariables false
set_option linter.unusedSimpArgs false
attribute [local go_sem] setCell_drewN alloc_drewN

theorem or128 (m : Nat) : bits .or .u8 ((m : Int) % 256) 128 = ((m % 128 + 128 : Nat) : Int) := by
  have e : ((m : Int) % 256) = ((m % 256 : Nat) : Int) := by omega
  have e2 : (128 : Int) = ((128 : Nat) : Int) := rfl
  rw [e, e2, u8_or_nat _ _ (by omega) (by omega)]
  congr 1
  have h1 : m % 128 ||| 128 = m % 128 + 128 := by
    have := nat_or_add (m % 128) 1 7 (by omega)
    simpa using this
  rcases Nat.lt_or_ge (m % 256) 128 with h | h
  · have e3 : m % 256 = m % 128 := by omega
    rw [e3, h1]
  · have e3 : m % 256 = m % 128 + 128 := by omega
    rw [e3, ← h1, Nat.or_assoc, Nat.or_self]

theorem toU8_toNat (x : Nat) (h : x < 256) : ((x.toUInt8).toNat : Int) = (x : Int) := by
  simp [Nat.toUInt8, UInt8.toNat_ofNat', Nat.mod_eq_of_lt h]

set_option maxRecDepth 100000 in
theorem Varint_ok (n : Nat) (hn : n < 18446744073709551616) (w : World) : Calls Tryz.prog 47 #[.int .u64 n] w fun e w' => ∃ v, e = .returned v ∧ w'.ownsRow w.heap.size 5 1 v (Lib.uvarint n).length (Lib.byteCells (Lib.uvarint n)) ∧ Below w.heap.size w w' := by
  obtain ⟨i0, hi, hz0, hz1, hz2⟩ := info_parts info_byte
  have hlen : (Lib.uvarint n).length ≤ 10 := Lib.uvarint_length 9 n (Nat.lt_of_lt_of_le hn (by decide))
  go_enter Tryz.func47, Tryz.ntmps47
  go_wp2_with fail
  go_loopw [3, 0] (fun v vm wr => ∃ m : Nat, vm = .int .u64 m ∧ m ≤ n ∧ ∃ pre : List UInt8, Lib.uvarint n = pre ++ Lib.uvarint m ∧ wr.ownsRow w.heap.size 5 1 v pre.length (Lib.byteCells pre) ∧ Below w.heap.size w wr) (fun _ vm _ => (intOf vm).toNat)
  case atStart => exact ⟨n, rfl, Nat.le_refl _, [], rfl, ⟨rfl, .inl ⟨rfl, rfl⟩⟩, Below.refl _ _⟩
  case round =>
    obtain ⟨m, rfl, hm, pre, hpre, hown, hbel⟩ := hrel
    have hpl : pre.length + (Lib.uvarint m).length ≤ 10 := by rw [hpre] at hlen; simpa using hlen
    by_cases h : m < 128
    · have hs := Lib.uvarint_small h
      have e0 : (m : Int) % 256 = (m : Int) := by omega
      go_wp2_with (at_builtin; refine wpList_append_own _ rfl _ _ 65 rfl w.heap.size 5 i0 (.int .u8 0) 1 1 Tryz.underlying65 hi hz0 hz1 hz2 rfl (by decide) _ _ _ rfl (hown.alloc _) ⟨wr.heap.size, 0, none⟩ 1 1 [.int .u8 (m : Int)] rfl rfl ?c1 ?c2 ?c3 ?c4 ?c5 ?_)
      case c1 =>
        intro j u hj
        match j, hj with
        | 0, hj => simp at hj; subst hj; simp [Addr.add]
      case c2 => intro u hu; simp at hu; subst hu; rfl
      case c3 => unfold maxLen; omega
      case c4 => omega
      case c5 => have := hbel.size; simp; omega
      intro v' w2 hown' hgrow _
      have hbel' := own_grow (B := 0) (hown.alloc _) (below_box hbel _) hgrow
      go_wp2_with fail
      go_ret
      refine ⟨_, rfl, ?_, hbel'⟩
      rw [← toU8_toNat m (by omega)] at hown'
      rw [hpre, hs]
      simpa [Lib.byteCells] using hown'
    · have hs := Lib.uvarint_big (x := m) (by omega)
      rw [hs] at hpl
      go_wp2_with (at_builtin; refine wpList_append_own _ rfl _ _ 65 rfl w.heap.size 5 i0 (.int .u8 0) 1 1 Tryz.underlying65 hi hz0 hz1 hz2 rfl (by decide) _ _ _ rfl (hown.alloc _) ⟨wr.heap.size, 0, none⟩ 1 1 [.int .u8 (bits .or .u8 ((m : Int) % 256) 128)] rfl rfl ?d1 ?d2 ?d3 ?d4 ?d5 ?_)
      case d1 =>
        intro j u hj
        match j, hj with
        | 0, hj => simp at hj; subst hj; simp [Addr.add]
      case d2 => intro u hu; simp at hu; subst hu; rfl
      case d3 => unfold maxLen; simp at hpl; omega
      case d4 => simp at hpl; omega
      case d5 => have := hbel.size; simp; omega
      intro v' w2 hown' hgrow _
      have hbel' := own_grow (B := 0) (hown.alloc _) (below_box hbel _) hgrow
      go_wp2_with fail
      refine ⟨⟨m / 128, by simp, by omega, pre ++ [(m % 128 + 128).toUInt8], by rw [hpre, hs]; simp, ?_, hbel'⟩, by simp [intOf]; omega⟩
      rw [or128, ← toU8_toNat (m % 128 + 128) (by omega)] at hown'
      simpa [Lib.byteCells] using hown'

theorem uvarint_ne (n : Nat) : 0 < (Lib.uvarint n).length := by
  rw [Lib.uvarint]; split <;> simp

/-- The same, as bytes that lie there. -/
theorem Varint_bytes (n : Nat) (hn : n < 18446744073709551616) (w : World) : Calls Tryz.prog 47 #[.int .u64 n] w fun e w' => ∃ g c, e = .returned (.slice (some ⟨g, 0, none⟩) (Lib.uvarint n).length c) ∧ BytesAt w' (some ⟨g, 0, none⟩) (Lib.uvarint n) ∧ g < w'.heap.size ∧ Below w.heap.size w w' := by
  refine (Varint_ok n hn w).mono ?_
  rintro e w' ⟨v, rfl, hown, hb⟩
  obtain ⟨g, c, rfl, hby⟩ := own_bytes hown (uvarint_ne n) rfl
  refine ⟨g, c, rfl, hby, ?_, hb⟩
  rcases hby with h | ⟨g', o, e, hc⟩
  · have := uvarint_ne n; rw [h] at this; cases this
  · cases e
    exact World.block_lt_of_cell? w' _ (hc 0 _ (List.getElem?_eq_getElem (uvarint_ne n)))

/-- '[]byte' into 'string', under a name of its own: so that the walk of a region that draws does not try to take it first. -/
def cvs (x : Operand) : Op := Op.convert 65 9 x
attribute [local go_sem] cvs
theorem sOf_append (a b : List UInt8) : (⟨a.toArray⟩ : ByteArray) ++ (⟨b.toArray⟩ : ByteArray) = ⟨(a ++ b).toArray⟩ := by
  apply ByteArray.ext
  rw [ByteArray.data_append]
  apply Array.ext'
  simp

end Go.Proofs.YtobdjcnojbnegaaGreatDoor

/- spec.IndexBytes of entries, sorted by their digests. -/
namespace Go.Proofs.YtobdjcnojbnegaaGreatDoor
open Go.RowKit
set_option linter.unusedVariables false
set_option linter.unusedSimpArgs false
attribute [local go_sem] setCell_drewN alloc_drewN

theorem sortedSpec_le {l l' : List (CidOf × Int)} (hP : l'.Perm l) (hlen : l.length ≤ 10000) (hd : ∀ x ∈ l, x.1.dig.length ≤ 1000) : (sortedSpec l l').length ≤ 4 + 10000 * (12 + 10000 * 1008) := by
  have h1 := widthSecs_le l' (fun x hx => hd x (hP.mem_iff.1 hx)) (sortN (widthsOf l))
  have h2 := widthsOf_le l
  have h3 := sortN_len (widthsOf l)
  have h4 := hP.length_eq
  have h5 : (sortN (widthsOf l)).length * (12 + l'.length * 1008) ≤ 10000 * (12 + 10000 * 1008) := Nat.mul_le_mul (by omega) (by omega)
  rw [sortedSpec, List.length_append, le_length]; omega
theorem sortedSpec_pos (l l' : List (CidOf × Int)) : 0 < (sortedSpec l l').length := by rw [sortedSpec, List.length_append, le_length]; omega

set_option maxRecDepth 100000 in
set_option maxHeartbeats 1600000 in
theorem IndexBody_sorted (most : Nat) (hS : StableEnts most) (l : List (CidOf × Int)) (A : Option Addr) (cap : Nat) (w : World) (hR : RowsAt w A l) (h0 : 0 < l.length) (hlen : l.length ≤ 10000) (hle : l.length ≤ most) (hcap : l.length ≤ cap)
    (hd : ∀ x ∈ l, x.1.dig.length ≤ 1000) (ho : ∀ x ∈ l, 0 ≤ x.2 ∧ x.2 < 18446744073709551616) :
    Calls Tryz.prog 48 #[.slice A l.length cap, .int .u64 1024] w fun e w' => ∃ l', l'.Perm l ∧ SortedD l' ∧ e = .returned (.string (sOf (sortedSpec l l'))) ∧ Below w.heap.size w w' := by
  have hB := sortedBytes_ok most hS w.heap.size (.slice none 0 0) [] l A cap w hR h0 hlen hle hcap hd ho (by simp) (Nat.le_refl _) ⟨rfl, .inl ⟨rfl, rfl⟩⟩ (fun _ _ _ e => by cases e)
  clear hR hd ho
  go_enter Tryz.func48, Tryz.ntmps48
  go_wp2_with fail
  refine hB.mono ?_
  rintro e w1 ⟨l', v', hP, hSD, rfl, hU, hA⟩
  have hb : Below w.heap.size w w1 := hA.below (Nat.le_refl _) (fun i e => by cases e)
  obtain ⟨g, c, rfl, hby⟩ := own_bytes (bs := sortedSpec l l') hU (by simpa using sortedSpec_pos l l') (by simp)
  have hp := sortedSpec_pos l l'
  have HP := Lib.hid hP; have HSD := Lib.hid hSD
  have hcv := bytes_string (P := Tryz.prog) Tryz.underlying65 Tryz.underlying5 Tryz.underlying9 w1 _ (sortedSpec l l') c hby
  have hnl : ([] ++ sortedSpec l l').length = (sortedSpec l l').length := rfl
  rw [hnl]
  clear hP hSD hU hA hby hB
  go_wp2_with fail
  go_ret
  exact ⟨l', HP.out, HSD.out, rfl, hb⟩

set_option maxRecDepth 100000 in
set_option maxHeartbeats 1600000 in
theorem IndexBytes_sorted (most : Nat) (hS : StableEnts most) (l : List (CidOf × Int)) (A : Option Addr) (cap : Nat) (w : World) (hR : RowsAt w A l) (h0 : 0 < l.length) (hlen : l.length ≤ 10000) (hle : l.length ≤ most) (hcap : l.length ≤ cap)
    (hd : ∀ x ∈ l, x.1.dig.length ≤ 1000) (ho : ∀ x ∈ l, 0 ≤ x.2 ∧ x.2 < 18446744073709551616) :
    Calls Tryz.prog 26 #[.slice A l.length cap, .int .u64 1024] w fun e w' => ∃ l', l'.Perm l ∧ SortedD l' ∧ e = .returned (.string (sOf (Lib.uvarint 1024 ++ sortedSpec l l'))) ∧ Below w.heap.size w w' := by
  have hlv : (Lib.uvarint 1024).length ≤ 10 := Lib.uvarint_length 9 1024 (by decide)
  have hwl := widthsOf_le l
  go_enter Tryz.func26, Tryz.ntmps26
  go_wp2_with fail
  have HD := Lib.hid hd; have HO := Lib.hid ho; have HR := Lib.hid hR
  clear hd ho hR
  go_region_with (first | (go_at_call 47; refine (Varint_bytes 1024 (by omega) _).mono ?_; rintro e w1 ⟨g1, c1, rfl, hby1, hg1, hb1⟩; have hv1 := bytes_string (P := Tryz.prog) Tryz.underlying65 Tryz.underlying5 Tryz.underlying9 w1 _ _ c1 hby1; have hR1 : RowsAt w1 A l := RowsAt.below HR.out (Below.trans (b := w.drew) ⟨rfl, rfl, rfl, Nat.le_refl _, fun _ _ => rfl⟩ hb1)) | (go_at_call 48; (refine (IndexBody_sorted most hS l A cap _ hR1 h0 hlen hle hcap HD.out HO.out).mono ?_; rintro e w2 ⟨l', hP, hSD, rfl, hb2⟩; have hv2 := bytes_string (P := Tryz.prog) Tryz.underlying65 Tryz.underlying5 Tryz.underlying9 w2 _ _ c1 (hby1.below hb2); have hls := sortedSpec_le hP hlen HD.out; have hl1 : ¬ 9223372036854775807 < (Lib.uvarint 1024).length + (sortedSpec l l').length := (by omega); have HP := Lib.hid hP; have HSD := Lib.hid hSD; clear hP hSD)))
  all_goals (go_wp2_with fail; go_ret; exact ⟨l', HP.out, HSD.out, by simp [sOf, sOf_append, Act.put], by (repeat (first | (with_reducible exact Below.refl _ _) | (with_reducible exact below_boxed _ _) | (with_reducible refine below_box ?_ _) | (with_reducible refine below_drew1 ?_) | (with_reducible refine below_drewn ?_ _) | (with_reducible refine below_bytes ?_ _ _) | (with_reducible refine below_next ?_ (by assumption)) | (with_reducible refine below_set ?_ (by first | (simp; done) | (simp; omega) | omega) _)))⟩)
end Go.Proofs.YtobdjcnojbnegaaGreatDoor

/- impl.IxBytes of one entry, sorted by digests. -/
namespace Go.Proofs.YtobdjcnojbnegaaGreatDoor
open Go.RowKit
set_option linter.unusedVariables false
set_option linter.unusedSimpArgs false
attribute [local go_sem] setCell_drewN alloc_drewN

theorem info_Rec : (Tryz.prog.info? 89).map (fun i => (i.zero, i.size, i.bytes)) = some (some (.agg #[.string ⟨#[]⟩, .int .u64 0]), 2, 24) := by kernel_rfl
theorem method_LoadM (v : Value) (w : World) : (method 471 mwT v "Load").run Tryz.prog w = .ok (197, v) w := by kernel_rfl

theorem two_cells (w : World) (x y : Value) (t : TypeId) : ∀ (j : Nat) (u : Value), [x, y][j]? = some u → (w.alloc (.cells #[x, y] t)).cell? ((⟨w.heap.size, 0, none⟩ : Addr).add j) = some u := by
  intro j u hj
  match j, hj with
  | 0, hj => simp at hj; subst hj; simp [Addr.add]
  | 1, hj => simp at hj; subst hj; simp [Addr.add]
theorem sortedSecs_one (s : Sec) : sortedSecs [s] = [s.two] := by
  rw [sortedSecs, List.map_cons, List.map_nil, sortN_tiny (by simp)]
  simp [inOrder]

/-- An entry of an index, as it lies in a slice at block g. -/
structure EntAt (w : World) (g : Nat) (c : CidOf) (off : Nat) : Prop where
  c0 : w.cell? ⟨g, 0, none⟩ = some (.int .u64 (c.ver : Int))
  c1 : w.cell? ⟨g, 1, none⟩ = some (.int .u64 (c.codec : Int))
  c2 : w.cell? ⟨g, 2, none⟩ = some (.int .u64 (c.code : Int))
  c3 : w.cell? ⟨g, 3, none⟩ = some (.string (sOf c.dig))
  c4 : w.cell? ⟨g, 4, none⟩ = some (.int .u64 (off : Int))
theorem EntAt.lt {w : World} {g : Nat} {c : CidOf} {off : Nat} (h : EntAt w g c off) : g < w.heap.size := World.block_lt_of_cell? w _ h.c0
theorem EntAt.below {w w' : World} {g : Nat} {c : CidOf} {off : Nat} (h : EntAt w g c off) (hb : Below w.heap.size w w') : EntAt w' g c off :=
  ⟨(hb.cell (p := ⟨g, 0, none⟩) h.lt).trans h.c0, (hb.cell (p := ⟨g, 1, none⟩) h.lt).trans h.c1, (hb.cell (p := ⟨g, 2, none⟩) h.lt).trans h.c2, (hb.cell (p := ⟨g, 3, none⟩) h.lt).trans h.c3, (hb.cell (p := ⟨g, 4, none⟩) h.lt).trans h.c4⟩

/-- The bytes of an index of one entry, sorted by digests. -/
def oneSorted (dig : List UInt8) (off : Nat) : List UInt8 := Lib.uvarint 1024 ++ mwBytes [(dig.length + 8, dig ++ Lib.leBytes 8 off)]

set_option maxRecDepth 100000 in
set_option maxHeartbeats 3200000 in
theorem indexBytes_one (ge cap off : Nat) (c : CidOf) (hc : c.Ok) (hd : 0 < c.dig.length) (hoff : off < 18446744073709551616) (w : World) (hE : EntAt w ge c off) :
    Calls Tryz.prog 20 #[.slice (some ⟨ge, 0, none⟩) 1 cap, .int .u64 1024] w fun e w' => e = .returned (.tuple #[.string (sOf (oneSorted c.dig off)), .bool true]) ∧ Below w.heap.size w w' := by
  obtain ⟨i0, ti, tz0, tz1, tz2⟩ := info_parts info_Rec
  have hdl := hc.dig
  have hme := method_LoadM
  have hgl := hE.lt
  go_enter Tryz.func20, Tryz.ntmps20
  go_wp2_with fail
  refine (New_sorted _).mono ?_
  rintro e w1 ⟨rfl, hM1, hb1⟩
  have hE1 := hE.below hb1
  obtain ⟨c0, c1, c2, c3, c4⟩ := hE1
  have hg1 : ge < w1.heap.size := by have := hb1.size; omega
  have hz1 : w.heap.size + 1 < w1.heap.size := World.block_lt_of_cell? w1 _ hM1.cell
  have hCid := fun W => cidIn_ok c hc W
  go_wp2_with fail
  refine wp_loop_rounds 2 ?_
  rw [rounds_succ]
  go_wp2_with fail
  refine (hCid _).mono ?_
  rintro e w2 ⟨rfl, hb2⟩
  have hbw2 : Below w1.heap.size w1 w2 := by (repeat (first | (with_reducible exact Below.refl _ _) | (with_reducible exact below_boxed _ _) | (with_reducible refine below_box ?_ _) | (with_reducible refine below_drew1 ?_) | (with_reducible refine below_drewn ?_ _) | (with_reducible refine below_bytes ?_ _ _) | (with_reducible refine below_next ?_ (by assumption)) | (with_reducible refine below_set ?_ (by first | (simp; done) | (simp; omega) | omega) _)))
  have kbox : w2.cell? ⟨w1.heap.size, 4, none⟩ = some (.int .u64 (off : Int)) := by
    have h := hb2.cell (p := ⟨w1.heap.size, 4, none⟩) (by simp)
    rw [h]
    exact blk_cell' (heap_alloc_last w1 _) 4
  have hM2 : MwAt w2 ⟨w.heap.size + 1, 0, none⟩ w.heap.size [] := hM1.kp (S := fun _ => False) (Kp.of_below hbw2) id id (fun _ _ => id)
  have hz2 : w1.heap.size < w2.heap.size := by have := hb2.size; simp at this; omega
  have HB2 := Lib.hid (below_next hb1 hbw2); have HM2 := Lib.hid hM2
  clear hb1 hb2 hbw2 hM1 hM2 c0 c1 c2 c3 c4 hE hCid
  go_wp2_with (at_builtin; refine wpList_append_own _ rfl _ _ 83 rfl w2.heap.size 89 i0 (.agg #[.string ⟨#[]⟩, .int .u64 0]) 2 24 Tryz.underlying83 ti tz0 tz1 tz2 rfl (by decide) _ _ _ rfl (World.ownsRow_nil _ _ _ _) ⟨w2.heap.size + 1, 0, none⟩ 1 1 [.string c.str, .int .u64 (off : Int)] rfl rfl ?c1 ?c2 ?c3 ?c4 ?c5 ?_)
  case c1 =>
    intro j u hj
    have := two_cells (w2.alloc (.cells #[.string c.str] 85)) (.string c.str) (.int .u64 (off : Int)) 89 j u hj
    simpa using this
  case c2 =>
    intro u hu
    simp only [List.mem_cons, List.not_mem_nil, or_false] at hu
    rcases hu with rfl | rfl <;> rfl
  case c3 => unfold maxLen; omega
  case c4 => omega
  case c5 => simp; omega
  intro v3 w3 hown3 hgrow hn3
  refine later ?_
  obtain ⟨g3, cap3, cur3, rfl, hge3, hg3, hle3, hcm3, hcs3, htk3⟩ : ∃ g cap cur, v3 = .slice (some ⟨g, 0, none⟩) 1 cap ∧ w2.heap.size ≤ g ∧ w3.heap[g]? = some (.cells cur 89 (0, 0)) ∧ 1 ≤ cap ∧ cap ≤ maxLen ∧ cur.size = cap * 2 ∧ cur.toList.take (1 * 2) = [.string c.str, .int .u64 (off : Int)] := by
    rcases hown3.2 with ⟨_, h⟩ | h
    · cases h
    · exact h
  have k0 : w3.cell? ⟨g3, 0, none⟩ = some (.string c.str) := by
    rw [blk_cell' hg3 0]
    have : cur3.toList[0]? = some (.string c.str) := by
      have h := congrArg (fun l => l[0]?) htk3
      simpa using h
    simpa using this
  have k1 : w3.cell? ⟨g3, 1, none⟩ = some (.int .u64 (off : Int)) := by
    rw [blk_cell' hg3 1]
    have : cur3.toList[1]? = some (.int .u64 (off : Int)) := by
      have h := congrArg (fun l => l[1]?) htk3
      simpa using h
    simpa using this
  have hkA : Kp (fun _ => False) w2 ((w2.alloc (.cells #[.string c.str] 85)).alloc (.cells #[.string c.str, .int .u64 (off : Int)] 89)) := Kp.of_below (by (repeat (first | (with_reducible exact Below.refl _ _) | (with_reducible exact below_boxed _ _) | (with_reducible refine below_box ?_ _) | (with_reducible refine below_drew1 ?_) | (with_reducible refine below_drewn ?_ _) | (with_reducible refine below_bytes ?_ _ _) | (with_reducible refine below_next ?_ (by assumption)) | (with_reducible refine below_set ?_ (by first | (simp; done) | (simp; omega) | omega) _))))
  have hk23 : Kp (fun _ => False) w2 w3 := hkA.trans (kp_grown hgrow) (fun i h => by simp [Value.ownBlock] at h)
  have hM3 := HM2.out.kp hk23 id id (fun _ _ => id)
  have hL := MwLoad_one ⟨w.heap.size + 1, 0, none⟩ w.heap.size g3 cap3 off c hc hd hoff w3 hM3 (by simp) k0 k1
  have hbw3 : Below w.heap.size w w3 := HB2.out.trans ⟨hk23.os, hk23.tape, hk23.output, hk23.size, fun k hk => hk23.block k (by omega) id⟩
  have HB3 := Lib.hid hbw3
  clear hown3 hgrow hn3 hg3 htk3 k0 k1 hkA hk23 hM3 hbw3 kbox
  refine now ?_
  go_wp2_with fail
  rw [rounds_succ]
  go_wp2_with fail
  refine hL.mono ?_
  clear hL
  rintro e w4 ⟨rfl, ⟨gd, hgd, hM4⟩, hK4⟩
  have hW := written_sorted w.heap.size 1 ⟨w.heap.size + 1, 0, none⟩ [⟨c.dig.length + 8, c.dig ++ Lib.leBytes 8 off, gd⟩] w4 tinySort_32 (Nat.le_refl _) hM4 (by simp; omega) (by simp) (by rw [sortedSecs_one]; simp [secsBytes, secBytes_len, Sec.two, le8_len]; omega)
  rw [sortedSecs_one] at hW
  have hb4 : Below w.heap.size w w4 := HB3.out.trans ⟨hK4.os, hK4.tape, hK4.output, hK4.size, fun k hk => hK4.block k (by have := HB3.out.size; omega) (by omega)⟩
  clear hM4 hK4
  go_wp2_with fail
  refine hW.mono ?_
  clear hW
  rintro e w5 ⟨rfl, hb5⟩
  go_wp2_with fail
  go_ret2
  exact ⟨rfl, below_next hb4 hb5⟩

set_option maxRecDepth 100000 in
theorem IxBytes_one (ge cap off : Nat) (c : CidOf) (hc : c.Ok) (hd : 0 < c.dig.length) (hoff : off < 18446744073709551616) (w : World) (hE : EntAt w ge c off) :
    Calls Tryz.prog 10 #[.slice (some ⟨ge, 0, none⟩) 1 cap, .int .u64 1024] w fun e w' => e = .returned (.tuple #[.string (sOf (oneSorted c.dig off)), .bool true]) ∧ Below w.heap.size w w' := by
  have hI := indexBytes_one ge cap off c hc hd hoff w hE
  clear hE
  go_enter Tryz.func10, Tryz.ntmps10
  go_wp2_with fail
  refine hI.mono ?_
  rintro e w1 ⟨rfl, hb⟩
  go_wp2_with fail
  go_ret2
  exact ⟨rfl, hb⟩
end Go.Proofs.YtobdjcnojbnegaaGreatDoor

/- ixOne: an index of one entry. -/
namespace Go.Proofs.YtobdjcnojbnegaaGreatDoor
open Go.RowKit
set_option linter.unusedVariables false
set_option linter.unusedSimpArgs false
attribute [local go_sem] setCell_drewN alloc_drewN

theorem cmp_self : ∀ a : List UInt8, Lib.compareBytes a a = 0
  | [] => rfl
  | x :: a => by unfold Lib.compareBytes; simp [cmp_self a]
/-- What the index of one entry tells of its digest. -/
theorem tells_one {d : List UInt8} {off : Nat} (hoff : off < 18446744073709551616) {M : List Nat} (h : Tells [(d.length + 8, d ++ Lib.leBytes 8 off)] d M) : M = [off] := by
  have hd0 : rowDig (d.length + 8) (d ++ Lib.leBytes 8 off) 0 = d := by simp [rowDig]
  have ho0 : rowOff (d.length + 8) (d ++ Lib.leBytes 8 off) 0 = Lib.leBytes 8 off := by
    simp only [rowOff, Nat.zero_add, Nat.one_mul, Nat.add_sub_cancel, List.drop_left]
    exact List.take_of_length_le (by rw [le_length]; omega)
  rcases h with ⟨h, _⟩ | ⟨s, hs, hw, n, r, hn, ⟨h1, h2, h3⟩, hM⟩
  · exact absurd rfl (h _ List.mem_cons_self)
  · obtain rfl : s = (d.length + 8, d ++ Lib.leBytes 8 off) := by simpa using hs
    simp only [List.length_append, le_length] at hn h1 h2 h3 hM
    obtain rfl : n = 1 := by
      rcases Nat.lt_trichotomy n 1 with h | h | h
      · obtain rfl : n = 0 := by omega
        omega
      · exact h
      · have : 2 * (d.length + 8) ≤ n * (d.length + 8) := Nat.mul_le_mul_right _ h
        omega
    obtain rfl : r = 0 := by
      rcases Nat.lt_or_ge r 1 with h | h
      · omega
      · obtain rfl : r = 1 := by omega
        rcases h2 with h2 | h2
        · exact h2
        · rw [Nat.sub_self, hd0, cmp_self] at h2
          simp at h2
    rw [hM]
    simp only [Nat.sub_zero, runFrom, hd0, ho0, if_true]
    rw [Lib.leNat_leBytes 8 off (by omega)]
/-- The specification's bytes of the index of one entry. -/
theorem sorted_one (c : CidOf) (off : Nat) : Lib.uvarint 1024 ++ sortedSpec [(c, (off : Int))] [(c, (off : Int))] = oneSorted c.dig off := by
  have hw : sortN (widthsOf [(c, (off : Int))]) = [c.dig.length] := by
    have : widthsOf [(c, (off : Int))] = [c.dig.length] := by simp [widthsOf, widthStep]
    rw [this, sortN_tiny (by simp)]
  simp [sortedSpec, hw, widthSec, rowsOf, hasLen, oneSorted, mwBytes, secsBytes, secBytes]
theorem EntAt.rows {w : World} {g : Nat} {c : CidOf} {off : Nat} (h : EntAt w g c off) : RowsAt w (some ⟨g, 0, none⟩) [(c, (off : Int))] := by
  refine .inr ⟨g, 0, rfl, fun i x hx j v hj => ?_⟩
  match i, hx with
  | 0, hx =>
    simp only [List.getElem?_cons_zero, Option.some.injEq] at hx
    subst hx
    match j, hj with
    | 0, hj => cases hj; exact h.c0
    | 1, hj => cases hj; exact h.c1
    | 2, hj => cases hj; exact h.c2
    | 3, hj => cases hj; exact h.c3
    | 4, hj => cases hj; exact h.c4
  | i + 1, hx => simp at hx

set_option maxRecDepth 100000 in
set_option maxHeartbeats 1600000 in
theorem Fitting_id (s : ByteArray) (w : World) : Calls Tryz.prog 25 #[.int .u64 1, .int .u64 85, .int .u64 0, .string s] w fun e w' => e = .returned (.agg #[.int .u64 1, .int .u64 85, .int .u64 0, .string s]) ∧ Below w.heap.size w w' := by
  have hS : ∀ W, Calls Tryz.prog 46 #[.int .u64 0, .string s] W fun e w' => e = .returned (.tuple #[.string s, .bool true]) ∧ w' = W := by
    intro W
    go_enter Tryz.func46, Tryz.ntmps46
    go_wp2_with fail
    go_ret2
    exact ⟨rfl, rfl⟩
  go_enter Tryz.func25, Tryz.ntmps25
  go_wp2_with fail
  refine (hS _).mono ?_
  rintro e w1 ⟨rfl, rfl⟩
  go_wp2_with fail
  refine bodyPost_ret (v := .agg #[.int .u64 1, .int .u64 85, .int .u64 0, .string s]) (by simp [results, Tryz.results25, go_sem]) rfl ?_
  exact ⟨rfl, by (repeat (first | (with_reducible exact Below.refl _ _) | (with_reducible exact below_boxed _ _) | (with_reducible refine below_box ?_ _) | (with_reducible refine below_drew1 ?_) | (with_reducible refine below_drewn ?_ _) | (with_reducible refine below_bytes ?_ _ _) | (with_reducible refine below_next ?_ (by assumption)) | (with_reducible refine below_set ?_ (by first | (simp; done) | (simp; omega) | omega) _)))⟩
/-- The entry. -/
def oneC : CidOf := ⟨1, 85, 0, [97]⟩
theorem oneC_ok : oneC.Ok := ⟨.inr rfl, by decide, by decide, by decide⟩

set_option maxRecDepth 100000 in
set_option maxHeartbeats 3200000 in
theorem ixOne_sorted (p : Addr) (w : World) (hg5 : 0 < w.heap.size) (he : w.cell? ⟨0, 0, none⟩ = some (.iface 168 (.pointer (some p)))) :
    Calls Tryz.prog 15 #[.int .u64 1024] w fun e w' => e = .returned (.bool true) ∧ Below w.heap.size w w' := by
  go_enter Tryz.func15, Tryz.ntmps15
  go_wp2_with fail
  refine (Fitting_id _ _).mono ?_
  rintro e w1 ⟨rfl, hb1⟩
  go_wp2_with fail
  obtain ⟨w2, hw2⟩ : ∃ w2, w2 = w1.alloc (.cells #[.int .u64 1, .int .u64 85, .int .u64 0, .string ⟨#[97]⟩, .int .u64 7] 40) := ⟨_, rfl⟩
  have hblk : w2.heap[w1.heap.size]? = some (.cells #[.int .u64 1, .int .u64 85, .int .u64 0, .string ⟨#[97]⟩, .int .u64 7] 40 (0, 0)) := by rw [hw2]; exact heap_alloc_new w1 _
  have hE2 : EntAt w2 w1.heap.size oneC 7 := ⟨blk_cell' hblk 0, blk_cell' hblk 1, blk_cell' hblk 2, blk_cell' hblk 3, blk_cell' hblk 4⟩
  have hb2 : Below w.heap.size w w2 := by rw [hw2]; exact below_box hb1 _
  rw [← hw2]
  generalize hge : w1.heap.size = ge at *
  have hI := IxBytes_one ge 1 7 oneC oneC_ok (by decide) (by decide) w2 hE2
  have hol : (oneSorted oneC.dig 7).length = 27 := by
    simp [oneSorted, mwBytes, secsBytes, secBytes, le_length, uv1024, oneC]
  have hos : (sOf (oneSorted oneC.dig 7)).data.toList = Lib.uvarint 1024 ++ (mwBytes [(oneC.dig.length + 8, oneC.dig ++ Lib.leBytes 8 7)] ++ []) := by rw [List.append_nil]; simp [sOf, oneSorted]
  have hA : ∀ W, Below w.heap.size w W → Calls Tryz.prog 11 #[.string (sOf (oneSorted oneC.dig 7)), .agg #[.int .u64 1, .int .u64 85, .int .u64 0, .string ⟨#[97]⟩], .int .i64 9] W fun e w' =>
      ∃ q cq, e = .returned (.tuple #[.slice (some ⟨q, 0, none⟩) 1 cq, .int .u8 0]) ∧ w'.cell? ⟨q, 0, none⟩ = some (.int .u64 7) ∧ Below W.heap.size W w' := fun W hW => by
    refine (IxAll_sorted (sOf (oneSorted oneC.dig 7)) _ [] hos (by
      intro x hx
      obtain rfl : x = (oneC.dig.length + 8, oneC.dig ++ Lib.leBytes 8 7) := by simpa using hx
      exact ⟨by decide, by decide, 1, by decide, by omega⟩) (by simp) (by rw [show (sOf (oneSorted oneC.dig 7)).size = 27 from by simp [sOf, ByteArray.size]; exact hol]; omega) oneC oneC_ok 9 (by omega) p W (by have := hW.size; omega) ((hW.cell (p := ⟨0, 0, none⟩) hg5).trans he)).mono ?_
    rintro e w' ⟨v, M, rfl, hT, hO, hb⟩
    obtain rfl := tells_one (by decide) hT
    rcases hO.2 with ⟨_, h⟩ | ⟨q, cq, cur, rfl, hq, hcur, h1, _, _, htk⟩
    · simp at h
    · refine ⟨q, cq, rfl, ?_, hb⟩
      exact World.ownsRow.cells hO (g := q) rfl 0 _ rfl
  have hX : ∀ W, Below w2.heap.size w2 W → Calls Tryz.prog 26 #[.slice (some ⟨ge, 0, none⟩) 1 1, .int .u64 1024] W fun e w' => e = .returned (.string (sOf (oneSorted oneC.dig 7))) ∧ Below W.heap.size W w' := fun W hW => by
    refine (IndexBytes_sorted 1 stable_one [(oneC, ((7 : Nat) : Int))] (some ⟨ge, 0, none⟩) 1 W ((hE2.below hW).rows) (by decide) (by decide) (by decide) (by decide) (by
      intro x hx
      obtain rfl : x = (oneC, ((7 : Nat) : Int)) := by simpa using hx
      decide) (by
      intro x hx
      obtain rfl : x = (oneC, ((7 : Nat) : Int)) := by simpa using hx
      decide)).mono ?_
    rintro e w' ⟨l', hP, hSD, rfl, hb⟩
    obtain rfl := List.perm_singleton.1 hP
    exact ⟨by rw [sorted_one], hb⟩
  have HX := Lib.hid hX; have HA := Lib.hid hA
  generalize sOf (oneSorted oneC.dig 7) = S at *
  have hgelt := hE2.lt
  clear hX hA hos hol hge hw2 he
  refine hI.mono ?_
  clear hI
  rintro e w3 ⟨rfl, hb3⟩
  have hE3 := hE2.below hb3
  have k0 : w3.cell? ⟨ge, 0, none⟩ = some (.int .u64 1) := hE3.c0
  have k1 : w3.cell? ⟨ge, 1, none⟩ = some (.int .u64 85) := hE3.c1
  have k2 : w3.cell? ⟨ge, 2, none⟩ = some (.int .u64 0) := hE3.c2
  have k3 : w3.cell? ⟨ge, 3, none⟩ = some (.string ⟨#[97]⟩) := hE3.c3
  have hbw3 : Below w.heap.size w w3 := below_next hb2 hb3
  go_wp2_with fail
  refine (HA.out w3 hbw3).mono ?_
  rintro e w4 ⟨q, cq, rfl, hq, hb4⟩
  have hbw4 : Below w.heap.size w w4 := below_next hbw3 hb4
  have hb24 : Below w2.heap.size w2 w4 := below_next hb3 hb4
  have hqlt := World.block_lt_of_cell? w4 _ hq
  clear hb2 hb3 hb4 hblk hE2 hE3 k0 k1 k2 k3 hb1 hbw3
  go_wp2_with fail
  refine (HX.out w4 hb24).mono ?_
  rintro e w5 ⟨rfl, hb5⟩
  have hq5 := (hb5.cell (p := ⟨q, 0, none⟩) hqlt).trans hq
  have hbw5 : Below w.heap.size w w5 := below_next hbw4 hb5
  clear hq hb24 hbw4 hb5
  go_wp2_with fail
  go_ret
  exact ⟨rfl, hbw5⟩
end Go.Proofs.YtobdjcnojbnegaaGreatDoor

/- The order of bytes, as a strict weak order. Plain. -/
namespace Go.Proofs.YtobdjcnojbnegaaGreatDoor
open Go.Sort
set_option linter.unusedVariables false

theorem co_vals : ∀ a b : List UInt8, Lib.compareBytes a b = -1 ∨ Lib.compareBytes a b = 0 ∨ Lib.compareBytes a b = 1
  | [], [] => .inr (.inl rfl)
  | [], _ :: _ => .inl rfl
  | _ :: _, [] => .inr (.inr rfl)
  | a :: s, b :: u => by
    unfold Lib.compareBytes
    split
    · exact .inl rfl
    · split
      · exact .inr (.inr rfl)
      · exact co_vals s u

theorem co_neg : ∀ a b : List UInt8, Lib.compareBytes b a = - Lib.compareBytes a b
  | [], [] => rfl
  | [], _ :: _ => rfl
  | _ :: _, [] => rfl
  | a :: s, b :: u => by
    unfold Lib.compareBytes
    have ih := co_neg s u
    by_cases h1 : a < b
    · have h2 : ¬ b < a := by rw [UInt8.lt_iff_toNat_lt] at h1 ⊢; omega
      rw [if_neg h2, if_pos h1, if_pos h1]; rfl
    · by_cases h2 : b < a
      · rw [if_pos h2, if_neg h1, if_pos h2]
      · rw [if_neg h1, if_neg h2, if_neg h2, if_neg h1, ih]

theorem co_trans : ∀ a b c : List UInt8, Lib.compareBytes a b ≤ 0 → Lib.compareBytes b c ≤ 0 → Lib.compareBytes a c ≤ 0
  | [], b, [], _, _ => by decide
  | [], b, _ :: _, _, _ => by show (-1 : Int) ≤ 0; decide
  | a :: s, [], c, h, _ => by exact absurd h (by show ¬ (1 : Int) ≤ 0; decide)
  | a :: s, b :: u, [], _, h => by exact absurd h (by show ¬ (1 : Int) ≤ 0; decide)
  | a :: s, b :: u, c :: v, h1, h2 => by
    have ih := co_trans s u v
    unfold Lib.compareBytes at h1 h2 ⊢
    simp only [UInt8.lt_iff_toNat_lt] at h1 h2 ⊢
    by_cases p1 : a.toNat < c.toNat
    · rw [if_pos p1]; decide
    · rw [if_neg p1]
      by_cases p2 : c.toNat < a.toNat
      · exfalso
        by_cases q1 : a.toNat < b.toNat
        · rw [if_neg (by omega), if_pos (by omega)] at h2; exact absurd h2 (by decide)
        · rw [if_neg q1] at h1
          by_cases q2 : b.toNat < a.toNat
          · rw [if_pos q2] at h1; exact absurd h1 (by decide)
          · rw [if_neg (by omega), if_pos (by omega)] at h2; exact absurd h2 (by decide)
      · rw [if_neg p2]
        by_cases q1 : a.toNat < b.toNat
        · rw [if_neg (by omega), if_pos (by omega)] at h2; exact absurd h2 (by decide)
        · rw [if_neg q1] at h1
          by_cases q2 : b.toNat < a.toNat
          · rw [if_pos q2] at h1; exact absurd h1 (by decide)
          · rw [if_neg q2] at h1
            rw [if_neg (by omega), if_neg (by omega)] at h2
            exact ih h1 h2

theorem co_self : ∀ a : List UInt8, Lib.compareBytes a a = 0
  | [] => rfl
  | x :: a => by unfold Lib.compareBytes; simp [co_self a]
theorem co_eq : ∀ a b : List UInt8, Lib.compareBytes a b = 0 → a = b
  | [], [], _ => rfl
  | [], _ :: _, h => by exact absurd h (by show ¬ (-1 : Int) = 0; decide)
  | _ :: _, [], h => by exact absurd h (by show ¬ (1 : Int) = 0; decide)
  | a :: s, b :: u, h => by
    unfold Lib.compareBytes at h
    by_cases h1 : a < b
    · rw [if_pos h1] at h; exact absurd h (by decide)
    · rw [if_neg h1] at h
      by_cases h2 : b < a
      · rw [if_pos h2] at h; exact absurd h (by decide)
      · rw [if_neg h2] at h
        rw [co_eq s u h, show a = b from UInt8.toNat_inj.1 (by rw [UInt8.lt_iff_toNat_lt] at h1 h2; omega)]
theorem co_lt_trans {a b c : List UInt8} (h1 : Lib.compareBytes a b < 0) (h2 : Lib.compareBytes b c ≤ 0) : Lib.compareBytes a c < 0 := by
  have h := co_trans a b c (by omega) h2
  rcases Int.lt_or_eq_of_le h with h' | h'
  · exact h'
  · have e := co_eq a c h'
    subst e
    have := co_neg a b
    omega
theorem co_le_trans {a b c : List UInt8} (h1 : Lib.compareBytes a b ≤ 0) (h2 : Lib.compareBytes b c < 0) : Lib.compareBytes a c < 0 := by
  have h := co_trans a b c h1 (by omega)
  rcases Int.lt_or_eq_of_le h with h' | h'
  · exact h'
  · have e := co_eq a c h'
    subst e
    have := co_neg a b
    omega
theorem less_iff : ∀ (a b : List UInt8), Op.bytesLess a b = decide (Lib.compareBytes a b < 0)
  | [], [] => rfl
  | [], _ :: _ => rfl
  | _ :: _, [] => rfl
  | a :: x, b :: y => by
    unfold Lib.compareBytes
    by_cases h1 : a < b
    · simp [Op.bytesLess, h1]
    · by_cases h2 : b < a
      · have h3 : ¬ a = b := fun e => by subst e; exact h1 h2
        simp [Op.bytesLess, h1, h2, h3]
      · have e : a = b := UInt8.le_antisymm (UInt8.not_lt.1 h2) (UInt8.not_lt.1 h1)
        subst e
        simp [Op.bytesLess, h1, less_iff x y]
end Go.Proofs.YtobdjcnojbnegaaGreatDoor
