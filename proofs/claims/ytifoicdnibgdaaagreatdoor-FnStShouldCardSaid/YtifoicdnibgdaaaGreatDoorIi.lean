/- The insertion index: made, filled, gone through. -/
import Derived.Test.YtifoicdnibgdaaaGreatDoorIns
namespace Go.Proofs.YtifoicdnibgdaaaGreatDoor
open Go.RowKit
set_option linter.unusedVariables false
set_option linter.unusedSimpArgs false
attribute [local go_sem] setCell_drewN alloc_drewN

set_option maxRecDepth 100000 in
theorem newIi_ok (w : World) : Calls Tryz.prog 26 #[] w fun e w' => e = .returned (.pointer (some ⟨w.heap.size, 0, none⟩)) ∧ IiAt w' w.heap.size .nil 0 ∧ Below w.heap.size w w' := by
  go_enter Tryz.func26, Tryz.ntmps26
  go_wp2
  go_ret
  exact ⟨rfl, ⟨heap_alloc_new _ _, trivial, List.nodup_nil, fun x hx => by simp [Tr.items] at hx⟩, by (repeat (first | (with_reducible exact Below.refl _ _) | (with_reducible exact below_boxed _ _) | (with_reducible refine below_box ?_ _) | (with_reducible refine below_drew1 ?_) | (with_reducible refine below_drewn ?_ _) | (with_reducible refine below_bytes ?_ _ _) | (with_reducible refine below_next ?_ (by assumption)) | (with_reducible refine below_set ?_ (by first | (simp; done) | (simp; omega) | omega) _)))⟩

set_option maxRecDepth 100000 in
set_option maxHeartbeats 3200000 in
theorem iiInsert_ok (g : Nat) (t : Tr) (n : Int) (c : CidOf) (hc : c.Ok) (off : Int) (w : World) (h : IiAt w g t n) (hn : 0 ≤ n ∧ n < 9223372036854775807) :
    Calls Tryz.prog 27 #[.pointer (some ⟨g, 0, none⟩), .agg #[.string c.str], .int .u64 off] w fun en w' => ∃ nb A cap, w.heap.size ≤ nb ∧ en = .returned (.tuple #[]) ∧
      IiAt w' g (t.ins nb ⟨A, cap, c.str, off, c.dig⟩).black (n + 1) ∧ Kp (fun i => i = g ∨ i ∈ t.blocks) w w' := by
  have hR := fun W => newRecord_ok c hc off W
  have hblk := h.blk
  go_enter Tryz.func27, Tryz.ntmps27
  go_wp2_with fail
  have HBK := Lib.hid hblk; clear hblk
  generalize hs : c.str = s at *
  have HS := Lib.hid hs; clear hs
  go_region_with (first | (go_at_call 65; refine (hR _).mono ?_; rintro e w1 ⟨A, cap, rfl, hcap, hA, hB, hF, hb⟩) | (go_at_call 64; have hbw := below_next (below_drew1 (below_boxed w _)) hb; refine (llrbInsert_ok g t n ⟨A, cap, s, off, c.dig⟩ w1 (h.below hbw) ⟨hA, hB⟩ hn).mono ?_; rintro e w2 ⟨nb, hnb, rfl, hI2, hK2⟩))
  all_goals
    go_wp2_with fail
    go_end0
    have hbw := below_next (below_drew1 (below_boxed w _)) hb
    rw [HS.out]
    exact ⟨nb, A, cap, Nat.le_trans hbw.size hnb, rfl, hI2, (Kp.of_below hbw).trans hK2 fun i hi => .inl hi⟩

/-- What the loop over the entries makes of the tree: some tree into which the entries were put in their order. -/
inductive Built : List (CidOf × Int) → Tr → Prop where
  | nil : Built [] .nil
  | snoc {l : List (CidOf × Int)} {t : Tr} (c : CidOf) (off : Int) (nb : Nat) (A : Option Addr) (cap : Nat) (h : Built l t) : Built (l ++ [(c, off)]) (t.ins nb ⟨A, cap, c.str, off, c.dig⟩).black

/-- The entries as they came in: a slice of rows of five cells. -/
def EntCells (x : CidOf × Int) : List Value := [.int .u64 x.1.ver, .int .u64 x.1.codec, .int .u64 x.1.code, .string (sOf x.1.dig), .int .u64 x.2]
def RowsAt (w : World) (A : Option Addr) (l : List (CidOf × Int)) : Prop :=
  l = [] ∨ ∃ g o, A = some ⟨g, o, none⟩ ∧ ∀ i x, l[i]? = some x → ∀ j v, (EntCells x)[j]? = some v → w.cell? ⟨g, o + i * 5 + j, none⟩ = some v

theorem RowsAt.below {w w' : World} {A : Option Addr} {l : List (CidOf × Int)} (h : RowsAt w A l) (hb : Below w.heap.size w w') : RowsAt w' A l := by
  rcases h with h | ⟨g, o, e, hc⟩
  · exact .inl h
  · exact .inr ⟨g, o, e, fun i x hx j v hj => (hb.cell (World.block_lt_of_cell? w _ (hc i x hx j v hj))).trans (hc i x hx j v hj)⟩

theorem Tr.black_blocks (t : Tr) : t.black.blocks = t.blocks := by cases t <;> rfl
theorem Tr.black_items (t : Tr) : t.black.items = t.items := by cases t <;> rfl

set_option maxRecDepth 100000 in
set_option maxHeartbeats 3200000 in
theorem insertion_ok (l : List (CidOf × Int)) (hl : ∀ x, x ∈ l → x.1.Ok) (A : Option Addr) (cap : Nat) (w : World) (hR : RowsAt w A l) (hlen : l.length ≤ 1000000) (hcap : l.length ≤ cap) :
    Calls Tryz.prog 15 #[.slice A l.length cap] w fun e w' => ∃ g t, w.heap.size ≤ g ∧ e = .returned (.tuple #[.pointer (some ⟨g, 0, none⟩), .bool true]) ∧ IiAt w' g t l.length ∧ Built l t ∧ (∀ i, i ∈ t.blocks → w.heap.size ≤ i) ∧ Below w.heap.size w w' := by
  go_enter Tryz.func15, Tryz.ntmps15
  go_wp2_with fail
  refine (newIi_ok _).mono ?_
  rintro e w1 ⟨rfl, hI1, hb1⟩
  generalize hg : w.heap.size = g at *
  have HG := Lib.hid hg; clear hg
  go_wp2_with fail
  go_loopw [12] (fun vi wr => ∃ k : Nat, k ≤ l.length ∧ vi = .int .i64 k ∧ ∃ t, IiAt wr g t k ∧ Built (l.take k) t ∧ (∀ i, i ∈ t.blocks → g ≤ i) ∧ Below g w wr) (fun vi _ => l.length - (intOf vi).toNat)
  case atStart => exact ⟨0, Nat.zero_le _, rfl, .nil, hI1, .nil, by simp [Tr.blocks], hb1⟩
  case round =>
    obtain ⟨k, hk, rfl, t, hI, hBt, hbl, hbw⟩ := hrel
    by_cases hlt : k < l.length
    · have hx := List.getElem?_eq_getElem hlt
      generalize l[k] = x at hx
      have hxok := hl x (List.mem_of_getElem? hx)
      rcases hR with hR | ⟨g0, o, rfl, hc⟩
      · rw [hR] at hlt; simp at hlt
      have c0 := hc k x hx 0 _ rfl
      have c1 := hc k x hx 1 _ rfl
      have c2 := hc k x hx 2 _ rfl
      have c3 := hc k x hx 3 _ rfl
      have c4 := hc k x hx 4 _ rfl
      clear hc
      have hg0 : g0 < g := by have := World.block_lt_of_cell? w _ c0; have := HG.out; simp at *; omega
      replace c0 := (hbw.cell (p := ⟨g0, _, none⟩) hg0).trans c0
      replace c1 := (hbw.cell (p := ⟨g0, _, none⟩) hg0).trans c1
      replace c2 := (hbw.cell (p := ⟨g0, _, none⟩) hg0).trans c2
      replace c3 := (hbw.cell (p := ⟨g0, _, none⟩) hg0).trans c3
      replace c4 := (hbw.cell (p := ⟨g0, _, none⟩) hg0).trans c4
      rw [Nat.add_zero] at c0
      have hCI := fun W => cidIn_ok x.1 hxok W
      obtain ⟨xc, off⟩ := x
      simp only at c0 c1 c2 c3 c4 hxok hCI
      go_wp2_with fail
      refine (hCI _).mono ?_
      rintro e w2 ⟨rfl, hb2⟩
      have hz2 : wr.heap.size < w2.heap.size := by have := hb2.size; simp at this; omega
      have k4 : w2.cell? ⟨wr.heap.size, 4, none⟩ = some (.int .u64 off) := by rw [hb2.cell (by simp)]; simp
      have hbr : Below wr.heap.size wr (w2.alloc (.cells #[.string xc.str] 49)) := below_box (below_next (below_boxed _ _) hb2) _
      have hI2 := hI.below hbr
      go_wp2_with fail
      refine (iiInsert_ok g t k xc hxok off _ hI2 (by omega)).mono ?_
      rintro e w3 ⟨nb, A3, cap3, hnb, rfl, hI3, hK3⟩
      have hle : g ≤ wr.heap.size := Nat.le_trans (Nat.le_of_eq HG.out.symm) hbw.size
      have hbw3 : Below g w w3 := by
        have h1 : Below g w (w2.alloc (.cells #[.string xc.str] 49)) := hbw.trans (hbr.mono hle)
        refine h1.trans ⟨hK3.os, hK3.tape, hK3.output, hK3.size, fun i hi => hK3.block i (Nat.lt_of_lt_of_le hi (Nat.le_trans hle hbr.size)) ?_⟩
        rintro (h' | h')
        · omega
        · have := hbl i h'; omega
      go_wp2_with fail
      go_roundw
      case rel =>
        refine ⟨k + 1, by omega, by go_num, (t.ins nb ⟨A3, cap3, xc.str, off, xc.dig⟩).black, by simpa using hI3, ?_, ?_, hbw3⟩
        · rw [List.take_succ_eq_append_getElem (by omega)]
          have e : l[k] = (xc, off) := by
            have := List.getElem?_eq_getElem (l := l) (i := k) (by omega)
            rw [hx] at this
            exact (Option.some.inj this).symm
          rw [e]
          exact Built.snoc xc off nb A3 cap3 hBt
        · intro i hi
          rw [Tr.black_blocks, Tr.ins_mem] at hi
          rcases hi with h' | h'
          · have := hbr.size; omega
          · exact hbl i h'
      case measure => simp [intOf]; omega
    · obtain rfl : k = l.length := by omega
      go_wp2_with fail
      go_ret2
      rw [List.take_length] at hBt
      exact ⟨g, t, Nat.le_of_eq HG.out, rfl, hI, hBt, fun i hi => by rw [HG.out]; exact hbl i hi, by rw [HG.out]; exact hbw⟩
end Go.Proofs.YtifoicdnibgdaaaGreatDoor
