/- car.ApplyOptions: the options one after the other. -/
import Derived.Test.YtifoicdnibgdaaaGreatDoorOpts
import Derived.Test.YtifoicdnibgdaaaGreatDoorRot
namespace Go.Proofs.YtifoicdnibgdaaaGreatDoor
open Go.RowKit
set_option linter.unusedVariables false
set_option linter.unusedSimpArgs false

def optInit : List Value := [.int .u64 0, .int .u64 0, .int .u64 0, .bool false, .int .u64 0, .bool false, .bool false, .bool false, .int .u64 9223372036854775807, .bool false, .bool false, .int .u64 33554432, .int .u64 8388608]
def optAll (L : List (Nat × Value)) (cs : List Value) : List Value := L.foldl (fun c x => c.set x.1 x.2) cs
theorem optAll_length : ∀ (L : List (Nat × Value)) (cs : List Value), (optAll L cs).length = cs.length
  | [], cs => rfl
  | x :: L, cs => by
    show (optAll L (cs.set x.1 x.2)).length = _
    rw [optAll_length L, List.length_set]
theorem optAll_snoc (L : List (Nat × Value)) (x : Nat × Value) (cs : List Value) : optAll (L ++ [x]) cs = (optAll L cs).set x.1 x.2 := by simp [optAll, List.foldl_append]

set_option maxRecDepth 100000 in
set_option maxHeartbeats 1600000 in
theorem ApplyOptions_ok (L : List (Nat × Value)) (fs : List Value) (w0 w : World) (v : Value) (h : OptsAt w0 w v L fs) (hL : L.length ≤ 20)
    (n0 n1 : Int) (k2 : Nat) (b3 : Bool) (k4 : Nat) (b5 b6 b7 : Bool) (n8 : Int) (b9 b10 : Bool) (n11 n12 : Int) (hr : optAll L optInit = [.int .u64 n0, .int .u64 n1, .int .u64 k2, .bool b3, .int .u64 k4, .bool b5, .bool b6, .bool b7, .int .u64 n8, .bool b9, .bool b10, .int .u64 n11, .int .u64 n12]) :
    Calls Tryz.prog 23 #[v] w fun e w' => (∃ x : Nat, e = .returned (.agg #[.int .u64 n0, .int .u64 n1, .int .u64 x, .bool b3, .int .u64 (if k4 = 0 then 2048 else k4 : Nat), .bool b5, .bool b6, .bool b7, .int .u64 n8, .bool b9, .bool b10, .int .u64 n11, .int .u64 n12])) ∧ Below w.heap.size w w' := by
  have hpos := h.pos
  obtain ⟨g, c, cur, rfl, hge, hg, hlc, hcm, hcs, htk⟩ : ∃ g c cur, v = .slice (some ⟨g, 0, none⟩) L.length c ∧ w0.heap.size ≤ g ∧ w.heap[g]? = some (.cells cur 107 (0, 0)) ∧ L.length ≤ c ∧ c ≤ maxLen ∧ cur.size = c * 1 ∧ cur.toList.take (L.length * 1) = fs := by
    rcases h.own.2 with ⟨_, h0⟩ | ⟨g, c, cur, h1⟩
    · omega
    · exact ⟨g, c, cur, h1⟩
  have hfl : fs.length = L.length := by have := h.own.1; omega
  have hcell : ∀ (j : Nat) (f : Value), fs[j]? = some f → w.cell? ⟨g, j, none⟩ = some f := fun j f hf => by
    rw [cell_of_row w g j cur _ _ hg]
    have hj := (List.getElem?_eq_some_iff.1 hf).1
    rw [← htk, List.getElem?_take_of_lt (by omega)] at hf
    simpa using hf
  have hgl := (Array.getElem?_eq_some_iff.1 hg).1
  have hE := h.each
  clear hg hcs htk hge h
  go_enter Tryz.func23, Tryz.ntmps23
  go_wp2_with fail
  generalize hW : (w.alloc (.cells #[.int .u64 0, .int .u64 0, .int .u64 0, .bool false, .int .u64 0, .bool false, .bool false, .bool false, .int .u64 0, .bool false, .bool false, .int .u64 0, .int .u64 0] 59)).alloc (.cells #[.int .u64 0, .int .u64 0, .int .u64 0, .bool false, .int .u64 0, .bool false, .bool false, .bool false, .int .u64 9223372036854775807, .bool false, .bool false, .int .u64 33554432, .int .u64 8388608] 59) = W0 at *
  have hb0 : Below w.heap.size w W0 := by rw [← hW]; exact below_box (below_boxed _ _) _
  have hz0 : W0.heap.size = w.heap.size + 2 := by rw [← hW]; simp
  have hp0 : W0.heap[w.heap.size + 1]? = some (.cells optInit.toArray 59 (0, 0)) := by
    rw [← hW]
    have h1 : (w.alloc (.cells #[.int .u64 0, .int .u64 0, .int .u64 0, .bool false, .int .u64 0, .bool false, .bool false, .bool false, .int .u64 0, .bool false, .bool false, .int .u64 0, .int .u64 0] 59)).heap.size = w.heap.size + 1 := by simp
    rw [← h1]
    exact heap_alloc_last _ _
  have hq0 : W0.heap[w.heap.size]? = some (.cells #[.int .u64 0, .int .u64 0, .int .u64 0, .bool false, .int .u64 0, .bool false, .bool false, .bool false, .int .u64 0, .bool false, .bool false, .int .u64 0, .int .u64 0] 59 (0, 0)) := by
    rw [← hW]
    exact (Below.heap_alloc _ _ _ (by simp)).trans (heap_alloc_last w _)
  clear hW
  generalize hpp : w.heap.size + 1 = p at *
  go_loopw [9] (fun vi wr => ∃ k : Nat, k ≤ L.length ∧ vi = .int .i64 k ∧ Hid (wr.heap[p]? = some (.cells (optAll (L.take k) optInit).toArray 59 (0, 0))) ∧ Below p W0 wr) (fun vi _ => L.length - (intOf vi).toNat)
  case atStart => exact ⟨0, Nat.zero_le _, rfl, Lib.hid hp0, Below.refl _ _⟩
  case round =>
    obtain ⟨k, hk, rfl, hH, hbw⟩ := hrel
    have hpb := hH.out
    clear hH hp0
    have hsz := hbw.size
    by_cases hlt : k < L.length
    · have hf := List.getElem?_eq_getElem (show k < fs.length by omega)
      have hx := List.getElem?_eq_getElem hlt
      have htk : L.take (k + 1) = L.take k ++ [L[k]] := by rw [List.take_add_one, hx]; rfl
      have hop := hE k _ _ hf hx
      have hc0 := (hbw.cell (p := ⟨g, k, none⟩) (show g < p by omega)).trans ((hb0.cell (p := ⟨g, k, none⟩) hgl).trans (hcell k _ hf))
      generalize fs[k] = f at *
      generalize L[k] = x at *
      obtain ⟨hoff, G, b, rfl, hbl, hbc, hcall, hset⟩ := hop
      have hbc1 := (hbw.cell (p := ⟨b, 0, none⟩) (show b < p by omega)).trans ((hb0.cell (p := ⟨b, 0, none⟩) hbl).trans hbc)
      have hlen : (optAll (L.take k) optInit).length = 13 := optAll_length _ _
      have hc1 := hset wr p hbc1 (by rw [cell_of_row wr p x.1 _ _ _ hpb]; simp [hlen, hoff]) (by simp [World.frozen?, hpb])
      have hnew : (wr.setCell ⟨p, x.1, none⟩ x.2).heap[p]? = some (.cells (optAll (L.take (k + 1)) optInit).toArray 59 (0, 0)) := by
        rw [setCell_eq_setRow wr p x.1 _ _ _ _ hpb, setRow_heap wr p _ _ _ _ hpb, htk, optAll_snoc]
        congr 2
        apply Array.ext'
        simp
      have hbw1 : Below p W0 (wr.setCell ⟨p, x.1, none⟩ x.2) := hbw.setCell (Nat.le_refl _) _
      have hlk : (k : Int) < L.length := by omega
      clear hset hbc hbc1 hpb hE hcell
      go_wp2_with fail
      refine hc1.mono ?_
      rintro e w2 ⟨rfl, rfl⟩
      go_wp2_with fail
      exact ⟨⟨k + 1, by omega, by simp, Lib.hid hnew, hbw1⟩, by simp [intOf]; omega⟩
    · obtain rfl : k = L.length := by omega
      rw [List.take_of_length_le (Nat.le_refl _), hr] at hpb
      have hqb := (hbw.block w.heap.size (by omega)).trans hq0
      have hbel : Below w.heap.size w wr := hb0.trans (hbw.mono (by omega))
      have hpl : w.heap.size ≠ p := by omega
      have hpc := fun j => blk_cell hpb j
      have hqc := fun j => blk_cell hqb j
      have hpf := fun j => blk_free hpb j
      have hqf := fun j => blk_free hqb j
      have p0 := (hpc 0).trans (show _ = some (Value.int .u64 n0) from rfl)
      have p1 := (hpc 1).trans (show _ = some (Value.int .u64 n1) from rfl)
      have p2 := (hpc 2).trans (show _ = some (Value.int .u64 k2) from rfl)
      have p3 := (hpc 3).trans (show _ = some (Value.bool b3) from rfl)
      have p4 := (hpc 4).trans (show _ = some (Value.int .u64 k4) from rfl)
      have p5 := (hpc 5).trans (show _ = some (Value.bool b5) from rfl)
      have p6 := (hpc 6).trans (show _ = some (Value.bool b6) from rfl)
      have p7 := (hpc 7).trans (show _ = some (Value.bool b7) from rfl)
      have p8 := (hpc 8).trans (show _ = some (Value.int .u64 n8) from rfl)
      have p9 := (hpc 9).trans (show _ = some (Value.bool b9) from rfl)
      have p10 := (hpc 10).trans (show _ = some (Value.bool b10) from rfl)
      have p11 := (hpc 11).trans (show _ = some (Value.int .u64 n11) from rfl)
      have p12 := (hpc 12).trans (show _ = some (Value.int .u64 n12) from rfl)
      clear hE hcell hpc hq0 hpb
      by_cases e2 : k2 = 0
      · by_cases e4 : k4 = 0
        · subst e2 e4
          go_wp2_with fail
          refine bodyPost_ret (v := .agg #[.int .u64 n0, .int .u64 n1, .int .u64 (1025 : Nat), .bool b3, .int .u64 (2048 : Nat), .bool b5, .bool b6, .bool b7, .int .u64 n8, .bool b9, .bool b10, .int .u64 n11, .int .u64 n12]) (by simp [results, Tryz.results23, go_sem, hqc, hpl]) rfl ?_
          exact ⟨⟨1025, rfl⟩, by (repeat (first | (with_reducible exact Below.refl _ _) | (with_reducible exact below_boxed _ _) | (with_reducible refine below_box ?_ _) | (with_reducible refine below_drew1 ?_) | (with_reducible refine below_drewn ?_ _) | (with_reducible refine below_bytes ?_ _ _) | (with_reducible refine below_next ?_ (by assumption)) | (with_reducible refine below_set ?_ (by first | (simp; done) | (simp; omega) | omega) _)))⟩
        · subst e2
          go_wp2_with fail
          refine bodyPost_ret (v := .agg #[.int .u64 n0, .int .u64 n1, .int .u64 (1025 : Nat), .bool b3, .int .u64 (k4 : Nat), .bool b5, .bool b6, .bool b7, .int .u64 n8, .bool b9, .bool b10, .int .u64 n11, .int .u64 n12]) (by simp [results, Tryz.results23, go_sem, hqc, hpl]) rfl ?_
          exact ⟨⟨1025, rfl⟩, by (repeat (first | (with_reducible exact Below.refl _ _) | (with_reducible exact below_boxed _ _) | (with_reducible refine below_box ?_ _) | (with_reducible refine below_drew1 ?_) | (with_reducible refine below_drewn ?_ _) | (with_reducible refine below_bytes ?_ _ _) | (with_reducible refine below_next ?_ (by assumption)) | (with_reducible refine below_set ?_ (by first | (simp; done) | (simp; omega) | omega) _)))⟩
      · by_cases e4 : k4 = 0
        · subst e4
          go_wp2_with fail
          refine bodyPost_ret (v := .agg #[.int .u64 n0, .int .u64 n1, .int .u64 (k2 : Nat), .bool b3, .int .u64 (2048 : Nat), .bool b5, .bool b6, .bool b7, .int .u64 n8, .bool b9, .bool b10, .int .u64 n11, .int .u64 n12]) (by simp [results, Tryz.results23, go_sem, hqc, hpl]) rfl ?_
          exact ⟨⟨k2, rfl⟩, by (repeat (first | (with_reducible exact Below.refl _ _) | (with_reducible exact below_boxed _ _) | (with_reducible refine below_box ?_ _) | (with_reducible refine below_drew1 ?_) | (with_reducible refine below_drewn ?_ _) | (with_reducible refine below_bytes ?_ _ _) | (with_reducible refine below_next ?_ (by assumption)) | (with_reducible refine below_set ?_ (by first | (simp; done) | (simp; omega) | omega) _)))⟩
        · go_wp2_with fail
          refine bodyPost_ret (v := .agg #[.int .u64 n0, .int .u64 n1, .int .u64 (k2 : Nat), .bool b3, .int .u64 (k4 : Nat), .bool b5, .bool b6, .bool b7, .int .u64 n8, .bool b9, .bool b10, .int .u64 n11, .int .u64 n12]) (by simp [results, Tryz.results23, go_sem, hqc, hpl]) rfl ?_
          exact ⟨⟨k2, rfl⟩, by (repeat (first | (with_reducible exact Below.refl _ _) | (with_reducible exact below_boxed _ _) | (with_reducible refine below_box ?_ _) | (with_reducible refine below_drew1 ?_) | (with_reducible refine below_drewn ?_ _) | (with_reducible refine below_bytes ?_ _ _) | (with_reducible refine below_next ?_ (by assumption)) | (with_reducible refine below_set ?_ (by first | (simp; done) | (simp; omega) | omega) _)))⟩

theorem optAll_list (o : OOpt) : ∃ n11 n12 : Int, optAll o.list optInit = [.int .u64 o.dp, .int .u64 o.ip, .int .u64 (o.codec : Nat), .bool o.z, .int .u64 (o.mc : Nat), .bool o.i, .bool o.d, .bool o.wh, .int .u64 9223372036854775807, .bool o.v1, .bool o.tr, .int .u64 n11, .int .u64 n12] := by
  unfold OOpt.list OOpt.base optE optInit optAll
  by_cases h1 : o.codec = 0 <;> by_cases h2 : o.mc = 0 <;> by_cases h3 : o.mh = 0 <;> by_cases h4 : o.ms = 0 <;>
    simp only [h1, h2, h3, h4, if_true, if_false, List.append_nil, List.cons_append, List.nil_append, List.foldl_cons, List.foldl_nil, List.set_cons_zero, List.set_cons_succ] <;> exact ⟨_, _, rfl⟩

/-- The greatest number of bytes of an identifier. -/
def OOpt.most (o : OOpt) : Nat := if o.mc = 0 then 2048 else o.mc

theorem list_len (o : OOpt) : o.list.length ≤ 20 := by
  have := optE_len 2 o.codec
  have := optE_len 4 o.mc
  have := optE_len 11 o.mh
  have := optE_len 12 o.ms
  simp [OOpt.list, OOpt.base]
  omega

theorem Apply_ok (o : OOpt) (fs : List Value) (w0 w : World) (v : Value) (h : OptsAt w0 w v o.list fs) :
    Calls Tryz.prog 23 #[v] w fun e w' => (∃ (x : Nat) (n0 n1 n8 n11 n12 : Int) (b3 b9 b10 : Bool), e = .returned (.agg #[.int .u64 n0, .int .u64 n1, .int .u64 x, .bool b3, .int .u64 (o.most : Nat), .bool o.i, .bool o.d, .bool o.wh, .int .u64 n8, .bool b9, .bool b10, .int .u64 n11, .int .u64 n12])) ∧ Below w.heap.size w w' := by
  obtain ⟨n11, n12, hr⟩ := optAll_list o
  refine (ApplyOptions_ok o.list fs w0 w v h (list_len o) _ _ _ _ _ _ _ _ _ _ _ _ _ hr).mono ?_
  rintro e w' ⟨⟨x, rfl⟩, hb⟩
  exact ⟨⟨x, _, _, _, _, _, _, _, _, rfl⟩, hb⟩
end Go.Proofs.YtifoicdnibgdaaaGreatDoor
