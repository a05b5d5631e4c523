/- strings.Builder at a builder of the call's own; NewCidV0, NewCidV1. -/
import Derived.Test.YtfjclhfhbclbhaaGreatDoorEnc
import Derived.OwnWalk
import Derived.Deep.DeepFit
import Derived.Lib.Builder
namespace Go.Proofs.YtfjclhfhbclbhaaGreatDoor
open Go.RowKit
set_option linter.unusedVariables false
set_option linter.unusedSimpArgs false
attribute [local go_sem] setCell_drewN alloc_drewN

theorem size_builder : (Tryz.prog.info? 126).map (·.size) = some 2 := by kernel_rfl

set_option maxRecDepth 100000 in
set_option maxHeartbeats 800000 in
theorem copyCheck_used (b : Nat) (w : World) (h0 : w.cell? ⟨b, 0, none⟩ = some (.pointer (some ⟨b, 0, none⟩))) :
    Calls Tryz.prog 69 #[.pointer (some ⟨b, 0, none⟩)] w fun e w' => e = .returned (.tuple #[]) ∧ w = w' := by
  obtain ⟨j, hj, hjs⟩ := Option.map_eq_some_iff.1 size_builder
  go_enter Tryz.func69, Tryz.ntmps69
  go_wp2
  rw [Lib.run_neq_ptr_same w _ Tryz.underlying124 hj]
  go_wp2
  go_end0
  exact ⟨rfl, rfl⟩

set_option maxRecDepth 100000 in
set_option maxHeartbeats 1600000 in
theorem WriteByte_ok (B b : Nat) (bs : List Value) (c : Int) (w : World) (h : Lib.BuilderAt 126 5 B b (.pointer (some ⟨b, 0, none⟩)) bs w) (hlen : bs.length + 1 ≤ 140737488355328) (hBw : B ≤ w.heap.size) :
    Calls Tryz.prog 53 #[.pointer (some ⟨b, 0, none⟩), .int .u8 c] w fun e w' => e = .returned .nilIface ∧ Lib.BuilderAt 126 5 B b (.pointer (some ⟨b, 0, none⟩)) (bs ++ [.int .u8 c]) w' ∧ Below B w w' := by
  obtain ⟨i0, hi, hz0, hz1, hz2⟩ := info_parts info3_u8
  obtain ⟨hB, v, hbk, hown, hne⟩ := h
  have c0 : w.cell? ⟨b, 0, none⟩ = some (.pointer (some ⟨b, 0, none⟩)) := by rw [Lib.cell_of_heap hbk]; rfl
  have c1 : w.cell? ⟨b, 1, none⟩ = some v := by rw [Lib.cell_of_heap hbk]; rfl
  go_enter Tryz.func53, Tryz.ntmps53
  go_wp2_with fail
  refine (copyCheck_used b _ c0).mono ?_
  rintro e w1 ⟨rfl, rfl⟩
  go_wp2_with (at_builtin; refine wpList_append_own _ rfl _ _ 27 rfl B 5 i0 (.int .u8 0) 1 1 Tryz.underlying27 hi hz0 hz1 hz2 rfl (by decide) _ _ _ rfl (hown.alloc _) ⟨w.heap.size, 0, none⟩ 1 1 [.int .u8 c] rfl rfl ?c1 ?c2 ?c3 ?c4 ?c5 ?_)
  case c1 =>
    intro j u hj
    match j, hj with
    | 0, hj => simp at hj; subst hj; simp [Addr.add]
  case c2 => intro u hu; simp at hu; subst hu; rfl
  case c3 => unfold maxLen; omega
  case c4 => omega
  case c5 => simp; omega
  intro v' w2 hown' hgrow _
  have hlt : b < w.heap.size := by
    rcases Nat.lt_or_ge b w.heap.size with h' | h'
    · exact h'
    · simp [Array.getElem?_eq_none h'] at hbk
  have hb2 : w2.heap[b]? = some (.cells #[.pointer (some ⟨b, 0, none⟩), v] 126 (0, 0)) := by
    rw [hgrow.block b (by simp; omega) (fun e => hne e.symm), Lib.alloc_old w _ b hlt]
    exact hbk
  have d0 : w2.cell? ⟨b, 0, none⟩ = some (.pointer (some ⟨b, 0, none⟩)) := by rw [Lib.cell_of_heap hb2]; rfl
  have d1 : w2.cell? ⟨b, 1, none⟩ = some v := by rw [Lib.cell_of_heap hb2]; rfl
  have f1 : w2.frozen? ⟨b, 1, none⟩ = false := Lib.frozen_of_heap hb2 1
  obtain ⟨g, cap, rfl⟩ : ∃ g cap, v' = .slice (some ⟨g, 0, none⟩) (bs.length + 1) cap := by
    rcases hown'.2 with ⟨_, h0⟩ | ⟨g, cap, cur, hv, _⟩
    · omega
    · exact ⟨g, cap, hv⟩
  go_wp2
  go_ret
  refine ⟨rfl, ?_, ?_⟩
  · exact Lib.BuilderAt.put (T := 126) (e := 5) hB hb2 (bs' := bs ++ [.int .u8 c]) (by simpa using hown') (by decide)
  · exact (((Below.refl B w).alloc hBw _).grown hgrow (by simp; omega) (fun k hk => (hown.lt k hk).1)).setCell (p := ⟨b, 1, none⟩) hB _

set_option maxRecDepth 100000 in
set_option maxHeartbeats 1600000 in
theorem Write_ok (B b : Nat) (bs : List Value) (A : Option Addr) (c : Nat) (ns : List UInt8) (hns : ns ≠ []) (w : World) (h : Lib.BuilderAt 126 5 B b (.pointer (some ⟨b, 0, none⟩)) bs w) (hb0 : BytesAt w A ns) (hlen : bs.length + ns.length ≤ 140737488355328) (hBw : B ≤ w.heap.size) :
    Calls Tryz.prog 54 #[.pointer (some ⟨b, 0, none⟩), .slice A ns.length c] w fun e w' => e = .returned (.tuple #[.int .i64 ns.length, .nilIface]) ∧ Lib.BuilderAt 126 5 B b (.pointer (some ⟨b, 0, none⟩)) (bs ++ Lib.byteCells ns) w' ∧ Below B w w' := by
  obtain ⟨i0, hi, hz0, hz1, hz2⟩ := info_parts info3_u8
  obtain ⟨hB, v, hbk, hown, hne⟩ := h
  have c0 : w.cell? ⟨b, 0, none⟩ = some (.pointer (some ⟨b, 0, none⟩)) := by rw [Lib.cell_of_heap hbk]; rfl
  have c1 : w.cell? ⟨b, 1, none⟩ = some v := by rw [Lib.cell_of_heap hbk]; rfl
  have hpos : 0 < ns.length := List.length_pos_iff.2 hns
  rcases hb0 with hb0 | ⟨g0, o0, rfl, hcell⟩
  · exact absurd hb0 hns
  go_enter Tryz.func54, Tryz.ntmps54
  go_wp2_with fail
  refine (copyCheck_used b _ c0).mono ?_
  rintro e w1 ⟨rfl, rfl⟩
  go_wp2_with (at_builtin; refine wpList_append_own _ rfl _ _ 27 rfl B 5 i0 (.int .u8 0) 1 1 Tryz.underlying27 hi hz0 hz1 hz2 rfl (by decide) _ _ _ rfl hown ⟨g0, o0, none⟩ ns.length c (Lib.byteCells ns) rfl ?c0 ?c1 ?c2 ?c3 ?c4 ?c5 ?_)
  case c0 => rw [Lib.byteCells_length, Nat.mul_one]
  case c1 =>
    intro j u hj
    rw [show (⟨g0, o0, none⟩ : Addr).add j = ⟨g0, o0 + j, none⟩ from by unfold Addr.add; split <;> simp_all]
    unfold Lib.byteCells at hj
    rw [List.getElem?_map] at hj
    obtain ⟨x, hx, rfl⟩ := Option.map_eq_some_iff.1 hj
    exact hcell j x hx
  case c2 => intro u hu; unfold Lib.byteCells at hu; obtain ⟨x, _, rfl⟩ := List.mem_map.1 hu; rfl
  case c3 => unfold maxLen; omega
  case c4 => omega
  case c5 => exact hBw
  intro v' w2 hown' hgrow _
  have hlt : b < w.heap.size := by
    rcases Nat.lt_or_ge b w.heap.size with h' | h'
    · exact h'
    · simp [Array.getElem?_eq_none h'] at hbk
  have hb2 : w2.heap[b]? = some (.cells #[.pointer (some ⟨b, 0, none⟩), v] 126 (0, 0)) := by
    rw [hgrow.block b hlt (fun e => hne e.symm)]
    exact hbk
  have d0 : w2.cell? ⟨b, 0, none⟩ = some (.pointer (some ⟨b, 0, none⟩)) := by rw [Lib.cell_of_heap hb2]; rfl
  have d1 : w2.cell? ⟨b, 1, none⟩ = some v := by rw [Lib.cell_of_heap hb2]; rfl
  have f1 : w2.frozen? ⟨b, 1, none⟩ = false := Lib.frozen_of_heap hb2 1
  obtain ⟨g, cap, rfl⟩ : ∃ g cap, v' = .slice (some ⟨g, 0, none⟩) (bs.length + ns.length) cap := by
    rcases hown'.2 with ⟨_, h0⟩ | ⟨g, cap, cur, hv, _⟩
    · omega
    · exact ⟨g, cap, hv⟩
  go_wp2
  go_ret2
  refine ⟨rfl, ?_, ?_⟩
  · exact Lib.BuilderAt.put (T := 126) (e := 5) hB hb2 (bs' := bs ++ Lib.byteCells ns) (by simpa [Lib.byteCells_length] using hown') (by decide)
  · exact ((Below.refl B w).grown hgrow hBw (fun k hk => (hown.lt k hk).1)).setCell (p := ⟨b, 1, none⟩) hB _

theorem BytesAt.of_head {w : World} {g : Nat} {t : TypeId} {fr : Nat × Nat} {bs : List UInt8} {r : List Value} (h : w.heap[g]? = some (.cells (Lib.byteCells bs ++ r).toArray t fr)) : BytesAt w (some ⟨g, 0, none⟩) bs :=
  .inr ⟨g, 0, rfl, fun j x hj => by
    have hl : j < (Lib.byteCells bs).length := by rw [Lib.byteCells_length]; exact (List.getElem?_eq_some_iff.1 hj).1
    have : (Lib.byteCells bs ++ r)[j]? = some (.int .u8 (x.toNat : Int)) := by rw [List.getElem?_append_left hl]; unfold Lib.byteCells; rw [List.getElem?_map, hj]; rfl
    simp only [World.cell?, h, Nat.zero_add]
    simpa using this⟩

theorem builder_below {T e : TypeId} {B b : Nat} {p : Value} {bs : List Value} {w w' : World} (h : Lib.BuilderAt T e B b p bs w) (hb : Below w.heap.size w w') : Lib.BuilderAt T e B b p bs w' := by
  have hlt := h.lt
  obtain ⟨hB, v, hbk, hown, hne⟩ := h
  exact ⟨hB, v, (hb.block _ hlt).trans hbk, hown.kept (row := none) ⟨hb.os, hb.tape, hb.output, hb.size, fun i hi _ => hb.block i hi⟩ (by cases hv : v.ownBlock <;> simp), hne⟩

theorem BytesAt.of_cells {w : World} {g : Nat} {t : TypeId} {fr : Nat × Nat} {bs : List UInt8} (h : w.heap[g]? = some (.cells (Lib.byteCells bs).toArray t fr)) : BytesAt w (some ⟨g, 0, none⟩) bs :=
  .inr ⟨g, 0, rfl, fun j x hj => by
    have : (Lib.byteCells bs)[j]? = some (.int .u8 (x.toNat : Int)) := by unfold Lib.byteCells; rw [List.getElem?_map, hj]; rfl
    simp [World.cell?, h, this]⟩

set_option maxRecDepth 100000 in
set_option maxHeartbeats 1600000 in
theorem tryV0_ok (dig : List UInt8) (hd : dig.length = 32) (A : Option Addr) (M c : Nat) (w : World) (h : BytesAt w A (mhOf 18 dig)) (hM : (mhOf 18 dig).length = M) (hc : M ≤ c) :
    Calls Tryz.prog 51 #[.slice A M c] w fun e w' => e = .returned (.tuple #[.agg #[.string (sOf (mhOf 18 dig))], .nilIface]) ∧ Below w.heap.size w w' := by
  go_enter Tryz.func51, Tryz.ntmps51
  go_wp2_with fail
  refine (Decode_ok 18 (by omega) dig (by omega) A M c _ (h.below (below_boxed _ _)) hM hc).mono ?_
  rintro e w2 ⟨g, A2, c2, rfl, hc2, hS2, hb2, hg2, hblk⟩
  rw [hd] at hblk
  have k0 : w2.cell? ⟨g, 0, none⟩ = some (.int .u64 18) := by simp [World.cell?, hblk]
  have k2 : w2.cell? ⟨g, 2, none⟩ = some (.int .i64 32) := by simp [World.cell?, hblk]
  obtain ⟨hcc, hff⟩ := bcell hb2
  have hz2 : w.heap.size < w2.heap.size := by have := hb2.size; simp at this; omega
  have hA2 : BytesAt w2 A (mhOf 18 dig) := (h.below (below_boxed _ _)).below hb2
  have hv := bytes_string (P := Tryz.prog) Tryz.underlying121 Tryz.underlying5 Tryz.underlying9 w2 A _ c hA2
  rw [hM] at hv
  go_wp2_with fail
  refine bodyPost_ret (v := .tuple #[.agg #[.string (sOf (mhOf 18 dig))], .nilIface]) (by simp [results, Tryz.results51, go_sem, hcc, hff, hz2, sOf]) rfl ?_
  exact ⟨rfl, by (repeat (first | (with_reducible exact Below.refl _ _) | (with_reducible exact below_boxed _ _) | (with_reducible refine below_box ?_ _) | (with_reducible refine below_drew1 ?_) | (with_reducible refine below_drewn ?_ _) | (with_reducible refine below_bytes ?_ _ _) | (with_reducible refine below_next ?_ (by assumption)) | (with_reducible refine below_set ?_ (by first | (simp; done) | (simp; omega) | omega) _)))⟩

set_option maxRecDepth 100000 in
set_option maxHeartbeats 1600000 in
theorem NewCidV0_ok (dig : List UInt8) (hd : dig.length = 32) (A : Option Addr) (M c : Nat) (w : World) (h : BytesAt w A (mhOf 18 dig)) (hM : (mhOf 18 dig).length = M) (hc : M ≤ c) :
    Calls Tryz.prog 30 #[.slice A M c] w fun e w' => e = .returned (.agg #[.string (sOf (mhOf 18 dig))]) ∧ Below w.heap.size w w' := by
  generalize hs : sOf (mhOf 18 dig) = s
  have HS := Lib.hid hs; clear hs
  go_enter Tryz.func30, Tryz.ntmps30
  go_wp2_with fail
  refine (tryV0_ok dig hd A M c _ (h.below (below_boxed _ _)) hM hc).mono ?_
  rintro e w2 ⟨rfl, hb2⟩
  rw [HS.out]
  obtain ⟨hcc, hff⟩ := bcell hb2
  have hz2 : w.heap.size < w2.heap.size := by have := hb2.size; simp at this; omega
  go_wp2_with fail
  refine bodyPost_ret (v := .agg #[.string s]) (by simp [results, Tryz.results30, go_sem, hcc, hff, hz2]) rfl ?_
  exact ⟨rfl, by (repeat (first | (with_reducible exact Below.refl _ _) | (with_reducible exact below_boxed _ _) | (with_reducible refine below_box ?_ _) | (with_reducible refine below_drew1 ?_) | (with_reducible refine below_drewn ?_ _) | (with_reducible refine below_bytes ?_ _ _) | (with_reducible refine below_next ?_ (by assumption)) | (with_reducible refine below_set ?_ (by first | (simp; done) | (simp; omega) | omega) _)))⟩

set_option maxRecDepth 100000 in
set_option maxHeartbeats 3200000 in
theorem NewCidV1_ok (codec : Nat) (hcodec : codec < 9223372036854775808) (mh : List UInt8) (hml : mh.length ≤ 2147483900 ∧ 2 ≤ mh.length) (A : Option Addr) (c : Nat) (w : World) (h : BytesAt w A mh) (hc : mh.length ≤ c) :
    Calls Tryz.prog 31 #[.int .u64 codec, .slice A mh.length c] w fun e w' => e = .returned (.agg #[.string (sOf ([1] ++ (Lib.uvarint codec ++ mh)))]) ∧ Below w.heap.size w w' := by
  have h9 := uvarint_le9 hcodec
  have h9p := Lib.uvarint_pos codec
  go_enter Tryz.func31, Tryz.ntmps31
  go_wp2_with fail
  refine (UvarintSize_ok codec (by omega) _).mono ?_
  rintro e w1 ⟨rfl, rfl⟩
  go_wp2_with fail
  have hg := Tryz.Builder_Grow_fresh (w.heap.size + 1) (w.heap.size + 1) (1 + (Lib.uvarint codec).length + mh.length) ((w.alloc (.cells #[.string ⟨#[]⟩] 63)).alloc (.cells #[.pointer none, .slice none 0 0] 126)) (Nat.le_refl _) (by have := heap_alloc_new (w.alloc (.cells #[.string ⟨#[]⟩] 63)) (.cells #[.pointer none, .slice none 0 0] 126); simpa using this) (by simp) (by omega)
  refine hg.mono ?_
  clear hg
  rintro e w1 ⟨rfl, hB1, hb1⟩
  have hb1w : Below w.heap.size w w1 := (by (repeat (first | (with_reducible exact Below.refl _ _) | (with_reducible exact below_boxed _ _) | (with_reducible refine below_box ?_ _) | (with_reducible refine below_drew1 ?_) | (with_reducible refine below_drewn ?_ _) | (with_reducible refine below_bytes ?_ _ _) | (with_reducible refine below_next ?_ (by assumption)) | (with_reducible refine below_set ?_ (by first | (simp; done) | (simp; omega) | omega) _))) : Below w.heap.size w ((w.alloc (.cells #[.string ⟨#[]⟩] 63)).alloc (.cells #[.pointer none, .slice none 0 0] 126))).trans (hb1.mono (by omega))
  have hz1 : w.heap.size + 1 < w1.heap.size := by have := hb1.size; simp at this; omega
  go_wp2_with fail
  refine (WriteByte_ok (w.heap.size + 1) (w.heap.size + 1) [] 1 _ hB1 (by simp) (by omega)).mono ?_
  rintro e w2 ⟨rfl, hB2, hb2⟩
  have hz2 : w.heap.size + 1 < w2.heap.size := by have := hb2.size; omega
  go_wp2_with fail
  have hpu := PutUvarint_ok w2.heap.size 0 10 10 codec (by omega) [Value.int .u8 0, Value.int .u8 0, Value.int .u8 0, Value.int .u8 0, Value.int .u8 0, Value.int .u8 0, Value.int .u8 0, Value.int .u8 0, Value.int .u8 0, Value.int .u8 0] 129 (w2.alloc (.cells #[Value.int .u8 0, Value.int .u8 0, Value.int .u8 0, Value.int .u8 0, Value.int .u8 0, Value.int .u8 0, Value.int .u8 0, Value.int .u8 0, Value.int .u8 0, Value.int .u8 0] 129)) (heap_alloc_new _ _) (by omega) (by simp; omega)
  refine hpu.mono ?_
  clear hpu
  rintro e w3 ⟨rfl, hg3, hb3⟩
  have hb3' := hb3 w2.heap.size (Nat.le_refl _)
  have hb23 : Below w2.heap.size w2 w3 := (below_boxed w2 _).trans hb3'
  have hz3 : w.heap.size + 1 < w3.heap.size := by have := hb23.size; omega
  have hA3 : BytesAt w3 (some ⟨w2.heap.size, 0, none⟩) (Lib.uvarint codec) := by
    unfold splice at hg3
    exact BytesAt.of_head (by rw [hg3]; rfl)
  have hBl3 : Lib.BuilderAt 126 5 (w.heap.size + 1) (w.heap.size + 1) (.pointer (some ⟨w.heap.size + 1, 0, none⟩)) ([] ++ [.int .u8 1]) w3 := builder_below hB2 hb23
  have HG3 := Lib.hid hg3; clear hg3
  have h10 : (Lib.uvarint codec).length ≤ 10 := by omega
  have h10i : ((Lib.uvarint codec).length : Int) ≤ 10 := by omega
  go_wp2_with fail
  refine (Write_ok (w.heap.size + 1) (w.heap.size + 1) _ _ _ (Lib.uvarint codec) (by intro e; rw [e] at h9p; simp at h9p) _ hBl3 hA3 (by simp; omega) (by omega)).mono ?_
  rintro e w4 ⟨rfl, hB4, hb4⟩
  have hb4' : Below w.heap.size w w4 := ((hb1w.trans (hb2.mono (by omega))).trans (hb23.mono (by omega))).trans (hb4.mono (by omega))
  have hz4 : w.heap.size + 1 < w4.heap.size := by have := hb4.size; omega
  go_wp2_with fail
  refine (Write_ok (w.heap.size + 1) (w.heap.size + 1) _ A c mh (by intro e; rw [e] at hml; simp at hml) _ hB4 (h.below hb4') (by simp [Lib.byteCells_length]; omega) (by omega)).mono ?_
  rintro e w5 ⟨rfl, hB5, hb5⟩
  have hb5' : Below w.heap.size w w5 := hb4'.trans (hb5.mono (by omega))
  have hz5 : w.heap.size + 1 < w5.heap.size := by have := hb5.size; omega
  go_wp2_with fail
  have hcells : [] ++ [Value.int .u8 1] ++ Lib.byteCells (Lib.uvarint codec) ++ Lib.byteCells mh = Lib.byteCells ([1] ++ (Lib.uvarint codec ++ mh)) := by
    unfold Lib.byteCells; simp
  rw [hcells] at hB5
  refine (Tryz.Builder_String_any (w.heap.size + 1) (w.heap.size + 1) _ _ (.inr hB5) (by omega)).mono ?_
  rintro e w6 ⟨rfl, hb6⟩
  have hz6 : w.heap.size + 1 < w6.heap.size := by have := hb6.size; omega
  have hall : Below (w.heap.size + 1) ((w.alloc (.cells #[.string ⟨#[]⟩] 63)).alloc (.cells #[.pointer none, .slice none 0 0] 126)) w6 :=
    ((((hb1.trans hb2).trans (hb23.mono (by omega))).trans hb4).trans hb5).trans hb6
  have q0 : w6.cell? ⟨w.heap.size, 0, none⟩ = some (.string ⟨#[]⟩) := by rw [hall.cell (by simp)]; simp
  have qf : w6.frozen? ⟨w.heap.size, 0, none⟩ = false := by rw [hall.frozen (by simp)]; simp
  generalize hs : (⟨([1] ++ (Lib.uvarint codec ++ mh)).toArray⟩ : ByteArray) = s
  have HS := Lib.hid hs; clear hs
  go_wp2_with fail
  refine bodyPost_ret (v := .agg #[.string s]) (by simp [results, Tryz.results31, go_sem, q0, qf]) rfl ?_
  refine ⟨by rw [← HS.out]; rfl, ?_⟩
  refine below_set ?_ (Nat.le_refl _) _
  exact hb5'.trans (hb6.mono (by omega))
end Go.Proofs.YtfjclhfhbclbhaaGreatDoor
