import Derived.Test.YtgdgmegpacmgnaaGreatDoorG03
import Derived.OwnWalk
import Derived.Deep.DeepFit
import Derived.Lib.Builder
import Derived.Defers
import Derived.Recover
import Derived.RegionCalls
import Derived.Deep.RegionWith
import Derived.Deep.RegionHeld3
import Derived.Test.YtgdgmegpacmgnaaGreatDoorG05
import Derived.Lib.OthersKept
import Derived.LoopTactic
/- strings.Builder at a builder of the call's own; NewCidV0, NewCidV1. -/
namespace Go.Proofs.YtgdgmegpacmgnaaGreatDoor
open Go.RowKit
set_option linter.unusedVariables false
set_option linter.unusedSimpArgs false
attribute [local go_sem] setCell_drewN alloc_drewN

theorem size_builder : (Tryz.prog.info? 169).map (·.size) = some 2 := by kernel_rfl

set_option maxRecDepth 100000 in
set_option maxHeartbeats 800000 in
theorem copyCheck_used (b : Nat) (w : World) (h0 : w.cell? ⟨b, 0, none⟩ = some (.pointer (some ⟨b, 0, none⟩))) :
    Calls Tryz.prog 89 #[.pointer (some ⟨b, 0, none⟩)] w fun e w' => e = .returned (.tuple #[]) ∧ w = w' := by
  obtain ⟨j, hj, hjs⟩ := Option.map_eq_some_iff.1 size_builder
  go_enter Tryz.func89, Tryz.ntmps89
  go_wp2
  rw [Lib.run_neq_ptr_same w _ Tryz.underlying167 hj]
  go_wp2
  go_end0
  exact ⟨rfl, rfl⟩

set_option maxRecDepth 100000 in
set_option maxHeartbeats 1600000 in
theorem WriteByte_ok (B b : Nat) (bs : List Value) (c : Int) (w : World) (h : Lib.BuilderAt 169 5 B b (.pointer (some ⟨b, 0, none⟩)) bs w) (hlen : bs.length + 1 ≤ 140737488355328) (hBw : B ≤ w.heap.size) :
    Calls Tryz.prog 73 #[.pointer (some ⟨b, 0, none⟩), .int .u8 c] w fun e w' => e = .returned .nilIface ∧ Lib.BuilderAt 169 5 B b (.pointer (some ⟨b, 0, none⟩)) (bs ++ [.int .u8 c]) w' ∧ Below B w w' := by
  obtain ⟨i0, hi, hz0, hz1, hz2⟩ := info_parts info3_u8
  obtain ⟨hB, v, hbk, hown, hne⟩ := h
  have c0 : w.cell? ⟨b, 0, none⟩ = some (.pointer (some ⟨b, 0, none⟩)) := by rw [Lib.cell_of_heap hbk]; rfl
  have c1 : w.cell? ⟨b, 1, none⟩ = some v := by rw [Lib.cell_of_heap hbk]; rfl
  go_enter Tryz.func73, Tryz.ntmps73
  go_wp2_with fail
  refine (copyCheck_used b _ c0).mono ?_
  rintro e w1 ⟨rfl, rfl⟩
  go_wp2_with (at_builtin; refine wpList_append_own _ rfl _ _ 42 rfl B 5 i0 (.int .u8 0) 1 1 Tryz.underlying42 hi hz0 hz1 hz2 rfl (by decide) _ _ _ rfl (hown.alloc _) ⟨w.heap.size, 0, none⟩ 1 1 [.int .u8 c] rfl rfl ?c1 ?c2 ?c3 ?c4 ?c5 ?_)
  case c1 =>
    intro j u hj
    match j, hj with
    | 0, hj => simp at hj; subst hj; simp [Addr.add]
  case c2 => intro u hu; simp at hu; subst hu; rfl
  case c3 => unfold maxLen; omega
  case c4 => omega
  case c5 => simp; omega
  intro v' w2 hown' hgrow _
  have hlt : b < w.heap.size := by
    rcases Nat.lt_or_ge b w.heap.size with h' | h'
    · exact h'
    · simp [Array.getElem?_eq_none h'] at hbk
  have hb2 : w2.heap[b]? = some (.cells #[.pointer (some ⟨b, 0, none⟩), v] 169 (0, 0)) := by
    rw [hgrow.block b (by simp; omega) (fun e => hne e.symm), Lib.alloc_old w _ b hlt]
    exact hbk
  have d0 : w2.cell? ⟨b, 0, none⟩ = some (.pointer (some ⟨b, 0, none⟩)) := by rw [Lib.cell_of_heap hb2]; rfl
  have d1 : w2.cell? ⟨b, 1, none⟩ = some v := by rw [Lib.cell_of_heap hb2]; rfl
  have f1 : w2.frozen? ⟨b, 1, none⟩ = false := Lib.frozen_of_heap hb2 1
  obtain ⟨g, cap, rfl⟩ : ∃ g cap, v' = .slice (some ⟨g, 0, none⟩) (bs.length + 1) cap := by
    rcases hown'.2 with ⟨_, h0⟩ | ⟨g, cap, cur, hv, _⟩
    · omega
    · exact ⟨g, cap, hv⟩
  go_wp2
  go_ret
  refine ⟨rfl, ?_, ?_⟩
  · exact Lib.BuilderAt.put (T := 169) (e := 5) hB hb2 (bs' := bs ++ [.int .u8 c]) (by simpa using hown') (by decide)
  · exact (((Below.refl B w).alloc hBw _).grown hgrow (by simp; omega) (fun k hk => (hown.lt k hk).1)).setCell (p := ⟨b, 1, none⟩) hB _

set_option maxRecDepth 100000 in
set_option maxHeartbeats 1600000 in
theorem Write_ok (B b : Nat) (bs : List Value) (A : Option Addr) (c : Nat) (ns : List UInt8) (hns : ns ≠ []) (w : World) (h : Lib.BuilderAt 169 5 B b (.pointer (some ⟨b, 0, none⟩)) bs w) (hb0 : BytesAt w A ns) (hlen : bs.length + ns.length ≤ 140737488355328) (hBw : B ≤ w.heap.size) :
    Calls Tryz.prog 74 #[.pointer (some ⟨b, 0, none⟩), .slice A ns.length c] w fun e w' => e = .returned (.tuple #[.int .i64 ns.length, .nilIface]) ∧ Lib.BuilderAt 169 5 B b (.pointer (some ⟨b, 0, none⟩)) (bs ++ Lib.byteCells ns) w' ∧ Below B w w' := by
  obtain ⟨i0, hi, hz0, hz1, hz2⟩ := info_parts info3_u8
  obtain ⟨hB, v, hbk, hown, hne⟩ := h
  have c0 : w.cell? ⟨b, 0, none⟩ = some (.pointer (some ⟨b, 0, none⟩)) := by rw [Lib.cell_of_heap hbk]; rfl
  have c1 : w.cell? ⟨b, 1, none⟩ = some v := by rw [Lib.cell_of_heap hbk]; rfl
  have hpos : 0 < ns.length := List.length_pos_iff.2 hns
  rcases hb0 with hb0 | ⟨g0, o0, rfl, hcell⟩
  · exact absurd hb0 hns
  go_enter Tryz.func74, Tryz.ntmps74
  go_wp2_with fail
  refine (copyCheck_used b _ c0).mono ?_
  rintro e w1 ⟨rfl, rfl⟩
  go_wp2_with (at_builtin; refine wpList_append_own _ rfl _ _ 42 rfl B 5 i0 (.int .u8 0) 1 1 Tryz.underlying42 hi hz0 hz1 hz2 rfl (by decide) _ _ _ rfl hown ⟨g0, o0, none⟩ ns.length c (Lib.byteCells ns) rfl ?c0 ?c1 ?c2 ?c3 ?c4 ?c5 ?_)
  case c0 => rw [Lib.byteCells_length, Nat.mul_one]
  case c1 =>
    intro j u hj
    rw [show (⟨g0, o0, none⟩ : Addr).add j = ⟨g0, o0 + j, none⟩ from by unfold Addr.add; split <;> simp_all]
    unfold Lib.byteCells at hj
    rw [List.getElem?_map] at hj
    obtain ⟨x, hx, rfl⟩ := Option.map_eq_some_iff.1 hj
    exact hcell j x hx
  case c2 => intro u hu; unfold Lib.byteCells at hu; obtain ⟨x, _, rfl⟩ := List.mem_map.1 hu; rfl
  case c3 => unfold maxLen; omega
  case c4 => omega
  case c5 => exact hBw
  intro v' w2 hown' hgrow _
  have hlt : b < w.heap.size := by
    rcases Nat.lt_or_ge b w.heap.size with h' | h'
    · exact h'
    · simp [Array.getElem?_eq_none h'] at hbk
  have hb2 : w2.heap[b]? = some (.cells #[.pointer (some ⟨b, 0, none⟩), v] 169 (0, 0)) := by
    rw [hgrow.block b hlt (fun e => hne e.symm)]
    exact hbk
  have d0 : w2.cell? ⟨b, 0, none⟩ = some (.pointer (some ⟨b, 0, none⟩)) := by rw [Lib.cell_of_heap hb2]; rfl
  have d1 : w2.cell? ⟨b, 1, none⟩ = some v := by rw [Lib.cell_of_heap hb2]; rfl
  have f1 : w2.frozen? ⟨b, 1, none⟩ = false := Lib.frozen_of_heap hb2 1
  obtain ⟨g, cap, rfl⟩ : ∃ g cap, v' = .slice (some ⟨g, 0, none⟩) (bs.length + ns.length) cap := by
    rcases hown'.2 with ⟨_, h0⟩ | ⟨g, cap, cur, hv, _⟩
    · omega
    · exact ⟨g, cap, hv⟩
  go_wp2
  go_ret2
  refine ⟨rfl, ?_, ?_⟩
  · exact Lib.BuilderAt.put (T := 169) (e := 5) hB hb2 (bs' := bs ++ Lib.byteCells ns) (by simpa [Lib.byteCells_length] using hown') (by decide)
  · exact ((Below.refl B w).grown hgrow hBw (fun k hk => (hown.lt k hk).1)).setCell (p := ⟨b, 1, none⟩) hB _

theorem BytesAt.of_head {w : World} {g : Nat} {t : TypeId} {fr : Nat × Nat} {bs : List UInt8} {r : List Value} (h : w.heap[g]? = some (.cells (Lib.byteCells bs ++ r).toArray t fr)) : BytesAt w (some ⟨g, 0, none⟩) bs :=
  .inr ⟨g, 0, rfl, fun j x hj => by
    have hl : j < (Lib.byteCells bs).length := by rw [Lib.byteCells_length]; exact (List.getElem?_eq_some_iff.1 hj).1
    have : (Lib.byteCells bs ++ r)[j]? = some (.int .u8 (x.toNat : Int)) := by rw [List.getElem?_append_left hl]; unfold Lib.byteCells; rw [List.getElem?_map, hj]; rfl
    simp only [World.cell?, h, Nat.zero_add]
    simpa using this⟩

theorem builder_below {T e : TypeId} {B b : Nat} {p : Value} {bs : List Value} {w w' : World} (h : Lib.BuilderAt T e B b p bs w) (hb : Below w.heap.size w w') : Lib.BuilderAt T e B b p bs w' := by
  have hlt := h.lt
  obtain ⟨hB, v, hbk, hown, hne⟩ := h
  exact ⟨hB, v, (hb.block _ hlt).trans hbk, hown.kept (row := none) ⟨hb.os, hb.tape, hb.output, hb.size, fun i hi _ => hb.block i hi⟩ (by cases hv : v.ownBlock <;> simp), hne⟩

theorem BytesAt.of_cells {w : World} {g : Nat} {t : TypeId} {fr : Nat × Nat} {bs : List UInt8} (h : w.heap[g]? = some (.cells (Lib.byteCells bs).toArray t fr)) : BytesAt w (some ⟨g, 0, none⟩) bs :=
  .inr ⟨g, 0, rfl, fun j x hj => by
    have : (Lib.byteCells bs)[j]? = some (.int .u8 (x.toNat : Int)) := by unfold Lib.byteCells; rw [List.getElem?_map, hj]; rfl
    simp [World.cell?, h, this]⟩

set_option maxRecDepth 100000 in
set_option maxHeartbeats 1600000 in
theorem tryV0_ok (dig : List UInt8) (hd : dig.length = 32) (A : Option Addr) (M c : Nat) (w : World) (h : BytesAt w A (mhOf 18 dig)) (hM : (mhOf 18 dig).length = M) (hc : M ≤ c) :
    Calls Tryz.prog 71 #[.slice A M c] w fun e w' => e = .returned (.tuple #[.agg #[.string (sOf (mhOf 18 dig))], .nilIface]) ∧ Below w.heap.size w w' := by
  go_enter Tryz.func71, Tryz.ntmps71
  go_wp2_with fail
  refine (Decode_ok 18 (by omega) dig (by omega) A M c _ (h.below (below_boxed _ _)) hM hc).mono ?_
  rintro e w2 ⟨g, A2, c2, rfl, hc2, hS2, hb2, hg2, hblk⟩
  rw [hd] at hblk
  have k0 : w2.cell? ⟨g, 0, none⟩ = some (.int .u64 18) := by simp [World.cell?, hblk]
  have k2 : w2.cell? ⟨g, 2, none⟩ = some (.int .i64 32) := by simp [World.cell?, hblk]
  obtain ⟨hcc, hff⟩ := bcell hb2
  have hz2 : w.heap.size < w2.heap.size := by have := hb2.size; simp at this; omega
  have hA2 : BytesAt w2 A (mhOf 18 dig) := (h.below (below_boxed _ _)).below hb2
  have hv := bytes_string (P := Tryz.prog) Tryz.underlying164 Tryz.underlying5 Tryz.underlying9 w2 A _ c hA2
  rw [hM] at hv
  go_wp2_with fail
  refine bodyPost_ret (v := .tuple #[.agg #[.string (sOf (mhOf 18 dig))], .nilIface]) (by simp [results, Tryz.results71, go_sem, hcc, hff, hz2, sOf]) rfl ?_
  exact ⟨rfl, by (repeat (first | (with_reducible exact Below.refl _ _) | (with_reducible exact below_boxed _ _) | (with_reducible refine below_box ?_ _) | (with_reducible refine below_drew1 ?_) | (with_reducible refine below_drewn ?_ _) | (with_reducible refine below_bytes ?_ _ _) | (with_reducible refine below_next ?_ (by assumption)) | (with_reducible refine below_set ?_ (by first | (simp; done) | (simp; omega) | omega) _)))⟩

set_option maxRecDepth 100000 in
set_option maxHeartbeats 1600000 in
theorem NewCidV0_ok (dig : List UInt8) (hd : dig.length = 32) (A : Option Addr) (M c : Nat) (w : World) (h : BytesAt w A (mhOf 18 dig)) (hM : (mhOf 18 dig).length = M) (hc : M ≤ c) :
    Calls Tryz.prog 61 #[.slice A M c] w fun e w' => e = .returned (.agg #[.string (sOf (mhOf 18 dig))]) ∧ Below w.heap.size w w' := by
  generalize hs : sOf (mhOf 18 dig) = s
  have HS := Lib.hid hs; clear hs
  go_enter Tryz.func61, Tryz.ntmps61
  go_wp2_with fail
  refine (tryV0_ok dig hd A M c _ (h.below (below_boxed _ _)) hM hc).mono ?_
  rintro e w2 ⟨rfl, hb2⟩
  rw [HS.out]
  obtain ⟨hcc, hff⟩ := bcell hb2
  have hz2 : w.heap.size < w2.heap.size := by have := hb2.size; simp at this; omega
  go_wp2_with fail
  refine bodyPost_ret (v := .agg #[.string s]) (by simp [results, Tryz.results61, go_sem, hcc, hff, hz2]) rfl ?_
  exact ⟨rfl, by (repeat (first | (with_reducible exact Below.refl _ _) | (with_reducible exact below_boxed _ _) | (with_reducible refine below_box ?_ _) | (with_reducible refine below_drew1 ?_) | (with_reducible refine below_drewn ?_ _) | (with_reducible refine below_bytes ?_ _ _) | (with_reducible refine below_next ?_ (by assumption)) | (with_reducible refine below_set ?_ (by first | (simp; done) | (simp; omega) | omega) _)))⟩

set_option maxRecDepth 100000 in
set_option maxHeartbeats 3200000 in
theorem NewCidV1_ok (codec : Nat) (hcodec : codec < 9223372036854775808) (mh : List UInt8) (hml : mh.length ≤ 2147483900 ∧ 2 ≤ mh.length) (A : Option Addr) (c : Nat) (w : World) (h : BytesAt w A mh) (hc : mh.length ≤ c) :
    Calls Tryz.prog 62 #[.int .u64 codec, .slice A mh.length c] w fun e w' => e = .returned (.agg #[.string (sOf ([1] ++ (Lib.uvarint codec ++ mh)))]) ∧ Below w.heap.size w w' := by
  have h9 := uvarint_le9 hcodec
  have h9p := Lib.uvarint_pos codec
  go_enter Tryz.func62, Tryz.ntmps62
  go_wp2_with fail
  refine (UvarintSize_ok codec (by omega) _).mono ?_
  rintro e w1 ⟨rfl, rfl⟩
  go_wp2_with fail
  have hg := Tryz.Builder_Grow_fresh (w.heap.size + 1) (w.heap.size + 1) (1 + (Lib.uvarint codec).length + mh.length) ((w.alloc (.cells #[.string ⟨#[]⟩] 112)).alloc (.cells #[.pointer none, .slice none 0 0] 169)) (Nat.le_refl _) (by have := heap_alloc_new (w.alloc (.cells #[.string ⟨#[]⟩] 112)) (.cells #[.pointer none, .slice none 0 0] 169); simpa using this) (by simp) (by omega)
  refine hg.mono ?_
  clear hg
  rintro e w1 ⟨rfl, hB1, hb1⟩
  have hb1w : Below w.heap.size w w1 := (by (repeat (first | (with_reducible exact Below.refl _ _) | (with_reducible exact below_boxed _ _) | (with_reducible refine below_box ?_ _) | (with_reducible refine below_drew1 ?_) | (with_reducible refine below_drewn ?_ _) | (with_reducible refine below_bytes ?_ _ _) | (with_reducible refine below_next ?_ (by assumption)) | (with_reducible refine below_set ?_ (by first | (simp; done) | (simp; omega) | omega) _))) : Below w.heap.size w ((w.alloc (.cells #[.string ⟨#[]⟩] 112)).alloc (.cells #[.pointer none, .slice none 0 0] 169))).trans (hb1.mono (by omega))
  have hz1 : w.heap.size + 1 < w1.heap.size := by have := hb1.size; simp at this; omega
  go_wp2_with fail
  refine (WriteByte_ok (w.heap.size + 1) (w.heap.size + 1) [] 1 _ hB1 (by simp) (by omega)).mono ?_
  rintro e w2 ⟨rfl, hB2, hb2⟩
  have hz2 : w.heap.size + 1 < w2.heap.size := by have := hb2.size; omega
  go_wp2_with fail
  have hpu := PutUvarint_ok w2.heap.size 0 10 10 codec (by omega) [Value.int .u8 0, Value.int .u8 0, Value.int .u8 0, Value.int .u8 0, Value.int .u8 0, Value.int .u8 0, Value.int .u8 0, Value.int .u8 0, Value.int .u8 0, Value.int .u8 0] 172 (w2.alloc (.cells #[Value.int .u8 0, Value.int .u8 0, Value.int .u8 0, Value.int .u8 0, Value.int .u8 0, Value.int .u8 0, Value.int .u8 0, Value.int .u8 0, Value.int .u8 0, Value.int .u8 0] 172)) (heap_alloc_new _ _) (by omega) (by simp; omega)
  refine hpu.mono ?_
  clear hpu
  rintro e w3 ⟨rfl, hg3, hb3⟩
  have hb3' := hb3 w2.heap.size (Nat.le_refl _)
  have hb23 : Below w2.heap.size w2 w3 := (below_boxed w2 _).trans hb3'
  have hz3 : w.heap.size + 1 < w3.heap.size := by have := hb23.size; omega
  have hA3 : BytesAt w3 (some ⟨w2.heap.size, 0, none⟩) (Lib.uvarint codec) := by
    unfold splice at hg3
    exact BytesAt.of_head (by rw [hg3]; rfl)
  have hBl3 : Lib.BuilderAt 169 5 (w.heap.size + 1) (w.heap.size + 1) (.pointer (some ⟨w.heap.size + 1, 0, none⟩)) ([] ++ [.int .u8 1]) w3 := builder_below hB2 hb23
  have HG3 := Lib.hid hg3; clear hg3
  have h10 : (Lib.uvarint codec).length ≤ 10 := by omega
  have h10i : ((Lib.uvarint codec).length : Int) ≤ 10 := by omega
  go_wp2_with fail
  refine (Write_ok (w.heap.size + 1) (w.heap.size + 1) _ _ _ (Lib.uvarint codec) (by intro e; rw [e] at h9p; simp at h9p) _ hBl3 hA3 (by simp; omega) (by omega)).mono ?_
  rintro e w4 ⟨rfl, hB4, hb4⟩
  have hb4' : Below w.heap.size w w4 := ((hb1w.trans (hb2.mono (by omega))).trans (hb23.mono (by omega))).trans (hb4.mono (by omega))
  have hz4 : w.heap.size + 1 < w4.heap.size := by have := hb4.size; omega
  go_wp2_with fail
  refine (Write_ok (w.heap.size + 1) (w.heap.size + 1) _ A c mh (by intro e; rw [e] at hml; simp at hml) _ hB4 (h.below hb4') (by simp [Lib.byteCells_length]; omega) (by omega)).mono ?_
  rintro e w5 ⟨rfl, hB5, hb5⟩
  have hb5' : Below w.heap.size w w5 := hb4'.trans (hb5.mono (by omega))
  have hz5 : w.heap.size + 1 < w5.heap.size := by have := hb5.size; omega
  go_wp2_with fail
  have hcells : [] ++ [Value.int .u8 1] ++ Lib.byteCells (Lib.uvarint codec) ++ Lib.byteCells mh = Lib.byteCells ([1] ++ (Lib.uvarint codec ++ mh)) := by
    unfold Lib.byteCells; simp
  rw [hcells] at hB5
  refine (Tryz.Builder_String_any (w.heap.size + 1) (w.heap.size + 1) _ _ (.inr hB5) (by omega)).mono ?_
  rintro e w6 ⟨rfl, hb6⟩
  have hz6 : w.heap.size + 1 < w6.heap.size := by have := hb6.size; omega
  have hall : Below (w.heap.size + 1) ((w.alloc (.cells #[.string ⟨#[]⟩] 112)).alloc (.cells #[.pointer none, .slice none 0 0] 169)) w6 :=
    ((((hb1.trans hb2).trans (hb23.mono (by omega))).trans hb4).trans hb5).trans hb6
  have q0 : w6.cell? ⟨w.heap.size, 0, none⟩ = some (.string ⟨#[]⟩) := by rw [hall.cell (by simp)]; simp
  have qf : w6.frozen? ⟨w.heap.size, 0, none⟩ = false := by rw [hall.frozen (by simp)]; simp
  generalize hs : (⟨([1] ++ (Lib.uvarint codec ++ mh)).toArray⟩ : ByteArray) = s
  have HS := Lib.hid hs; clear hs
  go_wp2_with fail
  refine bodyPost_ret (v := .agg #[.string s]) (by simp [results, Tryz.results62, go_sem, q0, qf]) rfl ?_
  refine ⟨by rw [← HS.out]; rfl, ?_⟩
  refine below_set ?_ (Nat.le_refl _) _
  exact hb5'.trans (hb6.mono (by omega))
end Go.Proofs.YtgdgmegpacmgnaaGreatDoor

/- cidIn: an identifier made, behind a deferred recover. -/
namespace Go.Proofs.YtgdgmegpacmgnaaGreatDoor
open Go.RowKit
set_option linter.unusedVariables false
set_option linter.unusedSimpArgs false
attribute [local go_sem] setCell_drewN alloc_drewN

set_option maxRecDepth 100000 in
theorem catch_idle (p q : Addr) (w : World) :
    CallsD Tryz.prog 59 #[.pointer (some p), .pointer (some q)] .returning w fun e u' w' => e = .returned (.tuple #[]) ∧ u' = .returning ∧ w = w' := by
  refine callsD_of_wpS Tryz.func59 rfl fun c₀ cs hu => ?_
  apply wpS_seq
  apply wpS_region
  simp [wpOpsS, go_sem, recoverD, hu, Tryz.ntmps59, Exit.thenS]
  refine wpS_cond (t := false) (by simp [Act.eval, Array.replicate]) ?_
  simp only [Bool.false_eq_true, if_false]
  refine wpS_of_wp (wp_skip ?_)
  cases c₀
  simp_all [bodyPostS, results, Tryz.results59]

set_option maxRecDepth 100000 in
set_option maxHeartbeats 3200000 in
theorem cidIn_v1 (c : CidOf) (hc : c.Ok) (h1 : c.ver = 1) (w : World) :
    Calls Tryz.prog 44 #[.agg #[.int .u64 1, .int .u64 c.codec, .int .u64 c.code, .string (sOf c.dig)]] w fun e w' => e = .returned (.tuple #[.agg #[.string c.str], .bool true]) ∧ Below w.heap.size w w' := by
  have hmf : ∀ (fn : Fn) (first cap : Array Value) (w : World), (Instr.makeFunc fn first cap).run Tryz.prog w = .ok (.func fn first cap) w := fun _ _ _ _ => rfl
  have hd := hc.dig
  have hmh : c.mh = mhOf c.code c.dig := rfl
  have hml := CidOf.mh_length hc
  have hss : (sOf c.dig).size = c.dig.length := rfl
  have hst : c.str = sOf ([1] ++ (Lib.uvarint c.codec ++ c.mh)) := by unfold CidOf.str CidOf.bytes; rw [if_neg (by omega), uvarint_1]; rfl
  generalize c.str = str at *
  have HST := Lib.hid hst; clear hst
  generalize hs : sOf c.dig = s at *
  have HS := Lib.hid hs; clear hs
  have HMH := Lib.hid hmh; clear hmh
  have HSS := Lib.hid hss; clear hss
  go_enter_defers Tryz.func44, Tryz.ntmps44
  go_wp2_with (with_reducible refine conv_event rfl (.tmp 9) 9 42 5 rfl Tryz.underlying9 Tryz.underlying42 Tryz.underlying5 s rfl ?_)
  intro g0 cap0 w0 hg0 hcap0 hb0 hA0 hB0
  subst hg0
  obtain ⟨hcc, hff⟩ := bcellB hb0
  have hz0 : w.heap.size + 1 + 1 + 1 ≤ w0.heap.size := by have := hb0.size; simp at this; omega
  have hz01 : w.heap.size < w0.heap.size := by omega
  have hz02 : w.heap.size + 1 < w0.heap.size := by omega
  have hz03 : w.heap.size + 1 + 1 < w0.heap.size := by omega
  have hdl : s.data.toList = c.dig := by rw [← HS.out]; rfl
  rw [hdl] at hA0
  rw [HSS.out] at hcap0
  clear hdl
  rw [HSS.out]
  go_wp2_with fail
  have hen := Encode_ok c.code hc.code c.dig (by omega) _ cap0 w0 hA0 hcap0
  refine hen.mono ?_
  clear hen
  rintro e w1 ⟨g1, rfl, hg1, hb1, hle1⟩
  have hA1 : BytesAt w1 (some ⟨g1, 0, none⟩) c.mh := BytesAt.of_cells hg1
  rw [← HMH.out]
  clear hcc hff
  have hb01 : Below (w.heap.size + 1 + 1 + 1) _ w1 := hb0.trans (hb1.mono hz0)
  obtain ⟨hcc, hff⟩ := bcellB hb01
  have HG1 := Lib.hid hg1; clear hg1
  go_wp2_with fail
  refine (NewCidV1_ok c.codec hc.codec c.mh (by omega) _ _ _ hA1 (Nat.le_refl _)).mono ?_
  rw [← HST.out]
  rintro e w2 ⟨rfl, hb2⟩
  clear hcc hff
  have hz1 : w.heap.size + 1 + 1 + 1 ≤ w1.heap.size := by have := hb1.size; omega
  have hb02 : Below (w.heap.size + 1 + 1 + 1) _ w2 := hb01.trans (hb2.mono hz1)
  obtain ⟨hcc, hff⟩ := bcellB hb02
  go_wp2_with fail
  refine leaves_cons (f := 59) (args := #[.pointer (some ⟨w.heap.size + 1, 0, none⟩), .pointer (some ⟨w.heap.size + 1 + 1, 0, none⟩)]) (by simp) (by simp [go_sem]) ?_
  refine (catch_idle _ _ _).mono ?_
  rintro e u' w'' ⟨rfl, rfl, rfl⟩
  simp [Leaves, settle, results, Tryz.results44, go_sem, hcc, hff]
  refine below_set (below_set ?_ (by simp) _) (by simp; omega) _
  exact Below.trans (by (repeat (first | (with_reducible exact Below.refl _ _) | (with_reducible exact below_boxed _ _) | (with_reducible refine below_box ?_ _) | (with_reducible refine below_drew1 ?_) | (with_reducible refine below_drewn ?_ _) | (with_reducible refine below_bytes ?_ _ _) | (with_reducible refine below_next ?_ (by assumption)) | (with_reducible refine below_set ?_ (by first | (simp; done) | (simp; omega) | omega) _)))) (hb02.mono (by omega))

set_option maxRecDepth 100000 in
set_option maxHeartbeats 3200000 in
theorem cidIn_v0 (c : CidOf) (hc : c.Ok) (h1 : c.ver = 0) (w : World) :
    Calls Tryz.prog 44 #[.agg #[.int .u64 0, .int .u64 112, .int .u64 18, .string (sOf c.dig)]] w fun e w' => e = .returned (.tuple #[.agg #[.string c.str], .bool true]) ∧ Below w.heap.size w w' := by
  have hmf : ∀ (fn : Fn) (first cap : Array Value) (w : World), (Instr.makeFunc fn first cap).run Tryz.prog w = .ok (.func fn first cap) w := fun _ _ _ _ => rfl
  have hd := hc.dig
  have hmh : c.mh = mhOf c.code c.dig := rfl
  have hml := CidOf.mh_length hc
  have hss : (sOf c.dig).size = c.dig.length := rfl
  have hd32 : c.dig.length = 32 := by rcases hc.ver with h | h <;> omega
  have hcode : c.code = 18 := by rcases hc.ver with h | h <;> omega
  have hst : c.str = sOf c.mh := by unfold CidOf.str CidOf.bytes; rw [if_pos h1]; rfl
  rw [hcode] at hmh
  generalize c.str = str at *
  have HST := Lib.hid hst; clear hst
  generalize hs : sOf c.dig = s at *
  have HS := Lib.hid hs; clear hs
  have HMH := Lib.hid hmh; clear hmh
  have HSS := Lib.hid hss; clear hss
  have HD := Lib.hid hd32; clear hd32
  clear hcode h1
  go_enter_defers Tryz.func44, Tryz.ntmps44
  go_wp2_with (with_reducible refine conv_event rfl (.tmp 9) 9 42 5 rfl Tryz.underlying9 Tryz.underlying42 Tryz.underlying5 s rfl ?_)
  intro g0 cap0 w0 hg0 hcap0 hb0 hA0 hB0
  subst hg0
  obtain ⟨hcc, hff⟩ := bcellB hb0
  have hz0 : w.heap.size + 1 + 1 + 1 ≤ w0.heap.size := by have := hb0.size; simp at this; omega
  have hz01 : w.heap.size < w0.heap.size := by omega
  have hz02 : w.heap.size + 1 < w0.heap.size := by omega
  have hz03 : w.heap.size + 1 + 1 < w0.heap.size := by omega
  have hdl : s.data.toList = c.dig := by rw [← HS.out]; rfl
  rw [hdl] at hA0
  rw [HSS.out] at hcap0
  clear hdl
  rw [HSS.out]
  go_wp2_with fail
  have hen := Encode_ok 18 (by omega) c.dig (by omega) _ cap0 w0 hA0 hcap0
  refine hen.mono ?_
  clear hen
  rintro e w1 ⟨g1, rfl, hg1, hb1, hle1⟩
  have hA1 : BytesAt w1 (some ⟨g1, 0, none⟩) (mhOf 18 c.dig) := BytesAt.of_cells hg1
  rw [← HMH.out]
  clear hcc hff
  have hb01 : Below (w.heap.size + 1 + 1 + 1) _ w1 := hb0.trans (hb1.mono hz0)
  obtain ⟨hcc, hff⟩ := bcellB hb01
  have HG1 := Lib.hid hg1; clear hg1
  go_wp2_with fail
  have hz1 : w.heap.size + 1 + 1 + 1 ≤ w1.heap.size := by have := hb1.size; omega
  have hfin : Below w.heap.size w w1 := Below.trans (by (repeat (first | (with_reducible exact Below.refl _ _) | (with_reducible exact below_boxed _ _) | (with_reducible refine below_box ?_ _) | (with_reducible refine below_drew1 ?_) | (with_reducible refine below_drewn ?_ _) | (with_reducible refine below_bytes ?_ _ _) | (with_reducible refine below_next ?_ (by assumption)) | (with_reducible refine below_set ?_ (by first | (simp; done) | (simp; omega) | omega) _)))) (hb01.mono (by omega))
  have hA1d : BytesAt w1.drew (some ⟨g1, 0, none⟩) (mhOf 18 c.dig) := hA1
  clear hA1
  refine wp_region_noPanic ?_
  go_region_with (go_at_call 61; refine (NewCidV0_ok c.dig HD.out _ _ _ _ hA1d (by rw [HMH.out]) (Nat.le_refl _)).mono ?_; rintro e w2 ⟨rfl, hb2⟩; have hb2' : Below w1.heap.size w1 w2 := ⟨hb2.os, hb2.tape, hb2.output, hb2.size, hb2.block⟩; obtain ⟨hcc2, hff2⟩ := bcellB (hb01.trans (hb2'.mono hz1)))
  all_goals
    refine NoPanic.normal ?_
    have hstr : sOf (mhOf 18 c.dig) = str := by rw [HST.out, HMH.out]
    go_wp2_with fail
    refine leaves_cons (f := 59) (args := #[.pointer (some ⟨w.heap.size + 1, 0, none⟩), .pointer (some ⟨w.heap.size + 1 + 1, 0, none⟩)]) (by simp) (by simp [go_sem]) ?_
    refine (catch_idle _ _ _).mono ?_
    rintro e u' w'' ⟨rfl, rfl, rfl⟩
    simp [Leaves, settle, results, Tryz.results44, go_sem, hcc2, hff2]
    have hfin2 := below_next hfin hb2'
    refine ⟨hstr, below_set (below_set ?_ ?_ _) ?_ _⟩
    · exact hfin2
    · show w.heap.size ≤ w.heap.size + 1; omega
    · show w.heap.size ≤ w.heap.size + 1 + 1; omega

theorem cidIn_ok (c : CidOf) (hc : c.Ok) (w : World) :
    Calls Tryz.prog 44 #[.agg #[.int .u64 c.ver, .int .u64 c.codec, .int .u64 c.code, .string (sOf c.dig)]] w fun e w' => e = .returned (.tuple #[.agg #[.string c.str], .bool true]) ∧ Below w.heap.size w w' := by
  rcases hc.ver with h | h
  · obtain ⟨h0, h1, h2, h3⟩ := h
    rw [h0, h1, h2]
    exact cidIn_v0 c hc h0 w
  · rw [h]; exact cidIn_v1 c hc h w
end Go.Proofs.YtgdgmegpacmgnaaGreatDoor

/- The offsets that are told, collected. -/
namespace Go.Proofs.YtgdgmegpacmgnaaGreatDoor
open Go.RowKit
set_option linter.unusedVariables false
set_option linter.unusedSimpArgs false
attribute [local go_sem] setCell_drewN alloc_drewN

def offVal (o : Nat) : Value := .int .u64 (o : Int)
/-- What was told: os, in the variable at block ob; at most so many, in the one at block mb. -/
structure OutAt (w : World) (ob mb most : Nat) (os : List Nat) : Prop where
  blk : ∃ v, w.heap[ob]? = some (.cells #[v] 66 (0, 0)) ∧ w.ownsRow (ob + 1) 22 1 v os.length (os.map offVal)
  most : w.cell? ⟨mb, 0, none⟩ = some (.int .i64 (most : Int))
  lt : mb < ob

theorem info_u64 : (Tryz.prog.info? 22).map (fun i => (i.zero, i.size, i.bytes)) = some (some (.int .u64 0), 1, 8) := by kernel_rfl
/-- What an append or a told offset keeps: all below ob, and what is no row of offsets. -/
structure Told (ob : Nat) (w w' : World) : Prop where
  bel : Below ob w w'
  oth : Lib.OthersKept 22 (some ob) w w'
theorem Told.refl (ob : Nat) (w : World) : Told ob w w := ⟨Below.refl _ _, Lib.OthersKept.refl _ _ _⟩
theorem Told.trans {ob : Nat} {a b c : World} (h : Told ob a b) (k : Told ob b c) : Told ob a c := ⟨h.bel.trans k.bel, h.oth.trans k.oth⟩
theorem Told.drewN {ob : Nat} {a b : World} (h : Told ob a b) (n : Nat) : Told ob a (b.drewN n) := ⟨⟨h.bel.os, h.bel.tape, h.bel.output, h.bel.size, h.bel.block⟩, h.oth⟩
theorem Told.cells {ob : Nat} {w w' : World} (h : Told ob w w') {g : Nat} {cs : Array Value} {t : TypeId} {fz : Nat × Nat} (hg : w.heap[g]? = some (.cells cs t fz)) (hn : g ≠ ob) (ht : t ≠ 22) : w'.heap[g]? = some (.cells cs t fz) :=
  h.oth g _ hg (fun e => hn (by simpa using e)) (fun c z e => by cases e; exact ht rfl)

set_option maxRecDepth 100000 in
set_option maxHeartbeats 800000 in
theorem tell_ok (ob mb most : Nat) (os : List Nat) (o : Nat) (w : World) (h : OutAt w ob mb most os) (hl : os.length ≤ 1000000) :
    Calls Tryz.prog 46 #[.int .u64 (o : Int), .pointer (some ⟨ob, 0, none⟩), .pointer (some ⟨mb, 0, none⟩)] w fun e w' => e = .returned (.bool (decide (os.length + 1 < most))) ∧ OutAt w' ob mb most (os ++ [o]) ∧ Told ob w w' := by
  obtain ⟨i0, hi, hz0, hz1, hz2⟩ := info_parts info_u64
  obtain ⟨⟨v, hb, hown⟩, hm, hlt⟩ := h
  have c0 := (blk_cell' hb 0).trans (show _ = some v from rfl)
  have f0 := blk_free' hb 0
  have hob := (Array.getElem?_eq_some_iff.1 hb).1
  go_enter Tryz.func46, Tryz.ntmps46
  go_wp2_with (at_builtin; refine wpList_append_own _ rfl _ _ 66 rfl (ob + 1) 22 i0 (.int .u64 0) 1 8 Tryz.underlying66 hi hz0 hz1 hz2 rfl (by decide) _ _ _ rfl (hown.alloc _) ⟨w.heap.size, 0, none⟩ 1 1 [.int .u64 (o : Int)] rfl rfl (one_cell _ _ _) (ints_oneCell .u64 [(o : Int)]) ?c3 ?c4 ?c5 ?_)
  case c3 => unfold maxLen; omega
  case c4 => omega
  case c5 => simp; omega
  intro v' w1 hown1 hgrow _
  have hg1 : (w.alloc (.cells #[.int .u64 (o : Int)] 22)).grownBy w1 v.ownBlock := hgrow
  have hvo : ∀ k, v.ownBlock = some k → ob + 1 ≤ k ∧ k < w.heap.size := hown.lt
  have hb1 : w1.heap[ob]? = some (.cells #[v] 66 (0, 0)) := (hgrow.block ob (by simp; omega) (fun e => by have := (hvo ob e.symm).1; omega)).trans ((heap_alloc_old w _ hob).trans hb)
  have f1 := blk_free' hb1 0
  have k1 := (blk_cell' hb1 0).trans (show _ = some v from rfl)
  have hz1 : w.heap.size < w1.heap.size := by have := hgrow.size; simp at this; omega
  have hm1 : w1.cell? ⟨mb, 0, none⟩ = some (.int .i64 (most : Int)) := (World.cell?_of_block (w := w) ((hgrow.block mb (by simp; omega) (fun e => by have := (hvo mb e.symm).1; omega)).trans (heap_alloc_old w _ (by omega)))).trans hm
  rcases hown1.2 with ⟨_, hbad⟩ | ⟨g, cap, cur, rfl, hge, hg, hle, hcm, hcs, htk⟩
  · omega
  have hne : g ≠ ob := by omega
  go_wp2_with fail
  go_ret
  have hb2 : (w1.setCell ⟨ob, 0, none⟩ (.slice (some ⟨g, 0, none⟩) (os.length + 1) cap)).heap[ob]? = some (.cells #[.slice (some ⟨g, 0, none⟩) (os.length + 1) cap] 66 (0, 0)) := by
    rw [setCell_eq_setRow w1 ob 0 _ _ _ _ hb1, setRow_heap w1 ob _ _ _ _ hb1]; rfl
  have hbel : Below ob w w1 := ((below_boxed w _).mono (Nat.le_of_lt hob)).trans ⟨hgrow.os, hgrow.tape, hgrow.output, hgrow.size, fun k hk => hgrow.block k (by simp; omega) (fun e => by have := (hvo k e.symm).1; omega)⟩
  have hoth : Lib.OthersKept 22 (some ob) w w1 := ((Lib.OthersKept.refl _ _ w).alloc _).grown hgrow (fun g' hg' => by
    rcases (hown.alloc (.cells #[.int .u64 (o : Int)] 22)).2 with ⟨rfl, _⟩ | ⟨g2, cap2, cur2, rfl, _, h2, _⟩
    · cases hg'
    · cases hg'; exact ⟨_, _, h2⟩)
  refine ⟨congrArg (fun b => Ending.returned (.bool b)) (decide_eq_decide.2 (by omega)), ⟨⟨_, hb2, ?_⟩, ?_, hlt⟩, ⟨hbel.setCell (Nat.le_refl _) _, hoth.setCell _ rfl _⟩⟩
  · refine ⟨by simp, .inr ⟨g, cap, cur, by simp, hge, (Below.heap_setCell _ _ _ _ hne).trans hg, by simpa using hle, hcm, hcs, ?_⟩⟩
    simp only [List.length_append, List.length_cons, List.length_nil, List.map_append, List.map_cons, List.map_nil, offVal] at htk ⊢
    exact htk
  · exact (World.cell?_of_block (w := w1) (Below.heap_setCell _ _ _ _ (by show mb ≠ ob; omega))).trans hm1
end Go.Proofs.YtgdgmegpacmgnaaGreatDoor

/- All offsets for a digest, of one width. -/
namespace Go.Proofs.YtgdgmegpacmgnaaGreatDoor
open Go.RowKit
set_option linter.unusedVariables false
set_option linter.unusedSimpArgs false
attribute [local go_sem] setCell_drewN alloc_drewN

/-- The offsets of the rows from i on, as long as they have the digest d; at most k rows are looked at. -/
def runFrom (width : Nat) (data d : List UInt8) : Nat → Nat → List Nat
  | 0, _ => []
  | k + 1, i => if d = rowDig width data i then Lib.leNat (rowOff width data i) :: runFrom width data d k (i + 1) else []

theorem Told.keepB {ob : Nat} {w w' : World} {t : TypeId} {A : Option Addr} {bs : List UInt8} (h : Told ob w w') (hA : BytesAt w A bs) (hB : ByteBlk w t A) (ht : t ≠ 22) (hn : ∀ ad, A = some ad → ad.block ≠ ob) : BytesAt w' A bs ∧ ByteBlk w' t A := by
  have hk : ∀ ad, A = some ad → w'.heap[ad.block]? = w.heap[ad.block]? := by
    intro ad e
    obtain ⟨cs, fr, hh⟩ := hB ad e
    exact (h.cells hh (hn ad e) ht).trans hh.symm
  exact ⟨hA.upd hk, hB.upd hk⟩

/-- What a search needs of the memory: the width and its rows, the digest, and the two variables that the closures see. -/
structure GetI (w : World) (ob sb db g gd width n : Nat) (data d : List UInt8) (A : Option Addr) (c : Nat) : Prop where
  sec : SecAt w g gd width n data
  dig : BytesAt w A d
  blk : ByteBlk w 5 A
  s : w.heap[sb]? = some (.cells #[.pointer (some ⟨g, 0, none⟩)] 316 (0, 0))
  d : w.heap[db]? = some (.cells #[.slice A d.length c] 42 (0, 0))
  ne : sb ≠ ob ∧ db ≠ ob ∧ g ≠ ob ∧ gd ≠ ob
  nA : ∀ ad, A = some ad → ad.block ≠ ob
theorem GetI.told {w w' : World} {ob sb db g gd width n : Nat} {data d : List UInt8} {A : Option Addr} {c : Nat} (h : GetI w ob sb db g gd width n data d A c) (k : Told ob w w') : GetI w' ob sb db g gd width n data d A c := by
  obtain ⟨⟨h1, h2, h3, h4, h5, h6⟩, h7, h8, h9, h10, h11, h12⟩ := h
  obtain ⟨a1, a2⟩ := k.keepB h7 h8 (by decide) h12
  exact ⟨⟨k.cells h1 h11.2.2.1 (by decide), k.cells h2 h11.2.2.2 (by decide), h3, h4, h5, h6⟩, a1, a2, k.cells h9 h11.1 (by decide), k.cells h10 h11.2.1 (by decide), h11, h12⟩
theorem OutAt.told {w w' : World} {ob mb most : Nat} {os : List Nat} (h : OutAt w ob mb most os) (hw : w'.heap = w.heap) : OutAt w' ob mb most os := by
  obtain ⟨⟨v, h1, h2⟩, h3, h4⟩ := h
  have hc : ∀ p : Addr, w'.cell? p = w.cell? p := fun p => World.cell?_of_block (by rw [hw])
  refine ⟨⟨v, by rw [hw]; exact h1, h2.1, ?_⟩, (hc _).trans h3, h4⟩
  rcases h2.2 with h | ⟨g, cap, cur, e1, e2, e3, e4⟩
  · exact .inl h
  · exact .inr ⟨g, cap, cur, e1, e2, by rw [hw]; exact e3, e4⟩
/-- A step that makes memory and leaves the rest. -/
theorem OutAt.below {w w' : World} {ob mb most : Nat} {os : List Nat} (h : OutAt w ob mb most os) (hb : Below w.heap.size w w') : OutAt w' ob mb most os := by
  obtain ⟨⟨v, h1, h2⟩, h3, h4⟩ := h
  have hl := (Array.getElem?_eq_some_iff.1 h1).1
  refine ⟨⟨v, (hb.block _ hl).trans h1, h2.1, ?_⟩, (hb.cell (p := ⟨mb, 0, none⟩) (by show mb < _; omega)).trans h3, h4⟩
  rcases h2.2 with h | ⟨g, cap, cur, e1, e2, e3, e4⟩
  · exact .inl h
  · exact .inr ⟨g, cap, cur, e1, e2, (hb.block _ (Array.getElem?_eq_some_iff.1 e3).1).trans e3, e4⟩
theorem Told.of_below {ob : Nat} {w w' : World} (h : Below w.heap.size w w') (hl : ob ≤ w.heap.size) : Told ob w w' :=
  ⟨h.mono hl, fun k o hk _ _ => (h.block k (Array.getElem?_eq_some_iff.1 hk).1).trans hk⟩

theorem eight {l : List UInt8} (h : l.length = 8) : ∃ b0 b1 b2 b3 b4 b5 b6 b7, l = [b0, b1, b2, b3, b4, b5, b6, b7] := by
  match l, h with
  | [b0, b1, b2, b3, b4, b5, b6, b7], _ => exact ⟨b0, b1, b2, b3, b4, b5, b6, b7, rfl⟩

/-- What a search ends with: the offsets told; an error if there is none. -/
def GotAll (ev : Value) (M : List Nat) (e : Ending) : Prop := e = .returned (if M = [] then ev else .nilIface)

set_option maxRecDepth 100000 in
set_option maxHeartbeats 3200000 in
theorem getAll_ok (ob mb most g gd width n : Nat) (data d : List UInt8) (A : Option Addr) (c : Nat) (ty : TypeId) (ev : Value) (w : World) (hI : SecAt w g gd width n data) (hd : BytesAt w A d) (hB : ByteBlk w 5 A) (hne : g ≠ ob ∧ gd ≠ ob) (hnA : ∀ ad, A = some ad → ad.block ≠ ob)
    (hO : OutAt w ob mb most []) (hm : 1 ≤ most) (hn : n ≤ 1000000) (hg5 : 4 < ob) (he : w.cell? ⟨4, 0, none⟩ = some (.iface ty ev)) :
    Calls Tryz.prog 194 #[.pointer (some ⟨g, 0, none⟩), .slice A d.length c, .func (.func 46) #[] #[.pointer (some ⟨ob, 0, none⟩), .pointer (some ⟨mb, 0, none⟩)]] w fun e w' =>
      ∃ r, Halves (fun i => decide (Lib.compareBytes d (rowDig width data i) ≤ 0)) n r ∧ GotAll (.iface ty ev) (runFrom width data d (n - r) r) e ∧ OutAt w' ob mb most ((runFrom width data d (n - r) r).take most) ∧ Told ob w w' := by
  have hobl : ob < w.heap.size := by obtain ⟨⟨v, h, _⟩, _⟩ := hO; exact (Array.getElem?_eq_some_iff.1 h).1
  have hgl := (Array.getElem?_eq_some_iff.1 hI.blk).1
  have hb1 : Below w.heap.size w ((w.alloc (.cells #[.pointer (some ⟨g, 0, none⟩)] 316)).alloc (.cells #[.slice A d.length c] 42)) := by (repeat (first | (with_reducible exact Below.refl _ _) | (with_reducible exact below_boxed _ _) | (with_reducible refine below_box ?_ _) | (with_reducible refine below_drew1 ?_) | (with_reducible refine below_drewn ?_ _) | (with_reducible refine below_bytes ?_ _ _) | (with_reducible refine below_next ?_ (by assumption)) | (with_reducible refine below_set ?_ (by first | (simp; done) | (simp; omega) | omega) _)))
  obtain ⟨W, hW⟩ : ∃ W, W = ((w.alloc (.cells #[.pointer (some ⟨g, 0, none⟩)] 316)).alloc (.cells #[.slice A d.length c] 42)) := ⟨_, rfl⟩
  have hT : Told ob w W := by rw [hW]; exact Told.of_below hb1 (Nat.le_of_lt hobl)
  have hG : GetI W ob w.heap.size (w.heap.size + 1) g gd width n data d A c := by
    rw [hW]
    obtain ⟨a1, a2⟩ := (Told.of_below hb1 (Nat.le_of_lt hobl)).keepB hd hB (by decide) hnA
    refine ⟨⟨?_, ?_, hI.w8, hI.wle, hI.len, hI.big⟩, a1, a2, ?_, ?_, ⟨by omega, by omega, hne.1, hne.2⟩, hnA⟩
    · exact (hb1.block _ hgl).trans hI.blk
    · exact (hb1.block _ (Array.getElem?_eq_some_iff.1 hI.row).1).trans hI.row
    · rw [heap_alloc_old _ _ (by simp), heap_alloc_last]
    · have := heap_alloc_last (w.alloc (.cells #[.pointer (some ⟨g, 0, none⟩)] 316)) (.cells #[.slice A d.length c] 42)
      simpa using this
  have hO1 : OutAt W ob mb most [] := by rw [hW]; exact hO.below hb1
  have he1 : W.cell? ⟨4, 0, none⟩ = some (.iface ty ev) := (hT.bel.cell (p := ⟨4, 0, none⟩) hg5).trans he
  have hs0 := (blk_cell' hG.sec.blk 1).trans (show _ = some (Value.int .u64 (n : Int)) from rfl)
  have hss := (blk_cell' hG.s 0).trans (show _ = some (Value.pointer (some ⟨g, 0, none⟩)) from rfl)
  have hS := Search_ok w.heap.size (w.heap.size + 1) n (fun i => decide (Lib.compareBytes d (rowDig width data i) ≤ 0)) W (by omega) (fun i q hi => lessAt_ok w.heap.size (w.heap.size + 1) g gd width n i data d A c (W.drewN q) ⟨hG.sec.blk, hG.sec.row, hG.sec.w8, hG.sec.wle, hG.sec.len, hG.sec.big⟩ hi hG.dig hss ((blk_cell' hG.d 0).trans rfl))
  have hg1 := (blk_cell' hI.blk 1).trans (show _ = some (Value.int .u64 (n : Int)) from rfl)
  rw [hW] at hS
  have hnw : IntKind.i64.wrap (n : Int) = (n : Int) := by rw [IntKind.wrap_i64]; omega
  clear hb1 hI hd hB hO he
  have hmf : ∀ (fn : Fn) (first cap : Array Value) (w : World), (Instr.makeFunc fn first cap).run Tryz.prog w = .ok (.func fn first cap) w := fun _ _ _ _ => rfl
  go_enter Tryz.func194, Tryz.ntmps194
  go_wp2_with fail
  refine hS.mono ?_
  clear hS hg1
  rintro e w1 ⟨⟨r, rfl, hH⟩, q, rfl⟩
  rw [← hW]
  have hrn := hH.1
  have HH := Lib.hid hH; clear hH
  have hG1 : GetI (W.drewN q) ob w.heap.size (w.heap.size + 1) g gd width n data d A c := hG.told ((Told.refl _ _).drewN q)
  have hO2 : OutAt (W.drewN q) ob mb most [] := hO1.told rfl
  have hT1 : Told ob w (W.drewN q) := hT.drewN q
  have he2 : (W.drewN q).cell? ⟨4, 0, none⟩ = some (.iface ty ev) := he1
  generalize W.drewN q = W1 at *
  clear hs0 hss hG hO1 hT he1 hW
  go_wp2_with fail
  go_loopw [7, 8] (fun vi va wr => ∃ (i : Nat) (os : List Nat), vi = .int .i64 (i : Int) ∧ va = .bool (!os.isEmpty) ∧ i ≤ n ∧ r ≤ i ∧ (os = [] ∨ os.length < most) ∧ os.length = i - r ∧ runFrom width data d (n - r) r = os ++ runFrom width data d (n - i) i ∧ OutAt wr ob mb most os ∧ GetI wr ob w.heap.size (w.heap.size + 1) g gd width n data d A c ∧ Told ob w wr ∧ wr.cell? ⟨4, 0, none⟩ = some (.iface ty ev)) (fun vi _ _ => n - (intOf vi).toNat)
  case atStart => exact ⟨r, [], rfl, rfl, hrn, Nat.le_refl _, .inl rfl, by simp, rfl, hO2, hG1, hT1, he2⟩
  case round =>
    clear hG1 hO2 hT1 he2
    obtain ⟨i, os, rfl, rfl, hin, hri, hos, hlen, hrun, hO, hG, hT, he⟩ := hrel
    have c0 := (blk_cell' hG.sec.blk 0).trans (show _ = some (Value.int .u32 (width : Int)) from rfl)
    have c1 := (blk_cell' hG.sec.blk 1).trans (show _ = some (Value.int .u64 (n : Int)) from rfl)
    have c2 := (blk_cell' hG.sec.blk 2).trans (show _ = some (Value.slice (some ⟨gd, 0, none⟩) data.length data.length) from rfl)
    have cs := (blk_cell' hG.s 0).trans (show _ = some (Value.pointer (some ⟨g, 0, none⟩)) from rfl)
    have cd := (blk_cell' hG.d 0).trans (show _ = some (Value.slice A d.length c) from rfl)
    have hiw : IntKind.u64.wrap (i : Int) = (i : Int) := by rw [IntKind.wrap_u64]; omega
    by_cases hlt : i < n
    · obtain ⟨b1, b2⟩ := row_bounds hG.sec.w8 hG.sec.len hlt
      have hrd := rowDig_len hG.sec.w8 hG.sec.len hlt
      have h8 := hG.sec.w8
      have hwl := hG.sec.wle
      have hbig := hG.sec.big
      have hrow := hG.sec.row
      obtain ⟨p, hp⟩ : ∃ p, p = i * width := ⟨_, rfl⟩
      rw [← hp] at b1 b2
      have hm1 := mul_wrap hp (by omega)
      have hm2 : IntKind.i64.wrap (((i : Int) + 1) * (width : Int)) = ((p + width : Nat) : Int) := by
        have := mul_wrap (a := i + 1) (b := width) (p := p + width) b2.symm (by omega)
        simpa using this
      have hrb : BytesAt wr (some ⟨gd, p, none⟩) (rowDig width data i) := by unfold rowDig; rw [← hp]; exact row_bytes hrow p (width - 8)
      have hoff : rowOff width data i = (data.drop (p + width - 8)).take 8 := by unfold rowOff; rw [b2]
      obtain ⟨pw, hpw⟩ : ∃ pw, pw = p + width := ⟨_, rfl⟩
      rw [← hpw] at hm2 hoff b2
      obtain ⟨po, hpo⟩ : ∃ po, po = pw - 8 := ⟨_, rfl⟩
      rw [← hpo] at hoff
      have hpo2 : IntKind.i64.wrap ((pw : Int) - 8) = (po : Int) := by rw [IntKind.wrap_i64]; omega
      have hiw1 : IntKind.i64.wrap ((i : Int) + 1) = (i : Int) + 1 := by rw [IntKind.wrap_i64]; omega
      have hww : IntKind.i64.wrap (width : Int) = (width : Int) := by rw [IntKind.wrap_i64]; omega
      have hs1 := fun W => cut_lh gd p po data.length (by omega) (by omega) (by omega) (p : Int) (po : Int) rfl rfl W
      have hs2 := fun W => cut_all A d.length c W
      have hs3 := fun W => cut_lh gd po pw data.length (by omega) (by omega) (by omega) (po : Int) (pw : Int) rfl rfl W
      have hlen1 : (rowDig width data i).length = po - p := by rw [hrd]; omega
      have hE : ∀ n', Calls Tryz.prog 209 #[.slice A d.length c, .slice (some ⟨gd, p, none⟩) (po - p) (data.length - p)] (wr.drewN n') fun e w' => e = .returned (.bool (decide (d = rowDig width data i))) ∧ w' = wr.drewN n' := by
        intro n'
        have := Equal_ok d (rowDig width data i) A (some ⟨gd, p, none⟩) c (data.length - p) (wr.drewN n') hG.dig hrb
        rw [hlen1] at this
        exact this.mono fun e w' h => ⟨by rw [h.1]; exact congrArg (fun b => Ending.returned (.bool b)) (by by_cases hx : d = rowDig width data i <;> simp [hx]), h.2.symm⟩
      have hol : (rowOff width data i).length = 8 := by rw [hoff]; simp only [List.length_take, List.length_drop]; omega
      have hob : BytesAt wr (some ⟨gd, po, none⟩) (rowOff width data i) := by rw [hoff]; exact row_bytes hrow po 8
      have hrk : n - i = n - (i + 1) + 1 := by omega
      have hrec : runFrom width data d (n - i) i = if d = rowDig width data i then Lib.leNat (rowOff width data i) :: runFrom width data d (n - (i + 1)) (i + 1) else [] := by rw [hrk]; rfl
      rw [hrec] at hrun
      have h8o : 8 ≤ pw - po := by omega
      have HR := Lib.hid hrun; have HB := Lib.hid (And.intro b1 (And.intro b2 (And.intro hpw hpo))); have HL := Lib.hid hlen1; have HOS := Lib.hid hos; have HLN := Lib.hid hlen
      clear hrun hrec hrk hoff hpo hpw b1 b2 hp hrd hlen1 hos hlen
      by_cases hdd : d = rowDig width data i
      · have hdt : decide (d = rowDig width data i) = true := decide_eq_true hdd
        rw [hdt] at hE
        rw [if_pos hdd] at HR
        obtain ⟨y0, y1, y2, y3, y4, y5, y6, y7, hys⟩ := eight hol
        rw [hys] at hob
        have HY := Lib.hid hys
        clear hys hol hdd hdt hrb
        rcases hob with hob | ⟨g', o', e', hob⟩
        · cases hob
        cases e'
        have q0 := hob 0 y0 rfl
        have q1 := hob 1 y1 rfl
        have q2 := hob 2 y2 rfl
        have q3 := hob 3 y3 rfl
        have q4 := hob 4 y4 rfl
        have q5 := hob 5 y5 rfl
        have q6 := hob 6 y6 rfl
        have q7 := hob 7 y7 rfl
        have hU : ∀ n', Calls Tryz.prog 210 #[.agg #[], .slice (some ⟨gd, po, none⟩) (pw - po) (data.length - po)] (wr.drewN n') fun e w' => e = .returned (.int .u64 (Lib.leNat (rowOff width data i) : Int)) ∧ Below wr.heap.size wr w' := by
          intro n'
          rw [HY.out]
          exact (Tryz.binary_LE_Uint64 gd po (pw - po) (data.length - po) y0 y1 y2 y3 y4 y5 y6 y7 (wr.drewN n') h8o q0 q1 q2 q3 q4 q5 q6 q7).mono fun e w' h => ⟨h.1, ⟨h.2.os, h.2.tape, h.2.output, h.2.size, h.2.block⟩⟩
        clear hob q0 q1 q2 q3 q4 q5 q6 q7
        generalize Lib.leNat (rowOff width data i) = off at *
        go_wp2_with fail
        go_quiet ((go_at_call 209; exact Calls.quiet_of_same (hE _)))
        go_wp2_with fail
        refine wp_region_noPanic ?_
        go_region_with (go_at_call 210; refine (hU _).mono ?_; rintro e w2 ⟨rfl, hb2⟩)
        all_goals
          refine NoPanic.normal ?_
          have hobw : ob ≤ wr.heap.size := by have := hT.bel.size; omega
          have hT2 : Told ob wr w2 := Told.of_below hb2 hobw
          have hO2 : OutAt w2 ob mb most os := hO.below hb2
          have hG2 := hG.told hT2
          have he2 : w2.cell? ⟨4, 0, none⟩ = some (.iface ty ev) := (hT2.bel.cell (p := ⟨4, 0, none⟩) hg5).trans he
          have hT3 := hT.trans hT2
          have hTell := tell_ok ob mb most os off w2 hO2 (by have := HLN.out; omega)
          clear hO hG hT he hT2 hb2 hU hO2 c0 c1 c2 cs cd
          by_cases hmo : os.length + 1 < most
          · have hdm : decide (os.length + 1 < most) = true := decide_eq_true hmo
            rw [hdm] at hTell
            clear hdm
            go_wp2_with fail
            refine hTell.mono ?_
            clear hTell
            rintro e w3 ⟨rfl, hO3, hT4⟩
            have hG3 := hG2.told hT4
            have he3 : w3.cell? ⟨4, 0, none⟩ = some (.iface ty ev) := (hT4.bel.cell (p := ⟨4, 0, none⟩) hg5).trans he2
            have hT5 := hT3.trans hT4
            clear hG2 he2 hT3 hT4
            go_wp2_with fail
            go_roundw
            case rel => exact ⟨i + 1, os ++ [off], by go_num, by simp, by omega, by omega, .inr (by simpa using hmo), by simp; have := HLN.out; omega, by rw [HR.out]; simp, hO3, hG3, hT5, he3⟩
            case measure => simp [intOf]; omega
          · have hdm : decide (os.length + 1 < most) = false := decide_eq_false hmo
            rw [hdm] at hTell
            clear hdm
            go_wp2_with fail
            refine hTell.mono ?_
            clear hTell
            rintro e w3 ⟨rfl, hO3, hT4⟩
            have hT5 := hT3.trans hT4
            clear hG2 he2 hT3 hT4
            go_wp2_with fail
            go_ret
            refine ⟨r, HH.out, by rw [HR.out]; simp [GotAll], ?_, hT5⟩
            have hml : most = (os ++ [off]).length := by
              have := HOS.out
              simp only [List.length_append, List.length_cons, List.length_nil]
              rcases this with h | h
              · subst h; simp at hmo ⊢; omega
              · omega
            rw [HR.out, show os ++ off :: runFrom width data d (n - (i + 1)) (i + 1) = (os ++ [off]) ++ runFrom width data d (n - (i + 1)) (i + 1) by simp, List.take_left' hml.symm]
            exact hO3
      · have hdt : decide (d = rowDig width data i) = false := decide_eq_false hdd
        rw [hdt] at hE
        rw [if_neg hdd, List.append_nil] at HR
        clear hdt hdd hrb hob hol
        cases os with
        | nil =>
          go_wp2_with fail
          go_quiet ((go_at_call 209; exact Calls.quiet_of_same (hE _)))
          go_wp2_with fail
          go_ret
          exact ⟨r, HH.out, by rw [HR.out]; rfl, by rw [HR.out, List.take_nil]; exact hO.told rfl, hT.drewN _⟩
        | cons o os =>
          go_wp2_with fail
          go_quiet ((go_at_call 209; exact Calls.quiet_of_same (hE _)))
          go_wp2_with fail
          go_ret
          exact ⟨r, HH.out, by rw [HR.out]; rfl, by rw [HR.out, List.take_of_length_le (by rcases HOS.out with h | h; cases h; omega)]; exact hO.told rfl, hT.drewN _⟩
    · obtain rfl : i = n := by omega
      have hr0 : runFrom width data d (i - i) i = [] := by rw [Nat.sub_self]; rfl
      rw [hr0, List.append_nil] at hrun
      have HR := Lib.hid hrun; clear hrun hr0
      cases os with
      | nil =>
        go_wp2_with fail
        go_ret
        exact ⟨r, HH.out, by rw [HR.out]; rfl, by rw [HR.out]; simpa using hO, hT⟩
      | cons o os =>
        go_wp2_with fail
        go_ret
        exact ⟨r, HH.out, by rw [HR.out]; rfl, by rw [HR.out, List.take_of_length_le (by rcases hos with h | h; cases h; omega)]; exact hO, hT⟩
end Go.Proofs.YtgdgmegpacmgnaaGreatDoor
