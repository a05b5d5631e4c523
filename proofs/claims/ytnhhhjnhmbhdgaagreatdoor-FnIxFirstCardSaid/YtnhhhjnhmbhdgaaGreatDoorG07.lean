import Derived.Test.YtnhhhjnhmbhdgaaGreatDoorG06
import Derived.Test.YtnhhhjnhmbhdgaaGreatDoorG01
import Derived.Test.YtnhhhjnhmbhdgaaGreatDoorG03
import Derived.OwnWalk
import Derived.Deep.DeepFit
import Derived.Lib.Builder
import Derived.Defers
import Derived.Recover
import Derived.RegionCalls
import Derived.Deep.RegionWith
import Derived.Deep.RegionHeld3
import Derived.Test.YtnhhhjnhmbhdgaaGreatDoorG05
import Derived.Lib.OthersKept
/- index.New, index.WriteTo, impl.written of an index sorted by digests. -/
namespace Go.Proofs.YtnhhhjnhmbhdgaaGreatDoor
open Go.RowKit
set_option linter.unusedVariables false
set_option linter.unusedSimpArgs false
attribute [local go_sem] setCell_drewN alloc_drewN

set_option maxRecDepth 100000 in
set_option maxHeartbeats 800000 in
theorem New_sorted (w : World) :
    Calls Tryz.prog 31 #[.int .u64 1024] w fun e w' => e = .returned (.tuple #[.iface mwT (.pointer (some ⟨w.heap.size + 1, 0, none⟩)), .nilIface]) ∧ MwAt w' ⟨w.heap.size + 1, 0, none⟩ w.heap.size [] ∧ Below w.heap.size w w' := by
  go_enter Tryz.func31, Tryz.ntmps31
  go_wp2_with fail
  refine (newSorted_ok _).mono ?_
  rintro e w1 ⟨rfl, hM, hB⟩
  go_wp2_with fail
  go_ret2
  exact ⟨rfl, hM, hB⟩

theorem method_CodecM (v : Value) (w : World) : (method 454 mwT v "Codec").run Tryz.prog w = .ok (263, v) w := by kernel_rfl
theorem method_MarshalM (v : Value) (w : World) : (method 454 mwT v "Marshal").run Tryz.prog w = .ok (198, v) w := by kernel_rfl

set_option maxRecDepth 100000 in
theorem MwCodec_ok (a : Addr) (w : World) : Calls Tryz.prog 263 #[.pointer (some a)] w fun e w' => e = .returned (.int .u64 1024) ∧ w = w' := by
  go_enter Tryz.func263, Tryz.ntmps263
  go_wp2_with fail
  go_ret
  exact ⟨rfl, rfl⟩

theorem cut_hi (g hi n c : Nat) (hh : hi ≤ n) (hn : n ≤ c) (hne : 0 < c) (x : Int) (hx : x = hi) (W : World) :
    (Instr.slice 49 (.slice (some ⟨g, 0, none⟩) n c) none (some (.int .i64 x)) none).run Tryz.prog W = .ok (.slice (some ⟨g, 0, none⟩) hi c) W := by
  subst hx
  have hel : Tryz.prog.elem 49 = 5 := by kernel_rfl
  rw [run_slice_h W 49 (some ⟨g, 0, none⟩) n c (by rw [hel]; exact Tryz.underlying49) .i64 (hi : Int) (Int.natCast_nonneg _) (by omega), hel, u8_size]
  have hne' : ¬ c = 0 := by omega
  simp only [Result.andThen, sliced, Int.toNat_natCast, Nat.zero_mul, Option.map_some]
  simp only [hne', if_false, Addr.add_mid, Nat.sub_zero]

set_option maxRecDepth 100000 in
set_option maxHeartbeats 1600000 in
theorem WriteTo_sorted (B b mk most : Nat) (a : Addr) (secs : List Sec) (w : World) (hsort : SortsTo 212 .u32 99 most) (hmost : secs.length ≤ most) (h : BufAt w B b []) (hB : B ≤ w.heap.size) (hM : MwAt w a mk secs)
    (hab : a.block < B) (hmk : mk < B) (hgd : ∀ s ∈ secs, s.gd < B) (hw : ∀ s ∈ secs, s.width < 4294967296) (hlen : secs.length ≤ 1000000) (hlim : (secsBytes (sortedSecs secs)).length ≤ 1000000000000) :
    Calls Tryz.prog 108 #[.iface mwT (.pointer (some a)), .iface 197 (.pointer (some ⟨b, 0, none⟩))] w fun e w' =>
      (∃ n : Int, e = .returned (.tuple #[.int .u64 n, .nilIface])) ∧ BufAt w' B b (Lib.uvarint 1024 ++ mwBytes (sortedSecs secs)) ∧ WrK B b w w' := by
  have h1 := method_CodecM
  have h2 := method_MarshalM
  have h3 := method_bufWrite
  have h4 := ahead_bufWrite
  have hBb : B ≤ b := h.1
  have hbl := h.lt
  have hu : Lib.uvarint 1024 = [128, 8] := by rw [Lib.uvarint_big (by omega), Lib.uvarint_small (by omega)]; rfl
  have hmk10 := fun W => make8 10 10 rfl (by omega) W
  have hmf : ∀ (fn : Fn) (first cap : Array Value) (w : World), (Instr.makeFunc fn first cap).run Tryz.prog w = .ok (.func fn first cap) w := fun _ _ _ _ => rfl
  have hP := PutUvarint_ok w.heap.size 0 10 10 1024 (by omega) (zeros8 10) 5 (w.alloc (.cells (zeros8 10).toArray 5)) (heap_alloc_last w _) (by rw [hu]; decide) (by rw [hu, zeros8_length]; decide)
  rw [hu] at hP
  have hcut := fun W => cut_hi w.heap.size 2 10 10 (by omega) (by omega) (by omega) 2 rfl W
  go_enter Tryz.func108, Tryz.ntmps108
  go_wp2_with fail
  refine (MwCodec_ok a _).mono ?_
  rintro e w0 ⟨rfl, rfl⟩
  go_wp2_with fail
  refine hP.mono ?_
  clear hP
  rintro e w1 ⟨rfl, hg1, hb1⟩
  have hb1' := hb1 w.heap.size (Nat.le_refl _)
  have hbw : Below w.heap.size w w1 := (below_boxed w _).trans hb1'
  have hby : BytesAt w1 (some ⟨w.heap.size, 0, none⟩) [128, 8] := by
    refine .inr ⟨_, _, rfl, fun j x hj => ?_⟩
    rw [blk_cell' hg1]
    match j, hj with
    | 0, hj => cases hj; rfl
    | 1, hj => cases hj; rfl
  have hB1 := h.below hbw
  have hK1 : WrK B b w w1 := WrK.of_below hbw hB
  have hz1 := hbw.size
  have hWr := bufWrite_ok B b [] [128, 8] ⟨w.heap.size, 0, none⟩ 2 10 w1.drew (hB1.same rfl) (by show B ≤ w1.heap.size; omega) hby rfl (by show w.heap.size ≠ b; omega) (by decide)
  clear hg1 hb1 hb1' hbw h hby hmk10
  go_wp2_with fail
  refine wp_region_noPanic ?_
  go_region_with (go_at_call 270; refine hWr.mono ?_; rintro e w2 ⟨rfl, hB2, hK2⟩)
  all_goals
    refine NoPanic.normal ?_
    have hK2' : WrK B b w w2 := (hK1.drewN 1 : WrK B b w w1.drew).trans hK2
    have hM2 := hK2'.mw hM hab hmk hgd
    have hz2 := hK2'.bel.size
    have hMar := MwMarshal_ok B b mk most ([] ++ [128, 8]) a secs w2 hsort hmost hB2 (by omega) hM2 hab hmk hgd hw hlen (by show 2 + 4 + _ ≤ _; omega)
    clear hB2 hM2
    go_wp2_with fail
    refine hMar.mono ?_
    clear hMar
    rintro e w3 ⟨rfl, hB3, hK3⟩
    go_wp2_with fail
    go_ret2
    exact ⟨⟨_, rfl⟩, by rw [hu]; exact hB3, hK2'.trans hK3⟩

set_option maxRecDepth 100000 in
set_option maxHeartbeats 1600000 in
/-- An index, as it is written. -/
theorem written_sorted (mk most : Nat) (a : Addr) (secs : List Sec) (w : World) (hsort : SortsTo 212 .u32 99 most) (hmost : secs.length ≤ most) (hM : MwAt w a mk secs)
    (hw : ∀ s ∈ secs, s.width < 4294967296) (hlen : secs.length ≤ 1000000) (hlim : (secsBytes (sortedSecs secs)).length ≤ 1000000000000) :
    Calls Tryz.prog 87 #[.iface mwT (.pointer (some a)), .nilIface] w fun e w' => e = .returned (.tuple #[.string (sOf (Lib.uvarint 1024 ++ mwBytes (sortedSecs secs))), .bool true]) ∧ Below w.heap.size w w' := by
  have hal := World.block_lt_of_cell? w _ hM.cell
  have hmkl := hM.map.lt
  have hgl : ∀ s ∈ secs, s.gd < w.heap.size := fun s hs => (Array.getElem?_eq_some_iff.1 (hM.row s hs)).1
  have hb0 : Below w.heap.size w (w.alloc (.cells #[.slice none 0 0, .int .i64 0, .int .i8 0] 195)) := below_boxed w _
  have hW := WriteTo_sorted w.heap.size w.heap.size mk most a secs (w.alloc (.cells #[.slice none 0 0, .int .i64 0, .int .i8 0] 195)) hsort hmost (Lib.fresh_isBuffer 195 5 w) hb0.size (hM.kp (S := fun _ => False) (Kp.of_below hb0) id id (fun _ _ => id)) hal hmkl hgl hw hlen hlim
  clear hM
  go_enter Tryz.func87, Tryz.ntmps87
  go_wp2_with fail
  refine hW.mono ?_
  rintro e w1 ⟨⟨n, rfl⟩, hB1, hK1⟩
  go_wp2_with fail
  refine (Tryz.Buffer_String w.heap.size w.heap.size (Lib.uvarint 1024 ++ mwBytes (sortedSecs secs)) w1 hB1).mono ?_
  rintro e w2 ⟨rfl, m, rfl⟩
  go_wp2_with fail
  go_ret2
  exact ⟨rfl, below_drewn (hb0.trans hK1.bel) m⟩
end Go.Proofs.YtnhhhjnhmbhdgaaGreatDoor

/- strings.Builder at a builder of the call's own; NewCidV0, NewCidV1. -/
namespace Go.Proofs.YtnhhhjnhmbhdgaaGreatDoor
open Go.RowKit
set_option linter.unusedVariables false
set_option linter.unusedSimpArgs false
attribute [local go_sem] setCell_drewN alloc_drewN

theorem size_builder : (Tryz.prog.info? 123).map (·.size) = some 2 := by kernel_rfl

set_option maxRecDepth 100000 in
set_option maxHeartbeats 800000 in
theorem copyCheck_used (b : Nat) (w : World) (h0 : w.cell? ⟨b, 0, none⟩ = some (.pointer (some ⟨b, 0, none⟩))) :
    Calls Tryz.prog 96 #[.pointer (some ⟨b, 0, none⟩)] w fun e w' => e = .returned (.tuple #[]) ∧ w = w' := by
  obtain ⟨j, hj, hjs⟩ := Option.map_eq_some_iff.1 size_builder
  go_enter Tryz.func96, Tryz.ntmps96
  go_wp2
  rw [Lib.run_neq_ptr_same w _ Tryz.underlying121 hj]
  go_wp2
  go_end0
  exact ⟨rfl, rfl⟩

set_option maxRecDepth 100000 in
set_option maxHeartbeats 1600000 in
theorem WriteByte_ok (B b : Nat) (bs : List Value) (c : Int) (w : World) (h : Lib.BuilderAt 123 5 B b (.pointer (some ⟨b, 0, none⟩)) bs w) (hlen : bs.length + 1 ≤ 140737488355328) (hBw : B ≤ w.heap.size) :
    Calls Tryz.prog 72 #[.pointer (some ⟨b, 0, none⟩), .int .u8 c] w fun e w' => e = .returned .nilIface ∧ Lib.BuilderAt 123 5 B b (.pointer (some ⟨b, 0, none⟩)) (bs ++ [.int .u8 c]) w' ∧ Below B w w' := by
  obtain ⟨i0, hi, hz0, hz1, hz2⟩ := info_parts info3_u8
  obtain ⟨hB, v, hbk, hown, hne⟩ := h
  have c0 : w.cell? ⟨b, 0, none⟩ = some (.pointer (some ⟨b, 0, none⟩)) := by rw [Lib.cell_of_heap hbk]; rfl
  have c1 : w.cell? ⟨b, 1, none⟩ = some v := by rw [Lib.cell_of_heap hbk]; rfl
  go_enter Tryz.func72, Tryz.ntmps72
  go_wp2_with fail
  refine (copyCheck_used b _ c0).mono ?_
  rintro e w1 ⟨rfl, rfl⟩
  go_wp2_with (at_builtin; refine wpList_append_own _ rfl _ _ 49 rfl B 5 i0 (.int .u8 0) 1 1 Tryz.underlying49 hi hz0 hz1 hz2 rfl (by decide) _ _ _ rfl (hown.alloc _) ⟨w.heap.size, 0, none⟩ 1 1 [.int .u8 c] rfl rfl ?c1 ?c2 ?c3 ?c4 ?c5 ?_)
  case c1 =>
    intro j u hj
    match j, hj with
    | 0, hj => simp at hj; subst hj; simp [Addr.add]
  case c2 => intro u hu; simp at hu; subst hu; rfl
  case c3 => unfold maxLen; omega
  case c4 => omega
  case c5 => simp; omega
  intro v' w2 hown' hgrow _
  have hlt : b < w.heap.size := by
    rcases Nat.lt_or_ge b w.heap.size with h' | h'
    · exact h'
    · simp [Array.getElem?_eq_none h'] at hbk
  have hb2 : w2.heap[b]? = some (.cells #[.pointer (some ⟨b, 0, none⟩), v] 123 (0, 0)) := by
    rw [hgrow.block b (by simp; omega) (fun e => hne e.symm), Lib.alloc_old w _ b hlt]
    exact hbk
  have d0 : w2.cell? ⟨b, 0, none⟩ = some (.pointer (some ⟨b, 0, none⟩)) := by rw [Lib.cell_of_heap hb2]; rfl
  have d1 : w2.cell? ⟨b, 1, none⟩ = some v := by rw [Lib.cell_of_heap hb2]; rfl
  have f1 : w2.frozen? ⟨b, 1, none⟩ = false := Lib.frozen_of_heap hb2 1
  obtain ⟨g, cap, rfl⟩ : ∃ g cap, v' = .slice (some ⟨g, 0, none⟩) (bs.length + 1) cap := by
    rcases hown'.2 with ⟨_, h0⟩ | ⟨g, cap, cur, hv, _⟩
    · omega
    · exact ⟨g, cap, hv⟩
  go_wp2
  go_ret
  refine ⟨rfl, ?_, ?_⟩
  · exact Lib.BuilderAt.put (T := 123) (e := 5) hB hb2 (bs' := bs ++ [.int .u8 c]) (by simpa using hown') (by decide)
  · exact (((Below.refl B w).alloc hBw _).grown hgrow (by simp; omega) (fun k hk => (hown.lt k hk).1)).setCell (p := ⟨b, 1, none⟩) hB _

set_option maxRecDepth 100000 in
set_option maxHeartbeats 1600000 in
theorem Write_ok (B b : Nat) (bs : List Value) (A : Option Addr) (c : Nat) (ns : List UInt8) (hns : ns ≠ []) (w : World) (h : Lib.BuilderAt 123 5 B b (.pointer (some ⟨b, 0, none⟩)) bs w) (hb0 : BytesAt w A ns) (hlen : bs.length + ns.length ≤ 140737488355328) (hBw : B ≤ w.heap.size) :
    Calls Tryz.prog 73 #[.pointer (some ⟨b, 0, none⟩), .slice A ns.length c] w fun e w' => e = .returned (.tuple #[.int .i64 ns.length, .nilIface]) ∧ Lib.BuilderAt 123 5 B b (.pointer (some ⟨b, 0, none⟩)) (bs ++ Lib.byteCells ns) w' ∧ Below B w w' := by
  obtain ⟨i0, hi, hz0, hz1, hz2⟩ := info_parts info3_u8
  obtain ⟨hB, v, hbk, hown, hne⟩ := h
  have c0 : w.cell? ⟨b, 0, none⟩ = some (.pointer (some ⟨b, 0, none⟩)) := by rw [Lib.cell_of_heap hbk]; rfl
  have c1 : w.cell? ⟨b, 1, none⟩ = some v := by rw [Lib.cell_of_heap hbk]; rfl
  have hpos : 0 < ns.length := List.length_pos_iff.2 hns
  rcases hb0 with hb0 | ⟨g0, o0, rfl, hcell⟩
  · exact absurd hb0 hns
  go_enter Tryz.func73, Tryz.ntmps73
  go_wp2_with fail
  refine (copyCheck_used b _ c0).mono ?_
  rintro e w1 ⟨rfl, rfl⟩
  go_wp2_with (at_builtin; refine wpList_append_own _ rfl _ _ 49 rfl B 5 i0 (.int .u8 0) 1 1 Tryz.underlying49 hi hz0 hz1 hz2 rfl (by decide) _ _ _ rfl hown ⟨g0, o0, none⟩ ns.length c (Lib.byteCells ns) rfl ?c0 ?c1 ?c2 ?c3 ?c4 ?c5 ?_)
  case c0 => rw [Lib.byteCells_length, Nat.mul_one]
  case c1 =>
    intro j u hj
    rw [show (⟨g0, o0, none⟩ : Addr).add j = ⟨g0, o0 + j, none⟩ from by unfold Addr.add; split <;> simp_all]
    unfold Lib.byteCells at hj
    rw [List.getElem?_map] at hj
    obtain ⟨x, hx, rfl⟩ := Option.map_eq_some_iff.1 hj
    exact hcell j x hx
  case c2 => intro u hu; unfold Lib.byteCells at hu; obtain ⟨x, _, rfl⟩ := List.mem_map.1 hu; rfl
  case c3 => unfold maxLen; omega
  case c4 => omega
  case c5 => exact hBw
  intro v' w2 hown' hgrow _
  have hlt : b < w.heap.size := by
    rcases Nat.lt_or_ge b w.heap.size with h' | h'
    · exact h'
    · simp [Array.getElem?_eq_none h'] at hbk
  have hb2 : w2.heap[b]? = some (.cells #[.pointer (some ⟨b, 0, none⟩), v] 123 (0, 0)) := by
    rw [hgrow.block b hlt (fun e => hne e.symm)]
    exact hbk
  have d0 : w2.cell? ⟨b, 0, none⟩ = some (.pointer (some ⟨b, 0, none⟩)) := by rw [Lib.cell_of_heap hb2]; rfl
  have d1 : w2.cell? ⟨b, 1, none⟩ = some v := by rw [Lib.cell_of_heap hb2]; rfl
  have f1 : w2.frozen? ⟨b, 1, none⟩ = false := Lib.frozen_of_heap hb2 1
  obtain ⟨g, cap, rfl⟩ : ∃ g cap, v' = .slice (some ⟨g, 0, none⟩) (bs.length + ns.length) cap := by
    rcases hown'.2 with ⟨_, h0⟩ | ⟨g, cap, cur, hv, _⟩
    · omega
    · exact ⟨g, cap, hv⟩
  go_wp2
  go_ret2
  refine ⟨rfl, ?_, ?_⟩
  · exact Lib.BuilderAt.put (T := 123) (e := 5) hB hb2 (bs' := bs ++ Lib.byteCells ns) (by simpa [Lib.byteCells_length] using hown') (by decide)
  · exact ((Below.refl B w).grown hgrow hBw (fun k hk => (hown.lt k hk).1)).setCell (p := ⟨b, 1, none⟩) hB _

theorem BytesAt.of_head {w : World} {g : Nat} {t : TypeId} {fr : Nat × Nat} {bs : List UInt8} {r : List Value} (h : w.heap[g]? = some (.cells (Lib.byteCells bs ++ r).toArray t fr)) : BytesAt w (some ⟨g, 0, none⟩) bs :=
  .inr ⟨g, 0, rfl, fun j x hj => by
    have hl : j < (Lib.byteCells bs).length := by rw [Lib.byteCells_length]; exact (List.getElem?_eq_some_iff.1 hj).1
    have : (Lib.byteCells bs ++ r)[j]? = some (.int .u8 (x.toNat : Int)) := by rw [List.getElem?_append_left hl]; unfold Lib.byteCells; rw [List.getElem?_map, hj]; rfl
    simp only [World.cell?, h, Nat.zero_add]
    simpa using this⟩

theorem builder_below {T e : TypeId} {B b : Nat} {p : Value} {bs : List Value} {w w' : World} (h : Lib.BuilderAt T e B b p bs w) (hb : Below w.heap.size w w') : Lib.BuilderAt T e B b p bs w' := by
  have hlt := h.lt
  obtain ⟨hB, v, hbk, hown, hne⟩ := h
  exact ⟨hB, v, (hb.block _ hlt).trans hbk, hown.kept (row := none) ⟨hb.os, hb.tape, hb.output, hb.size, fun i hi _ => hb.block i hi⟩ (by cases hv : v.ownBlock <;> simp), hne⟩

theorem BytesAt.of_cells {w : World} {g : Nat} {t : TypeId} {fr : Nat × Nat} {bs : List UInt8} (h : w.heap[g]? = some (.cells (Lib.byteCells bs).toArray t fr)) : BytesAt w (some ⟨g, 0, none⟩) bs :=
  .inr ⟨g, 0, rfl, fun j x hj => by
    have : (Lib.byteCells bs)[j]? = some (.int .u8 (x.toNat : Int)) := by unfold Lib.byteCells; rw [List.getElem?_map, hj]; rfl
    simp [World.cell?, h, this]⟩

set_option maxRecDepth 100000 in
set_option maxHeartbeats 1600000 in
theorem tryV0_ok (dig : List UInt8) (hd : dig.length = 32) (A : Option Addr) (M c : Nat) (w : World) (h : BytesAt w A (mhOf 18 dig)) (hM : (mhOf 18 dig).length = M) (hc : M ≤ c) :
    Calls Tryz.prog 70 #[.slice A M c] w fun e w' => e = .returned (.tuple #[.agg #[.string (sOf (mhOf 18 dig))], .nilIface]) ∧ Below w.heap.size w w' := by
  go_enter Tryz.func70, Tryz.ntmps70
  go_wp2_with fail
  refine (Decode_ok 18 (by omega) dig (by omega) A M c _ (h.below (below_boxed _ _)) hM hc).mono ?_
  rintro e w2 ⟨g, A2, c2, rfl, hc2, hS2, hb2, hg2, hblk⟩
  rw [hd] at hblk
  have k0 : w2.cell? ⟨g, 0, none⟩ = some (.int .u64 18) := by simp [World.cell?, hblk]
  have k2 : w2.cell? ⟨g, 2, none⟩ = some (.int .i64 32) := by simp [World.cell?, hblk]
  obtain ⟨hcc, hff⟩ := bcell hb2
  have hz2 : w.heap.size < w2.heap.size := by have := hb2.size; simp at this; omega
  have hA2 : BytesAt w2 A (mhOf 18 dig) := (h.below (below_boxed _ _)).below hb2
  have hv := bytes_string (P := Tryz.prog) Tryz.underlying118 Tryz.underlying5 Tryz.underlying9 w2 A _ c hA2
  rw [hM] at hv
  go_wp2_with fail
  refine bodyPost_ret (v := .tuple #[.agg #[.string (sOf (mhOf 18 dig))], .nilIface]) (by simp [results, Tryz.results70, go_sem, hcc, hff, hz2, sOf]) rfl ?_
  exact ⟨rfl, by (repeat (first | (with_reducible exact Below.refl _ _) | (with_reducible exact below_boxed _ _) | (with_reducible refine below_box ?_ _) | (with_reducible refine below_drew1 ?_) | (with_reducible refine below_drewn ?_ _) | (with_reducible refine below_bytes ?_ _ _) | (with_reducible refine below_next ?_ (by assumption)) | (with_reducible refine below_set ?_ (by first | (simp; done) | (simp; omega) | omega) _)))⟩

set_option maxRecDepth 100000 in
set_option maxHeartbeats 1600000 in
theorem NewCidV0_ok (dig : List UInt8) (hd : dig.length = 32) (A : Option Addr) (M c : Nat) (w : World) (h : BytesAt w A (mhOf 18 dig)) (hM : (mhOf 18 dig).length = M) (hc : M ≤ c) :
    Calls Tryz.prog 34 #[.slice A M c] w fun e w' => e = .returned (.agg #[.string (sOf (mhOf 18 dig))]) ∧ Below w.heap.size w w' := by
  generalize hs : sOf (mhOf 18 dig) = s
  have HS := Lib.hid hs; clear hs
  go_enter Tryz.func34, Tryz.ntmps34
  go_wp2_with fail
  refine (tryV0_ok dig hd A M c _ (h.below (below_boxed _ _)) hM hc).mono ?_
  rintro e w2 ⟨rfl, hb2⟩
  rw [HS.out]
  obtain ⟨hcc, hff⟩ := bcell hb2
  have hz2 : w.heap.size < w2.heap.size := by have := hb2.size; simp at this; omega
  go_wp2_with fail
  refine bodyPost_ret (v := .agg #[.string s]) (by simp [results, Tryz.results34, go_sem, hcc, hff, hz2]) rfl ?_
  exact ⟨rfl, by (repeat (first | (with_reducible exact Below.refl _ _) | (with_reducible exact below_boxed _ _) | (with_reducible refine below_box ?_ _) | (with_reducible refine below_drew1 ?_) | (with_reducible refine below_drewn ?_ _) | (with_reducible refine below_bytes ?_ _ _) | (with_reducible refine below_next ?_ (by assumption)) | (with_reducible refine below_set ?_ (by first | (simp; done) | (simp; omega) | omega) _)))⟩

set_option maxRecDepth 100000 in
set_option maxHeartbeats 3200000 in
theorem NewCidV1_ok (codec : Nat) (hcodec : codec < 9223372036854775808) (mh : List UInt8) (hml : mh.length ≤ 2147483900 ∧ 2 ≤ mh.length) (A : Option Addr) (c : Nat) (w : World) (h : BytesAt w A mh) (hc : mh.length ≤ c) :
    Calls Tryz.prog 35 #[.int .u64 codec, .slice A mh.length c] w fun e w' => e = .returned (.agg #[.string (sOf ([1] ++ (Lib.uvarint codec ++ mh)))]) ∧ Below w.heap.size w w' := by
  have h9 := uvarint_le9 hcodec
  have h9p := Lib.uvarint_pos codec
  go_enter Tryz.func35, Tryz.ntmps35
  go_wp2_with fail
  refine (UvarintSize_ok codec (by omega) _).mono ?_
  rintro e w1 ⟨rfl, rfl⟩
  go_wp2_with fail
  have hg := Tryz.Builder_Grow_fresh (w.heap.size + 1) (w.heap.size + 1) (1 + (Lib.uvarint codec).length + mh.length) ((w.alloc (.cells #[.string ⟨#[]⟩] 51)).alloc (.cells #[.pointer none, .slice none 0 0] 123)) (Nat.le_refl _) (by have := heap_alloc_new (w.alloc (.cells #[.string ⟨#[]⟩] 51)) (.cells #[.pointer none, .slice none 0 0] 123); simpa using this) (by simp) (by omega)
  refine hg.mono ?_
  clear hg
  rintro e w1 ⟨rfl, hB1, hb1⟩
  have hb1w : Below w.heap.size w w1 := (by (repeat (first | (with_reducible exact Below.refl _ _) | (with_reducible exact below_boxed _ _) | (with_reducible refine below_box ?_ _) | (with_reducible refine below_drew1 ?_) | (with_reducible refine below_drewn ?_ _) | (with_reducible refine below_bytes ?_ _ _) | (with_reducible refine below_next ?_ (by assumption)) | (with_reducible refine below_set ?_ (by first | (simp; done) | (simp; omega) | omega) _))) : Below w.heap.size w ((w.alloc (.cells #[.string ⟨#[]⟩] 51)).alloc (.cells #[.pointer none, .slice none 0 0] 123))).trans (hb1.mono (by omega))
  have hz1 : w.heap.size + 1 < w1.heap.size := by have := hb1.size; simp at this; omega
  go_wp2_with fail
  refine (WriteByte_ok (w.heap.size + 1) (w.heap.size + 1) [] 1 _ hB1 (by simp) (by omega)).mono ?_
  rintro e w2 ⟨rfl, hB2, hb2⟩
  have hz2 : w.heap.size + 1 < w2.heap.size := by have := hb2.size; omega
  go_wp2_with fail
  have hpu := PutUvarint_ok w2.heap.size 0 10 10 codec (by omega) [Value.int .u8 0, Value.int .u8 0, Value.int .u8 0, Value.int .u8 0, Value.int .u8 0, Value.int .u8 0, Value.int .u8 0, Value.int .u8 0, Value.int .u8 0, Value.int .u8 0] 126 (w2.alloc (.cells #[Value.int .u8 0, Value.int .u8 0, Value.int .u8 0, Value.int .u8 0, Value.int .u8 0, Value.int .u8 0, Value.int .u8 0, Value.int .u8 0, Value.int .u8 0, Value.int .u8 0] 126)) (heap_alloc_new _ _) (by omega) (by simp; omega)
  refine hpu.mono ?_
  clear hpu
  rintro e w3 ⟨rfl, hg3, hb3⟩
  have hb3' := hb3 w2.heap.size (Nat.le_refl _)
  have hb23 : Below w2.heap.size w2 w3 := (below_boxed w2 _).trans hb3'
  have hz3 : w.heap.size + 1 < w3.heap.size := by have := hb23.size; omega
  have hA3 : BytesAt w3 (some ⟨w2.heap.size, 0, none⟩) (Lib.uvarint codec) := by
    unfold splice at hg3
    exact BytesAt.of_head (by rw [hg3]; rfl)
  have hBl3 : Lib.BuilderAt 123 5 (w.heap.size + 1) (w.heap.size + 1) (.pointer (some ⟨w.heap.size + 1, 0, none⟩)) ([] ++ [.int .u8 1]) w3 := builder_below hB2 hb23
  have HG3 := Lib.hid hg3; clear hg3
  have h10 : (Lib.uvarint codec).length ≤ 10 := by omega
  have h10i : ((Lib.uvarint codec).length : Int) ≤ 10 := by omega
  go_wp2_with fail
  refine (Write_ok (w.heap.size + 1) (w.heap.size + 1) _ _ _ (Lib.uvarint codec) (by intro e; rw [e] at h9p; simp at h9p) _ hBl3 hA3 (by simp; omega) (by omega)).mono ?_
  rintro e w4 ⟨rfl, hB4, hb4⟩
  have hb4' : Below w.heap.size w w4 := ((hb1w.trans (hb2.mono (by omega))).trans (hb23.mono (by omega))).trans (hb4.mono (by omega))
  have hz4 : w.heap.size + 1 < w4.heap.size := by have := hb4.size; omega
  go_wp2_with fail
  refine (Write_ok (w.heap.size + 1) (w.heap.size + 1) _ A c mh (by intro e; rw [e] at hml; simp at hml) _ hB4 (h.below hb4') (by simp [Lib.byteCells_length]; omega) (by omega)).mono ?_
  rintro e w5 ⟨rfl, hB5, hb5⟩
  have hb5' : Below w.heap.size w w5 := hb4'.trans (hb5.mono (by omega))
  have hz5 : w.heap.size + 1 < w5.heap.size := by have := hb5.size; omega
  go_wp2_with fail
  have hcells : [] ++ [Value.int .u8 1] ++ Lib.byteCells (Lib.uvarint codec) ++ Lib.byteCells mh = Lib.byteCells ([1] ++ (Lib.uvarint codec ++ mh)) := by
    unfold Lib.byteCells; simp
  rw [hcells] at hB5
  refine (Tryz.Builder_String_any (w.heap.size + 1) (w.heap.size + 1) _ _ (.inr hB5) (by omega)).mono ?_
  rintro e w6 ⟨rfl, hb6⟩
  have hz6 : w.heap.size + 1 < w6.heap.size := by have := hb6.size; omega
  have hall : Below (w.heap.size + 1) ((w.alloc (.cells #[.string ⟨#[]⟩] 51)).alloc (.cells #[.pointer none, .slice none 0 0] 123)) w6 :=
    ((((hb1.trans hb2).trans (hb23.mono (by omega))).trans hb4).trans hb5).trans hb6
  have q0 : w6.cell? ⟨w.heap.size, 0, none⟩ = some (.string ⟨#[]⟩) := by rw [hall.cell (by simp)]; simp
  have qf : w6.frozen? ⟨w.heap.size, 0, none⟩ = false := by rw [hall.frozen (by simp)]; simp
  generalize hs : (⟨([1] ++ (Lib.uvarint codec ++ mh)).toArray⟩ : ByteArray) = s
  have HS := Lib.hid hs; clear hs
  go_wp2_with fail
  refine bodyPost_ret (v := .agg #[.string s]) (by simp [results, Tryz.results35, go_sem, q0, qf]) rfl ?_
  refine ⟨by rw [← HS.out]; rfl, ?_⟩
  refine below_set ?_ (Nat.le_refl _) _
  exact hb5'.trans (hb6.mono (by omega))
end Go.Proofs.YtnhhhjnhmbhdgaaGreatDoor

/- cidIn: an identifier made, behind a deferred recover. -/
namespace Go.Proofs.YtnhhhjnhmbhdgaaGreatDoor
open Go.RowKit
set_option linter.unusedVariables false
set_option linter.unusedSimpArgs false
attribute [local go_sem] setCell_drewN alloc_drewN

set_option maxRecDepth 100000 in
theorem catch_idle (p q : Addr) (w : World) :
    CallsD Tryz.prog 32 #[.pointer (some p), .pointer (some q)] .returning w fun e u' w' => e = .returned (.tuple #[]) ∧ u' = .returning ∧ w = w' := by
  refine callsD_of_wpS Tryz.func32 rfl fun c₀ cs hu => ?_
  apply wpS_seq
  apply wpS_region
  simp [wpOpsS, go_sem, recoverD, hu, Tryz.ntmps32, Exit.thenS]
  refine wpS_cond (t := false) (by simp [Act.eval, Array.replicate]) ?_
  simp only [Bool.false_eq_true, if_false]
  refine wpS_of_wp (wp_skip ?_)
  cases c₀
  simp_all [bodyPostS, results, Tryz.results32]

set_option maxRecDepth 100000 in
set_option maxHeartbeats 3200000 in
theorem cidIn_v1 (c : CidOf) (hc : c.Ok) (h1 : c.ver = 1) (w : World) :
    Calls Tryz.prog 17 #[.agg #[.int .u64 1, .int .u64 c.codec, .int .u64 c.code, .string (sOf c.dig)]] w fun e w' => e = .returned (.tuple #[.agg #[.string c.str], .bool true]) ∧ Below w.heap.size w w' := by
  have hmf : ∀ (fn : Fn) (first cap : Array Value) (w : World), (Instr.makeFunc fn first cap).run Tryz.prog w = .ok (.func fn first cap) w := fun _ _ _ _ => rfl
  have hd := hc.dig
  have hmh : c.mh = mhOf c.code c.dig := rfl
  have hml := CidOf.mh_length hc
  have hss : (sOf c.dig).size = c.dig.length := rfl
  have hst : c.str = sOf ([1] ++ (Lib.uvarint c.codec ++ c.mh)) := by unfold CidOf.str CidOf.bytes; rw [if_neg (by omega), uvarint_1]; rfl
  generalize c.str = str at *
  have HST := Lib.hid hst; clear hst
  generalize hs : sOf c.dig = s at *
  have HS := Lib.hid hs; clear hs
  have HMH := Lib.hid hmh; clear hmh
  have HSS := Lib.hid hss; clear hss
  go_enter_defers Tryz.func17, Tryz.ntmps17
  go_wp2_with (with_reducible refine conv_event rfl (.tmp 9) 9 49 5 rfl Tryz.underlying9 Tryz.underlying49 Tryz.underlying5 s rfl ?_)
  intro g0 cap0 w0 hg0 hcap0 hb0 hA0 hB0
  subst hg0
  obtain ⟨hcc, hff⟩ := bcellB hb0
  have hz0 : w.heap.size + 1 + 1 + 1 ≤ w0.heap.size := by have := hb0.size; simp at this; omega
  have hz01 : w.heap.size < w0.heap.size := by omega
  have hz02 : w.heap.size + 1 < w0.heap.size := by omega
  have hz03 : w.heap.size + 1 + 1 < w0.heap.size := by omega
  have hdl : s.data.toList = c.dig := by rw [← HS.out]; rfl
  rw [hdl] at hA0
  rw [HSS.out] at hcap0
  clear hdl
  rw [HSS.out]
  go_wp2_with fail
  have hen := Encode_ok c.code hc.code c.dig (by omega) _ cap0 w0 hA0 hcap0
  refine hen.mono ?_
  clear hen
  rintro e w1 ⟨g1, rfl, hg1, hb1, hle1⟩
  have hA1 : BytesAt w1 (some ⟨g1, 0, none⟩) c.mh := BytesAt.of_cells hg1
  rw [← HMH.out]
  clear hcc hff
  have hb01 : Below (w.heap.size + 1 + 1 + 1) _ w1 := hb0.trans (hb1.mono hz0)
  obtain ⟨hcc, hff⟩ := bcellB hb01
  have HG1 := Lib.hid hg1; clear hg1
  go_wp2_with fail
  refine (NewCidV1_ok c.codec hc.codec c.mh (by omega) _ _ _ hA1 (Nat.le_refl _)).mono ?_
  rw [← HST.out]
  rintro e w2 ⟨rfl, hb2⟩
  clear hcc hff
  have hz1 : w.heap.size + 1 + 1 + 1 ≤ w1.heap.size := by have := hb1.size; omega
  have hb02 : Below (w.heap.size + 1 + 1 + 1) _ w2 := hb01.trans (hb2.mono hz1)
  obtain ⟨hcc, hff⟩ := bcellB hb02
  go_wp2_with fail
  refine leaves_cons (f := 32) (args := #[.pointer (some ⟨w.heap.size + 1, 0, none⟩), .pointer (some ⟨w.heap.size + 1 + 1, 0, none⟩)]) (by simp) (by simp [go_sem]) ?_
  refine (catch_idle _ _ _).mono ?_
  rintro e u' w'' ⟨rfl, rfl, rfl⟩
  simp [Leaves, settle, results, Tryz.results17, go_sem, hcc, hff]
  refine below_set (below_set ?_ (by simp) _) (by simp; omega) _
  exact Below.trans (by (repeat (first | (with_reducible exact Below.refl _ _) | (with_reducible exact below_boxed _ _) | (with_reducible refine below_box ?_ _) | (with_reducible refine below_drew1 ?_) | (with_reducible refine below_drewn ?_ _) | (with_reducible refine below_bytes ?_ _ _) | (with_reducible refine below_next ?_ (by assumption)) | (with_reducible refine below_set ?_ (by first | (simp; done) | (simp; omega) | omega) _)))) (hb02.mono (by omega))

set_option maxRecDepth 100000 in
set_option maxHeartbeats 3200000 in
theorem cidIn_v0 (c : CidOf) (hc : c.Ok) (h1 : c.ver = 0) (w : World) :
    Calls Tryz.prog 17 #[.agg #[.int .u64 0, .int .u64 112, .int .u64 18, .string (sOf c.dig)]] w fun e w' => e = .returned (.tuple #[.agg #[.string c.str], .bool true]) ∧ Below w.heap.size w w' := by
  have hmf : ∀ (fn : Fn) (first cap : Array Value) (w : World), (Instr.makeFunc fn first cap).run Tryz.prog w = .ok (.func fn first cap) w := fun _ _ _ _ => rfl
  have hd := hc.dig
  have hmh : c.mh = mhOf c.code c.dig := rfl
  have hml := CidOf.mh_length hc
  have hss : (sOf c.dig).size = c.dig.length := rfl
  have hd32 : c.dig.length = 32 := by rcases hc.ver with h | h <;> omega
  have hcode : c.code = 18 := by rcases hc.ver with h | h <;> omega
  have hst : c.str = sOf c.mh := by unfold CidOf.str CidOf.bytes; rw [if_pos h1]; rfl
  rw [hcode] at hmh
  generalize c.str = str at *
  have HST := Lib.hid hst; clear hst
  generalize hs : sOf c.dig = s at *
  have HS := Lib.hid hs; clear hs
  have HMH := Lib.hid hmh; clear hmh
  have HSS := Lib.hid hss; clear hss
  have HD := Lib.hid hd32; clear hd32
  clear hcode h1
  go_enter_defers Tryz.func17, Tryz.ntmps17
  go_wp2_with (with_reducible refine conv_event rfl (.tmp 9) 9 49 5 rfl Tryz.underlying9 Tryz.underlying49 Tryz.underlying5 s rfl ?_)
  intro g0 cap0 w0 hg0 hcap0 hb0 hA0 hB0
  subst hg0
  obtain ⟨hcc, hff⟩ := bcellB hb0
  have hz0 : w.heap.size + 1 + 1 + 1 ≤ w0.heap.size := by have := hb0.size; simp at this; omega
  have hz01 : w.heap.size < w0.heap.size := by omega
  have hz02 : w.heap.size + 1 < w0.heap.size := by omega
  have hz03 : w.heap.size + 1 + 1 < w0.heap.size := by omega
  have hdl : s.data.toList = c.dig := by rw [← HS.out]; rfl
  rw [hdl] at hA0
  rw [HSS.out] at hcap0
  clear hdl
  rw [HSS.out]
  go_wp2_with fail
  have hen := Encode_ok 18 (by omega) c.dig (by omega) _ cap0 w0 hA0 hcap0
  refine hen.mono ?_
  clear hen
  rintro e w1 ⟨g1, rfl, hg1, hb1, hle1⟩
  have hA1 : BytesAt w1 (some ⟨g1, 0, none⟩) (mhOf 18 c.dig) := BytesAt.of_cells hg1
  rw [← HMH.out]
  clear hcc hff
  have hb01 : Below (w.heap.size + 1 + 1 + 1) _ w1 := hb0.trans (hb1.mono hz0)
  obtain ⟨hcc, hff⟩ := bcellB hb01
  have HG1 := Lib.hid hg1; clear hg1
  go_wp2_with fail
  have hz1 : w.heap.size + 1 + 1 + 1 ≤ w1.heap.size := by have := hb1.size; omega
  have hfin : Below w.heap.size w w1 := Below.trans (by (repeat (first | (with_reducible exact Below.refl _ _) | (with_reducible exact below_boxed _ _) | (with_reducible refine below_box ?_ _) | (with_reducible refine below_drew1 ?_) | (with_reducible refine below_drewn ?_ _) | (with_reducible refine below_bytes ?_ _ _) | (with_reducible refine below_next ?_ (by assumption)) | (with_reducible refine below_set ?_ (by first | (simp; done) | (simp; omega) | omega) _)))) (hb01.mono (by omega))
  have hA1d : BytesAt w1.drew (some ⟨g1, 0, none⟩) (mhOf 18 c.dig) := hA1
  clear hA1
  refine wp_region_noPanic ?_
  go_region_with (go_at_call 34; refine (NewCidV0_ok c.dig HD.out _ _ _ _ hA1d (by rw [HMH.out]) (Nat.le_refl _)).mono ?_; rintro e w2 ⟨rfl, hb2⟩; have hb2' : Below w1.heap.size w1 w2 := ⟨hb2.os, hb2.tape, hb2.output, hb2.size, hb2.block⟩; obtain ⟨hcc2, hff2⟩ := bcellB (hb01.trans (hb2'.mono hz1)))
  all_goals
    refine NoPanic.normal ?_
    have hstr : sOf (mhOf 18 c.dig) = str := by rw [HST.out, HMH.out]
    go_wp2_with fail
    refine leaves_cons (f := 32) (args := #[.pointer (some ⟨w.heap.size + 1, 0, none⟩), .pointer (some ⟨w.heap.size + 1 + 1, 0, none⟩)]) (by simp) (by simp [go_sem]) ?_
    refine (catch_idle _ _ _).mono ?_
    rintro e u' w'' ⟨rfl, rfl, rfl⟩
    simp [Leaves, settle, results, Tryz.results17, go_sem, hcc2, hff2]
    have hfin2 := below_next hfin hb2'
    refine ⟨hstr, below_set (below_set ?_ ?_ _) ?_ _⟩
    · exact hfin2
    · show w.heap.size ≤ w.heap.size + 1; omega
    · show w.heap.size ≤ w.heap.size + 1 + 1; omega

theorem cidIn_ok (c : CidOf) (hc : c.Ok) (w : World) :
    Calls Tryz.prog 17 #[.agg #[.int .u64 c.ver, .int .u64 c.codec, .int .u64 c.code, .string (sOf c.dig)]] w fun e w' => e = .returned (.tuple #[.agg #[.string c.str], .bool true]) ∧ Below w.heap.size w w' := by
  rcases hc.ver with h | h
  · obtain ⟨h0, h1, h2, h3⟩ := h
    rw [h0, h1, h2]
    exact cidIn_v0 c hc h0 w
  · rw [h]; exact cidIn_v1 c hc h w
end Go.Proofs.YtnhhhjnhmbhdgaaGreatDoor

/- The offsets that are told, collected. -/
namespace Go.Proofs.YtnhhhjnhmbhdgaaGreatDoor
open Go.RowKit
set_option linter.unusedVariables false
set_option linter.unusedSimpArgs false
attribute [local go_sem] setCell_drewN alloc_drewN

def offVal (o : Nat) : Value := .int .u64 (o : Int)
/-- What was told: os, in the variable at block ob; at most so many, in the one at block mb. -/
structure OutAt (w : World) (ob mb most : Nat) (os : List Nat) : Prop where
  blk : ∃ v, w.heap[ob]? = some (.cells #[v] 29 (0, 0)) ∧ w.ownsRow (ob + 1) 23 1 v os.length (os.map offVal)
  most : w.cell? ⟨mb, 0, none⟩ = some (.int .i64 (most : Int))
  lt : mb < ob

theorem info_u64 : (Tryz.prog.info? 23).map (fun i => (i.zero, i.size, i.bytes)) = some (some (.int .u64 0), 1, 8) := by kernel_rfl
/-- What an append or a told offset keeps: all below ob, and what is no row of offsets. -/
structure Told (ob : Nat) (w w' : World) : Prop where
  bel : Below ob w w'
  oth : Lib.OthersKept 23 (some ob) w w'
theorem Told.refl (ob : Nat) (w : World) : Told ob w w := ⟨Below.refl _ _, Lib.OthersKept.refl _ _ _⟩
theorem Told.trans {ob : Nat} {a b c : World} (h : Told ob a b) (k : Told ob b c) : Told ob a c := ⟨h.bel.trans k.bel, h.oth.trans k.oth⟩
theorem Told.drewN {ob : Nat} {a b : World} (h : Told ob a b) (n : Nat) : Told ob a (b.drewN n) := ⟨⟨h.bel.os, h.bel.tape, h.bel.output, h.bel.size, h.bel.block⟩, h.oth⟩
theorem Told.cells {ob : Nat} {w w' : World} (h : Told ob w w') {g : Nat} {cs : Array Value} {t : TypeId} {fz : Nat × Nat} (hg : w.heap[g]? = some (.cells cs t fz)) (hn : g ≠ ob) (ht : t ≠ 23) : w'.heap[g]? = some (.cells cs t fz) :=
  h.oth g _ hg (fun e => hn (by simpa using e)) (fun c z e => by cases e; exact ht rfl)

set_option maxRecDepth 100000 in
set_option maxHeartbeats 800000 in
theorem tell_ok (ob mb most : Nat) (os : List Nat) (o : Nat) (w : World) (h : OutAt w ob mb most os) (hl : os.length ≤ 1000000) :
    Calls Tryz.prog 88 #[.int .u64 (o : Int), .pointer (some ⟨ob, 0, none⟩), .pointer (some ⟨mb, 0, none⟩)] w fun e w' => e = .returned (.bool (decide (os.length + 1 < most))) ∧ OutAt w' ob mb most (os ++ [o]) ∧ Told ob w w' := by
  obtain ⟨i0, hi, hz0, hz1, hz2⟩ := info_parts info_u64
  obtain ⟨⟨v, hb, hown⟩, hm, hlt⟩ := h
  have c0 := (blk_cell' hb 0).trans (show _ = some v from rfl)
  have f0 := blk_free' hb 0
  have hob := (Array.getElem?_eq_some_iff.1 hb).1
  go_enter Tryz.func88, Tryz.ntmps88
  go_wp2_with (at_builtin; refine wpList_append_own _ rfl _ _ 29 rfl (ob + 1) 23 i0 (.int .u64 0) 1 8 Tryz.underlying29 hi hz0 hz1 hz2 rfl (by decide) _ _ _ rfl (hown.alloc _) ⟨w.heap.size, 0, none⟩ 1 1 [.int .u64 (o : Int)] rfl rfl (one_cell _ _ _) (ints_oneCell .u64 [(o : Int)]) ?c3 ?c4 ?c5 ?_)
  case c3 => unfold maxLen; omega
  case c4 => omega
  case c5 => simp; omega
  intro v' w1 hown1 hgrow _
  have hg1 : (w.alloc (.cells #[.int .u64 (o : Int)] 23)).grownBy w1 v.ownBlock := hgrow
  have hvo : ∀ k, v.ownBlock = some k → ob + 1 ≤ k ∧ k < w.heap.size := hown.lt
  have hb1 : w1.heap[ob]? = some (.cells #[v] 29 (0, 0)) := (hgrow.block ob (by simp; omega) (fun e => by have := (hvo ob e.symm).1; omega)).trans ((heap_alloc_old w _ hob).trans hb)
  have f1 := blk_free' hb1 0
  have k1 := (blk_cell' hb1 0).trans (show _ = some v from rfl)
  have hz1 : w.heap.size < w1.heap.size := by have := hgrow.size; simp at this; omega
  have hm1 : w1.cell? ⟨mb, 0, none⟩ = some (.int .i64 (most : Int)) := (World.cell?_of_block (w := w) ((hgrow.block mb (by simp; omega) (fun e => by have := (hvo mb e.symm).1; omega)).trans (heap_alloc_old w _ (by omega)))).trans hm
  rcases hown1.2 with ⟨_, hbad⟩ | ⟨g, cap, cur, rfl, hge, hg, hle, hcm, hcs, htk⟩
  · omega
  have hne : g ≠ ob := by omega
  go_wp2_with fail
  go_ret
  have hb2 : (w1.setCell ⟨ob, 0, none⟩ (.slice (some ⟨g, 0, none⟩) (os.length + 1) cap)).heap[ob]? = some (.cells #[.slice (some ⟨g, 0, none⟩) (os.length + 1) cap] 29 (0, 0)) := by
    rw [setCell_eq_setRow w1 ob 0 _ _ _ _ hb1, setRow_heap w1 ob _ _ _ _ hb1]; rfl
  have hbel : Below ob w w1 := ((below_boxed w _).mono (Nat.le_of_lt hob)).trans ⟨hgrow.os, hgrow.tape, hgrow.output, hgrow.size, fun k hk => hgrow.block k (by simp; omega) (fun e => by have := (hvo k e.symm).1; omega)⟩
  have hoth : Lib.OthersKept 23 (some ob) w w1 := ((Lib.OthersKept.refl _ _ w).alloc _).grown hgrow (fun g' hg' => by
    rcases (hown.alloc (.cells #[.int .u64 (o : Int)] 23)).2 with ⟨rfl, _⟩ | ⟨g2, cap2, cur2, rfl, _, h2, _⟩
    · cases hg'
    · cases hg'; exact ⟨_, _, h2⟩)
  refine ⟨congrArg (fun b => Ending.returned (.bool b)) (decide_eq_decide.2 (by omega)), ⟨⟨_, hb2, ?_⟩, ?_, hlt⟩, ⟨hbel.setCell (Nat.le_refl _) _, hoth.setCell _ rfl _⟩⟩
  · refine ⟨by simp, .inr ⟨g, cap, cur, by simp, hge, (Below.heap_setCell _ _ _ _ hne).trans hg, by simpa using hle, hcm, hcs, ?_⟩⟩
    simp only [List.length_append, List.length_cons, List.length_nil, List.map_append, List.map_cons, List.map_nil, offVal] at htk ⊢
    exact htk
  · exact (World.cell?_of_block (w := w1) (Below.heap_setCell _ _ _ _ (by show mb ≠ ob; omega))).trans hm1
end Go.Proofs.YtnhhhjnhmbhdgaaGreatDoor
