/- index.New, index.WriteTo, impl.written of an index sorted by digests. -/
import Derived.Test.YtfjclhfhbclbhaaGreatDoorLo
import Derived.Test.YtfjclhfhbclbhaaGreatDoorRf
namespace Go.Proofs.YtfjclhfhbclbhaaGreatDoor
open Go.RowKit
set_option linter.unusedVariables false
set_option linter.unusedSimpArgs false
attribute [local go_sem] setCell_drewN alloc_drewN

set_option maxRecDepth 100000 in
set_option maxHeartbeats 800000 in
theorem New_sorted (w : World) :
    Calls Tryz.prog 17 #[.int .u64 1024] w fun e w' => e = .returned (.tuple #[.iface mwT (.pointer (some ⟨w.heap.size + 1, 0, none⟩)), .nilIface]) ∧ MwAt w' ⟨w.heap.size + 1, 0, none⟩ w.heap.size [] ∧ Below w.heap.size w w' := by
  go_enter Tryz.func17, Tryz.ntmps17
  go_wp2_with fail
  refine (newSorted_ok _).mono ?_
  rintro e w1 ⟨rfl, hM, hB⟩
  go_wp2_with fail
  go_ret2
  exact ⟨rfl, hM, hB⟩

theorem method_CodecM (v : Value) (w : World) : (method 448 mwT v "Codec").run Tryz.prog w = .ok (257, v) w := by kernel_rfl
theorem method_MarshalM (v : Value) (w : World) : (method 448 mwT v "Marshal").run Tryz.prog w = .ok (195, v) w := by kernel_rfl

set_option maxRecDepth 100000 in
theorem MwCodec_ok (a : Addr) (w : World) : Calls Tryz.prog 257 #[.pointer (some a)] w fun e w' => e = .returned (.int .u64 1024) ∧ w = w' := by
  go_enter Tryz.func257, Tryz.ntmps257
  go_wp2_with fail
  go_ret
  exact ⟨rfl, rfl⟩

theorem cut_hi (g hi n c : Nat) (hh : hi ≤ n) (hn : n ≤ c) (hne : 0 < c) (x : Int) (hx : x = hi) (W : World) :
    (Instr.slice 27 (.slice (some ⟨g, 0, none⟩) n c) none (some (.int .i64 x)) none).run Tryz.prog W = .ok (.slice (some ⟨g, 0, none⟩) hi c) W := by
  subst hx
  have hel : Tryz.prog.elem 27 = 5 := by kernel_rfl
  rw [run_slice_h W 27 (some ⟨g, 0, none⟩) n c (by rw [hel]; exact Tryz.underlying27) .i64 (hi : Int) (Int.natCast_nonneg _) (by omega), hel, u8_size]
  have hne' : ¬ c = 0 := by omega
  simp only [Result.andThen, sliced, Int.toNat_natCast, Nat.zero_mul, Option.map_some]
  simp only [hne', if_false, Addr.add_mid, Nat.sub_zero]

set_option maxRecDepth 100000 in
set_option maxHeartbeats 1600000 in
theorem WriteTo_sorted (B b mk most : Nat) (a : Addr) (secs : List Sec) (w : World) (hsort : SortsTo 209 .u32 99 most) (hmost : secs.length ≤ most) (h : BufAt w B b []) (hB : B ≤ w.heap.size) (hM : MwAt w a mk secs)
    (hab : a.block < B) (hmk : mk < B) (hgd : ∀ s ∈ secs, s.gd < B) (hw : ∀ s ∈ secs, s.width < 4294967296) (hlen : secs.length ≤ 1000000) (hlim : (secsBytes (sortedSecs secs)).length ≤ 1000000000000) :
    Calls Tryz.prog 11 #[.iface mwT (.pointer (some a)), .iface 46 (.pointer (some ⟨b, 0, none⟩))] w fun e w' =>
      (∃ n : Int, e = .returned (.tuple #[.int .u64 n, .nilIface])) ∧ BufAt w' B b (Lib.uvarint 1024 ++ mwBytes (sortedSecs secs)) ∧ WrK B b w w' := by
  have h1 := method_CodecM
  have h2 := method_MarshalM
  have h3 := method_bufWrite
  have h4 := ahead_bufWrite
  have hBb : B ≤ b := h.1
  have hbl := h.lt
  have hu : Lib.uvarint 1024 = [128, 8] := by rw [Lib.uvarint_big (by omega), Lib.uvarint_small (by omega)]; rfl
  have hmk10 := fun W => make8 10 10 rfl (by omega) W
  have hmf : ∀ (fn : Fn) (first cap : Array Value) (w : World), (Instr.makeFunc fn first cap).run Tryz.prog w = .ok (.func fn first cap) w := fun _ _ _ _ => rfl
  have hP := PutUvarint_ok w.heap.size 0 10 10 1024 (by omega) (zeros8 10) 5 (w.alloc (.cells (zeros8 10).toArray 5)) (heap_alloc_last w _) (by rw [hu]; decide) (by rw [hu, zeros8_length]; decide)
  rw [hu] at hP
  have hcut := fun W => cut_hi w.heap.size 2 10 10 (by omega) (by omega) (by omega) 2 rfl W
  go_enter Tryz.func11, Tryz.ntmps11
  go_wp2_with fail
  refine (MwCodec_ok a _).mono ?_
  rintro e w0 ⟨rfl, rfl⟩
  go_wp2_with fail
  refine hP.mono ?_
  clear hP
  rintro e w1 ⟨rfl, hg1, hb1⟩
  have hb1' := hb1 w.heap.size (Nat.le_refl _)
  have hbw : Below w.heap.size w w1 := (below_boxed w _).trans hb1'
  have hby : BytesAt w1 (some ⟨w.heap.size, 0, none⟩) [128, 8] := by
    refine .inr ⟨_, _, rfl, fun j x hj => ?_⟩
    rw [blk_cell' hg1]
    match j, hj with
    | 0, hj => cases hj; rfl
    | 1, hj => cases hj; rfl
  have hB1 := h.below hbw
  have hK1 : WrK B b w w1 := WrK.of_below hbw hB
  have hz1 := hbw.size
  have hWr := bufWrite_ok B b [] [128, 8] ⟨w.heap.size, 0, none⟩ 2 10 w1.drew (hB1.same rfl) (by show B ≤ w1.heap.size; omega) hby rfl (by show w.heap.size ≠ b; omega) (by decide)
  clear hg1 hb1 hb1' hbw h hby hmk10
  go_wp2_with fail
  refine wp_region_noPanic ?_
  go_region_with (go_at_call 162; refine hWr.mono ?_; rintro e w2 ⟨rfl, hB2, hK2⟩)
  all_goals
    refine NoPanic.normal ?_
    have hK2' : WrK B b w w2 := (hK1.drewN 1 : WrK B b w w1.drew).trans hK2
    have hM2 := hK2'.mw hM hab hmk hgd
    have hz2 := hK2'.bel.size
    have hMar := MwMarshal_ok B b mk most ([] ++ [128, 8]) a secs w2 hsort hmost hB2 (by omega) hM2 hab hmk hgd hw hlen (by show 2 + 4 + _ ≤ _; omega)
    clear hB2 hM2
    go_wp2_with fail
    refine hMar.mono ?_
    clear hMar
    rintro e w3 ⟨rfl, hB3, hK3⟩
    go_wp2_with fail
    go_ret2
    exact ⟨⟨_, rfl⟩, by rw [hu]; exact hB3, hK2'.trans hK3⟩

set_option maxRecDepth 100000 in
set_option maxHeartbeats 1600000 in
/-- An index, as it is written. -/
theorem written_sorted (mk most : Nat) (a : Addr) (secs : List Sec) (w : World) (hsort : SortsTo 209 .u32 99 most) (hmost : secs.length ≤ most) (hM : MwAt w a mk secs)
    (hw : ∀ s ∈ secs, s.width < 4294967296) (hlen : secs.length ≤ 1000000) (hlim : (secsBytes (sortedSecs secs)).length ≤ 1000000000000) :
    Calls Tryz.prog 19 #[.iface mwT (.pointer (some a)), .nilIface] w fun e w' => e = .returned (.tuple #[.string (sOf (Lib.uvarint 1024 ++ mwBytes (sortedSecs secs))), .bool true]) ∧ Below w.heap.size w w' := by
  have hal := World.block_lt_of_cell? w _ hM.cell
  have hmkl := hM.map.lt
  have hgl : ∀ s ∈ secs, s.gd < w.heap.size := fun s hs => (Array.getElem?_eq_some_iff.1 (hM.row s hs)).1
  have hb0 : Below w.heap.size w (w.alloc (.cells #[.slice none 0 0, .int .i64 0, .int .i8 0] 43)) := below_boxed w _
  have hW := WriteTo_sorted w.heap.size w.heap.size mk most a secs (w.alloc (.cells #[.slice none 0 0, .int .i64 0, .int .i8 0] 43)) hsort hmost (Lib.fresh_isBuffer 43 5 w) hb0.size (hM.kp (S := fun _ => False) (Kp.of_below hb0) id id (fun _ _ => id)) hal hmkl hgl hw hlen hlim
  clear hM
  go_enter Tryz.func19, Tryz.ntmps19
  go_wp2_with fail
  refine hW.mono ?_
  rintro e w1 ⟨⟨n, rfl⟩, hB1, hK1⟩
  go_wp2_with fail
  refine (Tryz.Buffer_String w.heap.size w.heap.size (Lib.uvarint 1024 ++ mwBytes (sortedSecs secs)) w1 hB1).mono ?_
  rintro e w2 ⟨rfl, m, rfl⟩
  go_wp2_with fail
  go_ret2
  exact ⟨rfl, below_drewn (hb0.trans hK1.bel) m⟩
end Go.Proofs.YtfjclhfhbclbhaaGreatDoor
