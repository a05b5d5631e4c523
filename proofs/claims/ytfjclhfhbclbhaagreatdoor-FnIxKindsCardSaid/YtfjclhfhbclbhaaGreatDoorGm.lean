/- All offsets for an identifier, of an index sorted by digests. -/
import Derived.Test.YtfjclhfhbclbhaaGreatDoorGg
import Derived.BigRegion
namespace Go.Proofs.YtfjclhfhbclbhaaGreatDoor
open Go.RowKit
set_option linter.unusedVariables false
set_option linter.unusedSimpArgs false
attribute [local go_sem] setCell_drewN alloc_drewN

/-- Each part of an index is whole rows. -/
def Whole (secs : List Sec) : Prop := ∀ s ∈ secs, 8 ≤ s.width ∧ s.width ≤ 33554432 ∧ (∃ n, s.data.length = n * s.width ∧ n ≤ 1000000)

/-- The offsets that an index tells for a digest. -/
def Tells (secs : List (Nat × List UInt8)) (d : List UInt8) (M : List Nat) : Prop :=
  (∀ s ∈ secs, s.1 ≠ d.length + 8) ∧ M = [] ∨ ∃ s ∈ secs, s.1 = d.length + 8 ∧ ∃ n r, s.2.length = n * s.1 ∧ Halves (fun i => decide (Lib.compareBytes d (rowDig s.1 s.2 i) ≤ 0)) n r ∧ M = runFrom s.1 s.2 d (n - r) r
/-- What a search in an index ends with. -/
def GotMw (secs : List (Nat × List UInt8)) (d : List UInt8) (ev : Value) (M : List Nat) (e : Ending) : Prop :=
  GotAll ev M e ∧ ((∀ s ∈ secs, s.1 ≠ d.length + 8) ∧ M = [] ∨ ∃ s ∈ secs, s.1 = d.length + 8 ∧ ∃ n r, s.2.length = n * s.1 ∧ Halves (fun i => decide (Lib.compareBytes d (rowDig s.1 s.2 i) ≤ 0)) n r ∧ M = runFrom s.1 s.2 d (n - r) r)

theorem mwZero (W : World) : (zeroValue 271).run Tryz.prog W = .ok (.agg #[.int .u32 0, .int .u64 0, .slice none 0 0]) W := by kernel_rfl
set_option maxRecDepth 100000 in
set_option maxHeartbeats 3200000 in
theorem MwGetAll_ok (a : Addr) (mk ob mb most : Nat) (secs : List Sec) (c : CidOf) (hc : c.Ok) (ty : TypeId) (ev : Value) (w : World) (hM : MwAt w a mk secs) (hW : Whole secs) (hO : OutAt w ob mb most []) (hm : 1 ≤ most)
    (hne : ∀ s ∈ secs, s.gd ≠ ob) (hg5 : 4 < ob) (he : w.cell? ⟨4, 0, none⟩ = some (.iface ty ev)) :
    Calls Tryz.prog 177 #[.pointer (some a), .agg #[.string c.str], .func (.func 44) #[] #[.pointer (some ⟨ob, 0, none⟩), .pointer (some ⟨mb, 0, none⟩)]] w fun e w' =>
      ∃ M, GotMw (secs.map Sec.two) c.dig (.iface ty ev) M e ∧ OutAt w' ob mb most (M.take most) ∧ Told ob w w' := by
  have hobl : ob < w.heap.size := by obtain ⟨⟨v, h, _⟩, _⟩ := hO; exact (Array.getElem?_eq_some_iff.1 h).1
  have hdl := hc.dig
  have hal := World.block_lt_of_cell? w _ hM.cell
  go_enter Tryz.func177, Tryz.ntmps177
  go_wp2_with fail
  refine (Hash_ok c hc _).mono ?_
  rintro e w1 ⟨A1, c1, rfl, hc1, hA1, hB1, hF1, hb1⟩
  obtain ⟨hcc, hff⟩ := bcell hb1
  have hz : w.heap.size < w1.heap.size := by have := hb1.size; simp at this; omega
  go_wp2_with fail
  refine (Decode_ok c.code hc.code c.dig (by omega) A1 _ c1 _ hA1 rfl hc1).mono ?_
  rintro e w2 ⟨g, A2, c2, rfl, hc2, hS2, hb2, hg2, hblk⟩
  clear hcc hff
  have hbw : Below w.heap.size w w2 := by (repeat (first | (with_reducible exact Below.refl _ _) | (with_reducible exact below_boxed _ _) | (with_reducible refine below_box ?_ _) | (with_reducible refine below_drew1 ?_) | (with_reducible refine below_drewn ?_ _) | (with_reducible refine below_bytes ?_ _ _) | (with_reducible refine below_next ?_ (by assumption)) | (with_reducible refine below_set ?_ (by first | (simp; done) | (simp; omega) | omega) _)))
  have hA2 : BytesAt w2 A2 c.dig := hS2.bytes _ (hA1.below hb2)
  have hB2 : ByteBlk w2 5 A2 := hS2.blk _ _ (hB1.below hb2)
  have hF2 : From w.heap.size A2 := hS2.frm _ (hF1.mono (by simp))
  have k3 : w2.cell? ⟨g, 3, none⟩ = some (.slice A2 c.dig.length c2) := by simp [World.cell?, hblk]
  have hM2 : MwAt w2 a mk secs := hM.kp (S := fun _ => False) (Kp.of_below hbw) id id (fun _ _ => id)
  have hO2 : OutAt w2 ob mb most [] := hO.below hbw
  have hz2 : w1.heap.size ≤ w2.heap.size := hb2.size
  have he2 : w2.cell? ⟨4, 0, none⟩ = some (.iface ty ev) := (hbw.cell (p := ⟨4, 0, none⟩) (by show 4 < _; omega)).trans he
  have ca := hM2.cell
  have hdw : IntKind.u32.wrap ((c.dig.length : Int) + 8) = (c.dig.length : Int) + 8 := by rw [IntKind.wrap_u32]; omega
  have hfs := find_sec (secs := secs) (k := (c.dig.length : Int) + 8)
  have hbl : Below w.heap.size w w2 := hbw
  have hgl2 : g < w2.heap.size := (Array.getElem?_eq_some_iff.1 hblk).1
  have hal2 := World.block_lt_of_cell? w2 _ ca
  have hml2 := hM2.map.lt
  have hg52 : 4 < w2.heap.size := by omega
  clear hb1 hb2 hblk hA1 hB1 hF1 hM hO hS2
  cases hf : secs.find? (fun s => decide ((s.width : Int) = (c.dig.length : Int) + 8)) with
  | none =>
    rw [hf] at hfs
    have hl1 := (hM2.map.upd (w' := w2.drew) rfl).look_no (P := Tryz.prog) Tryz.underlying113 Tryz.underlying99 hfs true _ mwZero
    have hl2 := (hM2.map.upd (w' := (w2.alloc (.cells #[.int .u32 0, .int .u64 0, .slice none 0 0] 271)).drew) (heap_alloc_old w2 _ hml2)).look_no (P := Tryz.prog) Tryz.underlying113 Tryz.underlying99 hfs true _ mwZero
    simp only [if_true] at hl1 hl2
    have HF := Lib.hid hf
    clear hf hfs
    go_wp2_with fail
    go_region
    all_goals
      go_wp2_with fail
      go_ret
      have hbx : Below w2.heap.size w2 (w2.alloc (.cells #[.int .u32 0, .int .u64 0, .slice none 0 0] 271)) := below_boxed w2 _
      refine ⟨[], ⟨rfl, .inl ⟨?_, rfl⟩⟩, (by rw [List.take_nil]; exact (hO2.below hbx).told rfl), ((Told.of_below hbl (Nat.le_of_lt hobl)).trans (Told.of_below hbx (by omega))).drewN 1⟩
      intro s hs
      obtain ⟨s0, hs0, rfl⟩ := List.mem_map.1 hs
      have := List.find?_eq_none.1 HF.out s0 hs0
      simp only [decide_eq_true_eq] at this
      show s0.width ≠ _
      omega
  | some s =>
    rw [hf] at hfs
    have hsm : s ∈ secs := List.mem_of_find?_eq_some hf
    have hsw : (s.width : Int) = (c.dig.length : Int) + 8 := by have := List.find?_some hf; simpa using this
    obtain ⟨h8, hwl, n, hn, hn6⟩ := hW s hsm
    have hrow := hM2.row s hsm
    have hgd := hne s hsm
    have hgdl := (Array.getElem?_eq_some_iff.1 hrow).1
    have hl1 := (hM2.map.upd (w' := w2.drew) rfl).look (P := Tryz.prog) Tryz.underlying113 Tryz.underlying99 hfs true
    have hl2 := (hM2.map.upd (w' := (w2.alloc (.cells #[.int .u32 0, .int .u64 0, .slice none 0 0] 271)).drew) (heap_alloc_old w2 _ hml2)).look (P := Tryz.prog) Tryz.underlying113 Tryz.underlying99 hfs true
    simp only [if_true] at hl1 hl2
    have hdv : s.data.length / s.width = n := by rw [hn]; exact Nat.mul_div_cancel _ (by omega)
    have hsv : s.val = .agg #[.int .u32 (s.width : Int), .int .u64 (n : Int), .slice (some ⟨s.gd, 0, none⟩) s.data.length s.data.length] := by unfold Sec.val; rw [hdv]
    rw [hsv] at hl1 hl2
    have hbig : s.data.length ≤ 1099511627776 := by
      rw [hn]
      have : n * s.width ≤ 1000000 * 208 := Nat.mul_le_mul hn6 (by omega)
      omega
    have HN := Lib.hid hn
    have hsecW : ∀ W : World, Below w2.heap.size w2 W → W.heap[w2.heap.size]? = some (.cells #[.int .u32 (s.width : Int), .int .u64 (n : Int), .slice (some ⟨s.gd, 0, none⟩) s.data.length s.data.length] 271 (0, 0)) → SecAt W w2.heap.size s.gd s.width n s.data :=
      fun W hb h => ⟨h, (hb.block _ hgdl).trans hrow, h8, hwl, HN.out, hbig⟩
    have hbx : Below w2.heap.size w2 (w2.alloc (.cells #[.int .u32 (s.width : Int), .int .u64 (n : Int), .slice (some ⟨s.gd, 0, none⟩) s.data.length s.data.length] 271)).drew := below_drew1 (below_boxed w2 _)
    have hG := getAll_ok ob mb most w2.heap.size s.gd s.width n s.data c.dig A2 c2 ty ev _ (hsecW _ hbx (heap_alloc_last w2 _)) (hA2.below hbx) (hB2.below hbx) ⟨by omega, hgd⟩ (fun ad e => by have := hF2 ad e; omega) (hO2.below hbx) hm hn6 hg5 ((hbx.cell (p := ⟨4, 0, none⟩) (by show 4 < _; omega)).trans he2)
    have hTx : Told ob w (w2.alloc (.cells #[.int .u32 (s.width : Int), .int .u64 (n : Int), .slice (some ⟨s.gd, 0, none⟩) s.data.length s.data.length] 271)).drew := (Told.of_below hbl (Nat.le_of_lt hobl)).trans (Told.of_below hbx (by omega))
    have HSW := Lib.hid hsw
    clear hf hfs hsw hn hdv hsv hsecW hbx hrow
    go_wp2_with fail
    go_region
    all_goals
      go_wp2_with fail
      refine hG.mono ?_
      clear hG
      rintro e w3 ⟨r, hH, hGA, hO3, hT3⟩
      have he : ∃ v, e = .returned v := by unfold GotAll at hGA; exact ⟨_, hGA⟩
      obtain ⟨v, rfl⟩ := he
      go_wp2_with fail
      go_ret
      have hsw := HSW.out
      exact ⟨_, ⟨hGA, .inr ⟨s.two, List.mem_map.2 ⟨s, hsm, rfl⟩, by show s.width = _; omega, n, r, HN.out, hH, rfl⟩⟩, hO3, hTx.trans hT3⟩
end Go.Proofs.YtfjclhfhbclbhaaGreatDoor
