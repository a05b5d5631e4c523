import Derived.Test.YtobdjcnojbnegaaGreatDoorG08
import Derived.BigRegion
import Derived.Test.YtobdjcnojbnegaaGreatDoorG07
import Derived.LaidEql
import Derived.Test.YtobdjcnojbnegaaGreatDoorG06
import Derived.Shelf.GgSortMore.Stable
/- All offsets for an identifier, of an index sorted by digests. -/
namespace Go.Proofs.YtobdjcnojbnegaaGreatDoor
open Go.RowKit
set_option linter.unusedVariables false
set_option linter.unusedSimpArgs false
attribute [local go_sem] setCell_drewN alloc_drewN

/-- Each part of an index is whole rows. -/
def Whole (secs : List Sec) : Prop := ∀ s ∈ secs, 8 ≤ s.width ∧ s.width ≤ 33554432 ∧ (∃ n, s.data.length = n * s.width ∧ n ≤ 1000000)

/-- The offsets that an index tells for a digest. -/
def Tells (secs : List (Nat × List UInt8)) (d : List UInt8) (M : List Nat) : Prop :=
  (∀ s ∈ secs, s.1 ≠ d.length + 8) ∧ M = [] ∨ ∃ s ∈ secs, s.1 = d.length + 8 ∧ ∃ n r, s.2.length = n * s.1 ∧ Halves (fun i => decide (Lib.compareBytes d (rowDig s.1 s.2 i) ≤ 0)) n r ∧ M = runFrom s.1 s.2 d (n - r) r
/-- What a search in an index ends with. -/
def GotMw (secs : List (Nat × List UInt8)) (d : List UInt8) (ev : Value) (M : List Nat) (e : Ending) : Prop :=
  GotAll ev M e ∧ ((∀ s ∈ secs, s.1 ≠ d.length + 8) ∧ M = [] ∨ ∃ s ∈ secs, s.1 = d.length + 8 ∧ ∃ n r, s.2.length = n * s.1 ∧ Halves (fun i => decide (Lib.compareBytes d (rowDig s.1 s.2 i) ≤ 0)) n r ∧ M = runFrom s.1 s.2 d (n - r) r)

theorem mwZero (W : World) : (zeroValue 295).run Tryz.prog W = .ok (.agg #[.int .u32 0, .int .u64 0, .slice none 0 0]) W := by kernel_rfl
set_option maxRecDepth 100000 in
set_option maxHeartbeats 3200000 in
theorem MwGetAll_ok (a : Addr) (mk ob mb most : Nat) (secs : List Sec) (c : CidOf) (hc : c.Ok) (ty : TypeId) (ev : Value) (w : World) (hM : MwAt w a mk secs) (hW : Whole secs) (hO : OutAt w ob mb most []) (hm : 1 ≤ most)
    (hne : ∀ s ∈ secs, s.gd ≠ ob) (hg5 : 0 < ob) (he : w.cell? ⟨0, 0, none⟩ = some (.iface ty ev)) :
    Calls Tryz.prog 195 #[.pointer (some a), .agg #[.string c.str], .func (.func 39) #[] #[.pointer (some ⟨ob, 0, none⟩), .pointer (some ⟨mb, 0, none⟩)]] w fun e w' =>
      ∃ M, GotMw (secs.map Sec.two) c.dig (.iface ty ev) M e ∧ OutAt w' ob mb most (M.take most) ∧ Told ob w w' := by
  have hobl : ob < w.heap.size := by obtain ⟨⟨v, h, _⟩, _⟩ := hO; exact (Array.getElem?_eq_some_iff.1 h).1
  have hdl := hc.dig
  have hal := World.block_lt_of_cell? w _ hM.cell
  go_enter Tryz.func195, Tryz.ntmps195
  go_wp2_with fail
  refine (Hash_ok c hc _).mono ?_
  rintro e w1 ⟨A1, c1, rfl, hc1, hA1, hB1, hF1, hb1⟩
  obtain ⟨hcc, hff⟩ := bcell hb1
  have hz : w.heap.size < w1.heap.size := by have := hb1.size; simp at this; omega
  go_wp2_with fail
  refine (Decode_ok c.code hc.code c.dig (by omega) A1 _ c1 _ hA1 rfl hc1).mono ?_
  rintro e w2 ⟨g, A2, c2, rfl, hc2, hS2, hb2, hg2, hblk⟩
  clear hcc hff
  have hbw : Below w.heap.size w w2 := by (repeat (first | (with_reducible exact Below.refl _ _) | (with_reducible exact below_boxed _ _) | (with_reducible refine below_box ?_ _) | (with_reducible refine below_drew1 ?_) | (with_reducible refine below_drewn ?_ _) | (with_reducible refine below_bytes ?_ _ _) | (with_reducible refine below_next ?_ (by assumption)) | (with_reducible refine below_set ?_ (by first | (simp; done) | (simp; omega) | omega) _)))
  have hA2 : BytesAt w2 A2 c.dig := hS2.bytes _ (hA1.below hb2)
  have hB2 : ByteBlk w2 5 A2 := hS2.blk _ _ (hB1.below hb2)
  have hF2 : From w.heap.size A2 := hS2.frm _ (hF1.mono (by simp))
  have k3 : w2.cell? ⟨g, 3, none⟩ = some (.slice A2 c.dig.length c2) := by simp [World.cell?, hblk]
  have hM2 : MwAt w2 a mk secs := hM.kp (S := fun _ => False) (Kp.of_below hbw) id id (fun _ _ => id)
  have hO2 : OutAt w2 ob mb most [] := hO.below hbw
  have hz2 : w1.heap.size ≤ w2.heap.size := hb2.size
  have he2 : w2.cell? ⟨0, 0, none⟩ = some (.iface ty ev) := (hbw.cell (p := ⟨0, 0, none⟩) (by show 0 < _; omega)).trans he
  have ca := hM2.cell
  have hdw : IntKind.u32.wrap ((c.dig.length : Int) + 8) = (c.dig.length : Int) + 8 := by rw [IntKind.wrap_u32]; omega
  have hfs := find_sec (secs := secs) (k := (c.dig.length : Int) + 8)
  have hbl : Below w.heap.size w w2 := hbw
  have hgl2 : g < w2.heap.size := (Array.getElem?_eq_some_iff.1 hblk).1
  have hal2 := World.block_lt_of_cell? w2 _ ca
  have hml2 := hM2.map.lt
  have hg52 : 0 < w2.heap.size := by omega
  clear hb1 hb2 hblk hA1 hB1 hF1 hM hO hS2
  cases hf : secs.find? (fun s => decide ((s.width : Int) = (c.dig.length : Int) + 8)) with
  | none =>
    rw [hf] at hfs
    have hl1 := (hM2.map.upd (w' := w2.drew) rfl).look_no (P := Tryz.prog) Tryz.underlying164 Tryz.underlying138 hfs true _ mwZero
    have hl2 := (hM2.map.upd (w' := (w2.alloc (.cells #[.int .u32 0, .int .u64 0, .slice none 0 0] 295)).drew) (heap_alloc_old w2 _ hml2)).look_no (P := Tryz.prog) Tryz.underlying164 Tryz.underlying138 hfs true _ mwZero
    simp only [if_true] at hl1 hl2
    have HF := Lib.hid hf
    clear hf hfs
    go_wp2_with fail
    go_region
    all_goals
      go_wp2_with fail
      go_ret
      have hbx : Below w2.heap.size w2 (w2.alloc (.cells #[.int .u32 0, .int .u64 0, .slice none 0 0] 295)) := below_boxed w2 _
      refine ⟨[], ⟨rfl, .inl ⟨?_, rfl⟩⟩, (by rw [List.take_nil]; exact (hO2.below hbx).told rfl), ((Told.of_below hbl (Nat.le_of_lt hobl)).trans (Told.of_below hbx (by omega))).drewN 1⟩
      intro s hs
      obtain ⟨s0, hs0, rfl⟩ := List.mem_map.1 hs
      have := List.find?_eq_none.1 HF.out s0 hs0
      simp only [decide_eq_true_eq] at this
      show s0.width ≠ _
      omega
  | some s =>
    rw [hf] at hfs
    have hsm : s ∈ secs := List.mem_of_find?_eq_some hf
    have hsw : (s.width : Int) = (c.dig.length : Int) + 8 := by have := List.find?_some hf; simpa using this
    obtain ⟨h8, hwl, n, hn, hn6⟩ := hW s hsm
    have hrow := hM2.row s hsm
    have hgd := hne s hsm
    have hgdl := (Array.getElem?_eq_some_iff.1 hrow).1
    have hl1 := (hM2.map.upd (w' := w2.drew) rfl).look (P := Tryz.prog) Tryz.underlying164 Tryz.underlying138 hfs true
    have hl2 := (hM2.map.upd (w' := (w2.alloc (.cells #[.int .u32 0, .int .u64 0, .slice none 0 0] 295)).drew) (heap_alloc_old w2 _ hml2)).look (P := Tryz.prog) Tryz.underlying164 Tryz.underlying138 hfs true
    simp only [if_true] at hl1 hl2
    have hdv : s.data.length / s.width = n := by rw [hn]; exact Nat.mul_div_cancel _ (by omega)
    have hsv : s.val = .agg #[.int .u32 (s.width : Int), .int .u64 (n : Int), .slice (some ⟨s.gd, 0, none⟩) s.data.length s.data.length] := by unfold Sec.val; rw [hdv]
    rw [hsv] at hl1 hl2
    have hbig : s.data.length ≤ 1099511627776 := by
      rw [hn]
      have : n * s.width ≤ 1000000 * 208 := Nat.mul_le_mul hn6 (by omega)
      omega
    have HN := Lib.hid hn
    have hsecW : ∀ W : World, Below w2.heap.size w2 W → W.heap[w2.heap.size]? = some (.cells #[.int .u32 (s.width : Int), .int .u64 (n : Int), .slice (some ⟨s.gd, 0, none⟩) s.data.length s.data.length] 295 (0, 0)) → SecAt W w2.heap.size s.gd s.width n s.data :=
      fun W hb h => ⟨h, (hb.block _ hgdl).trans hrow, h8, hwl, HN.out, hbig⟩
    have hbx : Below w2.heap.size w2 (w2.alloc (.cells #[.int .u32 (s.width : Int), .int .u64 (n : Int), .slice (some ⟨s.gd, 0, none⟩) s.data.length s.data.length] 295)).drew := below_drew1 (below_boxed w2 _)
    have hG := getAll_ok ob mb most w2.heap.size s.gd s.width n s.data c.dig A2 c2 ty ev _ (hsecW _ hbx (heap_alloc_last w2 _)) (hA2.below hbx) (hB2.below hbx) ⟨by omega, hgd⟩ (fun ad e => by have := hF2 ad e; omega) (hO2.below hbx) hm hn6 hg5 ((hbx.cell (p := ⟨0, 0, none⟩) (by show 0 < _; omega)).trans he2)
    have hTx : Told ob w (w2.alloc (.cells #[.int .u32 (s.width : Int), .int .u64 (n : Int), .slice (some ⟨s.gd, 0, none⟩) s.data.length s.data.length] 295)).drew := (Told.of_below hbl (Nat.le_of_lt hobl)).trans (Told.of_below hbx (by omega))
    have HSW := Lib.hid hsw
    clear hf hfs hsw hn hdv hsv hsecW hbx hrow
    go_wp2_with fail
    go_region
    all_goals
      go_wp2_with fail
      refine hG.mono ?_
      clear hG
      rintro e w3 ⟨r, hH, hGA, hO3, hT3⟩
      have he : ∃ v, e = .returned v := by unfold GotAll at hGA; exact ⟨_, hGA⟩
      obtain ⟨v, rfl⟩ := he
      go_wp2_with fail
      go_ret
      have hsw := HSW.out
      exact ⟨_, ⟨hGA, .inr ⟨s.two, List.mem_map.2 ⟨s, hsm, rfl⟩, by show s.width = _; omega, n, r, HN.out, hH, rfl⟩⟩, hO3, hTx.trans hT3⟩
end Go.Proofs.YtobdjcnojbnegaaGreatDoor

/- index.ReadFrom of an index sorted by digests; impl.IxAll over it. -/
namespace Go.Proofs.YtobdjcnojbnegaaGreatDoor
open Go.RowKit
set_option linter.unusedVariables false
set_option linter.unusedSimpArgs false
attribute [local go_sem] setCell_drewN alloc_drewN

theorem own_mono {w : World} {B B' : Nat} {e : TypeId} {k : Nat} {v : Value} {n : Nat} {xs : List Value} (h : w.ownsRow B e k v n xs) (hb : B' ≤ B) : w.ownsRow B' e k v n xs := by
  refine ⟨h.1, ?_⟩
  rcases h.2 with h | ⟨g, cap, cur, e1, e2, e3⟩
  · exact .inl h
  · exact .inr ⟨g, cap, cur, e1, Nat.le_trans hb e2, e3⟩
def whyOf (M : List Nat) : Int := if M = [] then 1 else 0
/-- A slice of offsets of the call's own. -/
def OutOf (w : World) (B : Nat) (v : Value) (os : List Nat) : Prop := w.ownsRow B 23 1 v os.length (os.map offVal)
theorem OutOf.mono {w : World} {B B' : Nat} {v : Value} {os : List Nat} (h : OutOf w B v os) (hb : B' ≤ B) : OutOf w B' v os := own_mono h hb
theorem method_UnmarshalM (v : Value) (w : World) : (method 471 mwT v "Unmarshal").run Tryz.prog w = .ok (217, v) w := by kernel_rfl
theorem method_GetAllM (v : Value) (w : World) : (method 471 mwT v "GetAll").run Tryz.prog w = .ok (195, v) w := by kernel_rfl
theorem uv1024 : Lib.uvarint 1024 = [128, 8] := by rw [Lib.uvarint_big (by omega), Lib.uvarint_small (by omega)]; rfl

set_option maxRecDepth 100000 in
set_option maxHeartbeats 1600000 in
theorem ReadFrom_sorted (b : Nat) (A : Option Addr) (cap : Nat) (bs : List UInt8) (ss : List (Nat × List UInt8)) (rest : List UInt8) (hw : ∀ s ∈ ss, 8 ≤ s.1 ∧ s.1 ≤ 33554432) (hnd : (ss.map (·.1)).Nodup) (w : World) (hsm : bs.length ≤ 16777216) (h : RdAt w b A cap bs 0)
    (hbs : bs = Lib.uvarint 1024 ++ (mwBytes ss ++ rest)) (hA : ∀ g' o, A = some ⟨g', o, none⟩ → g' < w.heap.size) :
    Calls Tryz.prog 32 #[.iface 63 (.pointer (some ⟨b, 0, none⟩))] w fun e w' => ∃ a mk secs, e = .returned (.tuple #[.iface mwT (.pointer (some a)), .nilIface]) ∧ RdAt w' b A cap bs (2 + (mwBytes ss).length) ∧
      secs.map Sec.two = ss ∧ MwAt w' a mk secs ∧ (∀ s ∈ secs, w.heap.size ≤ s.gd) ∧ w.heap.size ≤ a.block ∧ w.heap.size ≤ mk ∧ Kp (fun i => i = b) w w' := by
  have hme := method_UnmarshalM
  have hbl := h.blt
  have hRC := ReadCodec_ok b A cap bs 0 1024 (by omega) (mwBytes ss ++ rest) w h (by rw [List.drop_zero]; exact hbs)
  rw [uv1024] at hRC
  have hd2 : bs.drop 2 = mwBytes ss ++ rest := by rw [hbs, uv1024]; rfl
  have HD := Lib.hid hd2
  clear hbs hd2 h
  go_enter Tryz.func32, Tryz.ntmps32
  go_wp2_with fail
  refine hRC.mono ?_
  clear hRC
  rintro e w1 ⟨rfl, hR1, hK1⟩
  have hz1 := hK1.size
  go_wp2_with fail
  refine (New_sorted _).mono ?_
  rintro e w2 ⟨rfl, hM2, hb2⟩
  have hR2 : RdAt w2 b A cap bs 2 := hR1.keep (S := fun _ => False) (Kp.of_below hb2) id (fun _ _ _ => id)
  have hal := World.block_lt_of_cell? w2 _ hM2.cell
  have hU := MwUnmarshal_ok b A cap bs 2 ⟨w1.heap.size + 1, 0, none⟩ w1.heap.size ss rest hw hnd w2 hsm hR2 HD.out hM2 (by show w1.heap.size + 1 ≠ b; omega) (by omega) (by show w1.heap.size + 1 ≠ w1.heap.size; omega) (fun g' o e => by have := hA g' o e; have := hb2.size; refine ⟨by omega, ?_, by omega⟩; show g' ≠ w1.heap.size + 1; omega)
  clear hR1 hM2 hR2 hw hnd
  go_wp2_with fail
  refine hU.mono ?_
  clear hU
  rintro e w3 ⟨rfl, hR3, ⟨secs, hs, hM3, hg⟩, hK3⟩
  have hz2 := hb2.size
  go_wp2_with fail
  go_ret2
  refine ⟨_, _, secs, rfl, hR3, hs, hM3, fun s h => by have := hg s h; omega, by show w.heap.size ≤ w1.heap.size + 1; omega, hz1, ?_⟩
  exact (hK1.trans (S' := fun _ => False) (Kp.of_below hb2) (fun _ h => h.elim)).trans hK3 (fun i h => h.elim .inl (fun e => .inr (by omega)))

set_option maxRecDepth 100000 in
theorem found_nil (w : World) : Calls Tryz.prog 40 #[.nilIface] w fun e w' => e = .returned (.int .u8 0) ∧ w = w' := by
  go_enter Tryz.func40, Tryz.ntmps40
  go_wp2_with fail
  go_ret
  exact ⟨rfl, rfl⟩
theorem infoErrP : (Tryz.prog.info? 168).map (·.comparable) = some true := by kernel_rfl
theorem infoErrS : (Tryz.prog.info? 170).isSome = true := by kernel_rfl
theorem eql_err (p : Addr) (w : World) : (Go.binOp .eql 69 (.iface 168 (.pointer (some p))) (.iface 168 (.pointer (some p)))).run Tryz.prog w = .ok (.bool true) w := by
  obtain ⟨i, hi, hc⟩ := Option.map_eq_some_iff.1 infoErrP
  obtain ⟨j, hj⟩ := Option.isSome_iff_exists.1 infoErrS
  exact run_eql_iface_ptr_same w p Tryz.underlying69 Tryz.underlying168 hi hc hj
set_option maxRecDepth 100000 in
theorem found_no (p : Addr) (w : World) (he : w.cell? ⟨0, 0, none⟩ = some (.iface 168 (.pointer (some p)))) : Calls Tryz.prog 40 #[.iface 168 (.pointer (some p))] w fun e w' => e = .returned (.int .u8 1) ∧ w = w' := by
  have hq := eql_err
  go_enter Tryz.func40, Tryz.ntmps40
  go_wp2_with fail
  go_ret
  exact ⟨rfl, rfl⟩
set_option maxRecDepth 100000 in
set_option maxHeartbeats 3200000 in
theorem offsets_sorted (s : ByteArray) (ss : List (Nat × List UInt8)) (rest : List UInt8) (hs : s.data.toList = Lib.uvarint 1024 ++ (mwBytes ss ++ rest)) (hw : ∀ x ∈ ss, 8 ≤ x.1 ∧ x.1 ≤ 33554432 ∧ ∃ n, x.2.length = n * x.1 ∧ n ≤ 1000000) (hnd : (ss.map (·.1)).Nodup)
    (hl : s.size ≤ 16777216) (c : CidOf) (hc : c.Ok) (most : Nat) (hm : 1 ≤ most) (p : Addr) (w : World) (hg5 : 0 < w.heap.size) (he : w.cell? ⟨0, 0, none⟩ = some (.iface 168 (.pointer (some p)))) :
    Calls Tryz.prog 21 #[.string s, .agg #[.int .u64 c.ver, .int .u64 c.codec, .int .u64 c.code, .string (sOf c.dig)], .int .i64 (most : Int)] w fun e w' =>
      ∃ v M, e = .returned (.tuple #[v, .int .u8 (whyOf M)]) ∧ Tells ss c.dig M ∧ OutOf w' w.heap.size v (M.take most) ∧ Below w.heap.size w w' := by
  have hsz : s.size = s.data.toList.length := by rw [Array.length_toList]; rfl
  generalize hS : s.data.toList = bs at *
  have HS := Lib.hid hS; clear hS
  have HZ := Lib.hid hsz
  have hl' : bs.length ≤ 16777216 := by omega
  have hp : 0 < bs.length := by rw [hs, List.length_append, uv1024]; simp; omega
  clear hl hsz
  have HB := Lib.hid hs; clear hs
  have hme := method_GetAllM
  have hmf : ∀ (fn : Fn) (first cap : Array Value) (w : World), (Instr.makeFunc fn first cap).run Tryz.prog w = .ok (.func fn first cap) w := fun _ _ _ _ => rfl
  go_enter Tryz.func21, Tryz.ntmps21
  go_wp2_with (with_reducible refine conv_event rfl (.tmp 14) 9 65 5 rfl Tryz.underlying9 Tryz.underlying65 Tryz.underlying5 s rfl ?_)
  intro g0 cap0 w0 hg0 hcap0 hb0 hA0 hB0
  refine later ?_
  have hwA : Below w.heap.size w ((w.alloc (.cells #[.int .u64 (c.ver : Int), .int .u64 (c.codec : Int), .int .u64 (c.code : Int), .string (sOf c.dig)] 25)).alloc (.cells #[.int .i64 (most : Int)] 3)) := by (repeat (first | (with_reducible exact Below.refl _ _) | (with_reducible exact below_boxed _ _) | (with_reducible refine below_box ?_ _) | (with_reducible refine below_drew1 ?_) | (with_reducible refine below_drewn ?_ _) | (with_reducible refine below_bytes ?_ _ _) | (with_reducible refine below_next ?_ (by assumption)) | (with_reducible refine below_set ?_ (by first | (simp; done) | (simp; omega) | omega) _)))
  have hA1 := heap_alloc_last w (.cells #[.int .u64 (c.ver : Int), .int .u64 (c.codec : Int), .int .u64 (c.code : Int), .string (sOf c.dig)] 25)
  have hA2 := heap_alloc_last (w.alloc (.cells #[.int .u64 (c.ver : Int), .int .u64 (c.codec : Int), .int .u64 (c.code : Int), .string (sOf c.dig)] 25)) (.cells #[.int .i64 (most : Int)] 3)
  have hsz1 : (w.alloc (.cells #[.int .u64 (c.ver : Int), .int .u64 (c.codec : Int), .int .u64 (c.code : Int), .string (sOf c.dig)] 25)).heap.size = w.heap.size + 1 := by simp
  rw [hsz1] at hA2
  have hcb : w0.heap[w.heap.size]? = some (.cells #[.int .u64 (c.ver : Int), .int .u64 (c.codec : Int), .int .u64 (c.code : Int), .string (sOf c.dig)] 25 (0, 0)) := (hb0.block _ (by omega)).trans ((heap_alloc_old _ _ (by simp)).trans hA1)
  have hmb : w0.heap[w.heap.size + 1]? = some (.cells #[.int .i64 (most : Int)] 3 (0, 0)) := (hb0.block _ (by omega)).trans hA2
  have hbw0 : Below w.heap.size w w0 := hwA.trans (hb0.mono (by omega))
  have hgz : g0 < w0.heap.size := by
    rw [HS.out] at hA0
    rcases hA0 with h | ⟨g, o, e, hc⟩
    · rw [h] at hp; simp at hp
    · cases e
      exact World.block_lt_of_cell? w0 _ (hc 0 bs[0] (List.getElem?_eq_getElem hp))
  rw [HS.out] at hA0
  rw [HZ.out] at hcap0
  have hg0' : w.heap.size + 1 < g0 := by omega
  have hNR := NewReader_ok (some ⟨g0, 0, none⟩) cap0 bs w0 hA0 hcap0 (by omega) (fun g o e => by cases e; exact hgz)
  clear hA1 hA2 hsz1 hwA hb0 hA0 hB0 hg0
  rw [HZ.out]
  refine now ?_
  go_wp2_with fail
  refine hNR.mono ?_
  rintro e w1 ⟨rfl, hR1, hb1⟩
  have hz01 : w0.heap.size < w1.heap.size := hR1.blt
  have hRF := ReadFrom_sorted w0.heap.size (some ⟨g0, 0, none⟩) cap0 bs ss rest (fun x hx => ⟨(hw x hx).1, (hw x hx).2.1⟩) hnd w1 hl' hR1 HB.out (fun g' o e => by cases e; omega)
  have hbw1 := hbw0.trans (hb1.mono hbw0.size)
  have hcb1 := (hb1.block _ (Array.getElem?_eq_some_iff.1 hcb).1).trans hcb
  have hmb1 := (hb1.block _ (Array.getElem?_eq_some_iff.1 hmb).1).trans hmb
  clear hNR hR1 hb1 hcb hmb
  go_wp2_with fail
  refine hRF.mono ?_
  clear hRF
  rintro e w2 ⟨a, mk, secs, rfl, _, hss, hM2, hgds, haz, hmz, hK2⟩
  have hcb2 := (hK2.block _ (Array.getElem?_eq_some_iff.1 hcb1).1 (by omega)).trans hcb1
  have hmb2 := (hK2.block _ (Array.getElem?_eq_some_iff.1 hmb1).1 (by omega)).trans hmb1
  have hbw2 : Below w.heap.size w w2 := hK2.to_below hbw1 (fun i hi => by omega)
  have hz12 := hK2.size
  have kc0 := (blk_cell' hcb2 0).trans (show _ = some (Value.int .u64 (c.ver : Int)) from rfl)
  have kc1 := (blk_cell' hcb2 1).trans (show _ = some (Value.int .u64 (c.codec : Int)) from rfl)
  have kc2 := (blk_cell' hcb2 2).trans (show _ = some (Value.int .u64 (c.code : Int)) from rfl)
  have kc3 := (blk_cell' hcb2 3).trans (show _ = some (Value.string (sOf c.dig)) from rfl)
  have hWh : Whole secs := by
    intro x hx
    have := hw x.two (by rw [← hss]; exact List.mem_map.2 ⟨x, hx, rfl⟩)
    exact ⟨this.1, this.2.1, this.2.2⟩
  have HSS := Lib.hid hss
  clear hK2 hcb1 hmb1 hbw1 hbw0 hw hnd hss
  go_wp2_with fail
  refine (cidIn_ok c hc w2).mono ?_
  rintro e w3 ⟨rfl, hb3⟩
  have hbX : Below w2.heap.size w2 ((w3.alloc (.cells #[.string c.str] 85)).alloc (.cells #[.slice none 0 0] 31)) := (by (repeat (first | (with_reducible exact Below.refl _ _) | (with_reducible exact below_boxed _ _) | (with_reducible refine below_box ?_ _) | (with_reducible refine below_drew1 ?_) | (with_reducible refine below_drewn ?_ _) | (with_reducible refine below_bytes ?_ _ _) | (with_reducible refine below_next ?_ (by assumption)) | (with_reducible refine below_set ?_ (by first | (simp; done) | (simp; omega) | omega) _))) : Below w2.heap.size w2 _)
  have hsz3 : (w3.alloc (.cells #[.string c.str] 85)).heap.size = w3.heap.size + 1 := by simp
  have hz3 := hb3.size
  have hMX := hM2.kp (S := fun _ => False) (Kp.of_below hbX) id id (fun _ _ => id)
  have hbwX : Below w.heap.size w ((w3.alloc (.cells #[.string c.str] 85)).alloc (.cells #[.slice none 0 0] 31)) := below_next hbw2 hbX
  have hOX : OutAt ((w3.alloc (.cells #[.string c.str] 85)).alloc (.cells #[.slice none 0 0] 31)) (w3.heap.size + 1) (w.heap.size + 1) most [] := by
    have h1 := heap_alloc_last (w3.alloc (.cells #[.string c.str] 85)) (.cells #[.slice none 0 0] 31)
    rw [hsz3] at h1
    refine ⟨⟨_, h1, World.ownsRow_nil _ _ _ _⟩, ?_, by omega⟩
    exact (blk_cell' ((hbX.block _ (Array.getElem?_eq_some_iff.1 hmb2).1).trans hmb2) 0).trans rfl
  have hgdX : ∀ x ∈ secs, x.gd ≠ w3.heap.size + 1 := fun x hx => by have := (Array.getElem?_eq_some_iff.1 (hM2.row x hx)).1; omega
  have heX := (hbwX.cell (p := ⟨0, 0, none⟩) hg5).trans he
  have hGA := MwGetAll_ok a mk (w3.heap.size + 1) (w.heap.size + 1) most secs c hc 168 (.pointer (some p)) _ hMX hWh hOX hm hgdX (by omega) heX
  have HBW := Lib.hid hbwX
  clear hMX hOX hM2 hcb2 hmb2 kc0 kc1 kc2 kc3 hbX hbw2 hb3 hsz3
  go_wp2_with fail
  refine hGA.mono ?_
  clear hGA
  rintro e w4 ⟨M, hG, hO4, hT4⟩
  obtain ⟨hGA, hTe⟩ : GotAll _ M e ∧ Tells (secs.map Sec.two) c.dig M := hG
  rw [HSS.out] at hTe
  have hbw4 : Below w.heap.size w w4 := HBW.out.trans (hT4.bel.mono (by omega))
  have he4 := (hT4.bel.cell (p := ⟨0, 0, none⟩) (by show 0 < w3.heap.size + 1; omega)).trans heX
  obtain ⟨⟨v, hvb, hown⟩, _, _⟩ := hO4
  have kv := (blk_cell' hvb 0).trans (show _ = some v from rfl)
  have hownw : OutOf w4 w.heap.size v (M.take most) := own_mono hown (by omega)
  clear hT4 heX hvb hown
  by_cases hM0 : M = []
  · have hf := fun n => found_no p (w4.drewN n) he4
    rw [GotAll, if_pos hM0] at hGA
    subst hGA
    go_wp2_with fail
    go_quiet ((go_at_call 40; exact Calls.quiet_of_same ((hf _).mono fun e w1 h => ⟨h.1, h.2.symm⟩)))
    go_wp2_with fail
    go_ret2
    exact ⟨v, M, by rw [whyOf, if_pos hM0]; rfl, hTe, own_kp hownw (S := fun _ => False) ⟨rfl, rfl, rfl, Nat.le_refl _, fun _ _ _ => rfl⟩ (fun _ _ => id), below_drewn hbw4 _⟩
  · have hf := fun n => found_nil (w4.drewN n)
    rw [GotAll, if_neg hM0] at hGA
    subst hGA
    go_wp2_with fail
    go_quiet ((go_at_call 40; exact Calls.quiet_of_same ((hf _).mono fun e w1 h => ⟨h.1, h.2.symm⟩)))
    go_wp2_with fail
    go_ret2
    exact ⟨v, M, by rw [whyOf, if_neg hM0]; rfl, hTe, own_kp hownw (S := fun _ => False) ⟨rfl, rfl, rfl, Nat.le_refl _, fun _ _ _ => rfl⟩ (fun _ _ => id), below_drewn hbw4 _⟩

set_option maxRecDepth 100000 in
set_option maxHeartbeats 800000 in
theorem IxAll_sorted (s : ByteArray) (ss : List (Nat × List UInt8)) (rest : List UInt8) (hs : s.data.toList = Lib.uvarint 1024 ++ (mwBytes ss ++ rest)) (hw : ∀ x ∈ ss, 8 ≤ x.1 ∧ x.1 ≤ 33554432 ∧ ∃ n, x.2.length = n * x.1 ∧ n ≤ 1000000) (hnd : (ss.map (·.1)).Nodup)
    (hl : s.size ≤ 16777216) (c : CidOf) (hc : c.Ok) (most : Nat) (hm : 1 ≤ most) (p : Addr) (w : World) (hg5 : 0 < w.heap.size) (he : w.cell? ⟨0, 0, none⟩ = some (.iface 168 (.pointer (some p)))) :
    Calls Tryz.prog 11 #[.string s, .agg #[.int .u64 c.ver, .int .u64 c.codec, .int .u64 c.code, .string (sOf c.dig)], .int .i64 (most : Int)] w fun e w' =>
      ∃ v M, e = .returned (.tuple #[v, .int .u8 (whyOf M)]) ∧ Tells ss c.dig M ∧ OutOf w' w.heap.size v (M.take most) ∧ Below w.heap.size w w' := by
  have hb0 : Below w.heap.size w (w.alloc (.cells #[.int .u64 (c.ver : Int), .int .u64 (c.codec : Int), .int .u64 (c.code : Int), .string (sOf c.dig)] 25)) := below_boxed w _
  have hO := offsets_sorted s ss rest hs hw hnd hl c hc most hm p (w.alloc (.cells #[.int .u64 (c.ver : Int), .int .u64 (c.codec : Int), .int .u64 (c.code : Int), .string (sOf c.dig)] 25)) (by have := hb0.size; omega) ((hb0.cell (p := ⟨0, 0, none⟩) hg5).trans he)
  clear hs hw hnd he
  go_enter Tryz.func11, Tryz.ntmps11
  go_wp2_with fail
  refine hO.mono ?_
  clear hO
  rintro e w1 ⟨v, M, rfl, hT, hown, hb⟩
  go_wp2_with fail
  go_ret2
  exact ⟨v, M, rfl, hT, hown.mono hb0.size, hb0.trans (hb.mono hb0.size)⟩
end Go.Proofs.YtobdjcnojbnegaaGreatDoor

/- spec.Codes: the codes of entries' hash functions. -/
namespace Go.Proofs.YtobdjcnojbnegaaGreatDoor
open Go.RowKit Go.Lib Go.Sort
set_option linter.unusedVariables false
set_option linter.unusedSimpArgs false
attribute [local go_sem] setCell_drewN alloc_drewN

def codeStep (acc : List Nat) (x : CidOf × Int) : List Nat := if x.1.code ∈ acc then acc else acc ++ [x.1.code]
/-- The codes of entries' hash functions, each once. -/
def codesOf (l : List (CidOf × Int)) : List Nat := l.foldl codeStep []
theorem codesOf_snoc (l : List (CidOf × Int)) (x : CidOf × Int) : codesOf (l ++ [x]) = codeStep (codesOf l) x := by simp [codesOf]
theorem codesOf_le (l : List (CidOf × Int)) : (codesOf l).length ≤ l.length := by
  have : ∀ (l : List (CidOf × Int)) (acc : List Nat), (l.foldl codeStep acc).length ≤ acc.length + l.length := by
    intro l
    induction l with
    | nil => intro acc; simp
    | cons x l ih =>
      intro acc
      have h := ih (codeStep acc x)
      have h2 : (codeStep acc x).length ≤ acc.length + 1 := by unfold codeStep; split <;> simp
      simp only [List.foldl_cons, List.length_cons]; omega
  have h := this l []
  simpa [codesOf] using h
/-- Numbers in a variable, in a row behind it. -/
def BoxU (w : World) (ob : Nat) (os : List Nat) : Prop := ∃ v, w.heap[ob]? = some (.cells #[v] 31 (0, 0)) ∧ w.ownsRow (ob + 1) 23 1 v os.length (os.map offVal) ∧ (v = .slice none 0 0 → os = [])
theorem BoxU.lt {w : World} {ob : Nat} {os : List Nat} (h : BoxU w ob os) : ob < w.heap.size := by obtain ⟨v, h1, _⟩ := h; exact (Array.getElem?_eq_some_iff.1 h1).1
theorem BoxU.kp {S : Nat → Prop} {w w' : World} {ob : Nat} {os : List Nat} (h : BoxU w ob os) (k : Kp S w w') (hs : ¬ S ob) (hv : ∀ g cs, w.heap[g]? = some (.cells cs 23 (0, 0)) → ¬ S g) : BoxU w' ob os := by
  obtain ⟨v, h1, h2, h3⟩ := h
  refine ⟨v, (k.block _ (Array.getElem?_eq_some_iff.1 h1).1 hs).trans h1, own_kp h2 k fun g e => ?_, h3⟩
  obtain ⟨_, cur, hc⟩ := own_cells h2 e
  exact hv g cur hc
theorem BoxU.alloc {w : World} {ob : Nat} {os : List Nat} (h : BoxU w ob os) (o : Obj) : BoxU (w.alloc o) ob os := h.kp (S := fun _ => False) (kp_alloc w o) id (fun _ _ _ => id)
/-- The numbers are put in order. -/
theorem perm_sortN {os : List Nat} {l' : List Int} (hP : l'.Perm (os.map fun n : Nat => (n : Int))) (hS : l'.Pairwise (· ≤ ·)) : l' = (sortN os).map fun n : Nat => (n : Int) := by
  rw [← sortInts_eq]
  have tr : ∀ a b c : Int, decide (a ≤ b) = true → decide (b ≤ c) = true → decide (a ≤ c) = true := fun a b c h1 h2 => by simp only [decide_eq_true_eq] at *; omega
  have to : ∀ a b : Int, (decide (a ≤ b) || decide (b ≤ a)) = true := fun a b => by simp only [Bool.or_eq_true, decide_eq_true_eq]; omega
  refine List.Perm.eq_of_pairwise (le := fun a b => decide (a ≤ b) = true) (fun a b _ _ h1 h2 => ?_) (hS.imp fun h => by simpa using h) (List.pairwise_mergeSort tr to _) (hP.trans (List.mergeSort_perm _ _).symm)
  simp only [decide_eq_true_eq] at h1 h2; omega
theorem map_offVal (os : List Nat) : os.map offVal = (os.map fun n : Nat => (n : Int)).map (Value.int .u64) := by rw [List.map_map]; rfl

set_option maxRecDepth 100000 in
set_option maxHeartbeats 3200000 in
/-- The variable's numbers are sorted by sort.Slice, through a closure that sees the variable. -/
theorem sortBox (f : Nat) (hL : LessU f) (eg : ∀ args w, (callFunc f args).run Tryz.prog w = .ok (.enter f args) w) (ob : Nat) (os : List Nat) (v : Value) (w : World) (hos : os.length ≤ 1000000) (hb : w.heap[ob]? = some (.cells #[v] 31 (0, 0))) (hown : w.ownsRow (ob + 1) 23 1 v os.length (os.map offVal)) (hn : v = .slice none 0 0 → os = []) :
    Calls Tryz.prog 22 #[.iface 31 v, .func (.func f) #[] #[.pointer (some ⟨ob, 0, none⟩)]] w fun e w' => e = .returned (.tuple #[]) ∧ w'.heap[ob]? = some (.cells #[v] 31 (0, 0)) ∧ OutOf w' (ob + 1) v (sortN os) ∧ Below (ob + 1) w w' := by
  have hlt := (Array.getElem?_eq_some_iff.1 hb).1
  by_cases hnil : v = .slice none 0 0
  · have h0 := hn hnil
    subst hnil; subst h0
    refine (Any.sort_Slice_tiny Tryz.laysGg6 31 23 u64sT u64E (by kernel_rfl) (by kernel_rfl) (by kernel_rfl) (by kernel_rfl) 11 (fun w => by kernel_rfl) none 0 0 (by omega) 59 (by kernel_rfl) _ _ _ w).mono ?_
    rintro e w' ⟨rfl, os, rfl⟩
    refine ⟨rfl, (heap_grow_old w os hlt).trans hb, ⟨by simp [sortN], .inl ⟨rfl, by simp [sortN]⟩⟩, rfl, rfl, rfl, by rw [size_grow]; omega, fun i hi => heap_grow_old w os (by omega)⟩
  · obtain ⟨g, cap, cur, rfl, hge, hgc, hgle, hgcm, hgs, htk⟩ : ∃ g cap cur, v = .slice (some ⟨g, 0, none⟩) os.length cap ∧ ob + 1 ≤ g ∧ w.heap[g]? = some (.cells cur 23 (0, 0)) ∧ os.length ≤ cap ∧ cap ≤ maxLen ∧ cur.size = cap * 1 ∧ cur.toList.take (os.length * 1) = os.map offVal := by
      rcases hown.2 with ⟨h, _⟩ | h
      · exact absurd h hnil
      · exact h
    rw [Nat.mul_one] at htk hgs
    have hS := SliceU64 f hL eg g cap ob (os.map fun n : Nat => (n : Int)) cur w (by simpa using hos) hgc (by simp; omega) (by rw [List.length_map, htk, map_offVal]) (by rw [List.length_map]; exact (blk_cell' hb 0).trans rfl) (by omega)
    rw [List.length_map] at hS
    refine hS.mono ?_
    rintro e w' ⟨rfl, l', cur', hP, hg', hcs, htk', hPw, hK⟩
    have hl' := perm_sortN hP hPw
    have hll : l'.length = os.length := by rw [hP.length_eq, List.length_map]
    refine ⟨rfl, (hK.block ob hlt (by omega)).trans hb, ⟨by simp, .inr ⟨g, cap, cur', by rw [sortN_len], hge, hg', by rw [sortN_len]; exact hgle, hgcm, by omega, ?_⟩⟩, ?_⟩
    · rw [Nat.mul_one, sortN_len, ← hll, htk', hl', ← map_offVal]
    · exact ⟨hK.os, hK.tape, hK.output, hK.size, fun i hi => hK.block i (by omega) (by omega)⟩

set_option maxRecDepth 100000 in
set_option maxHeartbeats 3200000 in
theorem Codes_ok (l : List (CidOf × Int)) (A : Option Addr) (cap : Nat) (w : World) (hR : RowsAt w A l) (hlen : l.length ≤ 1000000) (hcap : l.length ≤ cap) :
    Calls Tryz.prog 12 #[.slice A l.length cap] w fun e w' => ∃ v, e = .returned v ∧ OutOf w' w.heap.size v (sortN (codesOf l)) ∧ Below w.heap.size w w' := by
  obtain ⟨i0, ti, tz0, tz1, tz2⟩ := info_parts info_u64
  have hmm := @run_makeMap Tryz.prog
  go_enter Tryz.func12, Tryz.ntmps12
  go_wp2_with fail
  go_loopw [10] (fun vi wr => ∃ k : Nat, k ≤ l.length ∧ vi = .int .i64 (k : Int) ∧ ImAt wr (w.heap.size + 1) .u64 (seenPairs (codesOf (l.take k))) ∧ BoxU wr w.heap.size (codesOf (l.take k)) ∧ Below w.heap.size w wr ∧ w.heap.size + 1 < wr.heap.size) (fun vi _ => l.length - (intOf vi).toNat)
  case atStart =>
    refine ⟨0, Nat.zero_le _, rfl, ?_, ?_, by (repeat (first | (with_reducible exact Below.refl _ _) | (with_reducible exact below_boxed _ _) | (with_reducible refine below_box ?_ _) | (with_reducible refine below_drew1 ?_) | (with_reducible refine below_drewn ?_ _) | (with_reducible refine below_bytes ?_ _ _) | (with_reducible refine below_next ?_ (by assumption)) | (with_reducible refine below_set ?_ (by first | (simp; done) | (simp; omega) | omega) _))), by simp⟩
    · have := ImAt.made (w.alloc (.cells #[.slice none 0 0] 31)) .u64
      simpa [codesOf, seenPairs] using this
    · exact BoxU.alloc ⟨_, heap_alloc_new w _, World.ownsRow_nil _ _ _ _, fun _ => rfl⟩ _
  case round =>
    obtain ⟨k, hk, rfl, hI, hBx, hB, hz⟩ := hrel
    by_cases hlt : k < l.length
    · obtain ⟨x, hx⟩ : ∃ x, l[k]? = some x := ⟨_, List.getElem?_eq_getElem hlt⟩
      obtain ⟨g0, o, rfl, hg0, r0, r1, r2, r3, r4⟩ := hR.row hB hx
      have htk := take_snoc' hx
      have hwl := codesOf_le (l.take k)
      rw [List.length_take] at hwl
      obtain ⟨ws, hws⟩ : ∃ ws, ws = codesOf (l.take k) := ⟨_, rfl⟩
      rw [← hws] at hI hBx hwl
      have HW : Hid (codesOf (l.take (k + 1)) = codeStep ws x) := Lib.hid (by rw [htk, codesOf_snoc, hws])
      have hg0r : g0 < wr.heap.size := by have := hB.size; omega
      clear hws htk hx
      have hIb := (hI.upd (w' := wr.alloc (.cells #[.int .u64 x.1.ver, .int .u64 x.1.codec, .int .u64 x.1.code, .string (sOf x.1.dig), .int .u64 x.2] 40)) (heap_alloc_old _ _ hI.lt))
      have hOb := hBx.alloc (.cells #[.int .u64 x.1.ver, .int .u64 x.1.codec, .int .u64 x.1.code, .string (sOf x.1.dig), .int .u64 x.2] 40)
      have hbb : Below w.heap.size w (wr.alloc (.cells #[.int .u64 x.1.ver, .int .u64 x.1.codec, .int .u64 x.1.code, .string (sOf x.1.dig), .int .u64 x.2] 40)) := below_box hB _
      by_cases hmem : x.1.code ∈ ws
      · have hlk := hIb.look (P := Tryz.prog) Tryz.underlying50 Tryz.underlying23 (k := (x.1.code : Int)) (v := .bool true) (by rw [ilook_seen, if_pos hmem]) false
        simp only [Bool.false_eq_true, if_false] at hlk
        have HWW : Hid (codesOf (l.take (k + 1)) = ws) := Lib.hid (by rw [HW.out, codeStep, if_pos hmem])
        clear hmem hBx hI
        go_wp2_with fail
        go_roundw
        case rel => exact ⟨k + 1, by omega, by go_num, by rw [HWW.out]; exact hIb, by rw [HWW.out]; exact hOb, hbb, by simp; omega⟩
        case measure => simp [intOf]; omega
      · have hlk := hIb.look_no (P := Tryz.prog) Tryz.underlying50 Tryz.underlying23 (k := (x.1.code : Int)) (by rw [ilook_seen, if_neg hmem]) false _ boolZero
        simp only [Bool.false_eq_true, if_false] at hlk
        have HWW : Hid (codesOf (l.take (k + 1)) = ws ++ [x.1.code]) := Lib.hid (by rw [HW.out, codeStep, if_neg hmem])
        have HMem := Lib.hid hmem
        have hzb : wr.heap.size < (wr.alloc (.cells #[.int .u64 x.1.ver, .int .u64 x.1.codec, .int .u64 x.1.code, .string (sOf x.1.dig), .int .u64 x.2] 40)).heap.size := by simp
        have hbxe := heap_alloc_new wr (.cells #[.int .u64 x.1.ver, .int .u64 x.1.codec, .int .u64 x.1.code, .string (sOf x.1.dig), .int .u64 x.2] 40)
        clear hmem hBx hI
        go_wp2_with (at_mapUpdate; refine step_put_im rfl _ _ _ 50 rfl Tryz.underlying50 Tryz.underlying23 rfl hIb (k := (x.1.code : Int)) (val := .bool true) rfl rfl ?_; intro w3 hI3 hK3 hs3; refine later ?_)
        rw [iput_seen HMem.out] at hI3
        have hO3 : BoxU w3 w.heap.size ws := hOb.kp hK3 (by omega) (fun g cs hc e => by
          have e' : g = w.heap.size + 1 := e
          subst e'
          obtain ⟨es, cl, hm, _⟩ := hIb
          rw [hm] at hc; cases hc)
        have hB3 : Below w.heap.size w w3 := hbb.trans ⟨hK3.os, hK3.tape, hK3.output, hK3.size, fun i hi => hK3.block i (by have := hbb.size; omega) (by omega)⟩
        have hbx3 := (hK3.block wr.heap.size hzb (by omega)).trans hbxe
        have q2 := (blk_cell' hbx3 2).trans (show _ = some (Value.int .u64 x.1.code) from rfl)
        have hz3 : wr.heap.size < w3.heap.size := by omega
        obtain ⟨v3, hb3, hown3, hn3⟩ := hO3
        have c3 := (blk_cell' hb3 0).trans (show _ = some v3 from rfl)
        clear hIb hOb hbb hlk hK3 hs3 hzb hB hbxe hbx3
        refine now ?_
        go_wp2_with (at_builtin; refine wpList_append_own _ rfl _ _ 31 rfl (w.heap.size + 1) 23 i0 (.int .u64 0) 1 8 Tryz.underlying31 ti tz0 tz1 tz2 rfl (by decide) _ _ _ rfl (hown3.alloc _) ⟨w3.heap.size, 0, none⟩ 1 1 [.int .u64 (x.1.code : Int)] rfl rfl (one_cell _ _ _) (ints_oneCell .u64 [(x.1.code : Int)]) ?c3 ?c4 ?c5 ?_)
        case c3 => unfold maxLen; omega
        case c4 => omega
        case c5 => simp; omega
        intro v' w4 hown4 hgrow hnn
        have hvo : ∀ j, v3.ownBlock = some j → w.heap.size + 1 ≤ j ∧ j < w3.heap.size := hown3.lt
        have hne3 : v3.ownBlock ≠ some (w.heap.size + 1) := by
          intro e
          obtain ⟨_, cur, hc⟩ := own_cells hown3 e
          obtain ⟨es, cl, hm, _⟩ := hI3
          rw [hm] at hc; cases hc
        have hI4 : ImAt w4 (w.heap.size + 1) .u64 (seenPairs (ws ++ [x.1.code])) := (hI3.kp (kp_alloc w3 _) id).kp (kp_grown hgrow) (fun e => hne3 e.symm)
        have hb4 : w4.heap[w.heap.size]? = some (.cells #[v3] 31 (0, 0)) := (hgrow.block _ (by simp; omega) (fun e => by have := (hvo _ e.symm).1; omega)).trans ((heap_alloc_old w3 _ (by omega)).trans hb3)
        have f4 := blk_free' hb4 0
        have c4 := (blk_cell' hb4 0).trans (show _ = some v3 from rfl)
        have hB4 : Below w.heap.size w w4 := (below_box hB3 _).trans ⟨hgrow.os, hgrow.tape, hgrow.output, hgrow.size, fun i hi => hgrow.block i (by simp; omega) (fun e => by have := (hvo i e.symm).1; omega)⟩
        have hz4 : w.heap.size + 1 < w4.heap.size := by have := hgrow.size; simp at this; omega
        rcases hown4.2 with ⟨_, hbad⟩ | ⟨g, capg, cur, rfl, hge, hg, hle, hcm, hcs, htk⟩
        · simp at hbad
        have hne : g ≠ w.heap.size := by omega
        clear hown4 hgrow hI3 hown3 hB3 hvo hnn c3 hb3 q2
        go_wp2_with fail
        go_roundw
        case rel =>
          have hb5 : (w4.setCell ⟨w.heap.size, 0, none⟩ (.slice (some ⟨g, 0, none⟩) (ws.length + 1) capg)).heap[w.heap.size]? = some (.cells #[.slice (some ⟨g, 0, none⟩) (ws.length + 1) capg] 31 (0, 0)) := by
            rw [setCell_eq_setRow w4 w.heap.size 0 _ _ _ _ hb4, setRow_heap w4 w.heap.size _ _ _ _ hb4]; rfl
          refine ⟨k + 1, by omega, by go_num, ?_, ?_, hB4.setCell (Nat.le_refl _) _, by simpa using hz4⟩
          · rw [HWW.out]; exact hI4.upd (Below.heap_setCell _ _ _ _ (by show w.heap.size + 1 ≠ w.heap.size; omega))
          · rw [HWW.out]
            refine ⟨_, hb5, ⟨by simp, .inr ⟨g, capg, cur, by simp, hge, (Below.heap_setCell _ _ _ _ hne).trans hg, by simpa using hle, hcm, hcs, ?_⟩⟩, fun e => by cases e⟩
            simp only [List.length_append, List.length_cons, List.length_nil, List.map_append, List.map_cons, List.map_nil, offVal] at htk ⊢
            exact htk
        case measure => simp [intOf]; omega
    · obtain rfl : k = l.length := by omega
      rw [List.take_length] at hI hBx
      have hwl := codesOf_le l
      obtain ⟨ws, hws⟩ : ∃ ws, ws = codesOf l := ⟨_, rfl⟩
      rw [← hws] at hBx hwl
      have HW := Lib.hid hws
      clear hI hws
      obtain ⟨v, hb, hown, hn⟩ := hBx
      have hS := sortBox 23 less_codes (enters_of Tryz.func23 (by kernel_rfl) rfl) w.heap.size ws v wr (by omega) hb hown hn
      have c0 := (blk_cell' hb 0).trans (show _ = some v from rfl)
      have hmf : ∀ (fn : Fn) (first cap : Array Value) (w : World), (Instr.makeFunc fn first cap).run Tryz.prog w = .ok (.func fn first cap) w := fun _ _ _ _ => rfl
      clear hb hown hn
      go_wp2_with fail
      refine hS.mono ?_
      clear hS
      rintro e w1 ⟨rfl, hb1, hO1, hB1⟩
      have c1 := (blk_cell' hb1 0).trans (show _ = some v from rfl)
      go_wp2_with fail
      go_ret
      refine ⟨v, rfl, by rw [← HW.out]; exact hO1.mono (by omega), hB.trans (hB1.mono (by omega))⟩
end Go.Proofs.YtobdjcnojbnegaaGreatDoor

/- spec.ByDigest: entries sorted by their digests. -/
namespace Go.Proofs.YtobdjcnojbnegaaGreatDoor
open Go.RowKit Go.Lib Go.Sort
set_option linter.unusedVariables false
set_option linter.unusedSimpArgs false
attribute [local go_sem] setCell_drewN alloc_drewN

def entRow (l : List (CidOf × Int)) : List Value := l.flatMap EntCells
def SortedD (l : List (CidOf × Int)) : Prop := l.Pairwise fun x y => Lib.compareBytes x.1.dig y.1.dig ≤ 0
/-- sort.SliceStable by digests, of at most so many entries. -/
def StableEnts (most : Nat) : Prop := ∀ (g cap vb : Nat) (l : List (CidOf × Int)) (tail : List Value) (w : World), l.length ≤ most → w.heap[g]? = some (.cells (entRow l ++ tail).toArray 40 (0, 0)) →
  w.cell? ⟨vb, 0, none⟩ = some (.slice (some ⟨g, 0, none⟩) l.length cap) →
  Calls Tryz.prog 121 #[.iface 22 (.slice (some ⟨g, 0, none⟩) l.length cap), .func (.func 122) #[] #[.pointer (some ⟨vb, 0, none⟩)]] w fun e w' =>
    e = .returned (.tuple #[]) ∧ ∃ l', l'.Perm l ∧ SortedD l' ∧ w'.heap[g]? = some (.cells (entRow l' ++ tail).toArray 40 (0, 0)) ∧ Kp (fun i => i = g) w w'

theorem entRow_get : ∀ {l : List (CidOf × Int)} {i : Nat} {x : CidOf × Int} {j : Nat} {v : Value}, l[i]? = some x → (EntCells x)[j]? = some v → (entRow l)[i * 5 + j]? = some v := by
  intro l
  induction l with
  | nil => intro i x j v h; simp at h
  | cons y l ih =>
    intro i x j v h hj
    have hjl : j < 5 := by have := (List.getElem?_eq_some_iff.1 hj).1; simpa [EntCells] using this
    rw [entRow, List.flatMap_cons]
    cases i with
    | zero =>
      simp only [List.getElem?_cons_zero, Option.some.injEq] at h
      subst h
      rw [List.getElem?_append_left (by simp [EntCells]; omega)]
      simpa using hj
    | succ i =>
      rw [List.getElem?_append_right (by simp [EntCells]; omega)]
      have := ih (i := i) (x := x) (j := j) (v := v) (by simpa using h) hj
      rw [show (i + 1) * 5 + j - (EntCells y).length = i * 5 + j by simp [EntCells]; omega]
      exact this
theorem entRow_len (l : List (CidOf × Int)) : (entRow l).length = l.length * 5 := by
  induction l with
  | nil => rfl
  | cons x l ih => rw [entRow, List.flatMap_cons, List.length_append, List.length_cons]; have : (EntCells x).length = 5 := rfl; rw [this]; rw [entRow] at ih; omega
theorem rows_of_cells {w : World} {g : Nat} {l : List (CidOf × Int)} {tail : List Value} {t : TypeId} {fz : Nat × Nat} (h : w.heap[g]? = some (.cells (entRow l ++ tail).toArray t fz)) : RowsAt w (some ⟨g, 0, none⟩) l := by
  refine .inr ⟨g, 0, rfl, fun i x hx j v hj => ?_⟩
  have hjl : j < 5 := by have := (List.getElem?_eq_some_iff.1 hj).1; simpa [EntCells] using this
  have hil := (List.getElem?_eq_some_iff.1 hx).1
  rw [blk_cell' h, List.getElem?_toArray, Nat.zero_add, List.getElem?_append_left (by rw [entRow_len]; omega)]
  exact entRow_get hx hj

theorem entInfo : (Tryz.prog.info? 40).map (fun i => (i.size, i.bytes)) = some (5, 48) := by kernel_rfl
noncomputable def entsT : TypeInfo := (Tryz.prog.info? 22).get (by kernel_rfl)
noncomputable def entT : TypeInfo := (Tryz.prog.info? 40).get (by kernel_rfl)
theorem entInfo0 : (Tryz.prog.info? 40).map (fun i => (i.zero, i.size, i.bytes)) = some (some (.agg #[.int .u64 0, .int .u64 0, .int .u64 0, .string ⟨#[]⟩, .int .u64 0]), 5, 48) := by kernel_rfl
theorem ent_one (x : CidOf × Int) : ∀ u ∈ EntCells x, u.oneCell' = true := by
  intro u hu
  simp [EntCells] at hu
  rcases hu with rfl | rfl | rfl | rfl | rfl <;> rfl
theorem entRow_one (l : List (CidOf × Int)) : ∀ u ∈ entRow l, u.oneCell' = true := by
  intro u hu
  obtain ⟨x, _, h⟩ := List.mem_flatMap.1 hu
  exact ent_one x u h
theorem entRow_news {w : World} {g o : Nat} {l : List (CidOf × Int)} (hc : ∀ i x, l[i]? = some x → ∀ j v, (EntCells x)[j]? = some v → w.cell? ⟨g, o + i * 5 + j, none⟩ = some v) :
    ∀ j u, (entRow l)[j]? = some u → w.cell? ((⟨g, o, none⟩ : Addr).add j) = some u := by
  intro j u hj
  have hlt : j < l.length * 5 := by have := (List.getElem?_eq_some_iff.1 hj).1; rwa [entRow_len] at this
  have hi : j / 5 < l.length := by omega
  obtain ⟨x, hx⟩ : ∃ x, l[j / 5]? = some x := ⟨_, List.getElem?_eq_getElem hi⟩
  obtain ⟨v, hv⟩ : ∃ v, (EntCells x)[j % 5]? = some v := ⟨_, List.getElem?_eq_getElem (by show j % 5 < 5; omega)⟩
  have h1 := entRow_get hx hv
  rw [show j / 5 * 5 + j % 5 = j by omega, hj] at h1
  cases h1
  have := hc _ _ hx _ _ hv
  rw [show o + j / 5 * 5 + j % 5 = o + j by omega] at this
  by_cases h0 : j = 0
  · subst h0; simpa [Addr.add] using this
  · simpa [Addr.add, h0] using this

set_option maxRecDepth 100000 in
set_option maxHeartbeats 1600000 in
theorem ByDigest_ok (most : Nat) (hS : StableEnts most) (l : List (CidOf × Int)) (A : Option Addr) (cap : Nat) (w : World) (hR : RowsAt w A l) (h0 : 0 < l.length) (hlen : l.length ≤ 1000000) (hle : l.length ≤ most) :
    Calls Tryz.prog 112 #[.slice A l.length cap] w fun e w' => ∃ l' g c, l'.Perm l ∧ SortedD l' ∧ e = .returned (.slice (some ⟨g, 0, none⟩) l.length c) ∧ w.heap.size ≤ g ∧ RowsAt w' (some ⟨g, 0, none⟩) l' ∧ g < w'.heap.size ∧ Below w.heap.size w w' := by
  obtain ⟨i0, hi, hz0, hz1, hz2⟩ := info_parts entInfo0
  obtain ⟨g0, o, rfl, hc⟩ : ∃ g o, A = some ⟨g, o, none⟩ ∧ ∀ i x, l[i]? = some x → ∀ j v, (EntCells x)[j]? = some v → w.cell? ⟨g, o + i * 5 + j, none⟩ = some v := by
    rcases hR with h | h
    · subst h; simp at h0
    · exact h
  have hN := entRow_news hc
  have HN := Lib.hid hN
  have HL := Lib.hid hlen
  have HE := Lib.hid hle
  clear hN hc
  go_enter Tryz.func112, Tryz.ntmps112
  go_wp2_with (at_builtin; refine later ?_)
  have hO0 : (w.alloc (.cells #[] 40)).ownsRow w.heap.size 40 5 (.slice (some ⟨w.heap.size, 0, none⟩) 0 0) 0 [] := ⟨rfl, .inr ⟨_, 0, #[], rfl, Nat.le_refl _, heap_alloc_new w _, Nat.le_refl _, by unfold maxLen; omega, rfl, rfl⟩⟩
  have hnews : ∀ j u, (entRow l)[j]? = some u → (w.alloc (.cells #[] 40)).cell? ((⟨g0, o, none⟩ : Addr).add j) = some u := fun j u h => by
    have h1 := HN.out j u h
    exact ((below_boxed w _).cell (World.block_lt_of_cell? w _ h1)).trans h1
  refine now ?_
  refine wpList_append_own_at _ rfl _ _ 22 rfl w.heap.size 40 i0 _ 5 48 Tryz.underlying22 hi hz0 hz1 hz2 rfl (by decide) _ _ _ rfl hO0 ⟨g0, o, none⟩ l.length cap (entRow l) rfl (entRow_len l) hnews (entRow_one l) ?c3 ?c4 ?c5 ?_
  case c3 => unfold maxLen; omega
  case c4 => omega
  case c5 => simp
  intro v' w2 hown hgrow hnn hloc
  have hB2 : Below w.heap.size w w2 := (below_boxed w _).trans ⟨hgrow.os, hgrow.tape, hgrow.output, hgrow.size, fun i hi => hgrow.block i (by simp; omega) (fun e => by have e' : some i = some w.heap.size := e; cases e'; omega)⟩
  have hz2 : w.heap.size < w2.heap.size := by have := hgrow.size; simp at this; omega
  obtain ⟨g, cap2, cur, rfl, hge, hgc, hgle, hgcm, hgs, htk⟩ : ∃ g cap cur, v' = .slice (some ⟨g, 0, none⟩) l.length cap ∧ w.heap.size ≤ g ∧ w2.heap[g]? = some (.cells cur 40 (0, 0)) ∧ l.length ≤ cap ∧ cap ≤ maxLen ∧ cur.size = cap * 5 ∧ cur.toList.take (l.length * 5) = entRow l := by
    rcases hown.2 with ⟨_, h⟩ | h
    · omega
    · simpa using h
  have hgw : w2.heap[g]? = some (.cells (entRow l ++ cur.toList.drop (l.length * 5)).toArray 40 (0, 0)) := by
    rw [hgc, ← htk, List.take_append_drop]
  have hglt := (Array.getElem?_eq_some_iff.1 hgc).1
  clear hown hgrow hnn hloc hgc htk hgs hO0 hnews hgcm
  go_wp2_with fail
  have hg3 : (w2.alloc (.cells #[.slice (some ⟨g, 0, none⟩) l.length cap2] 22)).heap[g]? = some (.cells (entRow l ++ cur.toList.drop (l.length * 5)).toArray 40 (0, 0)) := (heap_alloc_old w2 _ hglt).trans hgw
  have hbox := heap_alloc_new w2 (.cells #[.slice (some ⟨g, 0, none⟩) l.length cap2] 22)
  refine (hS g cap2 w2.heap.size l _ _ HE.out hg3 (blk_cell' hbox 0)).mono ?_
  rintro e w3 ⟨rfl, l', hp, hsd, hg', hK⟩
  have hb3 := (hK.block w2.heap.size (by simp) (by omega)).trans hbox
  have k1 := (blk_cell' hb3 0).trans (show _ = some (Value.slice (some ⟨g, 0, none⟩) l.length cap2) from rfl)
  have hB3 : Below w.heap.size w w3 := (below_box hB2 _).trans ⟨hK.os, hK.tape, hK.output, hK.size, fun i hi => hK.block i (by simp; omega) (by omega)⟩
  have hR3 : RowsAt w3 (some ⟨g, 0, none⟩) l' := rows_of_cells hg'
  have hlt3 := (Array.getElem?_eq_some_iff.1 hg').1
  clear hK hg' hg3 hbox hgw hB2 HN HE hR
  go_wp2_with fail
  go_ret
  exact ⟨l', g, cap2, hp, hsd, rfl, hge, hR3, hlt3, hB3⟩

theorem kp_growS (w : World) (os : Array Obj) (S : Nat → Prop) : Kp S w (grow w os) := ⟨rfl, rfl, rfl, by rw [size_grow]; omega, fun i hi _ => heap_grow_old w os hi⟩
/-- One entry or none is sorted. -/
theorem stable_one : StableEnts 1 := by
  intro g cap vb l tail w hl hg hv
  have hglt := (Array.getElem?_eq_some_iff.1 hg).1
  have hE : Calls Tryz.prog 121 #[.iface 22 (.slice (some ⟨g, 0, none⟩) l.length cap), .func (.func 122) #[] #[.pointer (some ⟨vb, 0, none⟩)]] w fun e w' => e = .returned (.tuple #[]) ∧ ∃ os, w' = grow w os := by
    match l, hl with
    | [], _ => exact Any.sort_SliceStable_tiny Tryz.laysGt8 22 40 entsT entT (by kernel_rfl) (by kernel_rfl) (by kernel_rfl) (by kernel_rfl) 25 (fun w => by kernel_rfl) _ 0 cap (by omega) 59 (by kernel_rfl) _ _ _ w
    | [x], _ => exact Any.sort_SliceStable_tiny Tryz.laysGt8 22 40 entsT entT (by kernel_rfl) (by kernel_rfl) (by kernel_rfl) (by kernel_rfl) 25 (fun w => by kernel_rfl) _ 1 cap (by omega) 60 (by kernel_rfl) _ _ _ w
  refine hE.mono ?_
  rintro e w' ⟨rfl, os, rfl⟩
  refine ⟨rfl, l, List.Perm.refl _, ?_, (heap_grow_old w os hglt).trans hg, kp_growS w os _⟩
  clear hE hg hv hglt
  match l, hl with
  | [], _ => exact List.Pairwise.nil
  | [x], _ => exact List.pairwise_singleton _ _
end Go.Proofs.YtobdjcnojbnegaaGreatDoor
