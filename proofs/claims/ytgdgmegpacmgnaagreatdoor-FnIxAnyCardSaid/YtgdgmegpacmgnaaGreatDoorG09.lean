import Derived.Test.YtgdgmegpacmgnaaGreatDoorG08
import Derived.BigRegion
import Derived.Test.YtgdgmegpacmgnaaGreatDoorG07
import Derived.LaidEql
import Derived.Test.YtgdgmegpacmgnaaGreatDoorG05
import Derived.Test.YtgdgmegpacmgnaaGreatDoorG06
import Derived.Test.YtgdgmegpacmgnaaGreatDoorG01
/- All offsets for an identifier, of an index sorted by digests. -/
namespace Go.Proofs.YtgdgmegpacmgnaaGreatDoor
open Go.RowKit
set_option linter.unusedVariables false
set_option linter.unusedSimpArgs false
attribute [local go_sem] setCell_drewN alloc_drewN

/-- Each part of an index is whole rows. -/
def Whole (secs : List Sec) : Prop := ∀ s ∈ secs, 8 ≤ s.width ∧ s.width ≤ 33554432 ∧ (∃ n, s.data.length = n * s.width ∧ n ≤ 1000000)

/-- The offsets that an index tells for a digest. -/
def Tells (secs : List (Nat × List UInt8)) (d : List UInt8) (M : List Nat) : Prop :=
  (∀ s ∈ secs, s.1 ≠ d.length + 8) ∧ M = [] ∨ ∃ s ∈ secs, s.1 = d.length + 8 ∧ ∃ n r, s.2.length = n * s.1 ∧ Halves (fun i => decide (Lib.compareBytes d (rowDig s.1 s.2 i) ≤ 0)) n r ∧ M = runFrom s.1 s.2 d (n - r) r
/-- What a search in an index ends with. -/
def GotMw (secs : List (Nat × List UInt8)) (d : List UInt8) (ev : Value) (M : List Nat) (e : Ending) : Prop :=
  GotAll ev M e ∧ ((∀ s ∈ secs, s.1 ≠ d.length + 8) ∧ M = [] ∨ ∃ s ∈ secs, s.1 = d.length + 8 ∧ ∃ n r, s.2.length = n * s.1 ∧ Halves (fun i => decide (Lib.compareBytes d (rowDig s.1 s.2 i) ≤ 0)) n r ∧ M = runFrom s.1 s.2 d (n - r) r)

theorem mwZero (W : World) : (zeroValue 287).run Tryz.prog W = .ok (.agg #[.int .u32 0, .int .u64 0, .slice none 0 0]) W := by kernel_rfl
set_option maxRecDepth 100000 in
set_option maxHeartbeats 3200000 in
theorem MwGetAll_ok (a : Addr) (mk ob mb most : Nat) (secs : List Sec) (c : CidOf) (hc : c.Ok) (ty : TypeId) (ev : Value) (w : World) (hM : MwAt w a mk secs) (hW : Whole secs) (hO : OutAt w ob mb most []) (hm : 1 ≤ most)
    (hne : ∀ s ∈ secs, s.gd ≠ ob) (hg5 : 4 < ob) (he : w.cell? ⟨4, 0, none⟩ = some (.iface ty ev)) :
    Calls Tryz.prog 182 #[.pointer (some a), .agg #[.string c.str], .func (.func 46) #[] #[.pointer (some ⟨ob, 0, none⟩), .pointer (some ⟨mb, 0, none⟩)]] w fun e w' =>
      ∃ M, GotMw (secs.map Sec.two) c.dig (.iface ty ev) M e ∧ OutAt w' ob mb most (M.take most) ∧ Told ob w w' := by
  have hobl : ob < w.heap.size := by obtain ⟨⟨v, h, _⟩, _⟩ := hO; exact (Array.getElem?_eq_some_iff.1 h).1
  have hdl := hc.dig
  have hal := World.block_lt_of_cell? w _ hM.cell
  go_enter Tryz.func182, Tryz.ntmps182
  go_wp2_with fail
  refine (Hash_ok c hc _).mono ?_
  rintro e w1 ⟨A1, c1, rfl, hc1, hA1, hB1, hF1, hb1⟩
  obtain ⟨hcc, hff⟩ := bcell hb1
  have hz : w.heap.size < w1.heap.size := by have := hb1.size; simp at this; omega
  go_wp2_with fail
  refine (Decode_ok c.code hc.code c.dig (by omega) A1 _ c1 _ hA1 rfl hc1).mono ?_
  rintro e w2 ⟨g, A2, c2, rfl, hc2, hS2, hb2, hg2, hblk⟩
  clear hcc hff
  have hbw : Below w.heap.size w w2 := by (repeat (first | (with_reducible exact Below.refl _ _) | (with_reducible exact below_boxed _ _) | (with_reducible refine below_box ?_ _) | (with_reducible refine below_drew1 ?_) | (with_reducible refine below_drewn ?_ _) | (with_reducible refine below_bytes ?_ _ _) | (with_reducible refine below_next ?_ (by assumption)) | (with_reducible refine below_set ?_ (by first | (simp; done) | (simp; omega) | omega) _)))
  have hA2 : BytesAt w2 A2 c.dig := hS2.bytes _ (hA1.below hb2)
  have hB2 : ByteBlk w2 5 A2 := hS2.blk _ _ (hB1.below hb2)
  have hF2 : From w.heap.size A2 := hS2.frm _ (hF1.mono (by simp))
  have k3 : w2.cell? ⟨g, 3, none⟩ = some (.slice A2 c.dig.length c2) := by simp [World.cell?, hblk]
  have hM2 : MwAt w2 a mk secs := hM.kp (S := fun _ => False) (Kp.of_below hbw) id id (fun _ _ => id)
  have hO2 : OutAt w2 ob mb most [] := hO.below hbw
  have hz2 : w1.heap.size ≤ w2.heap.size := hb2.size
  have he2 : w2.cell? ⟨4, 0, none⟩ = some (.iface ty ev) := (hbw.cell (p := ⟨4, 0, none⟩) (by show 4 < _; omega)).trans he
  have ca := hM2.cell
  have hdw : IntKind.u32.wrap ((c.dig.length : Int) + 8) = (c.dig.length : Int) + 8 := by rw [IntKind.wrap_u32]; omega
  have hfs := find_sec (secs := secs) (k := (c.dig.length : Int) + 8)
  have hbl : Below w.heap.size w w2 := hbw
  have hgl2 : g < w2.heap.size := (Array.getElem?_eq_some_iff.1 hblk).1
  have hal2 := World.block_lt_of_cell? w2 _ ca
  have hml2 := hM2.map.lt
  have hg52 : 4 < w2.heap.size := by omega
  clear hb1 hb2 hblk hA1 hB1 hF1 hM hO hS2
  cases hf : secs.find? (fun s => decide ((s.width : Int) = (c.dig.length : Int) + 8)) with
  | none =>
    rw [hf] at hfs
    have hl1 := (hM2.map.upd (w' := w2.drew) rfl).look_no (P := Tryz.prog) Tryz.underlying133 Tryz.underlying103 hfs true _ mwZero
    have hl2 := (hM2.map.upd (w' := (w2.alloc (.cells #[.int .u32 0, .int .u64 0, .slice none 0 0] 287)).drew) (heap_alloc_old w2 _ hml2)).look_no (P := Tryz.prog) Tryz.underlying133 Tryz.underlying103 hfs true _ mwZero
    simp only [if_true] at hl1 hl2
    have HF := Lib.hid hf
    clear hf hfs
    go_wp2_with fail
    go_region
    all_goals
      go_wp2_with fail
      go_ret
      have hbx : Below w2.heap.size w2 (w2.alloc (.cells #[.int .u32 0, .int .u64 0, .slice none 0 0] 287)) := below_boxed w2 _
      refine ⟨[], ⟨rfl, .inl ⟨?_, rfl⟩⟩, (by rw [List.take_nil]; exact (hO2.below hbx).told rfl), ((Told.of_below hbl (Nat.le_of_lt hobl)).trans (Told.of_below hbx (by omega))).drewN 1⟩
      intro s hs
      obtain ⟨s0, hs0, rfl⟩ := List.mem_map.1 hs
      have := List.find?_eq_none.1 HF.out s0 hs0
      simp only [decide_eq_true_eq] at this
      show s0.width ≠ _
      omega
  | some s =>
    rw [hf] at hfs
    have hsm : s ∈ secs := List.mem_of_find?_eq_some hf
    have hsw : (s.width : Int) = (c.dig.length : Int) + 8 := by have := List.find?_some hf; simpa using this
    obtain ⟨h8, hwl, n, hn, hn6⟩ := hW s hsm
    have hrow := hM2.row s hsm
    have hgd := hne s hsm
    have hgdl := (Array.getElem?_eq_some_iff.1 hrow).1
    have hl1 := (hM2.map.upd (w' := w2.drew) rfl).look (P := Tryz.prog) Tryz.underlying133 Tryz.underlying103 hfs true
    have hl2 := (hM2.map.upd (w' := (w2.alloc (.cells #[.int .u32 0, .int .u64 0, .slice none 0 0] 287)).drew) (heap_alloc_old w2 _ hml2)).look (P := Tryz.prog) Tryz.underlying133 Tryz.underlying103 hfs true
    simp only [if_true] at hl1 hl2
    have hdv : s.data.length / s.width = n := by rw [hn]; exact Nat.mul_div_cancel _ (by omega)
    have hsv : s.val = .agg #[.int .u32 (s.width : Int), .int .u64 (n : Int), .slice (some ⟨s.gd, 0, none⟩) s.data.length s.data.length] := by unfold Sec.val; rw [hdv]
    rw [hsv] at hl1 hl2
    have hbig : s.data.length ≤ 1099511627776 := by
      rw [hn]
      have : n * s.width ≤ 1000000 * 208 := Nat.mul_le_mul hn6 (by omega)
      omega
    have HN := Lib.hid hn
    have hsecW : ∀ W : World, Below w2.heap.size w2 W → W.heap[w2.heap.size]? = some (.cells #[.int .u32 (s.width : Int), .int .u64 (n : Int), .slice (some ⟨s.gd, 0, none⟩) s.data.length s.data.length] 287 (0, 0)) → SecAt W w2.heap.size s.gd s.width n s.data :=
      fun W hb h => ⟨h, (hb.block _ hgdl).trans hrow, h8, hwl, HN.out, hbig⟩
    have hbx : Below w2.heap.size w2 (w2.alloc (.cells #[.int .u32 (s.width : Int), .int .u64 (n : Int), .slice (some ⟨s.gd, 0, none⟩) s.data.length s.data.length] 287)).drew := below_drew1 (below_boxed w2 _)
    have hG := getAll_ok ob mb most w2.heap.size s.gd s.width n s.data c.dig A2 c2 ty ev _ (hsecW _ hbx (heap_alloc_last w2 _)) (hA2.below hbx) (hB2.below hbx) ⟨by omega, hgd⟩ (fun ad e => by have := hF2 ad e; omega) (hO2.below hbx) hm hn6 hg5 ((hbx.cell (p := ⟨4, 0, none⟩) (by show 4 < _; omega)).trans he2)
    have hTx : Told ob w (w2.alloc (.cells #[.int .u32 (s.width : Int), .int .u64 (n : Int), .slice (some ⟨s.gd, 0, none⟩) s.data.length s.data.length] 287)).drew := (Told.of_below hbl (Nat.le_of_lt hobl)).trans (Told.of_below hbx (by omega))
    have HSW := Lib.hid hsw
    clear hf hfs hsw hn hdv hsv hsecW hbx hrow
    go_wp2_with fail
    go_region
    all_goals
      go_wp2_with fail
      refine hG.mono ?_
      clear hG
      rintro e w3 ⟨r, hH, hGA, hO3, hT3⟩
      have he : ∃ v, e = .returned v := by unfold GotAll at hGA; exact ⟨_, hGA⟩
      obtain ⟨v, rfl⟩ := he
      go_wp2_with fail
      go_ret
      have hsw := HSW.out
      exact ⟨_, ⟨hGA, .inr ⟨s.two, List.mem_map.2 ⟨s, hsm, rfl⟩, by show s.width = _; omega, n, r, HN.out, hH, rfl⟩⟩, hO3, hTx.trans hT3⟩
end Go.Proofs.YtgdgmegpacmgnaaGreatDoor

/- index.ReadFrom of an index sorted by digests; impl.IxAll over it. -/
namespace Go.Proofs.YtgdgmegpacmgnaaGreatDoor
open Go.RowKit
set_option linter.unusedVariables false
set_option linter.unusedSimpArgs false
attribute [local go_sem] setCell_drewN alloc_drewN

theorem own_mono {w : World} {B B' : Nat} {e : TypeId} {k : Nat} {v : Value} {n : Nat} {xs : List Value} (h : w.ownsRow B e k v n xs) (hb : B' ≤ B) : w.ownsRow B' e k v n xs := by
  refine ⟨h.1, ?_⟩
  rcases h.2 with h | ⟨g, cap, cur, e1, e2, e3⟩
  · exact .inl h
  · exact .inr ⟨g, cap, cur, e1, Nat.le_trans hb e2, e3⟩
def whyOf (M : List Nat) : Int := if M = [] then 1 else 0
/-- A slice of offsets of the call's own. -/
def OutOf (w : World) (B : Nat) (v : Value) (os : List Nat) : Prop := w.ownsRow B 22 1 v os.length (os.map offVal)
theorem OutOf.mono {w : World} {B B' : Nat} {v : Value} {os : List Nat} (h : OutOf w B v os) (hb : B' ≤ B) : OutOf w B' v os := own_mono h hb
theorem method_UnmarshalM (v : Value) (w : World) : (method 463 mwT v "Unmarshal").run Tryz.prog w = .ok (204, v) w := by kernel_rfl
theorem method_GetAllM (v : Value) (w : World) : (method 463 mwT v "GetAll").run Tryz.prog w = .ok (182, v) w := by kernel_rfl
theorem uv1024 : Lib.uvarint 1024 = [128, 8] := by rw [Lib.uvarint_big (by omega), Lib.uvarint_small (by omega)]; rfl

set_option maxRecDepth 100000 in
set_option maxHeartbeats 1600000 in
theorem ReadFrom_sorted (b : Nat) (A : Option Addr) (cap : Nat) (bs : List UInt8) (ss : List (Nat × List UInt8)) (rest : List UInt8) (hw : ∀ s ∈ ss, 8 ≤ s.1 ∧ s.1 ≤ 33554432) (hnd : (ss.map (·.1)).Nodup) (w : World) (hsm : bs.length ≤ 16777216) (h : RdAt w b A cap bs 0)
    (hbs : bs = Lib.uvarint 1024 ++ (mwBytes ss ++ rest)) (hA : ∀ g' o, A = some ⟨g', o, none⟩ → g' < w.heap.size) :
    Calls Tryz.prog 12 #[.iface 40 (.pointer (some ⟨b, 0, none⟩))] w fun e w' => ∃ a mk secs, e = .returned (.tuple #[.iface mwT (.pointer (some a)), .nilIface]) ∧ RdAt w' b A cap bs (2 + (mwBytes ss).length) ∧
      secs.map Sec.two = ss ∧ MwAt w' a mk secs ∧ (∀ s ∈ secs, w.heap.size ≤ s.gd) ∧ w.heap.size ≤ a.block ∧ w.heap.size ≤ mk ∧ Kp (fun i => i = b) w w' := by
  have hme := method_UnmarshalM
  have hbl := h.blt
  have hRC := ReadCodec_ok b A cap bs 0 1024 (by omega) (mwBytes ss ++ rest) w h (by rw [List.drop_zero]; exact hbs)
  rw [uv1024] at hRC
  have hd2 : bs.drop 2 = mwBytes ss ++ rest := by rw [hbs, uv1024]; rfl
  have HD := Lib.hid hd2
  clear hbs hd2 h
  go_enter Tryz.func12, Tryz.ntmps12
  go_wp2_with fail
  refine hRC.mono ?_
  clear hRC
  rintro e w1 ⟨rfl, hR1, hK1⟩
  have hz1 := hK1.size
  go_wp2_with fail
  refine (New_sorted _).mono ?_
  rintro e w2 ⟨rfl, hM2, hb2⟩
  have hR2 : RdAt w2 b A cap bs 2 := hR1.keep (S := fun _ => False) (Kp.of_below hb2) id (fun _ _ _ => id)
  have hal := World.block_lt_of_cell? w2 _ hM2.cell
  have hU := MwUnmarshal_ok b A cap bs 2 ⟨w1.heap.size + 1, 0, none⟩ w1.heap.size ss rest hw hnd w2 hsm hR2 HD.out hM2 (by show w1.heap.size + 1 ≠ b; omega) (by omega) (by show w1.heap.size + 1 ≠ w1.heap.size; omega) (fun g' o e => by have := hA g' o e; have := hb2.size; refine ⟨by omega, ?_, by omega⟩; show g' ≠ w1.heap.size + 1; omega)
  clear hR1 hM2 hR2 hw hnd
  go_wp2_with fail
  refine hU.mono ?_
  clear hU
  rintro e w3 ⟨rfl, hR3, ⟨secs, hs, hM3, hg⟩, hK3⟩
  have hz2 := hb2.size
  go_wp2_with fail
  go_ret2
  refine ⟨_, _, secs, rfl, hR3, hs, hM3, fun s h => by have := hg s h; omega, by show w.heap.size ≤ w1.heap.size + 1; omega, hz1, ?_⟩
  exact (hK1.trans (S' := fun _ => False) (Kp.of_below hb2) (fun _ h => h.elim)).trans hK3 (fun i h => h.elim .inl (fun e => .inr (by omega)))

set_option maxRecDepth 100000 in
theorem found_nil (w : World) : Calls Tryz.prog 47 #[.nilIface] w fun e w' => e = .returned (.int .u8 0) ∧ w = w' := by
  go_enter Tryz.func47, Tryz.ntmps47
  go_wp2_with fail
  go_ret
  exact ⟨rfl, rfl⟩
theorem infoErrP : (Tryz.prog.info? 137).map (·.comparable) = some true := by kernel_rfl
theorem infoErrS : (Tryz.prog.info? 139).isSome = true := by kernel_rfl
theorem eql_err (p : Addr) (w : World) : (Go.binOp .eql 46 (.iface 137 (.pointer (some p))) (.iface 137 (.pointer (some p)))).run Tryz.prog w = .ok (.bool true) w := by
  obtain ⟨i, hi, hc⟩ := Option.map_eq_some_iff.1 infoErrP
  obtain ⟨j, hj⟩ := Option.isSome_iff_exists.1 infoErrS
  exact run_eql_iface_ptr_same w p Tryz.underlying46 Tryz.underlying137 hi hc hj
set_option maxRecDepth 100000 in
theorem found_no (p : Addr) (w : World) (he : w.cell? ⟨4, 0, none⟩ = some (.iface 137 (.pointer (some p)))) : Calls Tryz.prog 47 #[.iface 137 (.pointer (some p))] w fun e w' => e = .returned (.int .u8 1) ∧ w = w' := by
  have hq := eql_err
  go_enter Tryz.func47, Tryz.ntmps47
  go_wp2_with fail
  go_ret
  exact ⟨rfl, rfl⟩
set_option maxRecDepth 100000 in
set_option maxHeartbeats 3200000 in
theorem offsets_sorted (s : ByteArray) (ss : List (Nat × List UInt8)) (rest : List UInt8) (hs : s.data.toList = Lib.uvarint 1024 ++ (mwBytes ss ++ rest)) (hw : ∀ x ∈ ss, 8 ≤ x.1 ∧ x.1 ≤ 33554432 ∧ ∃ n, x.2.length = n * x.1 ∧ n ≤ 1000000) (hnd : (ss.map (·.1)).Nodup)
    (hl : s.size ≤ 16777216) (c : CidOf) (hc : c.Ok) (most : Nat) (hm : 1 ≤ most) (p : Addr) (w : World) (hg5 : 4 < w.heap.size) (he : w.cell? ⟨4, 0, none⟩ = some (.iface 137 (.pointer (some p)))) :
    Calls Tryz.prog 26 #[.string s, .agg #[.int .u64 c.ver, .int .u64 c.codec, .int .u64 c.code, .string (sOf c.dig)], .int .i64 (most : Int)] w fun e w' =>
      ∃ v M, e = .returned (.tuple #[v, .int .u8 (whyOf M)]) ∧ Tells ss c.dig M ∧ OutOf w' w.heap.size v (M.take most) ∧ Below w.heap.size w w' := by
  have hsz : s.size = s.data.toList.length := by rw [Array.length_toList]; rfl
  generalize hS : s.data.toList = bs at *
  have HS := Lib.hid hS; clear hS
  have HZ := Lib.hid hsz
  have hl' : bs.length ≤ 16777216 := by omega
  have hp : 0 < bs.length := by rw [hs, List.length_append, uv1024]; simp; omega
  clear hl hsz
  have HB := Lib.hid hs; clear hs
  have hme := method_GetAllM
  have hmf : ∀ (fn : Fn) (first cap : Array Value) (w : World), (Instr.makeFunc fn first cap).run Tryz.prog w = .ok (.func fn first cap) w := fun _ _ _ _ => rfl
  go_enter Tryz.func26, Tryz.ntmps26
  go_wp2_with (with_reducible refine conv_event rfl (.tmp 14) 9 42 5 rfl Tryz.underlying9 Tryz.underlying42 Tryz.underlying5 s rfl ?_)
  intro g0 cap0 w0 hg0 hcap0 hb0 hA0 hB0
  refine later ?_
  have hwA : Below w.heap.size w ((w.alloc (.cells #[.int .u64 (c.ver : Int), .int .u64 (c.codec : Int), .int .u64 (c.code : Int), .string (sOf c.dig)] 59)).alloc (.cells #[.int .i64 (most : Int)] 3)) := by (repeat (first | (with_reducible exact Below.refl _ _) | (with_reducible exact below_boxed _ _) | (with_reducible refine below_box ?_ _) | (with_reducible refine below_drew1 ?_) | (with_reducible refine below_drewn ?_ _) | (with_reducible refine below_bytes ?_ _ _) | (with_reducible refine below_next ?_ (by assumption)) | (with_reducible refine below_set ?_ (by first | (simp; done) | (simp; omega) | omega) _)))
  have hA1 := heap_alloc_last w (.cells #[.int .u64 (c.ver : Int), .int .u64 (c.codec : Int), .int .u64 (c.code : Int), .string (sOf c.dig)] 59)
  have hA2 := heap_alloc_last (w.alloc (.cells #[.int .u64 (c.ver : Int), .int .u64 (c.codec : Int), .int .u64 (c.code : Int), .string (sOf c.dig)] 59)) (.cells #[.int .i64 (most : Int)] 3)
  have hsz1 : (w.alloc (.cells #[.int .u64 (c.ver : Int), .int .u64 (c.codec : Int), .int .u64 (c.code : Int), .string (sOf c.dig)] 59)).heap.size = w.heap.size + 1 := by simp
  rw [hsz1] at hA2
  have hcb : w0.heap[w.heap.size]? = some (.cells #[.int .u64 (c.ver : Int), .int .u64 (c.codec : Int), .int .u64 (c.code : Int), .string (sOf c.dig)] 59 (0, 0)) := (hb0.block _ (by omega)).trans ((heap_alloc_old _ _ (by simp)).trans hA1)
  have hmb : w0.heap[w.heap.size + 1]? = some (.cells #[.int .i64 (most : Int)] 3 (0, 0)) := (hb0.block _ (by omega)).trans hA2
  have hbw0 : Below w.heap.size w w0 := hwA.trans (hb0.mono (by omega))
  have hgz : g0 < w0.heap.size := by
    rw [HS.out] at hA0
    rcases hA0 with h | ⟨g, o, e, hc⟩
    · rw [h] at hp; simp at hp
    · cases e
      exact World.block_lt_of_cell? w0 _ (hc 0 bs[0] (List.getElem?_eq_getElem hp))
  rw [HS.out] at hA0
  rw [HZ.out] at hcap0
  have hg0' : w.heap.size + 1 < g0 := by omega
  have hNR := NewReader_ok (some ⟨g0, 0, none⟩) cap0 bs w0 hA0 hcap0 (by omega) (fun g o e => by cases e; exact hgz)
  clear hA1 hA2 hsz1 hwA hb0 hA0 hB0 hg0
  rw [HZ.out]
  refine now ?_
  go_wp2_with fail
  refine hNR.mono ?_
  rintro e w1 ⟨rfl, hR1, hb1⟩
  have hz01 : w0.heap.size < w1.heap.size := hR1.blt
  have hRF := ReadFrom_sorted w0.heap.size (some ⟨g0, 0, none⟩) cap0 bs ss rest (fun x hx => ⟨(hw x hx).1, (hw x hx).2.1⟩) hnd w1 hl' hR1 HB.out (fun g' o e => by cases e; omega)
  have hbw1 := hbw0.trans (hb1.mono hbw0.size)
  have hcb1 := (hb1.block _ (Array.getElem?_eq_some_iff.1 hcb).1).trans hcb
  have hmb1 := (hb1.block _ (Array.getElem?_eq_some_iff.1 hmb).1).trans hmb
  clear hNR hR1 hb1 hcb hmb
  go_wp2_with fail
  refine hRF.mono ?_
  clear hRF
  rintro e w2 ⟨a, mk, secs, rfl, _, hss, hM2, hgds, haz, hmz, hK2⟩
  have hcb2 := (hK2.block _ (Array.getElem?_eq_some_iff.1 hcb1).1 (by omega)).trans hcb1
  have hmb2 := (hK2.block _ (Array.getElem?_eq_some_iff.1 hmb1).1 (by omega)).trans hmb1
  have hbw2 : Below w.heap.size w w2 := hK2.to_below hbw1 (fun i hi => by omega)
  have hz12 := hK2.size
  have kc0 := (blk_cell' hcb2 0).trans (show _ = some (Value.int .u64 (c.ver : Int)) from rfl)
  have kc1 := (blk_cell' hcb2 1).trans (show _ = some (Value.int .u64 (c.codec : Int)) from rfl)
  have kc2 := (blk_cell' hcb2 2).trans (show _ = some (Value.int .u64 (c.code : Int)) from rfl)
  have kc3 := (blk_cell' hcb2 3).trans (show _ = some (Value.string (sOf c.dig)) from rfl)
  have hWh : Whole secs := by
    intro x hx
    have := hw x.two (by rw [← hss]; exact List.mem_map.2 ⟨x, hx, rfl⟩)
    exact ⟨this.1, this.2.1, this.2.2⟩
  have HSS := Lib.hid hss
  clear hK2 hcb1 hmb1 hbw1 hbw0 hw hnd hss
  go_wp2_with fail
  refine (cidIn_ok c hc w2).mono ?_
  rintro e w3 ⟨rfl, hb3⟩
  have hbX : Below w2.heap.size w2 ((w3.alloc (.cells #[.string c.str] 112)).alloc (.cells #[.slice none 0 0] 66)) := (by (repeat (first | (with_reducible exact Below.refl _ _) | (with_reducible exact below_boxed _ _) | (with_reducible refine below_box ?_ _) | (with_reducible refine below_drew1 ?_) | (with_reducible refine below_drewn ?_ _) | (with_reducible refine below_bytes ?_ _ _) | (with_reducible refine below_next ?_ (by assumption)) | (with_reducible refine below_set ?_ (by first | (simp; done) | (simp; omega) | omega) _))) : Below w2.heap.size w2 _)
  have hsz3 : (w3.alloc (.cells #[.string c.str] 112)).heap.size = w3.heap.size + 1 := by simp
  have hz3 := hb3.size
  have hMX := hM2.kp (S := fun _ => False) (Kp.of_below hbX) id id (fun _ _ => id)
  have hbwX : Below w.heap.size w ((w3.alloc (.cells #[.string c.str] 112)).alloc (.cells #[.slice none 0 0] 66)) := below_next hbw2 hbX
  have hOX : OutAt ((w3.alloc (.cells #[.string c.str] 112)).alloc (.cells #[.slice none 0 0] 66)) (w3.heap.size + 1) (w.heap.size + 1) most [] := by
    have h1 := heap_alloc_last (w3.alloc (.cells #[.string c.str] 112)) (.cells #[.slice none 0 0] 66)
    rw [hsz3] at h1
    refine ⟨⟨_, h1, World.ownsRow_nil _ _ _ _⟩, ?_, by omega⟩
    exact (blk_cell' ((hbX.block _ (Array.getElem?_eq_some_iff.1 hmb2).1).trans hmb2) 0).trans rfl
  have hgdX : ∀ x ∈ secs, x.gd ≠ w3.heap.size + 1 := fun x hx => by have := (Array.getElem?_eq_some_iff.1 (hM2.row x hx)).1; omega
  have heX := (hbwX.cell (p := ⟨4, 0, none⟩) hg5).trans he
  have hGA := MwGetAll_ok a mk (w3.heap.size + 1) (w.heap.size + 1) most secs c hc 137 (.pointer (some p)) _ hMX hWh hOX hm hgdX (by omega) heX
  have HBW := Lib.hid hbwX
  clear hMX hOX hM2 hcb2 hmb2 kc0 kc1 kc2 kc3 hbX hbw2 hb3 hsz3
  go_wp2_with fail
  refine hGA.mono ?_
  clear hGA
  rintro e w4 ⟨M, hG, hO4, hT4⟩
  obtain ⟨hGA, hTe⟩ : GotAll _ M e ∧ Tells (secs.map Sec.two) c.dig M := hG
  rw [HSS.out] at hTe
  have hbw4 : Below w.heap.size w w4 := HBW.out.trans (hT4.bel.mono (by omega))
  have he4 := (hT4.bel.cell (p := ⟨4, 0, none⟩) (by show 4 < w3.heap.size + 1; omega)).trans heX
  obtain ⟨⟨v, hvb, hown⟩, _, _⟩ := hO4
  have kv := (blk_cell' hvb 0).trans (show _ = some v from rfl)
  have hownw : OutOf w4 w.heap.size v (M.take most) := own_mono hown (by omega)
  clear hT4 heX hvb hown
  by_cases hM0 : M = []
  · have hf := fun n => found_no p (w4.drewN n) he4
    rw [GotAll, if_pos hM0] at hGA
    subst hGA
    go_wp2_with fail
    go_quiet ((go_at_call 47; exact Calls.quiet_of_same ((hf _).mono fun e w1 h => ⟨h.1, h.2.symm⟩)))
    go_wp2_with fail
    go_ret2
    exact ⟨v, M, by rw [whyOf, if_pos hM0]; rfl, hTe, own_kp hownw (S := fun _ => False) ⟨rfl, rfl, rfl, Nat.le_refl _, fun _ _ _ => rfl⟩ (fun _ _ => id), below_drewn hbw4 _⟩
  · have hf := fun n => found_nil (w4.drewN n)
    rw [GotAll, if_neg hM0] at hGA
    subst hGA
    go_wp2_with fail
    go_quiet ((go_at_call 47; exact Calls.quiet_of_same ((hf _).mono fun e w1 h => ⟨h.1, h.2.symm⟩)))
    go_wp2_with fail
    go_ret2
    exact ⟨v, M, by rw [whyOf, if_neg hM0]; rfl, hTe, own_kp hownw (S := fun _ => False) ⟨rfl, rfl, rfl, Nat.le_refl _, fun _ _ _ => rfl⟩ (fun _ _ => id), below_drewn hbw4 _⟩

set_option maxRecDepth 100000 in
set_option maxHeartbeats 800000 in
theorem IxAll_sorted (s : ByteArray) (ss : List (Nat × List UInt8)) (rest : List UInt8) (hs : s.data.toList = Lib.uvarint 1024 ++ (mwBytes ss ++ rest)) (hw : ∀ x ∈ ss, 8 ≤ x.1 ∧ x.1 ≤ 33554432 ∧ ∃ n, x.2.length = n * x.1 ∧ n ≤ 1000000) (hnd : (ss.map (·.1)).Nodup)
    (hl : s.size ≤ 16777216) (c : CidOf) (hc : c.Ok) (most : Nat) (hm : 1 ≤ most) (p : Addr) (w : World) (hg5 : 4 < w.heap.size) (he : w.cell? ⟨4, 0, none⟩ = some (.iface 137 (.pointer (some p)))) :
    Calls Tryz.prog 18 #[.string s, .agg #[.int .u64 c.ver, .int .u64 c.codec, .int .u64 c.code, .string (sOf c.dig)], .int .i64 (most : Int)] w fun e w' =>
      ∃ v M, e = .returned (.tuple #[v, .int .u8 (whyOf M)]) ∧ Tells ss c.dig M ∧ OutOf w' w.heap.size v (M.take most) ∧ Below w.heap.size w w' := by
  have hb0 : Below w.heap.size w (w.alloc (.cells #[.int .u64 (c.ver : Int), .int .u64 (c.codec : Int), .int .u64 (c.code : Int), .string (sOf c.dig)] 59)) := below_boxed w _
  have hO := offsets_sorted s ss rest hs hw hnd hl c hc most hm p (w.alloc (.cells #[.int .u64 (c.ver : Int), .int .u64 (c.codec : Int), .int .u64 (c.code : Int), .string (sOf c.dig)] 59)) (by have := hb0.size; omega) ((hb0.cell (p := ⟨4, 0, none⟩) hg5).trans he)
  clear hs hw hnd he
  go_enter Tryz.func18, Tryz.ntmps18
  go_wp2_with fail
  refine hO.mono ?_
  clear hO
  rintro e w1 ⟨v, M, rfl, hT, hown, hb⟩
  go_wp2_with fail
  go_ret2
  exact ⟨v, M, rfl, hT, hown.mono hb0.size, hb0.trans (hb.mono hb0.size)⟩
end Go.Proofs.YtgdgmegpacmgnaaGreatDoor

/- index.New and ReadFrom at 0x0401. -/
namespace Go.Proofs.YtgdgmegpacmgnaaGreatDoor
open Go.RowKit
set_option linter.unusedVariables false
set_option linter.unusedSimpArgs false
attribute [local go_sem] setCell_drewN alloc_drewN

theorem method_UnmarshalC (v : Value) (w : World) : (method 463 mhT v "Unmarshal").run Tryz.prog w = .ok (179, v) w := by kernel_rfl
theorem uv1025 : Lib.uvarint 1025 = [129, 8] := by rw [Lib.uvarint_big (by omega), Lib.uvarint_small (by omega)]; rfl

set_option maxRecDepth 100000 in
theorem newMh_ok (w : World) : Calls Tryz.prog 32 #[] w fun e w' => ∃ a mb, e = .returned (.pointer (some ⟨a, 0, none⟩)) ∧ MhAt w' ⟨a, 0, none⟩ mb [] ∧ w.heap.size ≤ a ∧ w.heap.size ≤ mb ∧ a ≠ mb ∧ Below w.heap.size w w' := by
  have hmm := @run_makeMap Tryz.prog
  go_enter Tryz.func32, Tryz.ntmps32
  go_wp2_with fail
  go_ret
  refine ⟨_, w.heap.size, rfl, ⟨?_, ?_, by simp⟩, ?_, Nat.le_refl _, ?_, by (repeat (first | (with_reducible exact Below.refl _ _) | (with_reducible exact below_boxed _ _) | (with_reducible refine below_box ?_ _) | (with_reducible refine below_drew1 ?_) | (with_reducible refine below_drewn ?_ _) | (with_reducible refine below_bytes ?_ _ _) | (with_reducible refine below_next ?_ (by assumption)) | (with_reducible refine below_set ?_ (by first | (simp; done) | (simp; omega) | omega) _)))⟩
  · simp [go_sem]
  · exact (ImAt.made w .u64).upd (heap_alloc_old _ _ (by simp))
  · simp
  · simp

set_option maxRecDepth 100000 in
theorem New_mh (w : World) : Calls Tryz.prog 22 #[.int .u64 1025] w fun e w' => ∃ a mb, e = .returned (.tuple #[.iface mhT (.pointer (some ⟨a, 0, none⟩)), .nilIface]) ∧ MhAt w' ⟨a, 0, none⟩ mb [] ∧ w.heap.size ≤ a ∧ w.heap.size ≤ mb ∧ a ≠ mb ∧ Below w.heap.size w w' := by
  go_enter Tryz.func22, Tryz.ntmps22
  go_wp2_with fail
  refine (newMh_ok _).mono ?_
  rintro e w1 ⟨a, mb, rfl, hM, ha, hb, hne, hB⟩
  go_wp2_with fail
  go_ret2
  exact ⟨a, mb, rfl, hM, ha, hb, hne, hB⟩

set_option maxRecDepth 100000 in
set_option maxHeartbeats 1600000 in
theorem ReadFrom_mh (b : Nat) (A : Option Addr) (cap : Nat) (bs : List UInt8) (ss : List (Nat × List (Nat × List UInt8))) (rest : List UInt8)
    (hw : ∀ p ∈ ss, p.1 < 18446744073709551616 ∧ (∀ s ∈ p.2, 8 ≤ s.1 ∧ s.1 ≤ 33554432) ∧ (p.2.map (·.1)).Nodup) (hnd : (ss.map (·.1)).Nodup) (w : World) (hsm : bs.length ≤ 16777216) (h : RdAt w b A cap bs 0)
    (hbs : bs = Lib.uvarint 1025 ++ (mhBytes ss ++ rest)) (hA : ∀ g' o, A = some ⟨g', o, none⟩ → g' < w.heap.size) :
    Calls Tryz.prog 12 #[.iface 40 (.pointer (some ⟨b, 0, none⟩))] w fun e w' => ∃ a mb cs, e = .returned (.tuple #[.iface mhT (.pointer (some ⟨a, 0, none⟩)), .nilIface]) ∧ RdAt w' b A cap bs (2 + (mhBytes ss).length) ∧
      cs.map Cod.two = ss ∧ MhAt w' ⟨a, 0, none⟩ mb cs ∧ (∀ c ∈ cs, c.Above w.heap.size) ∧ w.heap.size ≤ a ∧ w.heap.size ≤ mb ∧ Kp (fun i => i = b) w w' := by
  have hme := method_UnmarshalC
  have hbl := h.blt
  have hRC := ReadCodec_ok b A cap bs 0 1025 (by omega) (mhBytes ss ++ rest) w h (by rw [List.drop_zero]; exact hbs)
  rw [uv1025] at hRC
  have hd2 : bs.drop 2 = mhBytes ss ++ rest := by rw [hbs, uv1025]; rfl
  have HD := Lib.hid hd2
  clear hbs hd2 h
  go_enter Tryz.func12, Tryz.ntmps12
  go_wp2_with fail
  refine hRC.mono ?_
  clear hRC
  rintro e w1 ⟨rfl, hR1, hK1⟩
  have hz1 := hK1.size
  go_wp2_with fail
  refine (New_mh _).mono ?_
  rintro e w2 ⟨a, mb, rfl, hM2, ha, hm, hne, hb2⟩
  have hz2 := hb2.size
  have hR2 : RdAt w2 b A cap bs 2 := hR1.keep (S := fun _ => False) (Kp.of_below hb2) id (fun _ _ _ => id)
  have hU := MhUnmarshal_ok b A cap bs 2 ⟨a, 0, none⟩ mb ss rest hw hnd w2 hsm hR2 HD.out hM2 (by show a ≠ b; omega) (by omega) hne (fun g' o e => by have := hA g' o e; refine ⟨by omega, ?_, by omega⟩; show g' ≠ a; omega)
  clear hR1 hM2 hR2 hw hnd
  go_wp2_with fail
  refine hU.mono ?_
  clear hU
  rintro e w3 ⟨rfl, hR3, ⟨cs, hs, hM3, hg⟩, hK3⟩
  go_wp2_with fail
  go_ret2
  refine ⟨a, mb, cs, rfl, hR3, hs, hM3, fun c hc => ?_, by omega, by omega, ?_⟩
  · have h := hg c hc
    exact ⟨by have := h.1; omega, by have := h.2.1; omega, fun s hs => by have := h.2.2 s hs; omega⟩
  · exact (hK1.trans (S' := fun _ => False) (Kp.of_below hb2) (fun _ h => h.elim)).trans hK3 (fun i h => h.elim .inl (fun e => .inr (by omega)))
end Go.Proofs.YtgdgmegpacmgnaaGreatDoor

/- The index 0x0401 is asked. -/
namespace Go.Proofs.YtgdgmegpacmgnaaGreatDoor
open Go.RowKit
set_option linter.unusedVariables false
set_option linter.unusedSimpArgs false
attribute [local go_sem] setCell_drewN alloc_drewN

theorem find_cod {cs : List Cod} {k : Int} : ilook (cs.map Cod.pair) k = (cs.find? (fun c => decide ((c.code : Int) = k))).map (fun c => .pointer (some ⟨c.cb, 0, none⟩)) := by
  induction cs with
  | nil => rfl
  | cons s l ih =>
    by_cases h : (s.code : Int) = k
    · simp [ilook, Cod.pair, h]
    · have := ih
      simp only [ilook] at this ⊢
      rw [List.map_cons, List.find?_cons, List.find?_cons]
      simp only [Cod.pair, h, decide_false]
      exact this
theorem coZero (W : World) : (zeroValue 266).run Tryz.prog W = .ok (.pointer none) W := by kernel_rfl

set_option maxRecDepth 100000 in
set_option maxHeartbeats 1600000 in
theorem MhGet_some (a : Addr) (mb d : Nat) (cs : List Cod) (c : Cod) (w : World) (hM : MhAt w a mb cs) (code : Nat) (hf : cs.find? (fun x => decide ((x.code : Int) = (code : Int))) = some c) (hd : w.cell? ⟨d, 0, none⟩ = some (.int .u64 (code : Int))) :
    Calls Tryz.prog 181 #[.pointer (some a), .pointer (some ⟨d, 0, none⟩)] w fun e w' => e = .returned (.tuple #[.pointer (some ⟨c.cb, 0, none⟩), .nilIface]) ∧ Below w.heap.size w w' := by
  have ca := hM.cell
  have hl := (hM.map.upd (w' := w.drew) rfl).look (P := Tryz.prog) Tryz.underlying136 Tryz.underlying22 (k := (code : Int)) (v := .pointer (some ⟨c.cb, 0, none⟩)) (by rw [find_cod, hf]; rfl) true
  simp only [if_true] at hl
  have HF := Lib.hid hf
  clear hM hf
  go_enter Tryz.func181, Tryz.ntmps181
  go_wp2_with fail
  go_region
  go_wp2_with fail
  go_ret2
  exact ⟨rfl, by (repeat (first | (with_reducible exact Below.refl _ _) | (with_reducible exact below_boxed _ _) | (with_reducible refine below_box ?_ _) | (with_reducible refine below_drew1 ?_) | (with_reducible refine below_drewn ?_ _) | (with_reducible refine below_bytes ?_ _ _) | (with_reducible refine below_next ?_ (by assumption)) | (with_reducible refine below_set ?_ (by first | (simp; done) | (simp; omega) | omega) _)))⟩

set_option maxRecDepth 100000 in
set_option maxHeartbeats 1600000 in
theorem MhGet_none (a : Addr) (mb d : Nat) (cs : List Cod) (ty : TypeId) (ev : Value) (w : World) (hM : MhAt w a mb cs) (code : Nat) (hf : cs.find? (fun x => decide ((x.code : Int) = (code : Int))) = none) (hd : w.cell? ⟨d, 0, none⟩ = some (.int .u64 (code : Int)))
    (he : w.cell? ⟨4, 0, none⟩ = some (.iface ty ev)) :
    Calls Tryz.prog 181 #[.pointer (some a), .pointer (some ⟨d, 0, none⟩)] w fun e w' => e = .returned (.tuple #[.pointer none, .iface ty ev]) ∧ Below w.heap.size w w' := by
  have ca := hM.cell
  have hl := (hM.map.upd (w' := w.drew) rfl).look_no (P := Tryz.prog) Tryz.underlying136 Tryz.underlying22 (k := (code : Int)) (by rw [find_cod, hf]; rfl) true _ coZero
  simp only [if_true] at hl
  have HF := Lib.hid hf
  clear hM hf
  go_enter Tryz.func181, Tryz.ntmps181
  go_wp2_with fail
  go_region
  go_wp2_with fail
  go_region
  go_wp2_with fail
  go_ret2
  exact ⟨rfl, by (repeat (first | (with_reducible exact Below.refl _ _) | (with_reducible exact below_boxed _ _) | (with_reducible refine below_box ?_ _) | (with_reducible refine below_drew1 ?_) | (with_reducible refine below_drewn ?_ _) | (with_reducible refine below_bytes ?_ _ _) | (with_reducible refine below_next ?_ (by assumption)) | (with_reducible refine below_set ?_ (by first | (simp; done) | (simp; omega) | omega) _)))⟩

/-- The offsets that an index 0x0401 tells for a hash function and a digest. -/
def TellsC (cs : List (Nat × List (Nat × List UInt8))) (code : Nat) (d : List UInt8) (M : List Nat) : Prop :=
  (∀ x ∈ cs, x.1 ≠ code) ∧ M = [] ∨ ∃ x ∈ cs, x.1 = code ∧ Tells x.2 d M

set_option maxRecDepth 100000 in
set_option maxHeartbeats 3200000 in
theorem MhGetAll_ok (a : Addr) (mk ob mb most : Nat) (cs : List Cod) (c : CidOf) (hc : c.Ok) (ty : TypeId) (ev : Value) (w : World) (hM : MhAt w a mk cs) (hW : ∀ x ∈ cs, Whole x.secs) (hO : OutAt w ob mb most []) (hm : 1 ≤ most)
    (hne : ∀ x ∈ cs, ∀ s ∈ x.secs, s.gd ≠ ob) (hg5 : 4 < ob) (he : w.cell? ⟨4, 0, none⟩ = some (.iface ty ev)) :
    Calls Tryz.prog 176 #[.pointer (some a), .agg #[.string c.str], .func (.func 46) #[] #[.pointer (some ⟨ob, 0, none⟩), .pointer (some ⟨mb, 0, none⟩)]] w fun e w' =>
      ∃ M, GotAll (.iface ty ev) M e ∧ TellsC (cs.map Cod.two) c.code c.dig M ∧ OutAt w' ob mb most (M.take most) ∧ Told ob w w' := by
  have hobl : ob < w.heap.size := by obtain ⟨⟨v, h, _⟩, _⟩ := hO; exact (Array.getElem?_eq_some_iff.1 h).1
  have hdl := hc.dig
  have hal := World.block_lt_of_cell? w _ hM.cell
  go_enter Tryz.func176, Tryz.ntmps176
  go_wp2_with fail
  refine (Hash_ok c hc _).mono ?_
  rintro e w1 ⟨A1, c1, rfl, hc1, hA1, hB1, hF1, hb1⟩
  obtain ⟨hcc, hff⟩ := bcell hb1
  have hz : w.heap.size < w1.heap.size := by have := hb1.size; simp at this; omega
  go_wp2_with fail
  refine (Decode_ok c.code hc.code c.dig (by omega) A1 _ c1 _ hA1 rfl hc1).mono ?_
  rintro e w2 ⟨g, A2, c2, rfl, hc2, hS2, hb2, hg2, hblk⟩
  have hcc1 : w1.cell? ⟨w.heap.size, 0, none⟩ = some (.string c.str) := (hcc _ 0 (by simp)).trans (blk_cell' (heap_alloc_new w _) 0)
  have hcc2 := (hb2.cell (p := ⟨w.heap.size, 0, none⟩) hz).trans hcc1
  clear hff hcc
  have hbw : Below w.heap.size w w2 := by (repeat (first | (with_reducible exact Below.refl _ _) | (with_reducible exact below_boxed _ _) | (with_reducible refine below_box ?_ _) | (with_reducible refine below_drew1 ?_) | (with_reducible refine below_drewn ?_ _) | (with_reducible refine below_bytes ?_ _ _) | (with_reducible refine below_next ?_ (by assumption)) | (with_reducible refine below_set ?_ (by first | (simp; done) | (simp; omega) | omega) _)))
  have k0 : w2.cell? ⟨g, 0, none⟩ = some (.int .u64 (c.code : Int)) := by simp [World.cell?, hblk]
  have hM2 : MhAt w2 a mk cs := hM.kp (S := fun _ => False) (Kp.of_below hbw) id id (fun _ _ => ⟨id, id, fun _ _ => id⟩)
  have hO2 : OutAt w2 ob mb most [] := hO.below hbw
  have hz2 : w1.heap.size ≤ w2.heap.size := hb2.size
  have he2 : w2.cell? ⟨4, 0, none⟩ = some (.iface ty ev) := (hbw.cell (p := ⟨4, 0, none⟩) (by show 4 < _; omega)).trans he
  clear hb1 hb2 hblk hA1 hB1 hF1 hM hO hS2
  cases hf : cs.find? (fun x => decide ((x.code : Int) = (c.code : Int))) with
  | none =>
    have hG := MhGet_none a mk g cs ty ev w2 hM2 c.code hf k0 he2
    have HF := Lib.hid hf
    clear hf
    go_wp2_with fail
    refine hG.mono ?_
    clear hG
    rintro e w3 ⟨rfl, hb3⟩
    go_wp2_with fail
    go_ret
    refine ⟨[], rfl, .inl ⟨?_, rfl⟩, by rw [List.take_nil]; exact hO2.below hb3, (Told.of_below hbw (Nat.le_of_lt hobl)).trans (Told.of_below hb3 (by omega))⟩
    intro x hx
    obtain ⟨y, hy, rfl⟩ := List.mem_map.1 hx
    have := List.find?_eq_none.1 HF.out y hy
    simp only [decide_eq_true_eq] at this
    show y.code ≠ _
    omega
  | some x =>
    have hxm : x ∈ cs := List.mem_of_find?_eq_some hf
    have hxw : (x.code : Int) = (c.code : Int) := by have := List.find?_some hf; simpa using this
    have hG := MhGet_some a mk g cs x w2 hM2 c.code hf k0
    have HX := Lib.hid hxw
    clear hf hxw
    go_wp2_with fail
    refine hG.mono ?_
    clear hG
    rintro e w3 ⟨rfl, hb3⟩
    have hz3 := hb3.size
    have hcc3 := (hb3.cell (p := ⟨w.heap.size, 0, none⟩) (by show w.heap.size < _; omega)).trans hcc2
    have hb3d : Below w2.heap.size w2 w3.drew := below_drew1 hb3
    have hMx : MwAt w3.drew ⟨x.cb, 0, none⟩ x.mb x.secs := ((hM2.row x hxm).kp (S := fun _ => False) (Kp.of_below hb3d) id id (fun _ _ => id)).mw
    have hGA := MwGetAll_ok ⟨x.cb, 0, none⟩ x.mb ob mb most x.secs c hc ty ev w3.drew hMx (hW x hxm) (hO2.below hb3d) hm (hne x hxm) hg5 ((hb3d.cell (p := ⟨4, 0, none⟩) (by show 4 < _; omega)).trans he2)
    have hT3 : Told ob w w3.drew := (Told.of_below hbw (Nat.le_of_lt hobl)).trans (Told.of_below hb3d (by omega))
    clear hMx hb3d
    go_wp2_with fail
    go_region_with (go_at_call 182; (refine hGA.mono ?_; clear hGA; rintro e w4 ⟨M, hGM, hO4, hT4⟩; obtain ⟨hGot, hTe⟩ : GotAll _ M e ∧ Tells (x.secs.map Sec.two) c.dig M := hGM; have he4 : ∃ v, e = .returned v := (by unfold GotAll at hGot; exact ⟨_, hGot⟩); obtain ⟨v, rfl⟩ := he4))
    all_goals
      go_wp2_with fail
      go_ret
      refine ⟨M, hGot, .inr ⟨x.two, List.mem_map.2 ⟨x, hxm, rfl⟩, ?_, hTe⟩, hO4, hT3.trans hT4⟩
      have := HX.out
      show x.code = _
      omega
end Go.Proofs.YtgdgmegpacmgnaaGreatDoor

/- MultihashIndexSorted.Marshal. -/
namespace Go.Proofs.YtgdgmegpacmgnaaGreatDoor
open Go.RowKit
set_option linter.unusedVariables false
set_option linter.unusedSimpArgs false
attribute [local go_sem] setCell_drewN alloc_drewN

/-- The codes' indexes in an order of codes. -/
def inCodes (cs : List Cod) (ws : List Nat) : List (Nat × List (Nat × List UInt8)) := ws.filterMap fun x => (cs.find? fun c => decide (c.code = x)).map fun c => (c.code, sortedSecs c.secs)
def sortedCods (cs : List Cod) : List (Nat × List (Nat × List UInt8)) := inCodes cs (sortN (cs.map Cod.code))
theorem inCodes_take {cs : List Cod} {ws : List Nat} {i x : Nat} {c : Cod} (hx : ws[i]? = some x) (hf : cs.find? (fun c => decide (c.code = x)) = some c) : inCodes cs (ws.take (i + 1)) = inCodes cs (ws.take i) ++ [(c.code, sortedSecs c.secs)] := by
  have hlt := (List.getElem?_eq_some_iff.1 hx).1
  have he := (List.getElem?_eq_some_iff.1 hx).2
  rw [List.take_succ_eq_append_getElem hlt, he, inCodes, inCodes, List.filterMap_append]
  simp [hf]
theorem find_code {cs : List Cod} {c : Cod} (hs : c ∈ cs) (hn : (cs.map Cod.code).Nodup) : cs.find? (fun x => decide (x.code = c.code)) = some c := by
  induction cs with
  | nil => cases hs
  | cons x l ih =>
    have hn' := List.nodup_cons.1 hn
    by_cases hx : x.code = c.code
    · rcases List.mem_cons.1 hs with rfl | h
      · simp
      · exact absurd (List.mem_map.2 ⟨c, h, hx.symm⟩) hn'.1
    · rcases List.mem_cons.1 hs with rfl | h
      · exact absurd rfl hx
      · rw [List.find?_cons]; simp only [hx, decide_false]; exact ih h hn'.2
theorem MhAt.nodup {w : World} {a : Addr} {mb : Nat} {cs : List Cod} (h : MhAt w a mb cs) : (cs.map Cod.code).Nodup := by
  have h1 := h.map.nodup
  rw [List.map_map] at h1
  have h2 : (List.map ((fun x : Nat => (x : Int)) ∘ Cod.code) cs).Nodup := h1
  rw [← List.map_map] at h2
  exact (List.pairwise_map.1 h2).imp (fun h e => h (by rw [e]))
/-- All its blocks lie below. -/
def Cod.Under (n : Nat) (c : Cod) : Prop := c.cb < n ∧ c.mb < n ∧ ∀ s ∈ c.secs, s.gd < n
theorem WrK.cod {B b : Nat} {w w' : World} (h : WrK B b w w') {c : Cod} (hC : CodAt w c) (hu : c.Under B) : CodAt w' c := ⟨h.mw hC.mw hu.1 hu.2.1 hu.2.2, (h.bel.cell hu.1).trans hC.code⟩
theorem WrK.mh {B b : Nat} {w w' : World} (h : WrK B b w w') {a : Addr} {mb : Nat} {cs : List Cod} (hM : MhAt w a mb cs) (h1 : a.block < B) (h2 : mb < B) (h3 : ∀ c ∈ cs, c.Under B) : MhAt w' a mb cs :=
  ⟨(h.bel.cell h1).trans hM.cell, hM.map.upd (h.bel.block _ h2), fun c hc => h.cod (hM.row c hc) (h3 c hc)⟩
theorem inCodes_le {cs : List Cod} {ws : List Nat} (i : Nat) : (codsBytes (inCodes cs (ws.take i))).length ≤ (codsBytes (inCodes cs ws)).length := by
  have : inCodes cs ws = inCodes cs (ws.take i) ++ inCodes cs (ws.drop i) := by
    rw [inCodes, inCodes, inCodes, ← List.filterMap_append, List.take_append_drop]
  rw [this, codsBytes_append, List.length_append]; omega
theorem codBytes_len2 (c : Cod) : (codBytes (c.code, sortedSecs c.secs)).length = 12 + (secsBytes (sortedSecs c.secs)).length := by simp only [codBytes, mwBytes, List.length_append, le4_len, le8_len]; omega

set_option maxRecDepth 100000 in
set_option maxHeartbeats 3200000 in
theorem MhMarshal_ok (B b mk most : Nat) (bs : List UInt8) (a : Addr) (cs : List Cod) (w : World) (hs32 : SortsTo 214 .u32 103 most) (hs64 : SortsTo 198 .u64 22 most) (hmost : cs.length ≤ most) (h : BufAt w B b bs) (hB : B ≤ w.heap.size) (hM : MhAt w a mk cs)
    (hab : a.block < B) (hmk : mk < B) (hu : ∀ c ∈ cs, c.Under B) (hw : ∀ c ∈ cs, c.code < 18446744073709551616 ∧ c.secs.length ≤ most ∧ c.secs.length ≤ 1000000 ∧ ∀ s ∈ c.secs, s.width < 4294967296) (hlen : cs.length ≤ 1000000) (hlim : bs.length + 4 + (codsBytes (sortedCods cs)).length ≤ 1099511627776) :
    Calls Tryz.prog 178 #[.pointer (some a), .iface 55 (.pointer (some ⟨b, 0, none⟩))] w fun e w' =>
      ∃ n : Int, e = .returned (.tuple #[.int .u64 n, .nilIface]) ∧ BufAt w' B b (bs ++ (Lib.leBytes 4 cs.length ++ codsBytes (sortedCods cs))) ∧ WrK B b w w' := by
  have hBb : B ≤ b := h.1
  have ca := hM.cell
  have hln := hM.map.len (P := Tryz.prog) Tryz.underlying136 3
  rw [List.length_map] at hln
  have hlw : IntKind.u32.wrap (cs.length : Int) = (cs.length : Int) := by rw [IntKind.wrap_u32]; omega
  go_enter Tryz.func178, Tryz.ntmps178
  go_wp2_with fail
  refine (zzWrite32_ok B b bs cs.length (by omega) w h hB (by omega)).mono ?_
  rintro e w1 ⟨rfl, hB1, hK1⟩
  have hM1 := hK1.mh hM hab hmk hu
  have hBw1 : B ≤ w1.heap.size := by have := hK1.bel.size; omega
  have hC := MhCodes_ok most a mk cs w1 hs64 hmost hM1 hlen
  clear h ca hln
  go_wp2_with fail
  refine hC.mono ?_
  clear hC
  rintro e w2 ⟨g, cap, tail, rfl, hg2, hge, hb2⟩
  have hB2 := hB1.below hb2
  have hK2 : WrK B b w w2 := hK1.trans (WrK.of_below hb2 hBw1)
  have hbg : g ≠ b := by have := hB1.lt; omega
  have hgz : g < w2.heap.size := (Array.getElem?_eq_some_iff.1 hg2).1
  obtain ⟨sw, hswd⟩ : ∃ sw, sw = sortN (cs.map Cod.code) := ⟨_, rfl⟩
  have hsl : sw.length = cs.length := by rw [hswd, sortN_len, List.length_map]
  have hsec : sortedCods cs = inCodes cs sw := by rw [hswd]; rfl
  rw [← hswd] at hg2
  rw [hsec] at hlim
  have hmem : ∀ (i x : Nat), sw[i]? = some x → ∃ s ∈ cs, s.code = x ∧ cs.find? (fun s => decide (s.code = x)) = some s := by
    intro i x hx
    have h1 : x ∈ sortN (cs.map Cod.code) := by rw [← hswd]; exact List.mem_of_getElem? hx
    obtain ⟨s, hs, e⟩ := List.mem_map.1 (sortN_mem.1 h1)
    exact ⟨s, hs, e, by rw [← e]; exact find_code hs hM.nodup⟩
  have HSE := Lib.hid hsec; have HSL := Lib.hid hsl; have HME := Lib.hid hmem; have HM := Lib.hid hM
  clear hswd hsl hsec hmem hM hM1 hB1 hK1 hb2
  go_wp2_with fail
  go_loopw [8, 28] (fun vl vi wx => ∃ i ln : Nat, vi = .int .i64 (i : Int) ∧ i ≤ cs.length ∧ vl = .int .u64 (ln : Int) ∧ ln ≤ 4 + (codsBytes (inCodes cs (sw.take i))).length ∧ BufAt wx B b (bs ++ (Lib.leBytes 4 cs.length ++ codsBytes (inCodes cs (sw.take i)))) ∧ WrK B b w wx ∧
      wx.heap[g]? = some (.cells (sw.map (numV .u64) ++ tail).toArray 22 (0, 0)) ∧ B ≤ wx.heap.size) (fun _ vi _ => cs.length - (intOf vi).toNat)
  case atStart => exact ⟨0, 4, rfl, Nat.zero_le _, rfl, by omega, by simpa [inCodes, codsBytes] using hB2, hK2, hg2, by have := hK2.bel.size; omega⟩
  case round =>
    clear hB2 hK2 hg2
    obtain ⟨i, ln, rfl, hin, rfl, hln, hBx, hKx, hgx, hzx⟩ := hrel
    have hMx := hKx.mh HM.out hab hmk hu
    have cax := hMx.cell
    by_cases hlt : i < cs.length
    · obtain ⟨x, hx⟩ : ∃ x, sw[i]? = some x := ⟨_, List.getElem?_eq_getElem (by rw [HSL.out]; exact hlt)⟩
      obtain ⟨c, hcm, rfl, hfd⟩ := HME.out i _ hx
      have htk := inCodes_take hx hfd
      have hxl : (sw.map (numV .u64) ++ tail)[i]? = some (numV .u64 c.code) := by rw [List.getElem?_append_left (by rw [List.length_map, HSL.out]; exact hlt), List.getElem?_map, hx]; rfl
      have hgi := (blk_cell' hgx i).trans (show _ = some (Value.int .u64 (c.code : Int)) by rw [List.getElem?_toArray]; exact hxl)
      have hlk := hMx.map.look (P := Tryz.prog) Tryz.underlying136 Tryz.underlying22 (k := (c.code : Int)) (v := .pointer (some ⟨c.cb, 0, none⟩)) (by rw [find_cod, show (fun t : Cod => decide ((t.code : Int) = (c.code : Int))) = fun t => decide (t.code = c.code) from funext fun s => decide_eq_decide.2 (by omega), hfd]; rfl) false
      simp only [Bool.false_eq_true, if_false] at hlk
      obtain ⟨hu1, hu2, hu3⟩ := hu c hcm
      obtain ⟨hw1, hw2, hw3, hw4⟩ := hw c hcm
      have hle1 := inCodes_le (cs := cs) (ws := sw) (i + 1)
      have hL1 : (codsBytes (inCodes cs (sw.take (i + 1)))).length = (codsBytes (inCodes cs (sw.take i))).length + (12 + (secsBytes (sortedSecs c.secs)).length) := by
        rw [htk, codsBytes_append, List.length_append, ← codBytes_len2]; simp [codsBytes]
      have hSM := CoMarshal_ok B b most _ c wr hs32 hw2 hBx hzx (hMx.row c hcm) hw1 hu1 hu2 hu3 hw4 hw3 (by simp only [List.length_append, le4_len]; omega)
      have HTK := Lib.hid htk
      have HL1 := Lib.hid hL1
      have hln2 : ln + (12 + (secsBytes (sortedSecs c.secs)).length) ≤ 4 + (codsBytes (inCodes cs (sw.take (i + 1)))).length := by omega
      have hln3 : ln + (12 + (secsBytes (sortedSecs c.secs)).length) ≤ 1099511627776 := by omega
      clear htk hL1 hle1 hxl hx hfd hBx hMx
      go_wp2_with fail
      refine hSM.mono ?_
      clear hSM
      rintro e wy ⟨rfl, hBy, hKs⟩
      have hgy := hKs.cells hgx hbg (fun c fz e => by cases e)
      have hKy := hKx.trans hKs
      have hzy : B ≤ wy.heap.size := by have := hKs.bel.size; omega
      generalize (secsBytes (sortedSecs c.secs)).length = sl at *
      have hwr : IntKind.u64.wrap ((ln : Int) + ((12 + sl : Nat) : Int)) = ((ln + (12 + sl) : Nat) : Int) := by rw [IntKind.wrap_u64]; omega
      clear hKx hKs hgx hlk hgi
      go_wp2_with fail
      go_roundw
      case rel => exact ⟨i + 1, ln + (12 + sl), by go_num, by omega, by go_num, hln2, by rw [HTK.out, codsBytes_append]; simpa [List.append_assoc, codsBytes] using hBy, hKy, hgy, hzy⟩
      case measure => simp [intOf]; omega
    · obtain rfl : i = cs.length := by omega
      rw [List.take_of_length_le (Nat.le_of_eq HSL.out), ← HSE.out] at hBx
      have HBX := Lib.hid hBx
      clear hBx
      go_wp2_with fail
      go_ret2
      exact ⟨_, rfl, HBX.out, hKx⟩
end Go.Proofs.YtgdgmegpacmgnaaGreatDoor

/- Entries of an index as they come in. -/
namespace Go.Proofs.YtgdgmegpacmgnaaGreatDoor
open Go.RowKit
set_option linter.unusedVariables false
set_option linter.unusedSimpArgs false

/-- The entries as they came in: a slice of rows of five cells. -/
def EntCells (x : CidOf × Int) : List Value := [.int .u64 x.1.ver, .int .u64 x.1.codec, .int .u64 x.1.code, .string (sOf x.1.dig), .int .u64 x.2]
def RowsAt (w : World) (A : Option Addr) (l : List (CidOf × Int)) : Prop :=
  l = [] ∨ ∃ g o, A = some ⟨g, o, none⟩ ∧ ∀ i x, l[i]? = some x → ∀ j v, (EntCells x)[j]? = some v → w.cell? ⟨g, o + i * 5 + j, none⟩ = some v

theorem RowsAt.below {w w' : World} {A : Option Addr} {l : List (CidOf × Int)} (h : RowsAt w A l) (hb : Below w.heap.size w w') : RowsAt w' A l := by
  rcases h with h | ⟨g, o, e, hc⟩
  · exact .inl h
  · exact .inr ⟨g, o, e, fun i x hx j v hj => (hb.cell (World.block_lt_of_cell? w _ (hc i x hx j v hj))).trans (hc i x hx j v hj)⟩

theorem RowsAt.row {w wr : World} {A : Option Addr} {l : List (CidOf × Int)} (hR : RowsAt w A l) (hb : Below w.heap.size w wr) {k : Nat} {x : CidOf × Int} (hx : l[k]? = some x) :
    ∃ g0 o, A = some ⟨g0, o, none⟩ ∧ g0 < w.heap.size ∧ wr.cell? ⟨g0, o + k * 5, none⟩ = some (.int .u64 x.1.ver) ∧ wr.cell? ⟨g0, o + k * 5 + 1, none⟩ = some (.int .u64 x.1.codec) ∧ wr.cell? ⟨g0, o + k * 5 + 2, none⟩ = some (.int .u64 x.1.code) ∧ wr.cell? ⟨g0, o + k * 5 + 3, none⟩ = some (.string (sOf x.1.dig)) ∧ wr.cell? ⟨g0, o + k * 5 + 4, none⟩ = some (.int .u64 x.2) := by
  rcases hR with rfl | ⟨g0, o, rfl, hc⟩
  · simp at hx
  have c0 := hc k x hx 0 _ rfl
  have hg0 : g0 < w.heap.size := World.block_lt_of_cell? w _ c0
  have h := fun j v hj => (hb.cell (p := ⟨g0, o + k * 5 + j, none⟩) hg0).trans (hc k x hx j v hj)
  exact ⟨g0, o, rfl, hg0, h 0 _ rfl, h 1 _ rfl, h 2 _ rfl, h 3 _ rfl, h 4 _ rfl⟩

end Go.Proofs.YtgdgmegpacmgnaaGreatDoor
