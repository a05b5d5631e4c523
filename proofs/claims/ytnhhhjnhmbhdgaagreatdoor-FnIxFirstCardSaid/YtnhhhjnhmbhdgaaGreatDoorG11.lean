import Derived.Test.YtnhhhjnhmbhdgaaGreatDoorG10
import Derived.Test.YtnhhhjnhmbhdgaaGreatDoorG07
import Derived.Test.YtnhhhjnhmbhdgaaGreatDoorG06
import Derived.Test.YtnhhhjnhmbhdgaaGreatDoorG09
import Derived.Maps.AppendAt
import Derived.Laws.ShiftsVarLaws
/- MultihashIndexSorted.Marshal. -/
namespace Go.Proofs.YtnhhhjnhmbhdgaaGreatDoor
open Go.RowKit
set_option linter.unusedVariables false
set_option linter.unusedSimpArgs false
attribute [local go_sem] setCell_drewN alloc_drewN

/-- The codes' indexes in an order of codes. -/
def inCodes (cs : List Cod) (ws : List Nat) : List (Nat × List (Nat × List UInt8)) := ws.filterMap fun x => (cs.find? fun c => decide (c.code = x)).map fun c => (c.code, sortedSecs c.secs)
def sortedCods (cs : List Cod) : List (Nat × List (Nat × List UInt8)) := inCodes cs (sortN (cs.map Cod.code))
theorem inCodes_take {cs : List Cod} {ws : List Nat} {i x : Nat} {c : Cod} (hx : ws[i]? = some x) (hf : cs.find? (fun c => decide (c.code = x)) = some c) : inCodes cs (ws.take (i + 1)) = inCodes cs (ws.take i) ++ [(c.code, sortedSecs c.secs)] := by
  have hlt := (List.getElem?_eq_some_iff.1 hx).1
  have he := (List.getElem?_eq_some_iff.1 hx).2
  rw [List.take_succ_eq_append_getElem hlt, he, inCodes, inCodes, List.filterMap_append]
  simp [hf]
theorem find_code {cs : List Cod} {c : Cod} (hs : c ∈ cs) (hn : (cs.map Cod.code).Nodup) : cs.find? (fun x => decide (x.code = c.code)) = some c := by
  induction cs with
  | nil => cases hs
  | cons x l ih =>
    have hn' := List.nodup_cons.1 hn
    by_cases hx : x.code = c.code
    · rcases List.mem_cons.1 hs with rfl | h
      · simp
      · exact absurd (List.mem_map.2 ⟨c, h, hx.symm⟩) hn'.1
    · rcases List.mem_cons.1 hs with rfl | h
      · exact absurd rfl hx
      · rw [List.find?_cons]; simp only [hx, decide_false]; exact ih h hn'.2
theorem MhAt.nodup {w : World} {a : Addr} {mb : Nat} {cs : List Cod} (h : MhAt w a mb cs) : (cs.map Cod.code).Nodup := by
  have h1 := h.map.nodup
  rw [List.map_map] at h1
  have h2 : (List.map ((fun x : Nat => (x : Int)) ∘ Cod.code) cs).Nodup := h1
  rw [← List.map_map] at h2
  exact (List.pairwise_map.1 h2).imp (fun h e => h (by rw [e]))
/-- All its blocks lie below. -/
def Cod.Under (n : Nat) (c : Cod) : Prop := c.cb < n ∧ c.mb < n ∧ ∀ s ∈ c.secs, s.gd < n
theorem WrK.cod {B b : Nat} {w w' : World} (h : WrK B b w w') {c : Cod} (hC : CodAt w c) (hu : c.Under B) : CodAt w' c := ⟨h.mw hC.mw hu.1 hu.2.1 hu.2.2, (h.bel.cell hu.1).trans hC.code⟩
theorem WrK.mh {B b : Nat} {w w' : World} (h : WrK B b w w') {a : Addr} {mb : Nat} {cs : List Cod} (hM : MhAt w a mb cs) (h1 : a.block < B) (h2 : mb < B) (h3 : ∀ c ∈ cs, c.Under B) : MhAt w' a mb cs :=
  ⟨(h.bel.cell h1).trans hM.cell, hM.map.upd (h.bel.block _ h2), fun c hc => h.cod (hM.row c hc) (h3 c hc)⟩
theorem inCodes_le {cs : List Cod} {ws : List Nat} (i : Nat) : (codsBytes (inCodes cs (ws.take i))).length ≤ (codsBytes (inCodes cs ws)).length := by
  have : inCodes cs ws = inCodes cs (ws.take i) ++ inCodes cs (ws.drop i) := by
    rw [inCodes, inCodes, inCodes, ← List.filterMap_append, List.take_append_drop]
  rw [this, codsBytes_append, List.length_append]; omega
theorem codBytes_len2 (c : Cod) : (codBytes (c.code, sortedSecs c.secs)).length = 12 + (secsBytes (sortedSecs c.secs)).length := by simp only [codBytes, mwBytes, List.length_append, le4_len, le8_len]; omega

set_option maxRecDepth 100000 in
set_option maxHeartbeats 3200000 in
theorem MhMarshal_ok (B b mk most : Nat) (bs : List UInt8) (a : Addr) (cs : List Cod) (w : World) (hs32 : SortsTo 212 .u32 99 most) (hs64 : SortsTo 196 .u64 23 most) (hmost : cs.length ≤ most) (h : BufAt w B b bs) (hB : B ≤ w.heap.size) (hM : MhAt w a mk cs)
    (hab : a.block < B) (hmk : mk < B) (hu : ∀ c ∈ cs, c.Under B) (hw : ∀ c ∈ cs, c.code < 18446744073709551616 ∧ c.secs.length ≤ most ∧ c.secs.length ≤ 1000000 ∧ ∀ s ∈ c.secs, s.width < 4294967296) (hlen : cs.length ≤ 1000000) (hlim : bs.length + 4 + (codsBytes (sortedCods cs)).length ≤ 1099511627776) :
    Calls Tryz.prog 176 #[.pointer (some a), .iface 197 (.pointer (some ⟨b, 0, none⟩))] w fun e w' =>
      ∃ n : Int, e = .returned (.tuple #[.int .u64 n, .nilIface]) ∧ BufAt w' B b (bs ++ (Lib.leBytes 4 cs.length ++ codsBytes (sortedCods cs))) ∧ WrK B b w w' := by
  have hBb : B ≤ b := h.1
  have ca := hM.cell
  have hln := hM.map.len (P := Tryz.prog) Tryz.underlying164 3
  rw [List.length_map] at hln
  have hlw : IntKind.u32.wrap (cs.length : Int) = (cs.length : Int) := by rw [IntKind.wrap_u32]; omega
  go_enter Tryz.func176, Tryz.ntmps176
  go_wp2_with fail
  refine (zzWrite32_ok B b bs cs.length (by omega) w h hB (by omega)).mono ?_
  rintro e w1 ⟨rfl, hB1, hK1⟩
  have hM1 := hK1.mh hM hab hmk hu
  have hBw1 : B ≤ w1.heap.size := by have := hK1.bel.size; omega
  have hC := MhCodes_ok most a mk cs w1 hs64 hmost hM1 hlen
  clear h ca hln
  go_wp2_with fail
  refine hC.mono ?_
  clear hC
  rintro e w2 ⟨g, cap, tail, rfl, hg2, hge, hb2⟩
  have hB2 := hB1.below hb2
  have hK2 : WrK B b w w2 := hK1.trans (WrK.of_below hb2 hBw1)
  have hbg : g ≠ b := by have := hB1.lt; omega
  have hgz : g < w2.heap.size := (Array.getElem?_eq_some_iff.1 hg2).1
  obtain ⟨sw, hswd⟩ : ∃ sw, sw = sortN (cs.map Cod.code) := ⟨_, rfl⟩
  have hsl : sw.length = cs.length := by rw [hswd, sortN_len, List.length_map]
  have hsec : sortedCods cs = inCodes cs sw := by rw [hswd]; rfl
  rw [← hswd] at hg2
  rw [hsec] at hlim
  have hmem : ∀ (i x : Nat), sw[i]? = some x → ∃ s ∈ cs, s.code = x ∧ cs.find? (fun s => decide (s.code = x)) = some s := by
    intro i x hx
    have h1 : x ∈ sortN (cs.map Cod.code) := by rw [← hswd]; exact List.mem_of_getElem? hx
    obtain ⟨s, hs, e⟩ := List.mem_map.1 (sortN_mem.1 h1)
    exact ⟨s, hs, e, by rw [← e]; exact find_code hs hM.nodup⟩
  have HSE := Lib.hid hsec; have HSL := Lib.hid hsl; have HME := Lib.hid hmem; have HM := Lib.hid hM
  clear hswd hsl hsec hmem hM hM1 hB1 hK1 hb2
  go_wp2_with fail
  go_loopw [8, 28] (fun vl vi wx => ∃ i ln : Nat, vi = .int .i64 (i : Int) ∧ i ≤ cs.length ∧ vl = .int .u64 (ln : Int) ∧ ln ≤ 4 + (codsBytes (inCodes cs (sw.take i))).length ∧ BufAt wx B b (bs ++ (Lib.leBytes 4 cs.length ++ codsBytes (inCodes cs (sw.take i)))) ∧ WrK B b w wx ∧
      wx.heap[g]? = some (.cells (sw.map (numV .u64) ++ tail).toArray 23 (0, 0)) ∧ B ≤ wx.heap.size) (fun _ vi _ => cs.length - (intOf vi).toNat)
  case atStart => exact ⟨0, 4, rfl, Nat.zero_le _, rfl, by omega, by simpa [inCodes, codsBytes] using hB2, hK2, hg2, by have := hK2.bel.size; omega⟩
  case round =>
    clear hB2 hK2 hg2
    obtain ⟨i, ln, rfl, hin, rfl, hln, hBx, hKx, hgx, hzx⟩ := hrel
    have hMx := hKx.mh HM.out hab hmk hu
    have cax := hMx.cell
    by_cases hlt : i < cs.length
    · obtain ⟨x, hx⟩ : ∃ x, sw[i]? = some x := ⟨_, List.getElem?_eq_getElem (by rw [HSL.out]; exact hlt)⟩
      obtain ⟨c, hcm, rfl, hfd⟩ := HME.out i _ hx
      have htk := inCodes_take hx hfd
      have hxl : (sw.map (numV .u64) ++ tail)[i]? = some (numV .u64 c.code) := by rw [List.getElem?_append_left (by rw [List.length_map, HSL.out]; exact hlt), List.getElem?_map, hx]; rfl
      have hgi := (blk_cell' hgx i).trans (show _ = some (Value.int .u64 (c.code : Int)) by rw [List.getElem?_toArray]; exact hxl)
      have hlk := hMx.map.look (P := Tryz.prog) Tryz.underlying164 Tryz.underlying23 (k := (c.code : Int)) (v := .pointer (some ⟨c.cb, 0, none⟩)) (by rw [find_cod, show (fun t : Cod => decide ((t.code : Int) = (c.code : Int))) = fun t => decide (t.code = c.code) from funext fun s => decide_eq_decide.2 (by omega), hfd]; rfl) false
      simp only [Bool.false_eq_true, if_false] at hlk
      obtain ⟨hu1, hu2, hu3⟩ := hu c hcm
      obtain ⟨hw1, hw2, hw3, hw4⟩ := hw c hcm
      have hle1 := inCodes_le (cs := cs) (ws := sw) (i + 1)
      have hL1 : (codsBytes (inCodes cs (sw.take (i + 1)))).length = (codsBytes (inCodes cs (sw.take i))).length + (12 + (secsBytes (sortedSecs c.secs)).length) := by
        rw [htk, codsBytes_append, List.length_append, ← codBytes_len2]; simp [codsBytes]
      have hSM := CoMarshal_ok B b most _ c wr hs32 hw2 hBx hzx (hMx.row c hcm) hw1 hu1 hu2 hu3 hw4 hw3 (by simp only [List.length_append, le4_len]; omega)
      have HTK := Lib.hid htk
      have HL1 := Lib.hid hL1
      have hln2 : ln + (12 + (secsBytes (sortedSecs c.secs)).length) ≤ 4 + (codsBytes (inCodes cs (sw.take (i + 1)))).length := by omega
      have hln3 : ln + (12 + (secsBytes (sortedSecs c.secs)).length) ≤ 1099511627776 := by omega
      clear htk hL1 hle1 hxl hx hfd hBx hMx
      go_wp2_with fail
      refine hSM.mono ?_
      clear hSM
      rintro e wy ⟨rfl, hBy, hKs⟩
      have hgy := hKs.cells hgx hbg (fun c fz e => by cases e)
      have hKy := hKx.trans hKs
      have hzy : B ≤ wy.heap.size := by have := hKs.bel.size; omega
      generalize (secsBytes (sortedSecs c.secs)).length = sl at *
      have hwr : IntKind.u64.wrap ((ln : Int) + ((12 + sl : Nat) : Int)) = ((ln + (12 + sl) : Nat) : Int) := by rw [IntKind.wrap_u64]; omega
      clear hKx hKs hgx hlk hgi
      go_wp2_with fail
      go_roundw
      case rel => exact ⟨i + 1, ln + (12 + sl), by go_num, by omega, by go_num, hln2, by rw [HTK.out, codsBytes_append]; simpa [List.append_assoc, codsBytes] using hBy, hKy, hgy, hzy⟩
      case measure => simp [intOf]; omega
    · obtain rfl : i = cs.length := by omega
      rw [List.take_of_length_le (Nat.le_of_eq HSL.out), ← HSE.out] at hBx
      have HBX := Lib.hid hBx
      clear hBx
      go_wp2_with fail
      go_ret2
      exact ⟨_, rfl, HBX.out, hKx⟩
end Go.Proofs.YtnhhhjnhmbhdgaaGreatDoor

/- WriteTo at 0x0401. -/
namespace Go.Proofs.YtnhhhjnhmbhdgaaGreatDoor
open Go.RowKit
set_option linter.unusedVariables false
set_option linter.unusedSimpArgs false
attribute [local go_sem] setCell_drewN alloc_drewN

theorem method_CodecC (v : Value) (w : World) : (method 454 mhT v "Codec").run Tryz.prog w = .ok (173, v) w := by kernel_rfl
theorem method_MarshalC (v : Value) (w : World) : (method 454 mhT v "Marshal").run Tryz.prog w = .ok (176, v) w := by kernel_rfl
set_option maxRecDepth 100000 in
theorem MhCodec_ok (a : Addr) (w : World) : Calls Tryz.prog 173 #[.pointer (some a)] w fun e w' => e = .returned (.int .u64 1025) ∧ w = w' := by
  go_enter Tryz.func173, Tryz.ntmps173
  go_wp2_with fail
  go_ret
  exact ⟨rfl, rfl⟩

set_option maxRecDepth 100000 in
set_option maxHeartbeats 1600000 in
theorem WriteTo_mh (B b mk most : Nat) (a : Addr) (cs : List Cod) (w : World) (hs32 : SortsTo 212 .u32 99 most) (hs64 : SortsTo 196 .u64 23 most) (hmost : cs.length ≤ most) (h : BufAt w B b []) (hB : B ≤ w.heap.size) (hM : MhAt w a mk cs)
    (hab : a.block < B) (hmk : mk < B) (hu' : ∀ c ∈ cs, c.Under B) (hw : ∀ c ∈ cs, c.code < 18446744073709551616 ∧ c.secs.length ≤ most ∧ c.secs.length ≤ 1000000 ∧ ∀ s ∈ c.secs, s.width < 4294967296) (hlen : cs.length ≤ 1000000) (hlim : (codsBytes (sortedCods cs)).length ≤ 1000000000000) :
    Calls Tryz.prog 108 #[.iface mhT (.pointer (some a)), .iface 197 (.pointer (some ⟨b, 0, none⟩))] w fun e w' =>
      (∃ n, e = .returned (.tuple #[n, .nilIface])) ∧ BufAt w' B b (Lib.uvarint 1025 ++ (Lib.leBytes 4 cs.length ++ codsBytes (sortedCods cs))) ∧ WrK B b w w' := by
  have h1 := method_CodecC
  have h2 := method_MarshalC
  have h3 := method_bufWrite
  have h4 := ahead_bufWrite
  have hBb : B ≤ b := h.1
  have hbl := h.lt
  have hu : Lib.uvarint 1025 = [129, 8] := by rw [Lib.uvarint_big (by omega), Lib.uvarint_small (by omega)]; rfl
  have hmk10 := fun W => make8 10 10 rfl (by omega) W
  have hmf : ∀ (fn : Fn) (first cap : Array Value) (w : World), (Instr.makeFunc fn first cap).run Tryz.prog w = .ok (.func fn first cap) w := fun _ _ _ _ => rfl
  have hP := PutUvarint_ok w.heap.size 0 10 10 1025 (by omega) (zeros8 10) 5 (w.alloc (.cells (zeros8 10).toArray 5)) (heap_alloc_last w _) (by rw [hu]; decide) (by rw [hu, zeros8_length]; decide)
  rw [hu] at hP
  have hcut := fun W => cut_hi w.heap.size 2 10 10 (by omega) (by omega) (by omega) 2 rfl W
  go_enter Tryz.func108, Tryz.ntmps108
  go_wp2_with fail
  refine (MhCodec_ok a _).mono ?_
  rintro e w0 ⟨rfl, rfl⟩
  go_wp2_with fail
  refine hP.mono ?_
  clear hP
  rintro e w1 ⟨rfl, hg1, hb1⟩
  have hb1' := hb1 w.heap.size (Nat.le_refl _)
  have hbw : Below w.heap.size w w1 := (below_boxed w _).trans hb1'
  have hby : BytesAt w1 (some ⟨w.heap.size, 0, none⟩) [129, 8] := by
    refine .inr ⟨_, _, rfl, fun j x hj => ?_⟩
    rw [blk_cell' hg1]
    match j, hj with
    | 0, hj => cases hj; rfl
    | 1, hj => cases hj; rfl
  have hB1 := h.below hbw
  have hK1 : WrK B b w w1 := WrK.of_below hbw hB
  have hz1 := hbw.size
  have hWr := bufWrite_ok B b [] [129, 8] ⟨w.heap.size, 0, none⟩ 2 10 w1.drew (hB1.same rfl) (by show B ≤ w1.heap.size; omega) hby rfl (by show w.heap.size ≠ b; omega) (by decide)
  clear hg1 hb1 hb1' hbw h hby hmk10
  go_wp2_with fail
  refine wp_region_noPanic ?_
  go_region_with (go_at_call 270; refine hWr.mono ?_; rintro e w2 ⟨rfl, hB2, hK2⟩)
  all_goals
    refine NoPanic.normal ?_
    have hK2' : WrK B b w w2 := (hK1.drewN 1 : WrK B b w w1.drew).trans hK2
    have hM2 := hK2'.mh hM hab hmk hu'
    have hz2 := hK2'.bel.size
    have hMar := MhMarshal_ok B b mk most ([] ++ [129, 8]) a cs w2 hs32 hs64 hmost hB2 (by omega) hM2 hab hmk hu' hw hlen (by show 2 + 4 + _ ≤ _; omega)
    clear hB2 hM2
    go_wp2_with fail
    refine hMar.mono ?_
    clear hMar
    rintro e w3 ⟨n3, rfl, hB3, hK3⟩
    go_wp2_with fail
    go_ret2
    exact ⟨⟨_, rfl⟩, by rw [hu]; exact hB3, hK2'.trans hK3⟩

set_option maxRecDepth 100000 in
set_option maxHeartbeats 1600000 in
/-- An index, as it is written. -/
theorem written_mh (mk most : Nat) (a : Addr) (cs : List Cod) (w : World) (hs32 : SortsTo 212 .u32 99 most) (hs64 : SortsTo 196 .u64 23 most) (hmost : cs.length ≤ most) (hM : MhAt w a mk cs)
    (hw : ∀ c ∈ cs, c.code < 18446744073709551616 ∧ c.secs.length ≤ most ∧ c.secs.length ≤ 1000000 ∧ ∀ s ∈ c.secs, s.width < 4294967296) (hlen : cs.length ≤ 1000000) (hlim : (codsBytes (sortedCods cs)).length ≤ 1000000000000) :
    Calls Tryz.prog 87 #[.iface mhT (.pointer (some a)), .nilIface] w fun e w' => e = .returned (.tuple #[.string (sOf (Lib.uvarint 1025 ++ (Lib.leBytes 4 cs.length ++ codsBytes (sortedCods cs)))), .bool true]) ∧ Below w.heap.size w w' := by
  have hal := World.block_lt_of_cell? w _ hM.cell
  have hmkl := hM.map.lt
  have hgl : ∀ c ∈ cs, c.Under w.heap.size := fun c hc => Cod.Above.lt (hM.row c hc)
  have hb0 : Below w.heap.size w (w.alloc (.cells #[.slice none 0 0, .int .i64 0, .int .i8 0] 195)) := below_boxed w _
  have hW := WriteTo_mh w.heap.size w.heap.size mk most a cs (w.alloc (.cells #[.slice none 0 0, .int .i64 0, .int .i8 0] 195)) hs32 hs64 hmost (Lib.fresh_isBuffer 195 5 w) hb0.size (hM.kp (S := fun _ => False) (Kp.of_below hb0) id id (fun _ _ => ⟨id, id, fun _ _ => id⟩)) hal hmkl hgl hw hlen hlim
  clear hM
  go_enter Tryz.func87, Tryz.ntmps87
  go_wp2_with fail
  refine hW.mono ?_
  rintro e w1 ⟨⟨n, rfl⟩, hB1, hK1⟩
  go_wp2_with fail
  refine (Tryz.Buffer_String w.heap.size w.heap.size (Lib.uvarint 1025 ++ (Lib.leBytes 4 cs.length ++ codsBytes (sortedCods cs))) w1 hB1).mono ?_
  rintro e w2 ⟨rfl, m, rfl⟩
  go_wp2_with fail
  go_ret2
  exact ⟨rfl, below_drewn (hb0.trans hK1.bel) m⟩
end Go.Proofs.YtnhhhjnhmbhdgaaGreatDoor

/- MultihashIndexSorted.Load of one record. -/
namespace Go.Proofs.YtnhhhjnhmbhdgaaGreatDoor
open Go.RowKit
set_option linter.unusedVariables false
set_option linter.unusedSimpArgs false
attribute [local go_sem] setCell_drewN alloc_drewN

theorem info_recC : (Tryz.prog.info? 144).map (fun i => (i.zero, i.size, i.bytes)) = some (some (.agg #[.string ⟨#[]⟩, .int .u64 0]), 2, 24) := by kernel_rfl
theorem byCodeZero (W : World) : (zeroValue 142).run Tryz.prog W = .ok (.slice none 0 0) W := by kernel_rfl
theorem makeRecsC (W : World) : (Instr.makeSlice 142 (.int .i64 0) (.int .i64 0)).run Tryz.prog W = .ok (.slice (some ⟨W.heap.size, 0, none⟩) 0 0) (W.alloc (.cells #[] 144)) := by
  obtain ⟨i0, hi, hz0, hz1, hz2⟩ := info_parts info_recC
  have h := run_make (P := Tryz.prog) W 142 144 i0 _ Tryz.underlying142 hi hz0 .i64 .i64 0 0 (by omega) (by omega) (by omega) (by omega)
  rw [hz1] at h
  simp only [Int.toNat_zero, Nat.zero_mul] at h
  rw [h, show madeCells (Value.agg #[.string ⟨#[]⟩, .int .u64 0]).cells 0 = #[] from Array.eq_empty_of_size_eq_zero (size_madeCells _ _)]

set_option maxRecDepth 100000 in
set_option maxHeartbeats 6400000 in
theorem MhLoad_one (a : Addr) (mk gr cap off : Nat) (c : CidOf) (hc : c.Ok) (hd : 0 < c.dig.length) (hoff : off < 18446744073709551616) (w : World) (hM : MhAt w a mk []) (ham : a.block ≠ mk) (r0 : w.cell? ⟨gr, 0, none⟩ = some (.string c.str)) (r1 : w.cell? ⟨gr, 1, none⟩ = some (.int .u64 (off : Int))) :
    Calls Tryz.prog 175 #[.pointer (some a), .slice (some ⟨gr, 0, none⟩) 1 cap] w fun e w' =>
      e = .returned .nilIface ∧ (∃ cb mb gd, w.heap.size ≤ cb ∧ w.heap.size ≤ mb ∧ w.heap.size ≤ gd ∧ MhAt w' a mk [⟨c.code, cb, mb, [⟨c.dig.length + 8, c.dig ++ Lib.leBytes 8 off, gd⟩]⟩]) ∧ Kp (fun i => i = mk) w w' := by
  have hmm := @run_makeMap Tryz.prog
  obtain ⟨i0, ti, tz0, tz1, tz2⟩ := info_parts info_recC
  have hdl := hc.dig
  have hgr : gr < w.heap.size := World.block_lt_of_cell? w _ r0
  have hal := World.block_lt_of_cell? w _ hM.cell
  have hmkl := hM.map.lt
  go_enter Tryz.func175, Tryz.ntmps175
  go_wp2_with fail
  refine wp_loop_rounds 2 ?_
  rw [rounds_succ]
  go_wp2_with fail
  refine (Hash_ok c hc _).mono ?_
  rintro e w1 ⟨A1, c1, rfl, hc1, hA1, hB1, hF1, hb1⟩
  go_wp2_with fail
  refine (Decode_ok c.code hc.code c.dig (by omega) A1 _ c1 _ hA1 rfl hc1).mono ?_
  rintro e w2 ⟨g, A2, c2, rfl, hc2, hS2, hb2, hg2, hblk⟩
  have hb12 := below_next hb1 hb2
  have hbw : Below w.heap.size w w2 := by (repeat (first | (with_reducible exact Below.refl _ _) | (with_reducible exact below_boxed _ _) | (with_reducible refine below_box ?_ _) | (with_reducible refine below_drew1 ?_) | (with_reducible refine below_drewn ?_ _) | (with_reducible refine below_bytes ?_ _ _) | (with_reducible refine below_next ?_ (by assumption)) | (with_reducible refine below_set ?_ (by first | (simp; done) | (simp; omega) | omega) _)))
  have hmi : ((w.alloc (.map #[] 0)).alloc (.cells #[.string c.str, .int .u64 (off : Int)] 144)).heap[w.heap.size]? = some (.map #[] 0) := by rw [heap_alloc_old _ _ (by simp), heap_alloc_last]
  have hIm2 : ImAt w2 w.heap.size .u64 [] := (ImAt.made w .u64).upd ((hb12.block _ (by simp; omega)).trans (hmi.trans (heap_alloc_new w _).symm))
  have hbox : w2.heap[w.heap.size + 1]? = some (.cells #[.string c.str, .int .u64 (off : Int)] 144 (0, 0)) := by
    refine (hb12.block _ (by simp)).trans ?_
    have h2 := heap_alloc_last (w.alloc (.map #[] 0)) (.cells #[.string c.str, .int .u64 (off : Int)] 144)
    have h3 : (w.alloc (.map #[] 0)).heap.size = w.heap.size + 1 := by simp
    rw [h3] at h2
    exact h2
  have k0 : w2.cell? ⟨g, 0, none⟩ = some (.int .u64 (c.code : Int)) := by simp [World.cell?, hblk]
  have hM2 : MhAt w2 a mk [] := hM.kp (S := fun _ => False) (Kp.of_below hbw) id id (fun _ _ => ⟨id, id, fun _ _ => id⟩)
  have hz2 : w.heap.size + 1 < w2.heap.size := (Array.getElem?_eq_some_iff.1 hbox).1
  have hlk2 := hIm2.look_no (P := Tryz.prog) Tryz.underlying259 Tryz.underlying23 (k := (c.code : Int)) rfl true _ byCodeZero
  simp only [if_true] at hlk2
  have hmr := makeRecsC
  have hown2 : (w2.alloc (.cells #[] 144)).ownsRow w2.heap.size 144 2 (.slice (some ⟨w2.heap.size, 0, none⟩) 0 0) 0 [] := World.ownsRow_made w2 #[] 0 (Nat.le_refl _) (Nat.zero_le _) rfl
  have HB := Lib.hid hbw; have HM2 := Lib.hid hM2
  clear hb1 hb2 hb12 hmi hblk hA1 hB1 hF1 hS2 hM hbw hM2
  go_wp2_with (at_mapUpdate; refine step_put_im rfl _ _ _ 259 rfl Tryz.underlying259 Tryz.underlying23 rfl (hIm2.upd (heap_alloc_old w2 _ hIm2.lt)) (k := (c.code : Int)) (val := .slice (some ⟨w2.heap.size, 0, none⟩) 0 0) rfl rfl ?_; intro w3 hIm3 hK3 hs3; refine later ?_)
  have hs3' : w3.heap.size = w2.heap.size + 1 := by simpa using hs3
  have hbox3 : w3.heap[w.heap.size + 1]? = some (.cells #[.string c.str, .int .u64 (off : Int)] 144 (0, 0)) := (hK3.block _ (by simp; omega) (by omega)).trans ((heap_alloc_old w2 _ hz2).trans hbox)
  have kb0 := (blk_cell' hbox3 0).trans (show _ = some (Value.string c.str) from rfl)
  have kb1 := (blk_cell' hbox3 1).trans (show _ = some (Value.int .u64 (off : Int)) from rfl)
  have hown3 := own_kp hown2 hK3 (fun g' e h => by cases e; exact absurd h (by show ¬ w2.heap.size = w.heap.size; omega))
  have HB3 : Hid (Kp (fun i => i = w.heap.size) w2 w3) := Lib.hid ((kp_alloc w2 _).mono (S' := fun i => i = w.heap.size) (fun _ h => h.elim) |>.trans hK3 (fun i h => .inl h))
  have hz3 : w2.heap.size < w3.heap.size := by omega
  clear hs3 hs3' hlk2 hIm2 hown2 hK3 hmr hmm hbox hbox3 k0
  refine now ?_
  go_wp2_with (at_builtin; refine wpList_append_own _ rfl _ _ 142 rfl w2.heap.size 144 i0 (.agg #[.string ⟨#[]⟩, .int .u64 0]) 2 24 Tryz.underlying142 ti tz0 tz1 tz2 rfl (by decide) _ _ _ rfl (hown3.alloc _) ⟨w3.heap.size, 0, none⟩ 1 1 [.string c.str, .int .u64 (off : Int)] rfl rfl ?c1 ?c2 ?c3 ?c4 ?c5 ?_)
  case c1 =>
    intro j u hj
    match j, hj with
    | 0, hj => simp at hj; subst hj; simp [Addr.add]
    | 1, hj => simp at hj; subst hj; simp [Addr.add]
  case c2 =>
    intro u hu
    simp only [List.mem_cons, List.not_mem_nil, or_false] at hu
    rcases hu with rfl | rfl <;> rfl
  case c3 => unfold maxLen; omega
  case c4 => omega
  case c5 => simp; omega
  intro v4 w4 hown4 hgrow hn4
  refine later ?_
  have hk34 : Kp (fun i => i = w2.heap.size) w3 w4 := (kp_alloc w3 _).mono (S' := fun i => i = w2.heap.size) (fun _ h => h.elim) |>.trans (kp_grown hgrow) (fun i h => .inl (by simpa [Value.ownBlock] using h))
  have hIm4 := hIm3.kp hk34 (by omega)
  obtain ⟨g4, cap4, cur4, rfl, hge4, hg4, hle4, hcm4, hcs4, htk4⟩ : ∃ g cap cur, v4 = .slice (some ⟨g, 0, none⟩) 1 cap ∧ w2.heap.size ≤ g ∧ w4.heap[g]? = some (.cells cur 144 (0, 0)) ∧ 1 ≤ cap ∧ cap ≤ maxLen ∧ cur.size = cap * 2 ∧ cur.toList.take (1 * 2) = [.string c.str, .int .u64 (off : Int)] := by
    rcases hown4.2 with ⟨_, h⟩ | h
    · cases h
    · exact h
  have hz4 : w3.heap.size < w4.heap.size := by have := hgrow.size; simp at this; omega
  clear hIm3 hown3 hown4 hgrow hn4 kb0 kb1
  refine now ?_
  go_wp2_with (at_mapUpdate; refine step_put_im rfl _ _ _ 259 rfl Tryz.underlying259 Tryz.underlying23 rfl hIm4 (k := (c.code : Int)) (val := .slice (some ⟨g4, 0, none⟩) 1 cap4) rfl rfl ?_; intro w5 hIm5 hK5 hs5; refine later ?_)
  have hIm5' : ImAt w5 w.heap.size .u64 [((c.code : Int), .slice (some ⟨g4, 0, none⟩) 1 cap4)] := by simpa [iput] using hIm5
  have hg5 : w5.heap[g4]? = some (.cells cur4 144 (0, 0)) := (hK5.block g4 (Array.getElem?_eq_some_iff.1 hg4).1 (by omega)).trans hg4
  have HB5 : Hid (Kp (fun i => i = w.heap.size ∨ i = w2.heap.size) w2 w5) := Lib.hid ((HB3.out.mono (S' := fun i => i = w.heap.size ∨ i = w2.heap.size) (fun i h => .inl (.inl h))).trans (S' := fun i => i = w.heap.size ∨ i = w2.heap.size) ((hk34.mono (S' := fun i => i = w.heap.size ∨ i = w2.heap.size) (fun i h => .inl (.inr h))).trans hK5 (fun i h => .inl (.inl h))) (fun i h => .inl h))
  have hz5 : w5.heap.size = w4.heap.size := hs5
  have hzz : w2.heap.size < w5.heap.size := by omega
  clear hIm4 hIm5 hK5 hs5 hk34 hg4 HB3 hz5 hz4 hz3
  refine now ?_
  go_wp2_with fail
  rw [rounds_succ]
  go_wp2_with (at_range; refine step_range_im rfl _ 259 rfl Tryz.underlying259 rfl hIm5' ?_; intro w6 hIt6 hb6 hs6; refine later ?_)
  have hg6 : w6.heap[g4]? = some (.cells cur4 144 (0, 0)) := (hb6.block g4 (Array.getElem?_eq_some_iff.1 hg5).1).trans hg5
  have HB6 : Hid (Kp (fun i => i = w.heap.size ∨ i = w2.heap.size) w2 w6) := Lib.hid (HB5.out.trans (S' := fun _ => False) (Kp.of_below hb6) (fun _ h => h.elim))
  have hr6 : w2.heap.size < w5.heap.size := hzz
  generalize w5.heap.size = r at *
  have hrw : r < w6.heap.size := by omega
  clear hIm5' hg5 hb6 HB5 hzz hs6
  refine now ?_
  go_wp2_with fail
  refine wp_loop_rounds 2 ?_
  rw [rounds_succ]
  go_wp2_with (at_next; refine step_next_im rfl _ rfl rfl hIt6 (fun hp => later ?_) (fun p w7 hpm hdl hIt7 hK7 hs7 hen => later ?_))
  · exact absurd hp.length_eq (by simp)
  · obtain rfl : p = ((c.code : Int), .slice (some ⟨g4, 0, none⟩) 1 cap4) := by simpa using hpm
    have hg4r : g4 ≠ r := by
      intro e
      obtain ⟨es, clock, since, seen, c0, h1, h2, h3⟩ := hIt6
      rw [e, h2] at hg6; cases hg6
    have hg7 : w7.heap[g4]? = some (.cells cur4 144 (0, 0)) := (hK7.block g4 (Array.getElem?_eq_some_iff.1 hg6).1 hg4r).trans hg6
    have HB7 : Hid (Kp (fun i => i = w.heap.size ∨ i = w2.heap.size) w2 w7) := Lib.hid (HB6.out.trans hK7 (fun i h => .inr (by omega)))
    have hrw7 : r < w7.heap.size := by omega
    have hIt7' : ItAt w7 r w.heap.size .u64 [((c.code : Int), .slice (some ⟨g4, 0, none⟩) 1 cap4)] [((c.code : Int), .slice (some ⟨g4, 0, none⟩) 1 cap4)] := hIt7
    clear hg6 hIt6 hpm hdl hIt7 hK7 hs7 hrw HB6
    refine now ?_
    go_wp2_with fail
    refine (newMwci_ok _).mono ?_
    rintro e w8 ⟨rfl, hC8, hf8, hz8, hb8⟩
    have cc8 := hC8.code
    have hg47 : g4 < w7.heap.size := (Array.getElem?_eq_some_iff.1 hg7).1
    have hw7 : w2.heap.size ≤ w7.heap.size := HB7.out.size
    have hg8 : w8.heap[g4]? = some (.cells cur4 144 (0, 0)) := (hb8.block _ hg47).trans hg7
    go_wp2_with fail
    have hks : Kp (fun i => i = w7.heap.size + 1) w8 (w8.setCell ⟨w7.heap.size + 1, 1, none⟩ (.int .u64 (c.code : Int))) := kp_set w8 ⟨w7.heap.size + 1, 1, none⟩ _
    have hM9 : MwAt (w8.setCell ⟨w7.heap.size + 1, 1, none⟩ (.int .u64 (c.code : Int))) ⟨w7.heap.size + 1, 0, none⟩ w7.heap.size [] := ⟨(World.cell?_setCell_other w8 _ _ _ (by simp)).trans hC8.mw.cell, hC8.mw.map.kp hks (fun e => by have e' : w7.heap.size = w7.heap.size + 1 := e; omega), by simp⟩
    have hc9 : (w8.setCell ⟨w7.heap.size + 1, 1, none⟩ (.int .u64 (c.code : Int))).cell? ⟨w7.heap.size + 1, 1, none⟩ = some (.int .u64 (c.code : Int)) := World.cell?_setCell_same' w8 _ _ (by rw [cc8]; rfl)
    have hg9 : (w8.setCell ⟨w7.heap.size + 1, 1, none⟩ (.int .u64 (c.code : Int))).heap[g4]? = some (.cells cur4 144 (0, 0)) := (hks.block _ (by have := hb8.size; omega) (fun e => by have e' : g4 = w7.heap.size + 1 := e; omega)).trans hg8
    have hB9 : Below w7.heap.size w7 (w8.setCell ⟨w7.heap.size + 1, 1, none⟩ (.int .u64 (c.code : Int))) := hks.to_below hb8 (fun i e => by have e' : i = w7.heap.size + 1 := e; omega)
    generalize w8.setCell ⟨w7.heap.size + 1, 1, none⟩ (.int .u64 (c.code : Int)) = w9 at *
    have q0 : w9.cell? ⟨g4, 0, none⟩ = some (.string c.str) := by
      rw [blk_cell' hg9 0]
      have : cur4.toList[0]? = some (.string c.str) := by
        have h := congrArg (fun l => l[0]?) htk4
        simpa using h
      simpa using this
    have q1 : w9.cell? ⟨g4, 1, none⟩ = some (.int .u64 (off : Int)) := by
      rw [blk_cell' hg9 1]
      have : cur4.toList[1]? = some (.int .u64 (off : Int)) := by
        have h := congrArg (fun l => l[1]?) htk4
        simpa using h
      simpa using this
    refine (MwLoad_one ⟨w7.heap.size + 1, 0, none⟩ w7.heap.size g4 cap4 off c hc hd hoff w9 hM9 (by show w7.heap.size + 1 ≠ w7.heap.size; omega) q0 q1).mono ?_
    rintro e w10 ⟨rfl, ⟨gd, hgd, hM10⟩, hK10⟩
    go_wp2_with fail
    have hz9 := hB9.size
    have hz10 := hK10.size
    have hM210 : MhAt w10 a mk [] := ((HM2.out.kp HB7.out (by omega) (by omega) (by simp)).kp (S := fun _ => False) (Kp.of_below hB9) id id (by simp)).kp hK10 (by omega) (by omega) (by simp)
    have hcbl := World.block_lt_of_cell? w9 _ hc9
    have hC10 : CodAt w10 ⟨c.code, w7.heap.size + 1, w7.heap.size, [⟨c.dig.length + 8, c.dig ++ Lib.leBytes 8 off, gd⟩]⟩ := ⟨hM10, (hK10.cell (p := ⟨w7.heap.size + 1, 1, none⟩) hcbl (by show ¬ (w7.heap.size + 1 = w7.heap.size); omega)).trans hc9⟩
    have hP := MhPut_ok a mk [] _ w10 hM210 hC10 (by simp) ham ⟨by show mk ≠ w7.heap.size + 1; omega, by show mk ≠ w7.heap.size; omega, by simp; omega⟩ (by simp)
    refine hP.mono ?_
    rintro e w11 ⟨rfl, hM11, hK11⟩
    go_wp2_with fail
    have hIt11 := ((hIt7'.kp (S := fun _ => False) (Kp.of_below hB9) id id).kp hK10 (by omega) (by omega)).kp hK11 (by omega) (by omega)
    have hBB := HB.out
    rw [rounds_succ]
    go_wp2_with (at_next; refine step_next_im rfl _ rfl rfl hIt11 (fun hp => later ?_) (fun p w12 hpm hdl hIt12 hK12 hs12 hen => later ?_))
    · refine now ?_
      go_wp2_with fail
      go_ret
      refine ⟨rfl, ⟨w7.heap.size + 1, w7.heap.size, gd, by omega, by omega, by omega, hM11⟩, ?_⟩
      have h7 : Kp (fun i => i = mk) w w7 := (Kp.of_below (S := fun i => i = mk) hBB).trans HB7.out (fun i h => .inr (by omega))
      have h9 := h7.trans (S' := fun _ => False) (Kp.of_below hB9) (fun _ h => h.elim)
      exact (h9.trans hK10 (fun i h => .inr (by omega))).trans hK11 (fun i h => .inl h)
    · exact absurd hdl (by simp)
end Go.Proofs.YtnhhhjnhmbhdgaaGreatDoor

/- impl.IxBytes of one entry, at 0x0401. -/
namespace Go.Proofs.YtnhhhjnhmbhdgaaGreatDoor
open Go.RowKit
set_option linter.unusedVariables false
set_option linter.unusedSimpArgs false
attribute [local go_sem] setCell_drewN alloc_drewN

theorem method_LoadC (v : Value) (w : World) : (method 454 mhT v "Load").run Tryz.prog w = .ok (175, v) w := by kernel_rfl
theorem sortedCods_one (c : Cod) (s : Sec) (h : c.secs = [s]) : sortedCods [c] = [c.two] := by
  rw [sortedCods, List.map_cons, List.map_nil, sortN_tiny (by simp)]
  simp [inCodes, h, sortedSecs_one, Cod.two]
/-- The bytes of an index 0x0401 of one entry. -/
def oneMh (code : Nat) (dig : List UInt8) (off : Nat) : List UInt8 := Lib.uvarint 1025 ++ mhBytes [(code, [(dig.length + 8, dig ++ Lib.leBytes 8 off)])]

set_option maxRecDepth 100000 in
set_option maxHeartbeats 3200000 in
theorem indexBytes_mh1 (ge cap off : Nat) (c : CidOf) (hc : c.Ok) (hd : 0 < c.dig.length) (hoff : off < 18446744073709551616) (w : World) (hE : EntAt w ge c off) :
    Calls Tryz.prog 42 #[.slice (some ⟨ge, 0, none⟩) 1 cap, .int .u64 1025] w fun e w' => e = .returned (.tuple #[.string (sOf (oneMh c.code c.dig off)), .bool true]) ∧ Below w.heap.size w w' := by
  obtain ⟨i0, ti, tz0, tz1, tz2⟩ := info_parts info_Rec
  have hdl := hc.dig
  have hme := method_LoadC
  have hgl := hE.lt
  go_enter Tryz.func42, Tryz.ntmps42
  go_wp2_with fail
  refine (New_mh _).mono ?_
  rintro e w1 ⟨ax, mx, rfl, hM1, hax, hmx, hnx, hb1⟩
  have hE1 := hE.below hb1
  obtain ⟨c0, c1, c2, c3, c4⟩ := hE1
  have hg1 : ge < w1.heap.size := by have := hb1.size; omega
  have hz1 : ax < w1.heap.size := World.block_lt_of_cell? w1 _ hM1.cell
  have hz1m : mx < w1.heap.size := hM1.map.lt
  have hCid := fun W => cidIn_ok c hc W
  go_wp2_with fail
  refine wp_loop_rounds 2 ?_
  rw [rounds_succ]
  go_wp2_with fail
  refine (hCid _).mono ?_
  rintro e w2 ⟨rfl, hb2⟩
  have hbw2 : Below w1.heap.size w1 w2 := by (repeat (first | (with_reducible exact Below.refl _ _) | (with_reducible exact below_boxed _ _) | (with_reducible refine below_box ?_ _) | (with_reducible refine below_drew1 ?_) | (with_reducible refine below_drewn ?_ _) | (with_reducible refine below_bytes ?_ _ _) | (with_reducible refine below_next ?_ (by assumption)) | (with_reducible refine below_set ?_ (by first | (simp; done) | (simp; omega) | omega) _)))
  have kbox : w2.cell? ⟨w1.heap.size, 4, none⟩ = some (.int .u64 (off : Int)) := by
    have h := hb2.cell (p := ⟨w1.heap.size, 4, none⟩) (by simp)
    rw [h]
    exact blk_cell' (heap_alloc_last w1 _) 4
  have hM2 : MhAt w2 ⟨ax, 0, none⟩ mx [] := hM1.kp (S := fun _ => False) (Kp.of_below hbw2) id id (fun _ _ => ⟨id, id, fun _ _ => id⟩)
  have hz2 : w1.heap.size < w2.heap.size := by have := hb2.size; simp at this; omega
  have HB2 := Lib.hid (below_next hb1 hbw2); have HM2 := Lib.hid hM2
  clear hb1 hb2 hbw2 hM1 hM2 c0 c1 c2 c3 c4 hE hCid
  go_wp2_with (at_builtin; refine wpList_append_own _ rfl _ _ 142 rfl w2.heap.size 144 i0 (.agg #[.string ⟨#[]⟩, .int .u64 0]) 2 24 Tryz.underlying142 ti tz0 tz1 tz2 rfl (by decide) _ _ _ rfl (World.ownsRow_nil _ _ _ _) ⟨w2.heap.size + 1, 0, none⟩ 1 1 [.string c.str, .int .u64 (off : Int)] rfl rfl ?c1 ?c2 ?c3 ?c4 ?c5 ?_)
  case c1 =>
    intro j u hj
    have := two_cells (w2.alloc (.cells #[.string c.str] 51)) (.string c.str) (.int .u64 (off : Int)) 144 j u hj
    simpa using this
  case c2 =>
    intro u hu
    simp only [List.mem_cons, List.not_mem_nil, or_false] at hu
    rcases hu with rfl | rfl <;> rfl
  case c3 => unfold maxLen; omega
  case c4 => omega
  case c5 => simp; omega
  intro v3 w3 hown3 hgrow hn3
  refine later ?_
  obtain ⟨g3, cap3, cur3, rfl, hge3, hg3, hle3, hcm3, hcs3, htk3⟩ : ∃ g cap cur, v3 = .slice (some ⟨g, 0, none⟩) 1 cap ∧ w2.heap.size ≤ g ∧ w3.heap[g]? = some (.cells cur 144 (0, 0)) ∧ 1 ≤ cap ∧ cap ≤ maxLen ∧ cur.size = cap * 2 ∧ cur.toList.take (1 * 2) = [.string c.str, .int .u64 (off : Int)] := by
    rcases hown3.2 with ⟨_, h⟩ | h
    · cases h
    · exact h
  have k0 : w3.cell? ⟨g3, 0, none⟩ = some (.string c.str) := by
    rw [blk_cell' hg3 0]
    have : cur3.toList[0]? = some (.string c.str) := by
      have h := congrArg (fun l => l[0]?) htk3
      simpa using h
    simpa using this
  have k1 : w3.cell? ⟨g3, 1, none⟩ = some (.int .u64 (off : Int)) := by
    rw [blk_cell' hg3 1]
    have : cur3.toList[1]? = some (.int .u64 (off : Int)) := by
      have h := congrArg (fun l => l[1]?) htk3
      simpa using h
    simpa using this
  have hkA : Kp (fun _ => False) w2 ((w2.alloc (.cells #[.string c.str] 51)).alloc (.cells #[.string c.str, .int .u64 (off : Int)] 144)) := Kp.of_below (by (repeat (first | (with_reducible exact Below.refl _ _) | (with_reducible exact below_boxed _ _) | (with_reducible refine below_box ?_ _) | (with_reducible refine below_drew1 ?_) | (with_reducible refine below_drewn ?_ _) | (with_reducible refine below_bytes ?_ _ _) | (with_reducible refine below_next ?_ (by assumption)) | (with_reducible refine below_set ?_ (by first | (simp; done) | (simp; omega) | omega) _))))
  have hk23 : Kp (fun _ => False) w2 w3 := hkA.trans (kp_grown hgrow) (fun i h => by simp [Value.ownBlock] at h)
  have hM3 := HM2.out.kp hk23 id id (fun _ _ => ⟨id, id, fun _ _ => id⟩)
  have hL := MhLoad_one ⟨ax, 0, none⟩ mx g3 cap3 off c hc hd hoff w3 hM3 hnx k0 k1
  have hbw3 : Below w.heap.size w w3 := HB2.out.trans ⟨hk23.os, hk23.tape, hk23.output, hk23.size, fun k hk => hk23.block k (by omega) id⟩
  have HB3 := Lib.hid hbw3
  clear hown3 hgrow hn3 hg3 htk3 k0 k1 hkA hk23 hM3 hbw3 kbox
  refine now ?_
  go_wp2_with fail
  rw [rounds_succ]
  go_wp2_with fail
  refine hL.mono ?_
  clear hL
  rintro e w4 ⟨rfl, ⟨cb, mb, gd, hcb, hmb, hgd, hM4⟩, hK4⟩
  have hcc := hc.code
  have hW := written_mh mx 1 ⟨ax, 0, none⟩ [⟨c.code, cb, mb, [⟨c.dig.length + 8, c.dig ++ Lib.leBytes 8 off, gd⟩]⟩] w4 tinySort_32 tinySort_64 (Nat.le_refl _) hM4 (by
    intro x hx
    obtain rfl : x = ⟨c.code, cb, mb, [⟨c.dig.length + 8, c.dig ++ Lib.leBytes 8 off, gd⟩]⟩ := by simpa using hx
    refine ⟨by show c.code < _; omega, Nat.le_refl _, by show 1 ≤ 1000000; omega, fun s hs => ?_⟩
    obtain rfl : s = ⟨c.dig.length + 8, c.dig ++ Lib.leBytes 8 off, gd⟩ := by simpa using hs
    show c.dig.length + 8 < 4294967296; omega) (by simp) (by rw [sortedCods_one _ _ rfl]; simp [codsBytes, codBytes, mwBytes, secsBytes, secBytes_len, Cod.two, Sec.two, le8_len, le4_len]; omega)
  rw [sortedCods_one _ _ rfl] at hW
  have hb4 : Below w.heap.size w w4 := HB3.out.trans ⟨hK4.os, hK4.tape, hK4.output, hK4.size, fun k hk => hK4.block k (by have := HB3.out.size; omega) (by omega)⟩
  clear hM4 hK4
  go_wp2_with fail
  refine hW.mono ?_
  clear hW
  rintro e w5 ⟨rfl, hb5⟩
  go_wp2_with fail
  go_ret2
  exact ⟨rfl, below_next hb4 hb5⟩

set_option maxRecDepth 100000 in
theorem IxBytes_mh1 (ge cap off : Nat) (c : CidOf) (hc : c.Ok) (hd : 0 < c.dig.length) (hoff : off < 18446744073709551616) (w : World) (hE : EntAt w ge c off) :
    Calls Tryz.prog 23 #[.slice (some ⟨ge, 0, none⟩) 1 cap, .int .u64 1025] w fun e w' => e = .returned (.tuple #[.string (sOf (oneMh c.code c.dig off)), .bool true]) ∧ Below w.heap.size w w' := by
  have hI := indexBytes_mh1 ge cap off c hc hd hoff w hE
  clear hE
  go_enter Tryz.func23, Tryz.ntmps23
  go_wp2_with fail
  refine hI.mono ?_
  rintro e w1 ⟨rfl, hb⟩
  go_wp2_with fail
  go_ret2
  exact ⟨rfl, hb⟩
end Go.Proofs.YtnhhhjnhmbhdgaaGreatDoor

/- spec.low: a number's bytes, appended. -/
namespace Go.Proofs.YtnhhhjnhmbhdgaaGreatDoor
open Go.RowKit
set_option linter.unusedVariables false
set_option linter.unusedSimpArgs false
attribute [local go_sem] setCell_drewN alloc_drewN

/-- A slice of bytes of the call's own. -/
def RowU (w : World) (B : Nat) (v : Value) (l : List UInt8) : Prop := w.ownsRow B 5 1 v l.length (bcells l)
/-- What an append to the slice v keeps, and where what it gives lies. -/
structure AppK (w w' : World) (v v' : Value) : Prop where
  kp : Kp (fun i => some i = v.ownBlock) w w'
  loc : v'.ownBlock = v.ownBlock ∨ ∃ k, v'.ownBlock = some k ∧ w.heap.size ≤ k
theorem AppK.refl (w : World) (v : Value) : AppK w w v v := ⟨Kp.refl _ _, .inl rfl⟩
theorem AppK.trans {a b c : World} {u v x : Value} (h : AppK a b u v) (k : AppK b c v x) : AppK a c u x := by
  refine ⟨h.kp.trans k.kp (fun i hi => ?_), ?_⟩
  · rcases h.loc with e | ⟨g, e, hg⟩
    · rw [e] at hi; exact .inl hi
    · rw [e] at hi; cases hi; exact .inr hg
  · rcases k.loc with e | ⟨g, e, hg⟩
    · rw [e]; exact h.loc
    · exact .inr ⟨g, e, Nat.le_trans h.kp.size hg⟩
theorem le_snoc : ∀ (k n : Nat), Lib.leBytes (k + 1) n = Lib.leBytes k n ++ [(n / 256 ^ k % 256).toUInt8]
  | 0, n => by simp [Lib.leBytes]
  | k + 1, n => by
    rw [Lib.leBytes, le_snoc k (n / 256)]
    rw [show n / 256 / 256 ^ k = n / 256 ^ (k + 1) by rw [Nat.div_div_eq_div_mul, Nat.pow_succ, Nat.mul_comm]]
    simp [Lib.leBytes]
theorem le_length : ∀ (k n : Nat), (Lib.leBytes k n).length = k
  | 0, _ => rfl
  | k + 1, n => by rw [Lib.leBytes, List.length_cons, le_length k]

set_option maxRecDepth 100000 in
set_option maxHeartbeats 1600000 in
theorem low_ok (B n size : Nat) (v : Value) (l : List UInt8) (hn : n < 18446744073709551616) (hs : size ≤ 8) (hl : l.length ≤ 1099511627776) (w : World) (hB : B ≤ w.heap.size) (hv : RowU w B v l) :
    Calls Tryz.prog 39 #[v, .int .u64 (n : Int), .int .i64 (size : Int)] w fun e w' => ∃ v', e = .returned v' ∧ RowU w' B v' (l ++ Lib.leBytes size n) ∧ AppK w w' v v' := by
  obtain ⟨i0, hi, hz0, hz1, hz2⟩ := info_parts info3_u8
  go_enter Tryz.func39, Tryz.ntmps39
  go_wp2_with fail
  go_loopw [0, 7] (fun v0 vi wr => ∃ k : Nat, k ≤ size ∧ vi = .int .i64 (k : Int) ∧ RowU wr B v0 (l ++ Lib.leBytes k n) ∧ AppK w wr v v0 ∧ B ≤ wr.heap.size) (fun _ vi _ => size - (intOf vi).toNat)
  case atStart => exact ⟨0, Nat.zero_le _, rfl, by simpa [Lib.leBytes] using hv, AppK.refl _ _, hB⟩
  case round =>
    obtain ⟨k, hk, rfl, hR, hK, hBr⟩ := hrel
    by_cases hlt : k < size
    · have hk8 : (k : Int) < 8 := by omega
      have hb : (n : Int) / 2 ^ (8 * k) % 256 = (((n / 256 ^ k % 256).toUInt8.toNat : Nat) : Int) := by
        rw [toU8_nat (Nat.mod_lt _ (by omega))]
        have : (256 : Nat) ^ k = 2 ^ (8 * k) := by rw [Nat.pow_mul]
        rw [this]; simp
      have hvl := hR.lt
      have HB := Lib.hid hb; clear hb
      have HR := Lib.hid hR
      have hlk : (l ++ Lib.leBytes k n).length = l.length + k := by rw [List.length_append, le_length]
      have hRa := hR.alloc (.cells #[.int .u8 ((n : Int) / 2 ^ (8 * k) % 256)] 5)
      have HLK := Lib.hid hlk
      go_wp2_with (at_builtin; refine wpList_append_own_at _ rfl _ _ 49 rfl B 5 i0 (.int .u8 0) 1 1 Tryz.underlying49 hi hz0 hz1 hz2 rfl (by decide) _ _ _ rfl hRa ⟨wr.heap.size, 0, none⟩ 1 1 [.int .u8 ((n : Int) / 2 ^ (8 * k) % 256)] rfl rfl (one_cell _ _ _) (ints_oneCell .u8 [(n : Int) / 2 ^ (8 * k) % 256]) ?c3 ?c4 ?c5 ?_)
      case c3 => unfold maxLen; omega
      case c4 => omega
      case c5 => simp; omega
      intro v' w2 hown' hgrow hnn hloc
      have hA : AppK wr w2 u0 v' := by
        refine ⟨(kp_alloc wr (.cells #[.int .u8 ((n : Int) / 2 ^ (8 * k) % 256)] 5)).mono (S' := fun i => some i = u0.ownBlock) (fun _ h => h.elim) |>.trans (kp_grown hgrow) (fun i h => .inl h), ?_⟩
        rcases hloc with h | h
        · exact .inl h
        · exact .inr ⟨_, h, by simp⟩
      have hz2' : B ≤ w2.heap.size := by have := hgrow.size; simp at this; omega
      have hnew : RowU w2 B v' (l ++ Lib.leBytes (k + 1) n) := by
        have e1 : (l ++ Lib.leBytes (k + 1) n).length = (l ++ Lib.leBytes k n).length + 1 := by simp only [List.length_append, le_length]; omega
        have e2 : bcells (l ++ Lib.leBytes (k + 1) n) = bcells (l ++ Lib.leBytes k n) ++ [.int .u8 ((n : Int) / 2 ^ (8 * k) % 256)] := by
          rw [le_snoc, ← List.append_assoc, ← bcells_append, HB.out]; rfl
        unfold RowU
        rw [e1, e2, HLK.out]; exact hown'
      have HN := Lib.hid (hK.trans hA)
      clear hown' hgrow hloc hRa hlk hA hnn hR
      go_wp2_with fail
      go_roundw
      case rel => exact ⟨k + 1, by omega, by go_num, hnew, HN.out, hz2'⟩
      case measure => simp [intOf]; omega
    · obtain rfl : k = size := by omega
      have HR := Lib.hid hR; clear hR
      go_wp2_with fail
      go_ret
      exact ⟨_, rfl, HR.out, hK⟩
end Go.Proofs.YtnhhhjnhmbhdgaaGreatDoor
