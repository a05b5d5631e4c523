import Derived.Test.YtgdgmegpacmgnaaGreatDoorG15
import Derived.Test.YtgdgmegpacmgnaaGreatDoorG20
import Derived.Test.YtgdgmegpacmgnaaGreatDoorG28
import Derived.Test.YtgdgmegpacmgnaaGreatDoorG16
import Derived.Test.YtgdgmegpacmgnaaGreatDoorG09
/- impl.IxBytes of one entry, at 0x0401. -/
namespace Go.Proofs.YtgdgmegpacmgnaaGreatDoor
open Go.RowKit
set_option linter.unusedVariables false
set_option linter.unusedSimpArgs false
attribute [local go_sem] setCell_drewN alloc_drewN

theorem method_LoadC (v : Value) (w : World) : (method 463 mhT v "Load").run Tryz.prog w = .ok (177, v) w := by kernel_rfl
theorem sortedCods_one (c : Cod) (s : Sec) (h : c.secs = [s]) : sortedCods [c] = [c.two] := by
  rw [sortedCods, List.map_cons, List.map_nil, sortN_tiny (by simp)]
  simp [inCodes, h, sortedSecs_one, Cod.two]
/-- The bytes of an index 0x0401 of one entry. -/
def oneMh (code : Nat) (dig : List UInt8) (off : Nat) : List UInt8 := Lib.uvarint 1025 ++ mhBytes [(code, [(dig.length + 8, dig ++ Lib.leBytes 8 off)])]

set_option maxRecDepth 100000 in
set_option maxHeartbeats 3200000 in
theorem indexBytes_mh1 (ge cap off : Nat) (c : CidOf) (hc : c.Ok) (hd : 0 < c.dig.length) (hoff : off < 18446744073709551616) (w : World) (hE : EntAt w ge c off) :
    Calls Tryz.prog 25 #[.slice (some ⟨ge, 0, none⟩) 1 cap, .int .u64 1025] w fun e w' => e = .returned (.tuple #[.string (sOf (oneMh c.code c.dig off)), .bool true]) ∧ Below w.heap.size w w' := by
  obtain ⟨i0, ti, tz0, tz1, tz2⟩ := info_parts info_Rec
  have hdl := hc.dig
  have hme := method_LoadC
  have hgl := hE.lt
  go_enter Tryz.func25, Tryz.ntmps25
  go_wp2_with fail
  refine (New_mh _).mono ?_
  rintro e w1 ⟨ax, mx, rfl, hM1, hax, hmx, hnx, hb1⟩
  have hE1 := hE.below hb1
  obtain ⟨c0, c1, c2, c3, c4⟩ := hE1
  have hg1 : ge < w1.heap.size := by have := hb1.size; omega
  have hz1 : ax < w1.heap.size := World.block_lt_of_cell? w1 _ hM1.cell
  have hz1m : mx < w1.heap.size := hM1.map.lt
  have hCid := fun W => cidIn_ok c hc W
  go_wp2_with fail
  refine wp_loop_rounds 2 ?_
  rw [rounds_succ]
  go_wp2_with fail
  refine (hCid _).mono ?_
  rintro e w2 ⟨rfl, hb2⟩
  have hbw2 : Below w1.heap.size w1 w2 := by (repeat (first | (with_reducible exact Below.refl _ _) | (with_reducible exact below_boxed _ _) | (with_reducible refine below_box ?_ _) | (with_reducible refine below_drew1 ?_) | (with_reducible refine below_drewn ?_ _) | (with_reducible refine below_bytes ?_ _ _) | (with_reducible refine below_next ?_ (by assumption)) | (with_reducible refine below_set ?_ (by first | (simp; done) | (simp; omega) | omega) _)))
  have kbox : w2.cell? ⟨w1.heap.size, 4, none⟩ = some (.int .u64 (off : Int)) := by
    have h := hb2.cell (p := ⟨w1.heap.size, 4, none⟩) (by simp)
    rw [h]
    exact blk_cell' (heap_alloc_last w1 _) 4
  have hM2 : MhAt w2 ⟨ax, 0, none⟩ mx [] := hM1.kp (S := fun _ => False) (Kp.of_below hbw2) id id (fun _ _ => ⟨id, id, fun _ _ => id⟩)
  have hz2 : w1.heap.size < w2.heap.size := by have := hb2.size; simp at this; omega
  have HB2 := Lib.hid (below_next hb1 hbw2); have HM2 := Lib.hid hM2
  clear hb1 hb2 hbw2 hM1 hM2 c0 c1 c2 c3 c4 hE hCid
  go_wp2_with (at_builtin; refine wpList_append_own _ rfl _ _ 110 rfl w2.heap.size 116 i0 (.agg #[.string ⟨#[]⟩, .int .u64 0]) 2 24 Tryz.underlying110 ti tz0 tz1 tz2 rfl (by decide) _ _ _ rfl (World.ownsRow_nil _ _ _ _) ⟨w2.heap.size + 1, 0, none⟩ 1 1 [.string c.str, .int .u64 (off : Int)] rfl rfl ?c1 ?c2 ?c3 ?c4 ?c5 ?_)
  case c1 =>
    intro j u hj
    have := two_cells (w2.alloc (.cells #[.string c.str] 112)) (.string c.str) (.int .u64 (off : Int)) 116 j u hj
    simpa using this
  case c2 =>
    intro u hu
    simp only [List.mem_cons, List.not_mem_nil, or_false] at hu
    rcases hu with rfl | rfl <;> rfl
  case c3 => unfold maxLen; omega
  case c4 => omega
  case c5 => simp; omega
  intro v3 w3 hown3 hgrow hn3
  refine later ?_
  obtain ⟨g3, cap3, cur3, rfl, hge3, hg3, hle3, hcm3, hcs3, htk3⟩ : ∃ g cap cur, v3 = .slice (some ⟨g, 0, none⟩) 1 cap ∧ w2.heap.size ≤ g ∧ w3.heap[g]? = some (.cells cur 116 (0, 0)) ∧ 1 ≤ cap ∧ cap ≤ maxLen ∧ cur.size = cap * 2 ∧ cur.toList.take (1 * 2) = [.string c.str, .int .u64 (off : Int)] := by
    rcases hown3.2 with ⟨_, h⟩ | h
    · cases h
    · exact h
  have k0 : w3.cell? ⟨g3, 0, none⟩ = some (.string c.str) := by
    rw [blk_cell' hg3 0]
    have : cur3.toList[0]? = some (.string c.str) := by
      have h := congrArg (fun l => l[0]?) htk3
      simpa using h
    simpa using this
  have k1 : w3.cell? ⟨g3, 1, none⟩ = some (.int .u64 (off : Int)) := by
    rw [blk_cell' hg3 1]
    have : cur3.toList[1]? = some (.int .u64 (off : Int)) := by
      have h := congrArg (fun l => l[1]?) htk3
      simpa using h
    simpa using this
  have hkA : Kp (fun _ => False) w2 ((w2.alloc (.cells #[.string c.str] 112)).alloc (.cells #[.string c.str, .int .u64 (off : Int)] 116)) := Kp.of_below (by (repeat (first | (with_reducible exact Below.refl _ _) | (with_reducible exact below_boxed _ _) | (with_reducible refine below_box ?_ _) | (with_reducible refine below_drew1 ?_) | (with_reducible refine below_drewn ?_ _) | (with_reducible refine below_bytes ?_ _ _) | (with_reducible refine below_next ?_ (by assumption)) | (with_reducible refine below_set ?_ (by first | (simp; done) | (simp; omega) | omega) _))))
  have hk23 : Kp (fun _ => False) w2 w3 := hkA.trans (kp_grown hgrow) (fun i h => by simp [Value.ownBlock] at h)
  have hM3 := HM2.out.kp hk23 id id (fun _ _ => ⟨id, id, fun _ _ => id⟩)
  have hL := MhLoad_one ⟨ax, 0, none⟩ mx g3 cap3 off c hc hd hoff w3 hM3 hnx k0 k1
  have hbw3 : Below w.heap.size w w3 := HB2.out.trans ⟨hk23.os, hk23.tape, hk23.output, hk23.size, fun k hk => hk23.block k (by omega) id⟩
  have HB3 := Lib.hid hbw3
  clear hown3 hgrow hn3 hg3 htk3 k0 k1 hkA hk23 hM3 hbw3 kbox
  refine now ?_
  go_wp2_with fail
  rw [rounds_succ]
  go_wp2_with fail
  refine hL.mono ?_
  clear hL
  rintro e w4 ⟨rfl, ⟨cb, mb, gd, hcb, hmb, hgd, hM4⟩, hK4⟩
  have hcc := hc.code
  have hW := written_mh mx 1 ⟨ax, 0, none⟩ [⟨c.code, cb, mb, [⟨c.dig.length + 8, c.dig ++ Lib.leBytes 8 off, gd⟩]⟩] w4 tinySort_32 tinySort_64 (Nat.le_refl _) hM4 (by
    intro x hx
    obtain rfl : x = ⟨c.code, cb, mb, [⟨c.dig.length + 8, c.dig ++ Lib.leBytes 8 off, gd⟩]⟩ := by simpa using hx
    refine ⟨by show c.code < _; omega, Nat.le_refl _, by show 1 ≤ 1000000; omega, fun s hs => ?_⟩
    obtain rfl : s = ⟨c.dig.length + 8, c.dig ++ Lib.leBytes 8 off, gd⟩ := by simpa using hs
    show c.dig.length + 8 < 4294967296; omega) (by simp) (by rw [sortedCods_one _ _ rfl]; simp [codsBytes, codBytes, mwBytes, secsBytes, secBytes_len, Cod.two, Sec.two, le8_len, le4_len]; omega)
  rw [sortedCods_one _ _ rfl] at hW
  have hb4 : Below w.heap.size w w4 := HB3.out.trans ⟨hK4.os, hK4.tape, hK4.output, hK4.size, fun k hk => hK4.block k (by have := HB3.out.size; omega) (by omega)⟩
  clear hM4 hK4
  go_wp2_with fail
  refine hW.mono ?_
  clear hW
  rintro e w5 ⟨rfl, hb5⟩
  go_wp2_with fail
  go_ret2
  exact ⟨rfl, below_next hb4 hb5⟩

set_option maxRecDepth 100000 in
theorem IxBytes_mh1 (ge cap off : Nat) (c : CidOf) (hc : c.Ok) (hd : 0 < c.dig.length) (hoff : off < 18446744073709551616) (w : World) (hE : EntAt w ge c off) :
    Calls Tryz.prog 17 #[.slice (some ⟨ge, 0, none⟩) 1 cap, .int .u64 1025] w fun e w' => e = .returned (.tuple #[.string (sOf (oneMh c.code c.dig off)), .bool true]) ∧ Below w.heap.size w w' := by
  have hI := indexBytes_mh1 ge cap off c hc hd hoff w hE
  clear hE
  go_enter Tryz.func17, Tryz.ntmps17
  go_wp2_with fail
  refine hI.mono ?_
  rintro e w1 ⟨rfl, hb⟩
  go_wp2_with fail
  go_ret2
  exact ⟨rfl, hb⟩
end Go.Proofs.YtgdgmegpacmgnaaGreatDoor

/- spec.IndexBytes of any entries, both kinds. -/
namespace Go.Proofs.YtgdgmegpacmgnaaGreatDoor
open Go.RowKit
set_option linter.unusedVariables false
set_option linter.unusedSimpArgs false
attribute [local go_sem] setCell_drewN alloc_drewN

set_option maxRecDepth 100000 in
set_option maxHeartbeats 1600000 in
theorem IndexBody_srt (most : Nat) (hS : StableEnts most) (l : List (CidOf × Int)) (A : Option Addr) (cap : Nat) (w : World) (hR : RowsAt w A l) (hA : A = none → cap = 0) (hlen : l.length ≤ 10000) (hle : l.length ≤ most) (hcap : l.length ≤ cap)
    (hd : ∀ x ∈ l, x.1.dig.length ≤ 1000) (ho : ∀ x ∈ l, 0 ≤ x.2 ∧ x.2 < 18446744073709551616) :
    Calls Tryz.prog 28 #[.slice A l.length cap, .int .u64 1024] w fun e w' => ∃ l', l'.Perm l ∧ SortedD l' ∧ e = .returned (.string (sOf (sortedSpec l l'))) ∧ Below w.heap.size w w' := by
  have hB := sortedBytes_all most hS w.heap.size (.slice none 0 0) [] l A cap hA w hR hlen hle hcap hd ho (by simp) (Nat.le_refl _) ⟨rfl, .inl ⟨rfl, rfl⟩⟩ (fun _ _ _ e => by cases e)
  clear hR hd ho
  go_enter Tryz.func28, Tryz.ntmps28
  go_wp2_with fail
  refine hB.mono ?_
  rintro e w1 ⟨l', v', hP, hSD, rfl, hU, hA⟩
  have hb : Below w.heap.size w w1 := hA.below (Nat.le_refl _) (fun i e => by cases e)
  obtain ⟨g, c, rfl, hby⟩ := own_bytes (bs := sortedSpec l l') hU (by simpa using sortedSpec_pos l l') (by simp)
  have hp := sortedSpec_pos l l'
  have HP := Lib.hid hP; have HSD := Lib.hid hSD
  have hcv := bytes_string (P := Tryz.prog) Tryz.underlying42 Tryz.underlying5 Tryz.underlying9 w1 _ (sortedSpec l l') c hby
  have hnl : ([] ++ sortedSpec l l').length = (sortedSpec l l').length := rfl
  rw [hnl]
  clear hP hSD hU hA hby hB
  go_wp2_with fail
  go_ret
  exact ⟨l', HP.out, HSD.out, rfl, hb⟩

set_option maxRecDepth 100000 in
set_option maxHeartbeats 1600000 in
theorem IndexBytes_srt (most : Nat) (hS : StableEnts most) (l : List (CidOf × Int)) (A : Option Addr) (cap : Nat) (w : World) (hR : RowsAt w A l) (hA : A = none → cap = 0) (hlen : l.length ≤ 10000) (hle : l.length ≤ most) (hcap : l.length ≤ cap)
    (hd : ∀ x ∈ l, x.1.dig.length ≤ 1000) (ho : ∀ x ∈ l, 0 ≤ x.2 ∧ x.2 < 18446744073709551616) :
    Calls Tryz.prog 19 #[.slice A l.length cap, .int .u64 1024] w fun e w' => ∃ l', l'.Perm l ∧ SortedD l' ∧ e = .returned (.string (sOf (Lib.uvarint 1024 ++ sortedSpec l l'))) ∧ Below w.heap.size w w' := by
  have hlv : (Lib.uvarint 1024).length ≤ 10 := Lib.uvarint_length 9 1024 (by decide)
  have hwl := widthsOf_le l
  go_enter Tryz.func19, Tryz.ntmps19
  go_wp2_with fail
  have HD := Lib.hid hd; have HO := Lib.hid ho; have HR := Lib.hid hR
  clear hd ho hR
  go_region_with (first | (go_at_call 27; refine (Varint_bytes 1024 (by omega) _).mono ?_; rintro e w1 ⟨g1, c1, rfl, hby1, hg1, hb1⟩; have hv1 := bytes_string (P := Tryz.prog) Tryz.underlying42 Tryz.underlying5 Tryz.underlying9 w1 _ _ c1 hby1; have hR1 : RowsAt w1 A l := RowsAt.below HR.out (Below.trans (b := w.drew) ⟨rfl, rfl, rfl, Nat.le_refl _, fun _ _ => rfl⟩ hb1)) | (go_at_call 28; (refine (IndexBody_srt most hS l A cap _ hR1 hA hlen hle hcap HD.out HO.out).mono ?_; rintro e w2 ⟨l', hP, hSD, rfl, hb2⟩; have hv2 := bytes_string (P := Tryz.prog) Tryz.underlying42 Tryz.underlying5 Tryz.underlying9 w2 _ _ c1 (hby1.below hb2); have hls := sortedSpec_le hP hlen HD.out; have hl1 : ¬ 9223372036854775807 < (Lib.uvarint 1024).length + (sortedSpec l l').length := (by omega); have HP := Lib.hid hP; have HSD := Lib.hid hSD; clear hP hSD)))
  all_goals (go_wp2_with fail; go_ret; exact ⟨l', HP.out, HSD.out, by simp [sOf, sOf_append, Act.put], by (repeat (first | (with_reducible exact Below.refl _ _) | (with_reducible exact below_boxed _ _) | (with_reducible refine below_box ?_ _) | (with_reducible refine below_drew1 ?_) | (with_reducible refine below_drewn ?_ _) | (with_reducible refine below_bytes ?_ _ _) | (with_reducible refine below_next ?_ (by assumption)) | (with_reducible refine below_set ?_ (by first | (simp; done) | (simp; omega) | omega) _)))⟩)
set_option maxRecDepth 100000 in
set_option maxHeartbeats 1600000 in
theorem IndexBytes_mh (most : Nat) (hS : StableEnts most) (l : List (CidOf × Int)) (A : Option Addr) (cap : Nat) (w : World) (hR : RowsAt w A l) (hlen : l.length ≤ 100) (hle : l.length ≤ most) (hcap : l.length ≤ cap)
    (hd : ∀ x ∈ l, x.1.dig.length ≤ 1000) (ho : ∀ x ∈ l, 0 ≤ x.2 ∧ x.2 < 18446744073709551616) (hc : ∀ x ∈ l, x.1.code < 18446744073709551616) :
    Calls Tryz.prog 19 #[.slice A l.length cap, .int .u64 1025] w fun e w' => ∃ ss, ss.map (·.1) = sortN (codesOf l) ∧ Parts l ss ∧ (mhBytes ss).length ≤ 10090000 ∧ e = .returned (.string (sOf (Lib.uvarint 1025 ++ mhBytes ss))) ∧ Below w.heap.size w w' := by
  have hlv : (Lib.uvarint 1025).length ≤ 10 := Lib.uvarint_length 9 1025 (by decide)
  have hwl := widthsOf_le l
  go_enter Tryz.func19, Tryz.ntmps19
  go_wp2_with fail
  have HD := Lib.hid hd; have HO := Lib.hid ho; have HC := Lib.hid hc; have HR := Lib.hid hR
  clear hd ho hc hR
  go_region_with (first | (go_at_call 27; refine (Varint_bytes 1025 (by omega) _).mono ?_; rintro e w1 ⟨g1, c1, rfl, hby1, hg1, hb1⟩; have hv1 := bytes_string (P := Tryz.prog) Tryz.underlying42 Tryz.underlying5 Tryz.underlying9 w1 _ _ c1 hby1; have hR1 : RowsAt w1 A l := RowsAt.below HR.out (Below.trans (b := w.drew) ⟨rfl, rfl, rfl, Nat.le_refl _, fun _ _ => rfl⟩ hb1)) | (go_at_call 28; (refine (IndexBody_mh most hS l A cap _ hR1 hlen hle hcap HD.out HO.out HC.out).mono ?_; rintro e w2 ⟨ss, hss, hPa, hls, rfl, hb2⟩; have hv2 := bytes_string (P := Tryz.prog) Tryz.underlying42 Tryz.underlying5 Tryz.underlying9 w2 _ _ c1 (hby1.below hb2); have hl1 : ¬ 9223372036854775807 < (Lib.uvarint 1025).length + (mhBytes ss).length := (by omega); have HX := Lib.hid (And.intro hss (And.intro hPa hls)); clear hss hPa)))
  all_goals (go_wp2_with fail; go_ret; exact ⟨ss, HX.out.1, HX.out.2.1, HX.out.2.2, by simp [sOf, sOf_append, Act.put], by (repeat (first | (with_reducible exact Below.refl _ _) | (with_reducible exact below_boxed _ _) | (with_reducible refine below_box ?_ _) | (with_reducible refine below_drew1 ?_) | (with_reducible refine below_drewn ?_ _) | (with_reducible refine below_bytes ?_ _ _) | (with_reducible refine below_next ?_ (by assumption)) | (with_reducible refine below_set ?_ (by first | (simp; done) | (simp; omega) | omega) _)))⟩)
end Go.Proofs.YtgdgmegpacmgnaaGreatDoor

/- IxAll at 0x0401. -/
namespace Go.Proofs.YtgdgmegpacmgnaaGreatDoor
open Go.RowKit
set_option linter.unusedVariables false
set_option linter.unusedSimpArgs false
attribute [local go_sem] setCell_drewN alloc_drewN

theorem method_GetAllC (v : Value) (w : World) : (method 463 mhT v "GetAll").run Tryz.prog w = .ok (176, v) w := by kernel_rfl

set_option maxRecDepth 100000 in
set_option maxHeartbeats 3200000 in
theorem offsets_mh (s : ByteArray) (ss : List (Nat × List (Nat × List UInt8))) (rest : List UInt8) (hs : s.data.toList = Lib.uvarint 1025 ++ (mhBytes ss ++ rest)) (hw : ∀ p ∈ ss, p.1 < 18446744073709551616 ∧ (∀ x ∈ p.2, 8 ≤ x.1 ∧ x.1 ≤ 33554432 ∧ ∃ n, x.2.length = n * x.1 ∧ n ≤ 1000000) ∧ (p.2.map (·.1)).Nodup) (hnd : (ss.map (·.1)).Nodup)
    (hl : s.size ≤ 16777216) (c : CidOf) (hc : c.Ok) (most : Nat) (hm : 1 ≤ most) (p : Addr) (w : World) (hg5 : 4 < w.heap.size) (he : w.cell? ⟨4, 0, none⟩ = some (.iface 137 (.pointer (some p)))) :
    Calls Tryz.prog 26 #[.string s, .agg #[.int .u64 c.ver, .int .u64 c.codec, .int .u64 c.code, .string (sOf c.dig)], .int .i64 (most : Int)] w fun e w' =>
      ∃ v M, e = .returned (.tuple #[v, .int .u8 (whyOf M)]) ∧ TellsC ss c.code c.dig M ∧ OutOf w' w.heap.size v (M.take most) ∧ Below w.heap.size w w' := by
  have hsz : s.size = s.data.toList.length := by rw [Array.length_toList]; rfl
  generalize hS : s.data.toList = bs at *
  have HS := Lib.hid hS; clear hS
  have HZ := Lib.hid hsz
  have hl' : bs.length ≤ 16777216 := by omega
  have hp : 0 < bs.length := by rw [hs, List.length_append, uv1025]; simp; omega
  clear hl hsz
  have HB := Lib.hid hs; clear hs
  have hme := method_GetAllC
  have hmf : ∀ (fn : Fn) (first cap : Array Value) (w : World), (Instr.makeFunc fn first cap).run Tryz.prog w = .ok (.func fn first cap) w := fun _ _ _ _ => rfl
  go_enter Tryz.func26, Tryz.ntmps26
  go_wp2_with (with_reducible refine conv_event rfl (.tmp 14) 9 42 5 rfl Tryz.underlying9 Tryz.underlying42 Tryz.underlying5 s rfl ?_)
  intro g0 cap0 w0 hg0 hcap0 hb0 hA0 hB0
  refine later ?_
  have hwA : Below w.heap.size w ((w.alloc (.cells #[.int .u64 (c.ver : Int), .int .u64 (c.codec : Int), .int .u64 (c.code : Int), .string (sOf c.dig)] 59)).alloc (.cells #[.int .i64 (most : Int)] 3)) := by (repeat (first | (with_reducible exact Below.refl _ _) | (with_reducible exact below_boxed _ _) | (with_reducible refine below_box ?_ _) | (with_reducible refine below_drew1 ?_) | (with_reducible refine below_drewn ?_ _) | (with_reducible refine below_bytes ?_ _ _) | (with_reducible refine below_next ?_ (by assumption)) | (with_reducible refine below_set ?_ (by first | (simp; done) | (simp; omega) | omega) _)))
  have hA1 := heap_alloc_last w (.cells #[.int .u64 (c.ver : Int), .int .u64 (c.codec : Int), .int .u64 (c.code : Int), .string (sOf c.dig)] 59)
  have hA2 := heap_alloc_last (w.alloc (.cells #[.int .u64 (c.ver : Int), .int .u64 (c.codec : Int), .int .u64 (c.code : Int), .string (sOf c.dig)] 59)) (.cells #[.int .i64 (most : Int)] 3)
  have hsz1 : (w.alloc (.cells #[.int .u64 (c.ver : Int), .int .u64 (c.codec : Int), .int .u64 (c.code : Int), .string (sOf c.dig)] 59)).heap.size = w.heap.size + 1 := by simp
  rw [hsz1] at hA2
  have hcb : w0.heap[w.heap.size]? = some (.cells #[.int .u64 (c.ver : Int), .int .u64 (c.codec : Int), .int .u64 (c.code : Int), .string (sOf c.dig)] 59 (0, 0)) := (hb0.block _ (by omega)).trans ((heap_alloc_old _ _ (by simp)).trans hA1)
  have hmb : w0.heap[w.heap.size + 1]? = some (.cells #[.int .i64 (most : Int)] 3 (0, 0)) := (hb0.block _ (by omega)).trans hA2
  have hbw0 : Below w.heap.size w w0 := hwA.trans (hb0.mono (by omega))
  have hgz : g0 < w0.heap.size := by
    rw [HS.out] at hA0
    rcases hA0 with h | ⟨g, o, e, hc⟩
    · rw [h] at hp; simp at hp
    · cases e
      exact World.block_lt_of_cell? w0 _ (hc 0 bs[0] (List.getElem?_eq_getElem hp))
  rw [HS.out] at hA0
  rw [HZ.out] at hcap0
  have hg0' : w.heap.size + 1 < g0 := by omega
  have hNR := NewReader_ok (some ⟨g0, 0, none⟩) cap0 bs w0 hA0 hcap0 (by omega) (fun g o e => by cases e; exact hgz)
  clear hA1 hA2 hsz1 hwA hb0 hA0 hB0 hg0
  rw [HZ.out]
  refine now ?_
  go_wp2_with fail
  refine hNR.mono ?_
  rintro e w1 ⟨rfl, hR1, hb1⟩
  have hz01 : w0.heap.size < w1.heap.size := hR1.blt
  have hRF := ReadFrom_mh w0.heap.size (some ⟨g0, 0, none⟩) cap0 bs ss rest (fun x hx => ⟨(hw x hx).1, fun y hy => ⟨((hw x hx).2.1 y hy).1, ((hw x hx).2.1 y hy).2.1⟩, (hw x hx).2.2⟩) hnd w1 hl' hR1 HB.out (fun g' o e => by cases e; omega)
  have hbw1 := hbw0.trans (hb1.mono hbw0.size)
  have hcb1 := (hb1.block _ (Array.getElem?_eq_some_iff.1 hcb).1).trans hcb
  have hmb1 := (hb1.block _ (Array.getElem?_eq_some_iff.1 hmb).1).trans hmb
  clear hNR hR1 hb1 hcb hmb
  go_wp2_with fail
  refine hRF.mono ?_
  clear hRF
  rintro e w2 ⟨a, mk, cs, rfl, _, hss, hM2, hgds, haz, hmz, hK2⟩
  have hcb2 := (hK2.block _ (Array.getElem?_eq_some_iff.1 hcb1).1 (by omega)).trans hcb1
  have hmb2 := (hK2.block _ (Array.getElem?_eq_some_iff.1 hmb1).1 (by omega)).trans hmb1
  have hbw2 : Below w.heap.size w w2 := hK2.to_below hbw1 (fun i hi => by omega)
  have hz12 := hK2.size
  have kc0 := (blk_cell' hcb2 0).trans (show _ = some (Value.int .u64 (c.ver : Int)) from rfl)
  have kc1 := (blk_cell' hcb2 1).trans (show _ = some (Value.int .u64 (c.codec : Int)) from rfl)
  have kc2 := (blk_cell' hcb2 2).trans (show _ = some (Value.int .u64 (c.code : Int)) from rfl)
  have kc3 := (blk_cell' hcb2 3).trans (show _ = some (Value.string (sOf c.dig)) from rfl)
  have hWh : ∀ x ∈ cs, Whole x.secs := by
    intro x hx s hs
    have := (hw x.two (by rw [← hss]; exact List.mem_map.2 ⟨x, hx, rfl⟩)).2.1 s.two (List.mem_map.2 ⟨s, hs, rfl⟩)
    exact ⟨this.1, this.2.1, this.2.2⟩
  have HSS := Lib.hid hss
  clear hK2 hcb1 hmb1 hbw1 hbw0 hw hnd hss
  go_wp2_with fail
  refine (cidIn_ok c hc w2).mono ?_
  rintro e w3 ⟨rfl, hb3⟩
  have hbX : Below w2.heap.size w2 ((w3.alloc (.cells #[.string c.str] 112)).alloc (.cells #[.slice none 0 0] 66)) := (by (repeat (first | (with_reducible exact Below.refl _ _) | (with_reducible exact below_boxed _ _) | (with_reducible refine below_box ?_ _) | (with_reducible refine below_drew1 ?_) | (with_reducible refine below_drewn ?_ _) | (with_reducible refine below_bytes ?_ _ _) | (with_reducible refine below_next ?_ (by assumption)) | (with_reducible refine below_set ?_ (by first | (simp; done) | (simp; omega) | omega) _))) : Below w2.heap.size w2 _)
  have hsz3 : (w3.alloc (.cells #[.string c.str] 112)).heap.size = w3.heap.size + 1 := by simp
  have hz3 := hb3.size
  have hMX := hM2.kp (S := fun _ => False) (Kp.of_below hbX) id id (fun _ _ => ⟨id, id, fun _ _ => id⟩)
  have hbwX : Below w.heap.size w ((w3.alloc (.cells #[.string c.str] 112)).alloc (.cells #[.slice none 0 0] 66)) := below_next hbw2 hbX
  have hOX : OutAt ((w3.alloc (.cells #[.string c.str] 112)).alloc (.cells #[.slice none 0 0] 66)) (w3.heap.size + 1) (w.heap.size + 1) most [] := by
    have h1 := heap_alloc_last (w3.alloc (.cells #[.string c.str] 112)) (.cells #[.slice none 0 0] 66)
    rw [hsz3] at h1
    refine ⟨⟨_, h1, World.ownsRow_nil _ _ _ _⟩, ?_, by omega⟩
    exact (blk_cell' ((hbX.block _ (Array.getElem?_eq_some_iff.1 hmb2).1).trans hmb2) 0).trans rfl
  have hgdX : ∀ x ∈ cs, ∀ s ∈ x.secs, s.gd ≠ w3.heap.size + 1 := fun x hx s hs => by have := (Array.getElem?_eq_some_iff.1 ((hM2.row x hx).mw.row s hs)).1; omega
  have heX := (hbwX.cell (p := ⟨4, 0, none⟩) hg5).trans he
  have hGA := MhGetAll_ok ⟨a, 0, none⟩ mk (w3.heap.size + 1) (w.heap.size + 1) most cs c hc 137 (.pointer (some p)) _ hMX hWh hOX hm hgdX (by omega) heX
  have HBW := Lib.hid hbwX
  clear hMX hOX hM2 hcb2 hmb2 kc0 kc1 kc2 kc3 hbX hbw2 hb3 hsz3
  go_wp2_with fail
  refine hGA.mono ?_
  clear hGA
  rintro e w4 ⟨M, hGA, hTe, hO4, hT4⟩
  rw [HSS.out] at hTe
  have hbw4 : Below w.heap.size w w4 := HBW.out.trans (hT4.bel.mono (by omega))
  have he4 := (hT4.bel.cell (p := ⟨4, 0, none⟩) (by show 4 < w3.heap.size + 1; omega)).trans heX
  obtain ⟨⟨v, hvb, hown⟩, _, _⟩ := hO4
  have kv := (blk_cell' hvb 0).trans (show _ = some v from rfl)
  have hownw : OutOf w4 w.heap.size v (M.take most) := own_mono hown (by omega)
  clear hT4 heX hvb hown
  by_cases hM0 : M = []
  · have hf := fun n => found_no p (w4.drewN n) he4
    rw [GotAll, if_pos hM0] at hGA
    subst hGA
    go_wp2_with fail
    go_quiet ((go_at_call 47; exact Calls.quiet_of_same ((hf _).mono fun e w1 h => ⟨h.1, h.2.symm⟩)))
    go_wp2_with fail
    go_ret2
    exact ⟨v, M, by rw [whyOf, if_pos hM0]; rfl, hTe, own_kp hownw (S := fun _ => False) ⟨rfl, rfl, rfl, Nat.le_refl _, fun _ _ _ => rfl⟩ (fun _ _ => id), below_drewn hbw4 _⟩
  · have hf := fun n => found_nil (w4.drewN n)
    rw [GotAll, if_neg hM0] at hGA
    subst hGA
    go_wp2_with fail
    go_quiet ((go_at_call 47; exact Calls.quiet_of_same ((hf _).mono fun e w1 h => ⟨h.1, h.2.symm⟩)))
    go_wp2_with fail
    go_ret2
    exact ⟨v, M, by rw [whyOf, if_neg hM0]; rfl, hTe, own_kp hownw (S := fun _ => False) ⟨rfl, rfl, rfl, Nat.le_refl _, fun _ _ _ => rfl⟩ (fun _ _ => id), below_drewn hbw4 _⟩

set_option maxRecDepth 100000 in
set_option maxHeartbeats 800000 in
theorem IxAll_mh (s : ByteArray) (ss : List (Nat × List (Nat × List UInt8))) (rest : List UInt8) (hs : s.data.toList = Lib.uvarint 1025 ++ (mhBytes ss ++ rest)) (hw : ∀ p ∈ ss, p.1 < 18446744073709551616 ∧ (∀ x ∈ p.2, 8 ≤ x.1 ∧ x.1 ≤ 33554432 ∧ ∃ n, x.2.length = n * x.1 ∧ n ≤ 1000000) ∧ (p.2.map (·.1)).Nodup) (hnd : (ss.map (·.1)).Nodup)
    (hl : s.size ≤ 16777216) (c : CidOf) (hc : c.Ok) (most : Nat) (hm : 1 ≤ most) (p : Addr) (w : World) (hg5 : 4 < w.heap.size) (he : w.cell? ⟨4, 0, none⟩ = some (.iface 137 (.pointer (some p)))) :
    Calls Tryz.prog 18 #[.string s, .agg #[.int .u64 c.ver, .int .u64 c.codec, .int .u64 c.code, .string (sOf c.dig)], .int .i64 (most : Int)] w fun e w' =>
      ∃ v M, e = .returned (.tuple #[v, .int .u8 (whyOf M)]) ∧ TellsC ss c.code c.dig M ∧ OutOf w' w.heap.size v (M.take most) ∧ Below w.heap.size w w' := by
  have hb0 : Below w.heap.size w (w.alloc (.cells #[.int .u64 (c.ver : Int), .int .u64 (c.codec : Int), .int .u64 (c.code : Int), .string (sOf c.dig)] 59)) := below_boxed w _
  have hO := offsets_mh s ss rest hs hw hnd hl c hc most hm p (w.alloc (.cells #[.int .u64 (c.ver : Int), .int .u64 (c.codec : Int), .int .u64 (c.code : Int), .string (sOf c.dig)] 59)) (by have := hb0.size; omega) ((hb0.cell (p := ⟨4, 0, none⟩) hg5).trans he)
  clear hs hw hnd he
  go_enter Tryz.func18, Tryz.ntmps18
  go_wp2_with fail
  refine hO.mono ?_
  clear hO
  rintro e w1 ⟨v, M, rfl, hT, hown, hb⟩
  go_wp2_with fail
  go_ret2
  exact ⟨v, M, rfl, hT, hown.mono hb0.size, hb0.trans (hb.mono hb0.size)⟩
end Go.Proofs.YtgdgmegpacmgnaaGreatDoor

/- ixOne at 0x0401. -/
namespace Go.Proofs.YtgdgmegpacmgnaaGreatDoor
open Go.RowKit
set_option linter.unusedVariables false
set_option linter.unusedSimpArgs false
attribute [local go_sem] setCell_drewN alloc_drewN

theorem parts_one {ss : List (Nat × List (Nat × List UInt8))} (hss : ss.map (·.1) = sortN (codesOf [(oneC, ((7 : Nat) : Int))])) (hPa : Parts [(oneC, ((7 : Nat) : Int))] ss) : ss = [(oneC.code, [(oneC.dig.length + 8, oneC.dig ++ Lib.leBytes 8 7)])] := by
  have hc : sortN (codesOf [(oneC, ((7 : Nat) : Int))]) = [oneC.code] := by
    have : codesOf [(oneC, ((7 : Nat) : Int))] = [oneC.code] := by simp [codesOf, codeStep]
    rw [this, sortN_tiny (by simp)]
  rw [hc] at hss
  obtain ⟨p, rfl⟩ : ∃ p, ss = [p] := by
    rcases ss with _ | ⟨p, _ | ⟨q, ss⟩⟩
    · simp at hss
    · exact ⟨p, rfl⟩
    · simp at hss
  · simp only [List.map_cons, List.map_nil, List.cons.injEq, and_true] at hss
    obtain ⟨l', hP, _, h2⟩ := hPa p List.mem_cons_self
    have hco : codedOf [(oneC, ((7 : Nat) : Int))] p.1 = [(oneC, ((7 : Nat) : Int))] := by rw [hss]; simp [codedOf, hasCode]
    rw [hco] at hP h2
    obtain rfl := List.perm_singleton.1 hP
    have hse : secsOf [(oneC, ((7 : Nat) : Int))] [(oneC, ((7 : Nat) : Int))] = [(oneC.dig.length + 8, oneC.dig ++ Lib.leBytes 8 7)] := by
      have hw : sortN (widthsOf [(oneC, ((7 : Nat) : Int))]) = [oneC.dig.length] := by
        have : widthsOf [(oneC, ((7 : Nat) : Int))] = [oneC.dig.length] := by simp [widthsOf, widthStep]
        rw [this, sortN_tiny (by simp)]
      rw [secsOf, hw]
      simp [rowsOf, hasLen]
    rw [hse] at h2
    obtain ⟨p1, p2⟩ := p
    simp only at hss h2
    rw [hss, h2]

set_option maxRecDepth 100000 in
set_option maxHeartbeats 3200000 in
theorem ixOne_mh (p : Addr) (w : World) (hg5 : 4 < w.heap.size) (he : w.cell? ⟨4, 0, none⟩ = some (.iface 137 (.pointer (some p)))) :
    Calls Tryz.prog 6 #[.int .u64 1025] w fun e w' => e = .returned (.bool true) ∧ Below w.heap.size w w' := by
  go_enter Tryz.func6, Tryz.ntmps6
  go_wp2_with fail
  refine (Fitting_id _ _).mono ?_
  rintro e w1 ⟨rfl, hb1⟩
  go_wp2_with fail
  obtain ⟨w2, hw2⟩ : ∃ w2, w2 = w1.alloc (.cells #[.int .u64 1, .int .u64 85, .int .u64 0, .string ⟨#[97]⟩, .int .u64 7] 62) := ⟨_, rfl⟩
  have hblk : w2.heap[w1.heap.size]? = some (.cells #[.int .u64 1, .int .u64 85, .int .u64 0, .string ⟨#[97]⟩, .int .u64 7] 62 (0, 0)) := by rw [hw2]; exact heap_alloc_new w1 _
  have hE2 : EntAt w2 w1.heap.size oneC 7 := ⟨blk_cell' hblk 0, blk_cell' hblk 1, blk_cell' hblk 2, blk_cell' hblk 3, blk_cell' hblk 4⟩
  have hb2 : Below w.heap.size w w2 := by rw [hw2]; exact below_box hb1 _
  rw [← hw2]
  generalize hge : w1.heap.size = ge at *
  have hI := IxBytes_mh1 ge 1 7 oneC oneC_ok (by decide) (by decide) w2 hE2
  have hol : (oneMh oneC.code oneC.dig 7).length = 39 := by
    simp [oneMh, mhBytes, codsBytes, codBytes, mwBytes, secsBytes, secBytes, le_length, uv1025, oneC]
  have hos : (sOf (oneMh oneC.code oneC.dig 7)).data.toList = Lib.uvarint 1025 ++ (mhBytes [(oneC.code, [(oneC.dig.length + 8, oneC.dig ++ Lib.leBytes 8 7)])] ++ []) := by rw [List.append_nil]; simp [sOf, oneMh]
  have hA : ∀ W, Below w.heap.size w W → Calls Tryz.prog 18 #[.string (sOf (oneMh oneC.code oneC.dig 7)), .agg #[.int .u64 1, .int .u64 85, .int .u64 0, .string ⟨#[97]⟩], .int .i64 9] W fun e w' =>
      ∃ q cq, e = .returned (.tuple #[.slice (some ⟨q, 0, none⟩) 1 cq, .int .u8 0]) ∧ w'.cell? ⟨q, 0, none⟩ = some (.int .u64 7) ∧ Below W.heap.size W w' := fun W hW => by
    refine (IxAll_mh (sOf (oneMh oneC.code oneC.dig 7)) _ [] hos (by
      intro x hx
      obtain rfl : x = (oneC.code, [(oneC.dig.length + 8, oneC.dig ++ Lib.leBytes 8 7)]) := by simpa using hx
      refine ⟨by decide, fun y hy => ?_, by simp⟩
      obtain rfl : y = (oneC.dig.length + 8, oneC.dig ++ Lib.leBytes 8 7) := by simpa using hy
      exact ⟨by decide, by decide, 1, by decide, by omega⟩) (by simp) (by rw [show (sOf (oneMh oneC.code oneC.dig 7)).size = 39 from by simp [sOf, ByteArray.size]; exact hol]; omega) oneC oneC_ok 9 (by omega) p W (by have := hW.size; omega) ((hW.cell (p := ⟨4, 0, none⟩) hg5).trans he)).mono ?_
    rintro e w' ⟨v, M, rfl, hT, hO, hb⟩
    have hT1 : Tells [(oneC.dig.length + 8, oneC.dig ++ Lib.leBytes 8 7)] oneC.dig M := by
      rcases hT with ⟨h, _⟩ | ⟨x, hx, _, h⟩
      · exact absurd rfl (h _ List.mem_cons_self)
      · obtain rfl : x = (oneC.code, [(oneC.dig.length + 8, oneC.dig ++ Lib.leBytes 8 7)]) := by simpa using hx
        exact h
    obtain rfl := tells_one (by decide) hT1
    rcases hO.2 with ⟨_, h⟩ | ⟨q, cq, cur, rfl, hq, hcur, h1, _, _, htk⟩
    · simp at h
    · refine ⟨q, cq, rfl, ?_, hb⟩
      exact World.ownsRow.cells hO (g := q) rfl 0 _ rfl
  have hX : ∀ W, Below w2.heap.size w2 W → Calls Tryz.prog 19 #[.slice (some ⟨ge, 0, none⟩) 1 1, .int .u64 1025] W fun e w' => e = .returned (.string (sOf (oneMh oneC.code oneC.dig 7))) ∧ Below W.heap.size W w' := fun W hW => by
    refine (IndexBytes_mh 1 stable_one [(oneC, ((7 : Nat) : Int))] (some ⟨ge, 0, none⟩) 1 W ((hE2.below hW).rows) (by decide) (by decide) (by decide) (by
      intro x hx
      obtain rfl : x = (oneC, ((7 : Nat) : Int)) := by simpa using hx
      decide) (by
      intro x hx
      obtain rfl : x = (oneC, ((7 : Nat) : Int)) := by simpa using hx
      decide) (by
      intro x hx
      obtain rfl : x = (oneC, ((7 : Nat) : Int)) := by simpa using hx
      decide)).mono ?_
    rintro e w' ⟨ss, hss, hPa, _, rfl, hb⟩
    obtain rfl := parts_one hss hPa
    exact ⟨rfl, hb⟩
  have HX := Lib.hid hX; have HA := Lib.hid hA
  generalize sOf (oneMh oneC.code oneC.dig 7) = S at *
  have hgelt := hE2.lt
  clear hX hA hos hol hge hw2 he
  refine hI.mono ?_
  clear hI
  rintro e w3 ⟨rfl, hb3⟩
  have hE3 := hE2.below hb3
  have k0 : w3.cell? ⟨ge, 0, none⟩ = some (.int .u64 1) := hE3.c0
  have k1 : w3.cell? ⟨ge, 1, none⟩ = some (.int .u64 85) := hE3.c1
  have k2 : w3.cell? ⟨ge, 2, none⟩ = some (.int .u64 0) := hE3.c2
  have k3 : w3.cell? ⟨ge, 3, none⟩ = some (.string ⟨#[97]⟩) := hE3.c3
  have hbw3 : Below w.heap.size w w3 := below_next hb2 hb3
  go_wp2_with fail
  refine (HA.out w3 hbw3).mono ?_
  rintro e w4 ⟨q, cq, rfl, hq, hb4⟩
  have hbw4 : Below w.heap.size w w4 := below_next hbw3 hb4
  have hb24 : Below w2.heap.size w2 w4 := below_next hb3 hb4
  have hqlt := World.block_lt_of_cell? w4 _ hq
  clear hb2 hb3 hb4 hblk hE2 hE3 k0 k1 k2 k3 hb1 hbw3
  go_wp2_with fail
  refine (HX.out w4 hb24).mono ?_
  rintro e w5 ⟨rfl, hb5⟩
  have hq5 := (hb5.cell (p := ⟨q, 0, none⟩) hqlt).trans hq
  have hbw5 : Below w.heap.size w w5 := below_next hbw4 hb5
  clear hq hb24 hbw4 hb5
  go_wp2_with fail
  go_ret
  exact ⟨rfl, hbw5⟩
end Go.Proofs.YtgdgmegpacmgnaaGreatDoor

/- FnIxAny: the law. -/
namespace Go.Proofs.YtgdgmegpacmgnaaGreatDoor
open Go.RowKit
set_option linter.unusedVariables false
set_option linter.unusedSimpArgs false
attribute [local go_sem] setCell_drewN alloc_drewN

theorem again_take {k m r : List UInt8} {n : Nat} (hn : n = k.length + m.length) : (k ++ (m ++ r)).take n = k ++ m := by
  rw [← List.append_assoc]
  exact List.take_left' (by rw [List.length_append, hn])
theorem AgainOk.le {t : List UInt8} {n : Nat} {ord : Bool} (h : AgainOk t n ord) : n ≤ t.length := by
  rcases h with ⟨ss, r, h, hn, _⟩ | ⟨ss, r, h, hn, _⟩
  · rw [h, hn, uv1024]; simp; omega
  · rw [h, hn, uv1025]; simp; omega
theorem IxAgain_ok (t : List UInt8) (n : Nat) (ord : Bool) (h : AgainOk t n ord) (hl : t.length ≤ 1000000) (w : World) :
    Calls Tryz.prog 5 #[.string (sOf t)] w fun e w' => (∃ x : List UInt8, e = .returned (.tuple #[.int .i64 (n : Int), .string (sOf x), .bool true]) ∧ (ord = true → x = t.take n)) ∧ Below w.heap.size w w' := by
  have hsd : (sOf t).data.toList = t := by simp [sOf]
  have hss : (sOf t).size = t.length := rfl
  rcases h with ⟨ss, r, h, hn, hok, ho⟩ | ⟨ss, r, h, hn, hok, ho⟩
  · refine (IxAgain_sorted (sOf t) ss r (by rw [hsd]; exact h) hok (by rw [hss]; exact hl) w).mono ?_
    rintro e w' ⟨⟨x, rfl, hx⟩, hb⟩
    refine ⟨⟨x, by rw [hn], fun hor => ?_⟩, hb⟩
    rw [hx (ho hor), h, again_take (by rw [hn, uv1024]; rfl)]
  · refine (IxAgain_mh (sOf t) ss r (by rw [hsd]; exact h) hok (by rw [hss]; exact hl) w).mono ?_
    rintro e w' ⟨⟨x, rfl, hx⟩, hb⟩
    refine ⟨⟨x, by rw [hn], fun hor => ?_⟩, hb⟩
    rw [hx (ho hor), h, again_take (by rw [hn, uv1025]; rfl)]

set_option maxRecDepth 100000 in
set_option maxHeartbeats 3200000 in
theorem FnIxAny_ok (t : List UInt8) (p pe pu : Addr) (L : Nat) (w : World) (hg5 : 4 < w.heap.size) (he : w.cell? ⟨4, 0, none⟩ = some (.iface 137 (.pointer (some p)))) (hE : Errs w L pe pu) :
    Calls Tryz.prog 3 #[.string (sOf t)] w fun e w' => e = .returned (.bool true) ∧ Below w.heap.size w w' := by
  have hss : (sOf t).size = t.length := rfl
  have hsd : (sOf t).data.toList = t := by simp [sOf]
  go_enter Tryz.func3, Tryz.ntmps3
  by_cases h1 : 2147483647 < t.length
  · have h1i : (2147483647 : Int) < (t.length : Int) := by omega
    go_wp2_with fail
    go_ret
    exact ⟨rfl, Below.refl _ _⟩
  have h1i : ¬ (2147483647 : Int) < (t.length : Int) := by omega
  by_cases h2 : 4096 < t.length
  · have h2i : (4096 : Int) < (t.length : Int) := by omega
    go_wp2_with fail
    go_ret
    exact ⟨rfl, Below.refl _ _⟩
  have h2i : ¬ (4096 : Int) < (t.length : Int) := by omega
  have hR := ReadAnyIndex_ok t (by omega) w
  have HE := Lib.hid hE
  have hEp : ∀ W, Below w.heap.size w W → 4 < W.heap.size ∧ W.cell? ⟨4, 0, none⟩ = some (.iface 137 (.pointer (some p))) := fun W hb => ⟨by have := hb.size; omega, (hb.cell (p := ⟨4, 0, none⟩) hg5).trans he⟩
  have HEp := Lib.hid hEp
  clear hE hEp he
  go_wp2_with fail
  refine hR.mono ?_
  clear hR
  rintro e w1 ⟨v, rfl, ⟨kind, q, k, c, n, ok, ord, left, rfl, hRd⟩, hb1⟩
  obtain ⟨w2, hw2⟩ : ∃ w2, w2 = w1.alloc (.cells #[.int .u64 kind, .slice q k c, .int .i64 (n : Int), .bool ok, .bool ord, .bool left] 25) := ⟨_, rfl⟩
  have hb2 : Below w.heap.size w w2 := by rw [hw2]; exact below_box hb1 _
  have hO2 : w2.heap[w1.heap.size]? = some (.cells #[.int .u64 kind, .slice q k c, .int .i64 (n : Int), .bool ok, .bool ord, .bool left] 25 (0, 0)) := by rw [hw2]; exact heap_alloc_last w1 _
  have hz1 := (Array.getElem?_eq_some_iff.1 hO2).1
  have c5 := (blk_cell' hO2 5).trans (show _ = some (Value.bool left) from rfl)
  have hE2 := HE.out.kp (S := fun i => w.heap.size ≤ i) ⟨hb2.os, hb2.tape, hb2.output, hb2.size, fun i hi hn => hb2.block i (by omega)⟩ (fun i hi => by have := HE.out.le; omega)
  have HRD := Lib.hid hRd
  clear hRd hsd
  go_upto_region 6 with fail
  rw [← hw2]
  clear hw2
  cases left with
  | true =>
    go_wp2_with fail
    go_ret
    exact ⟨rfl, hb2⟩
  | false =>
    rcases HRD.out with h | ⟨_, rfl, hbad⟩ | ⟨_, rfl, hok⟩
    · cases h
    · have hA := IxAgain_bad (sOf t) (by show AgainBad (t.toArray.toList); simpa using hbad) (by rw [hss]; omega) w2 hE2
      clear hE2 hbad HRD
      go_wp2_with fail
      refine hA.mono ?_
      clear hA
      rintro e w3 ⟨rfl, hb3⟩
      have hO3 := (hb3.block _ hz1).trans hO2
      have c3 := (blk_cell' hO3 3).trans (show _ = some (Value.bool false) from rfl)
      have hbw3 := below_next hb2 hb3
      have hOne := ixOne_mh p w3 (HEp.out _ hbw3).1 (HEp.out _ hbw3).2
      clear hO2 hO3 hb3 c5
      go_wp2_with fail
      refine hOne.mono ?_
      clear hOne
      rintro e w4 ⟨rfl, hb4⟩
      have hbw4 := below_next hbw3 hb4
      go_wp2_with fail
      go_ret
      exact ⟨rfl, hbw4⟩
    · have hA := IxAgain_ok t n ord hok (by omega) w2
      have hnl := hok.le
      clear hE2 hok HRD
      go_wp2_with fail
      refine hA.mono ?_
      clear hA
      rintro e w3 ⟨⟨x, rfl, hx⟩, hb3⟩
      have hO3 := (hb3.block _ hz1).trans hO2
      have c2 := (blk_cell' hO3 2).trans (show _ = some (Value.int .i64 (n : Int)) from rfl)
      have c3 := (blk_cell' hO3 3).trans (show _ = some (Value.bool true) from rfl)
      have c4 := (blk_cell' hO3 4).trans (show _ = some (Value.bool ord) from rfl)
      have hbw3 := below_next hb2 hb3
      have hOne := ixOne_mh p w3 (HEp.out _ hbw3).1 (HEp.out _ hbw3).2
      have hcut := fun W => str_to t n hnl .i64 W
      clear hO2 hO3 hb3 c5
      cases ord with
      | false =>
        clear hx
        go_wp2_with fail
        refine hOne.mono ?_
        clear hOne
        rintro e w4 ⟨rfl, hb4⟩
        have hbw4 := below_next hbw3 hb4
        go_wp2_with fail
        go_ret
        exact ⟨rfl, hbw4⟩
      | true =>
        obtain rfl := hx rfl
        go_wp2_with fail
        refine hOne.mono ?_
        clear hOne
        rintro e w4 ⟨rfl, hb4⟩
        have hbw4 := below_next hbw3 hb4
        go_wp2_with fail
        go_ret
        exact ⟨rfl, hbw4⟩
end Go.Proofs.YtgdgmegpacmgnaaGreatDoor
