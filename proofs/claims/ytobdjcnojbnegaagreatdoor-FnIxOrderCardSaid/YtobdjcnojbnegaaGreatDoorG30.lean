import Derived.Test.YtobdjcnojbnegaaGreatDoorG11
import Derived.Test.YtobdjcnojbnegaaGreatDoorG29
import Derived.Test.YtobdjcnojbnegaaGreatDoorG23
import Derived.Test.YtobdjcnojbnegaaGreatDoorG16
import Derived.Test.YtobdjcnojbnegaaGreatDoorG26
import Derived.Test.YtobdjcnojbnegaaGreatDoorG17
import Derived.Test.YtobdjcnojbnegaaGreatDoorG00
import Derived.Test.YtobdjcnojbnegaaGreatDoorG09
/- impl.IxBytes of one entry, at 0x0401. -/
namespace Go.Proofs.YtobdjcnojbnegaaGreatDoor
open Go.RowKit
set_option linter.unusedVariables false
set_option linter.unusedSimpArgs false
attribute [local go_sem] setCell_drewN alloc_drewN

theorem method_LoadC (v : Value) (w : World) : (method 471 mhT v "Load").run Tryz.prog w = .ok (190, v) w := by kernel_rfl
theorem sortedCods_one (c : Cod) (s : Sec) (h : c.secs = [s]) : sortedCods [c] = [c.two] := by
  rw [sortedCods, List.map_cons, List.map_nil, sortN_tiny (by simp)]
  simp [inCodes, h, sortedSecs_one, Cod.two]
/-- The bytes of an index 0x0401 of one entry. -/
def oneMh (code : Nat) (dig : List UInt8) (off : Nat) : List UInt8 := Lib.uvarint 1025 ++ mhBytes [(code, [(dig.length + 8, dig ++ Lib.leBytes 8 off)])]

set_option maxRecDepth 100000 in
set_option maxHeartbeats 3200000 in
theorem indexBytes_mh1 (ge cap off : Nat) (c : CidOf) (hc : c.Ok) (hd : 0 < c.dig.length) (hoff : off < 18446744073709551616) (w : World) (hE : EntAt w ge c off) :
    Calls Tryz.prog 20 #[.slice (some ⟨ge, 0, none⟩) 1 cap, .int .u64 1025] w fun e w' => e = .returned (.tuple #[.string (sOf (oneMh c.code c.dig off)), .bool true]) ∧ Below w.heap.size w w' := by
  obtain ⟨i0, ti, tz0, tz1, tz2⟩ := info_parts info_Rec
  have hdl := hc.dig
  have hme := method_LoadC
  have hgl := hE.lt
  go_enter Tryz.func20, Tryz.ntmps20
  go_wp2_with fail
  refine (New_mh _).mono ?_
  rintro e w1 ⟨ax, mx, rfl, hM1, hax, hmx, hnx, hb1⟩
  have hE1 := hE.below hb1
  obtain ⟨c0, c1, c2, c3, c4⟩ := hE1
  have hg1 : ge < w1.heap.size := by have := hb1.size; omega
  have hz1 : ax < w1.heap.size := World.block_lt_of_cell? w1 _ hM1.cell
  have hz1m : mx < w1.heap.size := hM1.map.lt
  have hCid := fun W => cidIn_ok c hc W
  go_wp2_with fail
  refine wp_loop_rounds 2 ?_
  rw [rounds_succ]
  go_wp2_with fail
  refine (hCid _).mono ?_
  rintro e w2 ⟨rfl, hb2⟩
  have hbw2 : Below w1.heap.size w1 w2 := by (repeat (first | (with_reducible exact Below.refl _ _) | (with_reducible exact below_boxed _ _) | (with_reducible refine below_box ?_ _) | (with_reducible refine below_drew1 ?_) | (with_reducible refine below_drewn ?_ _) | (with_reducible refine below_bytes ?_ _ _) | (with_reducible refine below_next ?_ (by assumption)) | (with_reducible refine below_set ?_ (by first | (simp; done) | (simp; omega) | omega) _)))
  have kbox : w2.cell? ⟨w1.heap.size, 4, none⟩ = some (.int .u64 (off : Int)) := by
    have h := hb2.cell (p := ⟨w1.heap.size, 4, none⟩) (by simp)
    rw [h]
    exact blk_cell' (heap_alloc_last w1 _) 4
  have hM2 : MhAt w2 ⟨ax, 0, none⟩ mx [] := hM1.kp (S := fun _ => False) (Kp.of_below hbw2) id id (fun _ _ => ⟨id, id, fun _ _ => id⟩)
  have hz2 : w1.heap.size < w2.heap.size := by have := hb2.size; simp at this; omega
  have HB2 := Lib.hid (below_next hb1 hbw2); have HM2 := Lib.hid hM2
  clear hb1 hb2 hbw2 hM1 hM2 c0 c1 c2 c3 c4 hE hCid
  go_wp2_with (at_builtin; refine wpList_append_own _ rfl _ _ 83 rfl w2.heap.size 89 i0 (.agg #[.string ⟨#[]⟩, .int .u64 0]) 2 24 Tryz.underlying83 ti tz0 tz1 tz2 rfl (by decide) _ _ _ rfl (World.ownsRow_nil _ _ _ _) ⟨w2.heap.size + 1, 0, none⟩ 1 1 [.string c.str, .int .u64 (off : Int)] rfl rfl ?c1 ?c2 ?c3 ?c4 ?c5 ?_)
  case c1 =>
    intro j u hj
    have := two_cells (w2.alloc (.cells #[.string c.str] 85)) (.string c.str) (.int .u64 (off : Int)) 89 j u hj
    simpa using this
  case c2 =>
    intro u hu
    simp only [List.mem_cons, List.not_mem_nil, or_false] at hu
    rcases hu with rfl | rfl <;> rfl
  case c3 => unfold maxLen; omega
  case c4 => omega
  case c5 => simp; omega
  intro v3 w3 hown3 hgrow hn3
  refine later ?_
  obtain ⟨g3, cap3, cur3, rfl, hge3, hg3, hle3, hcm3, hcs3, htk3⟩ : ∃ g cap cur, v3 = .slice (some ⟨g, 0, none⟩) 1 cap ∧ w2.heap.size ≤ g ∧ w3.heap[g]? = some (.cells cur 89 (0, 0)) ∧ 1 ≤ cap ∧ cap ≤ maxLen ∧ cur.size = cap * 2 ∧ cur.toList.take (1 * 2) = [.string c.str, .int .u64 (off : Int)] := by
    rcases hown3.2 with ⟨_, h⟩ | h
    · cases h
    · exact h
  have k0 : w3.cell? ⟨g3, 0, none⟩ = some (.string c.str) := by
    rw [blk_cell' hg3 0]
    have : cur3.toList[0]? = some (.string c.str) := by
      have h := congrArg (fun l => l[0]?) htk3
      simpa using h
    simpa using this
  have k1 : w3.cell? ⟨g3, 1, none⟩ = some (.int .u64 (off : Int)) := by
    rw [blk_cell' hg3 1]
    have : cur3.toList[1]? = some (.int .u64 (off : Int)) := by
      have h := congrArg (fun l => l[1]?) htk3
      simpa using h
    simpa using this
  have hkA : Kp (fun _ => False) w2 ((w2.alloc (.cells #[.string c.str] 85)).alloc (.cells #[.string c.str, .int .u64 (off : Int)] 89)) := Kp.of_below (by (repeat (first | (with_reducible exact Below.refl _ _) | (with_reducible exact below_boxed _ _) | (with_reducible refine below_box ?_ _) | (with_reducible refine below_drew1 ?_) | (with_reducible refine below_drewn ?_ _) | (with_reducible refine below_bytes ?_ _ _) | (with_reducible refine below_next ?_ (by assumption)) | (with_reducible refine below_set ?_ (by first | (simp; done) | (simp; omega) | omega) _))))
  have hk23 : Kp (fun _ => False) w2 w3 := hkA.trans (kp_grown hgrow) (fun i h => by simp [Value.ownBlock] at h)
  have hM3 := HM2.out.kp hk23 id id (fun _ _ => ⟨id, id, fun _ _ => id⟩)
  have hL := MhLoad_one ⟨ax, 0, none⟩ mx g3 cap3 off c hc hd hoff w3 hM3 hnx k0 k1
  have hbw3 : Below w.heap.size w w3 := HB2.out.trans ⟨hk23.os, hk23.tape, hk23.output, hk23.size, fun k hk => hk23.block k (by omega) id⟩
  have HB3 := Lib.hid hbw3
  clear hown3 hgrow hn3 hg3 htk3 k0 k1 hkA hk23 hM3 hbw3 kbox
  refine now ?_
  go_wp2_with fail
  rw [rounds_succ]
  go_wp2_with fail
  refine hL.mono ?_
  clear hL
  rintro e w4 ⟨rfl, ⟨cb, mb, gd, hcb, hmb, hgd, hM4⟩, hK4⟩
  have hcc := hc.code
  have hW := written_mh mx 1 ⟨ax, 0, none⟩ [⟨c.code, cb, mb, [⟨c.dig.length + 8, c.dig ++ Lib.leBytes 8 off, gd⟩]⟩] w4 tinySort_32 tinySort_64 (Nat.le_refl _) hM4 (by
    intro x hx
    obtain rfl : x = ⟨c.code, cb, mb, [⟨c.dig.length + 8, c.dig ++ Lib.leBytes 8 off, gd⟩]⟩ := by simpa using hx
    refine ⟨by show c.code < _; omega, Nat.le_refl _, by show 1 ≤ 1000000; omega, fun s hs => ?_⟩
    obtain rfl : s = ⟨c.dig.length + 8, c.dig ++ Lib.leBytes 8 off, gd⟩ := by simpa using hs
    show c.dig.length + 8 < 4294967296; omega) (by simp) (by rw [sortedCods_one _ _ rfl]; simp [codsBytes, codBytes, mwBytes, secsBytes, secBytes_len, Cod.two, Sec.two, le8_len, le4_len]; omega)
  rw [sortedCods_one _ _ rfl] at hW
  have hb4 : Below w.heap.size w w4 := HB3.out.trans ⟨hK4.os, hK4.tape, hK4.output, hK4.size, fun k hk => hK4.block k (by have := HB3.out.size; omega) (by omega)⟩
  clear hM4 hK4
  go_wp2_with fail
  refine hW.mono ?_
  clear hW
  rintro e w5 ⟨rfl, hb5⟩
  go_wp2_with fail
  go_ret2
  exact ⟨rfl, below_next hb4 hb5⟩

set_option maxRecDepth 100000 in
theorem IxBytes_mh1 (ge cap off : Nat) (c : CidOf) (hc : c.Ok) (hd : 0 < c.dig.length) (hoff : off < 18446744073709551616) (w : World) (hE : EntAt w ge c off) :
    Calls Tryz.prog 10 #[.slice (some ⟨ge, 0, none⟩) 1 cap, .int .u64 1025] w fun e w' => e = .returned (.tuple #[.string (sOf (oneMh c.code c.dig off)), .bool true]) ∧ Below w.heap.size w w' := by
  have hI := indexBytes_mh1 ge cap off c hc hd hoff w hE
  clear hE
  go_enter Tryz.func10, Tryz.ntmps10
  go_wp2_with fail
  refine hI.mono ?_
  rintro e w1 ⟨rfl, hb⟩
  go_wp2_with fail
  go_ret2
  exact ⟨rfl, hb⟩
end Go.Proofs.YtobdjcnojbnegaaGreatDoor

/- spec.IndexBytes of any entries, both kinds. -/
namespace Go.Proofs.YtobdjcnojbnegaaGreatDoor
open Go.RowKit
set_option linter.unusedVariables false
set_option linter.unusedSimpArgs false
attribute [local go_sem] setCell_drewN alloc_drewN

set_option maxRecDepth 100000 in
set_option maxHeartbeats 1600000 in
theorem IndexBody_srt (most : Nat) (hS : StableEnts most) (l : List (CidOf × Int)) (A : Option Addr) (cap : Nat) (w : World) (hR : RowsAt w A l) (hA : A = none → cap = 0) (hlen : l.length ≤ 10000) (hle : l.length ≤ most) (hcap : l.length ≤ cap)
    (hd : ∀ x ∈ l, x.1.dig.length ≤ 1000) (ho : ∀ x ∈ l, 0 ≤ x.2 ∧ x.2 < 18446744073709551616) :
    Calls Tryz.prog 48 #[.slice A l.length cap, .int .u64 1024] w fun e w' => ∃ l', l'.Perm l ∧ SortedD l' ∧ e = .returned (.string (sOf (sortedSpec l l'))) ∧ Below w.heap.size w w' := by
  have hB := sortedBytes_all most hS w.heap.size (.slice none 0 0) [] l A cap hA w hR hlen hle hcap hd ho (by simp) (Nat.le_refl _) ⟨rfl, .inl ⟨rfl, rfl⟩⟩ (fun _ _ _ e => by cases e)
  clear hR hd ho
  go_enter Tryz.func48, Tryz.ntmps48
  go_wp2_with fail
  refine hB.mono ?_
  rintro e w1 ⟨l', v', hP, hSD, rfl, hU, hA⟩
  have hb : Below w.heap.size w w1 := hA.below (Nat.le_refl _) (fun i e => by cases e)
  obtain ⟨g, c, rfl, hby⟩ := own_bytes (bs := sortedSpec l l') hU (by simpa using sortedSpec_pos l l') (by simp)
  have hp := sortedSpec_pos l l'
  have HP := Lib.hid hP; have HSD := Lib.hid hSD
  have hcv := bytes_string (P := Tryz.prog) Tryz.underlying65 Tryz.underlying5 Tryz.underlying9 w1 _ (sortedSpec l l') c hby
  have hnl : ([] ++ sortedSpec l l').length = (sortedSpec l l').length := rfl
  rw [hnl]
  clear hP hSD hU hA hby hB
  go_wp2_with fail
  go_ret
  exact ⟨l', HP.out, HSD.out, rfl, hb⟩

set_option maxRecDepth 100000 in
set_option maxHeartbeats 1600000 in
theorem IndexBytes_srt (most : Nat) (hS : StableEnts most) (l : List (CidOf × Int)) (A : Option Addr) (cap : Nat) (w : World) (hR : RowsAt w A l) (hA : A = none → cap = 0) (hlen : l.length ≤ 10000) (hle : l.length ≤ most) (hcap : l.length ≤ cap)
    (hd : ∀ x ∈ l, x.1.dig.length ≤ 1000) (ho : ∀ x ∈ l, 0 ≤ x.2 ∧ x.2 < 18446744073709551616) :
    Calls Tryz.prog 26 #[.slice A l.length cap, .int .u64 1024] w fun e w' => ∃ l', l'.Perm l ∧ SortedD l' ∧ e = .returned (.string (sOf (Lib.uvarint 1024 ++ sortedSpec l l'))) ∧ Below w.heap.size w w' := by
  have hlv : (Lib.uvarint 1024).length ≤ 10 := Lib.uvarint_length 9 1024 (by decide)
  have hwl := widthsOf_le l
  go_enter Tryz.func26, Tryz.ntmps26
  go_wp2_with fail
  have HD := Lib.hid hd; have HO := Lib.hid ho; have HR := Lib.hid hR
  clear hd ho hR
  go_region_with (first | (go_at_call 47; refine (Varint_bytes 1024 (by omega) _).mono ?_; rintro e w1 ⟨g1, c1, rfl, hby1, hg1, hb1⟩; have hv1 := bytes_string (P := Tryz.prog) Tryz.underlying65 Tryz.underlying5 Tryz.underlying9 w1 _ _ c1 hby1; have hR1 : RowsAt w1 A l := RowsAt.below HR.out (Below.trans (b := w.drew) ⟨rfl, rfl, rfl, Nat.le_refl _, fun _ _ => rfl⟩ hb1)) | (go_at_call 48; (refine (IndexBody_srt most hS l A cap _ hR1 hA hlen hle hcap HD.out HO.out).mono ?_; rintro e w2 ⟨l', hP, hSD, rfl, hb2⟩; have hv2 := bytes_string (P := Tryz.prog) Tryz.underlying65 Tryz.underlying5 Tryz.underlying9 w2 _ _ c1 (hby1.below hb2); have hls := sortedSpec_le hP hlen HD.out; have hl1 : ¬ 9223372036854775807 < (Lib.uvarint 1024).length + (sortedSpec l l').length := (by omega); have HP := Lib.hid hP; have HSD := Lib.hid hSD; clear hP hSD)))
  all_goals (go_wp2_with fail; go_ret; exact ⟨l', HP.out, HSD.out, by simp [sOf, sOf_append, Act.put], by (repeat (first | (with_reducible exact Below.refl _ _) | (with_reducible exact below_boxed _ _) | (with_reducible refine below_box ?_ _) | (with_reducible refine below_drew1 ?_) | (with_reducible refine below_drewn ?_ _) | (with_reducible refine below_bytes ?_ _ _) | (with_reducible refine below_next ?_ (by assumption)) | (with_reducible refine below_set ?_ (by first | (simp; done) | (simp; omega) | omega) _)))⟩)
set_option maxRecDepth 100000 in
set_option maxHeartbeats 1600000 in
theorem IndexBytes_mh (most : Nat) (hS : StableEnts most) (l : List (CidOf × Int)) (A : Option Addr) (cap : Nat) (w : World) (hR : RowsAt w A l) (hlen : l.length ≤ 100) (hle : l.length ≤ most) (hcap : l.length ≤ cap)
    (hd : ∀ x ∈ l, x.1.dig.length ≤ 1000) (ho : ∀ x ∈ l, 0 ≤ x.2 ∧ x.2 < 18446744073709551616) (hc : ∀ x ∈ l, x.1.code < 18446744073709551616) :
    Calls Tryz.prog 26 #[.slice A l.length cap, .int .u64 1025] w fun e w' => ∃ ss, ss.map (·.1) = sortN (codesOf l) ∧ Parts l ss ∧ (mhBytes ss).length ≤ 10090000 ∧ e = .returned (.string (sOf (Lib.uvarint 1025 ++ mhBytes ss))) ∧ Below w.heap.size w w' := by
  have hlv : (Lib.uvarint 1025).length ≤ 10 := Lib.uvarint_length 9 1025 (by decide)
  have hwl := widthsOf_le l
  go_enter Tryz.func26, Tryz.ntmps26
  go_wp2_with fail
  have HD := Lib.hid hd; have HO := Lib.hid ho; have HC := Lib.hid hc; have HR := Lib.hid hR
  clear hd ho hc hR
  go_region_with (first | (go_at_call 47; refine (Varint_bytes 1025 (by omega) _).mono ?_; rintro e w1 ⟨g1, c1, rfl, hby1, hg1, hb1⟩; have hv1 := bytes_string (P := Tryz.prog) Tryz.underlying65 Tryz.underlying5 Tryz.underlying9 w1 _ _ c1 hby1; have hR1 : RowsAt w1 A l := RowsAt.below HR.out (Below.trans (b := w.drew) ⟨rfl, rfl, rfl, Nat.le_refl _, fun _ _ => rfl⟩ hb1)) | (go_at_call 48; (refine (IndexBody_mh most hS l A cap _ hR1 hlen hle hcap HD.out HO.out HC.out).mono ?_; rintro e w2 ⟨ss, hss, hPa, hls, rfl, hb2⟩; have hv2 := bytes_string (P := Tryz.prog) Tryz.underlying65 Tryz.underlying5 Tryz.underlying9 w2 _ _ c1 (hby1.below hb2); have hl1 : ¬ 9223372036854775807 < (Lib.uvarint 1025).length + (mhBytes ss).length := (by omega); have HX := Lib.hid (And.intro hss (And.intro hPa hls)); clear hss hPa)))
  all_goals (go_wp2_with fail; go_ret; exact ⟨ss, HX.out.1, HX.out.2.1, HX.out.2.2, by simp [sOf, sOf_append, Act.put], by (repeat (first | (with_reducible exact Below.refl _ _) | (with_reducible exact below_boxed _ _) | (with_reducible refine below_box ?_ _) | (with_reducible refine below_drew1 ?_) | (with_reducible refine below_drewn ?_ _) | (with_reducible refine below_bytes ?_ _ _) | (with_reducible refine below_next ?_ (by assumption)) | (with_reducible refine below_set ?_ (by first | (simp; done) | (simp; omega) | omega) _)))⟩)
end Go.Proofs.YtobdjcnojbnegaaGreatDoor

/- impl.IxBytes of any entries, both kinds. -/
namespace Go.Proofs.YtobdjcnojbnegaaGreatDoor
open Go.RowKit
set_option linter.unusedVariables false
set_option linter.unusedSimpArgs false
attribute [local go_sem] setCell_drewN alloc_drewN

set_option maxRecDepth 100000 in
set_option maxHeartbeats 6400000 in
/-- The walk, whatever the kind. -/
theorem indexBytes_gen (kind : Int) (T : TypeId) (F : Nat) (hF : F = 197 ∨ F = 190) (l : Ents) (hl : ∀ x ∈ l, x.1.Ok) (hlen : l.length ≤ 100000) (A : Option Addr) (cap : Nat) (w : World) (hR : RowsAt w A l)
    (P0 P1 : World → Addr → Prop) (Q : Ending → Prop)
    (hNew : Calls Tryz.prog 36 #[.int .u64 kind] w fun e w' => ∃ a, e = .returned (.tuple #[.iface T (.pointer (some a)), .nilIface]) ∧ P0 w' a ∧ Below w.heap.size w w')
    (hP0 : ∀ W W' a, P0 W a → Below W.heap.size W W' → P0 W' a)
    (hme : ∀ (v : Value) (w : World), (method 471 T v "Load").run Tryz.prog w = .ok (F, v) w)
    (hLoad : ∀ (W : World) (a : Addr) (A' : Option Addr) (cap' : Nat), P0 W a → RecsAt W A' l → Calls Tryz.prog F #[.pointer (some a), .slice A' l.length cap'] W fun e w' => e = .returned .nilIface ∧ P1 w' a ∧ Kp (fun i => w.heap.size ≤ i) W w')
    (hWr : ∀ (W : World) (a : Addr), P1 W a → Calls Tryz.prog 38 #[.iface T (.pointer (some a)), .nilIface] W fun e w' => (∃ s, e = .returned (.tuple #[.string s, .bool true]) ∧ Q e) ∧ Below W.heap.size W w') :
    Calls Tryz.prog 20 #[.slice A l.length cap, .int .u64 kind] w fun e w' => (∃ s, e = .returned (.tuple #[.string s, .bool true]) ∧ Q e) ∧ Below w.heap.size w w' := by
  obtain ⟨i0, ti, tz0, tz1, tz2⟩ := info_parts info_Rec
  have HL := Lib.hid hl; have HLoad := Lib.hid hLoad; have HWr := Lib.hid hWr; have HP0 := Lib.hid hP0; have HR := Lib.hid hR
  clear hl hLoad hWr hP0 hR
  go_enter Tryz.func20, Tryz.ntmps20
  go_wp2_with fail
  refine hNew.mono ?_
  clear hNew
  rintro e w1 ⟨a, rfl, hA1, hb1⟩
  have HB1 := Lib.hid hb1
  have HA1 := Lib.hid hA1
  have hz1 := hb1.size
  clear hA1 hb1
  go_wp2_with fail
  go_loopw [8, 22] (fun v8 vi wr => ∃ (k : Nat) (u : Value), u = v8 ∧ k ≤ l.length ∧ vi = .int .i64 (k : Int) ∧ wr.ownsRow w1.heap.size recCT 2 u k ((l.take k).flatMap recC) ∧ Below w1.heap.size w1 wr) (fun _ vi _ => l.length - (intOf vi).toNat)
  case atStart => exact ⟨0, _, rfl, Nat.zero_le _, rfl, World.ownsRow_nil _ _ _ _, Below.refl _ _⟩
  case round =>
    obtain ⟨k, v8, hv8, hk, rfl, hown, hB⟩ := hrel
    subst hv8
    have hbw : Below w.heap.size w wr := below_next HB1.out hB
    by_cases hlt : k < l.length
    · obtain ⟨x, hx⟩ : ∃ x, l[k]? = some x := ⟨_, List.getElem?_eq_getElem hlt⟩
      obtain ⟨g0, o, rfl, hg0, c0, c1, c2, c3, c4⟩ := HR.out.row hbw hx
      have hgl : g0 < wr.heap.size := by have := hbw.size; omega
      have hCid := fun W => cidIn_ok x.1 (HL.out x (List.mem_of_getElem? hx)) W
      obtain ⟨wo, rfl⟩ : ∃ wo, wo = wr := ⟨_, rfl⟩
      have HO := Lib.hid (And.intro hown hB)
      clear hown hB hbw
      go_wp2_with fail
      refine (hCid _).mono ?_
      clear hCid
      rintro e w2 ⟨rfl, hb2⟩
      have hbw2 : Below wo.heap.size wo w2 := by (repeat (first | (with_reducible exact Below.refl _ _) | (with_reducible exact below_boxed _ _) | (with_reducible refine below_box ?_ _) | (with_reducible refine below_drew1 ?_) | (with_reducible refine below_drewn ?_ _) | (with_reducible refine below_bytes ?_ _ _) | (with_reducible refine below_next ?_ (by assumption)) | (with_reducible refine below_set ?_ (by first | (simp; done) | (simp; omega) | omega) _)))
      have kbox : w2.cell? ⟨wo.heap.size, 4, none⟩ = some (.int .u64 x.2) := by
        rw [hb2.cell (p := ⟨wo.heap.size, 4, none⟩) (by simp)]
        exact blk_cell' (heap_alloc_last wo _) 4
      have hz2 : wo.heap.size < w2.heap.size := by have := hb2.size; simp at this; omega
      have hown2 : w2.ownsRow w1.heap.size recCT 2 v8 k ((l.take k).flatMap recC) := own_kp HO.out.1 (Kp.of_below (S := fun _ => False) hbw2) (fun _ _ => id)
      have hown3 := (hown2.alloc (Obj.cells #[.string x.1.str] 85)).alloc (Obj.cells #[.string x.1.str, .int .u64 x.2] 89)
      have hB2 : Below w1.heap.size w1 w2 := below_next HO.out.2 hbw2
      have HB2 := Lib.hid hB2
      have hlo := fun i e => (World.ownsRow.lt hown2 i e).1
      have hzz := hB2.size
      clear hb2 hbw2 c0 c1 c2 c3 c4 hown2 hB2 HO
      go_wp2_with (at_builtin; refine wpList_append_own _ rfl _ _ 83 rfl w1.heap.size 89 i0 (.agg #[.string ⟨#[]⟩, .int .u64 0]) 2 24 Tryz.underlying83 ti tz0 tz1 tz2 rfl (by decide) _ _ _ rfl hown3 ⟨w2.heap.size + 1, 0, none⟩ 1 1 [.string x.1.str, .int .u64 x.2] rfl rfl ?c1 ?c2 ?c3 ?c4 ?c5 ?_)
      case c1 =>
        intro j u hj
        have := two_cells (w2.alloc (.cells #[.string x.1.str] 85)) (.string x.1.str) (.int .u64 x.2) 89 j u hj
        simpa using this
      case c2 =>
        intro u hu
        simp only [List.mem_cons, List.not_mem_nil, or_false] at hu
        rcases hu with rfl | rfl <;> rfl
      case c3 => unfold maxLen; omega
      case c4 => omega
      case c5 => simp; omega
      intro v3 w3 hown4 hgrow hn3
      refine later ?_
      have hB3 : Below w1.heap.size w1 w3 := (kp_grown hgrow).to_below (below_box (below_box HB2.out _) _) (fun i e => hlo i e.symm)
      have hown5 : w3.ownsRow w1.heap.size recCT 2 v3 (k + 1) ((l.take (k + 1)).flatMap recC) := by
        rw [List.take_succ_eq_append_getElem hlt, (List.getElem?_eq_some_iff.1 hx).2, List.flatMap_append]
        simpa [recC, recCT] using hown4
      have HO := Lib.hid (And.intro hown5 hB3)
      clear hown3 hown4 hown5 hgrow hn3 hB3 kbox
      refine now ?_
      go_wp2_with fail
      go_roundw
      case rel => exact ⟨k + 1, _, rfl, by omega, by go_num, HO.out.1, HO.out.2⟩
      case measure => simp [intOf]; omega
    · obtain rfl : k = l.length := by omega
      rw [List.take_length] at hown
      obtain ⟨A', cap', rfl, hRecs⟩ : ∃ A' cap', v8 = .slice A' l.length cap' ∧ RecsAt wr A' l := by
        rcases hown.2 with ⟨h1, h2⟩ | ⟨g, c, cur, h1, _⟩
        · exact ⟨none, 0, by rw [h1, h2], .inl (List.eq_nil_of_length_eq_zero h2)⟩
        · subst h1
          exact ⟨_, _, rfl, own_recs hown⟩
      have hLd := HLoad.out wr a A' cap' (HP0.out _ _ _ HA1.out hB) hRecs
      have HB := Lib.hid hbw
      clear hown hRecs hB hbw HLoad
      rcases hF with rfl | rfl
      all_goals
        go_wp2_with fail
        refine hLd.mono ?_
        clear hLd
        rintro e w4 ⟨rfl, hP4, hK4⟩
        have hW := HWr.out w4 a hP4
        have hb4 : Below w.heap.size w w4 := hK4.to_below HB.out (fun i h => h)
        have HB4 := Lib.hid hb4
        clear hP4 hK4 hb4
        go_wp2_with fail
        refine hW.mono ?_
        clear hW
        rintro e w5 ⟨⟨s, rfl, hQ⟩, hb5⟩
        have HQ := Lib.hid (And.intro hQ (below_next HB4.out hb5))
        clear hQ hb5
        go_wp2_with fail
        go_ret2
        exact ⟨⟨s, rfl, HQ.out.1⟩, HQ.out.2⟩

theorem secs_small {l : Ents} {secs : List Sec} (h : SecsFor l secs) (hlen : l.length ≤ 100) (hd : ∀ x ∈ l, x.1.dig.length ≤ 200) : secs.length ≤ l.length ∧ (∀ s ∈ secs, s.width < 4294967296) ∧ (mwBytes (sortedSecs secs)).length ≤ 4 + l.length * 100812 := by
  refine ⟨?_, fun s hs => ?_, ?_⟩
  · have h1 := h.widths.length_eq
    rw [List.length_map, List.length_map] at h1
    have := widthsOf_le l
    omega
  · obtain ⟨L, k, e, _, ⟨x, hx, e2⟩, _⟩ := h.sec s hs
    have := hd x hx
    omega
  · obtain ⟨l', hP, hS, e⟩ := h.one
    rw [e, ← sortedSpec_eq]
    exact sortedSpec_small hP hlen (fun x hx => by have := hd x hx; omega)

set_option maxRecDepth 100000 in
theorem IxBytes_srt (l : Ents) (hl : ∀ x ∈ l, x.1.Ok) (ho : ∀ x ∈ l, 0 ≤ x.2 ∧ x.2 < 18446744073709551616) (hlen : l.length ≤ 100) (A : Option Addr) (cap : Nat) (w : World) (hR : RowsAt w A l) :
    Calls Tryz.prog 10 #[.slice A l.length cap, .int .u64 1024] w fun e w' => (∃ s, e = .returned (.tuple #[.string s, .bool true]) ∧ ∃ secs, SecsFor l secs ∧ s = sOf (Lib.uvarint 1024 ++ mwBytes (sortedSecs secs))) ∧ Below w.heap.size w w' := by
  have hI := indexBytes_gen 1024 mwT 197 (.inl rfl) l hl (by omega) A cap w hR (fun W a => ∃ mk, w.heap.size ≤ mk ∧ a.block ≠ mk ∧ MwAt W a mk []) (fun W a => ∃ mk secs, MwAt W a mk secs ∧ SecsFor l secs)
    (fun e => ∀ s, e = .returned (.tuple #[.string s, .bool true]) → ∃ secs, SecsFor l secs ∧ s = sOf (Lib.uvarint 1024 ++ mwBytes (sortedSecs secs)))
    ((New_sorted w).mono fun e w' h => ⟨_, h.1, ⟨w.heap.size, Nat.le_refl _, by show w.heap.size + 1 ≠ w.heap.size; omega, h.2.1⟩, h.2.2⟩)
    (fun W W' a ⟨mk, h1, h2, h3⟩ hb => ⟨mk, h1, h2, h3.kp (S := fun _ => False) (Kp.of_below hb) id id (by simp)⟩)
    method_LoadM
    (fun W a A' cap' ⟨mk, h1, h2, h3⟩ hRec => (MwLoad_ok a mk cap' A' l hl ho (by omega) W h3 h2 hRec).mono fun e w' ⟨e1, ⟨secs, s1, s2, s3⟩, hK⟩ => ⟨e1, ⟨mk, secs, s3, s1⟩, hK.mono fun i e => .inl (by subst e; exact h1)⟩)
    (fun W a ⟨mk, secs, h1, h2⟩ => by
      obtain ⟨b1, b2, b3⟩ := secs_small h2 hlen (fun x hx => (hl x hx).dig)
      refine (written_sorted mk 1000000 a secs W bigSort_32 (by omega) h1 b2 (by omega) (by unfold mwBytes at b3; rw [List.length_append] at b3; omega)).mono ?_
      rintro e w' ⟨rfl, hb⟩
      exact ⟨⟨_, rfl, fun s hs => ⟨secs, h2, by cases hs; rfl⟩⟩, hb⟩)
  clear hR
  go_enter Tryz.func10, Tryz.ntmps10
  go_wp2_with fail
  refine hI.mono ?_
  rintro e w1 ⟨⟨s, rfl, hQ⟩, hb⟩
  have HQ := Lib.hid (And.intro (hQ s rfl) hb)
  clear hQ hb
  go_wp2_with fail
  go_ret2
  exact ⟨⟨s, rfl, HQ.out.1⟩, HQ.out.2⟩
end Go.Proofs.YtobdjcnojbnegaaGreatDoor

/- impl.IxBytes of any entries: the index 0x0401. -/
namespace Go.Proofs.YtobdjcnojbnegaaGreatDoor
open Go.RowKit
set_option linter.unusedVariables false
set_option linter.unusedSimpArgs false
attribute [local go_sem] setCell_drewN alloc_drewN

theorem parts_le {l : Ents} (hlen : l.length ≤ 100) (hd : ∀ x ∈ l, x.1.dig.length ≤ 200) : ∀ ss : List (Nat × List (Nat × List UInt8)), Parts l ss → (codsBytes ss).length ≤ 12 * ss.length + 100812 * sumC l (ss.map (·.1))
  | [], _ => by simp [codsBytes, sumC]
  | p :: ss, h => by
    have ih := parts_le hlen hd ss (fun q hq => h q (List.mem_cons_of_mem _ hq))
    obtain ⟨l', hP, hS, e⟩ := h p List.mem_cons_self
    have hle := List.length_filter_le (hasCode p.1) l
    have h1 := sortedSpec_small hP (by unfold codedOf; omega) (fun x hx => by have := hd x (List.mem_filter.1 hx).1; omega)
    rw [sortedSpec_eq, ← e] at h1
    have h2 : (codBytes p).length = 8 + (mwBytes p.2).length := by rw [codBytes, List.length_append, le8_len]
    rw [codsBytes_cons, List.length_append, h2]
    simp only [sumC, List.map_cons, List.sum_cons, List.length_cons] at ih ⊢
    omega
theorem cods_small {l : Ents} {cs : List Cod} (h : CodsFor l cs) (hl : ∀ x ∈ l, x.1.Ok) (hlen : l.length ≤ 100) : cs.length ≤ l.length ∧ (∀ c ∈ cs, c.code < 9223372036854775808 ∧ c.secs.length ≤ 100 ∧ ∀ s ∈ c.secs, s.width < 4294967296) ∧ (sortedCods cs).length = cs.length ∧ (mhBytes (sortedCods cs)).length ≤ 10090000 := by
  have hd : ∀ x ∈ l, x.1.dig.length ≤ 200 := fun x hx => (hl x hx).dig
  have h1 : cs.length ≤ l.length := by
    have := h.nodup.length_le_of_subset (l₂ := l.map fun x => x.1.code) (fun n hn => by
      obtain ⟨x, hx, e⟩ := (h.codes n).1 hn
      exact List.mem_map.2 ⟨x, hx, e⟩)
    simpa using this
  obtain ⟨p1, p2, p3, p4⟩ := h.one
  have hlen2 : (sortedCods cs).length = cs.length := by
    have := congrArg List.length p4
    rwa [List.length_map, sortN_len, List.length_map] at this
  refine ⟨h1, fun c hc => ?_, hlen2, ?_⟩
  · obtain ⟨hs, x, hx, e⟩ := h.cod c hc
    have hle := List.length_filter_le (hasCode c.code) l
    obtain ⟨b1, b2, _⟩ := secs_small hs (by unfold codedOf; omega) (fun y hy => hd y (List.mem_filter.1 hy).1)
    have := (hl x hx).code
    refine ⟨by omega, ?_, b2⟩
    unfold codedOf at b1
    omega
  · have h2 := parts_le hlen hd _ p1
    have h3 := sumC_le l ((sortedCods cs).map (·.1)) (by rw [p4]; exact (List.mergeSort_perm _ _).nodup_iff.2 h.nodup)
    rw [mhBytes, List.length_append, le4_len]
    omega

set_option maxRecDepth 100000 in
theorem IxBytes_mh (l : Ents) (hl : ∀ x ∈ l, x.1.Ok) (ho : ∀ x ∈ l, 0 ≤ x.2 ∧ x.2 < 18446744073709551616) (hlen : l.length ≤ 100) (A : Option Addr) (cap : Nat) (w : World) (hR : RowsAt w A l) :
    Calls Tryz.prog 10 #[.slice A l.length cap, .int .u64 1025] w fun e w' => (∃ s, e = .returned (.tuple #[.string s, .bool true]) ∧ ∃ cs, CodsFor l cs ∧ s = sOf (Lib.uvarint 1025 ++ mhBytes (sortedCods cs))) ∧ Below w.heap.size w w' := by
  have hI := indexBytes_gen 1025 mhT 190 (.inr rfl) l hl (by omega) A cap w hR (fun W a => ∃ mk, w.heap.size ≤ mk ∧ a.block ≠ mk ∧ MhAt W a mk []) (fun W a => ∃ mk cs, MhAt W a mk cs ∧ CodsFor l cs)
    (fun e => ∀ s, e = .returned (.tuple #[.string s, .bool true]) → ∃ cs, CodsFor l cs ∧ s = sOf (Lib.uvarint 1025 ++ mhBytes (sortedCods cs)))
    ((New_mh w).mono fun e w' ⟨ax, mx, h1, h2, h3, h4, h5, h6⟩ => ⟨_, h1, ⟨mx, h4, h5, h2⟩, h6⟩)
    (fun W W' a ⟨mk, h1, h2, h3⟩ hb => ⟨mk, h1, h2, h3.kp (S := fun _ => False) (Kp.of_below hb) id id (by simp)⟩)
    method_LoadC
    (fun W a A' cap' ⟨mk, h1, h2, h3⟩ hRec => (MhLoad_ok a mk cap' A' l hl ho (by omega) W h3 h2 hRec).mono fun e w' ⟨e1, ⟨cs, s1, s2, s3⟩, hK⟩ => ⟨e1, ⟨mk, cs, s3, s1⟩, hK.mono fun i e => .inl (by subst e; exact h1)⟩)
    (fun W a ⟨mk, cs, h1, h2⟩ => by
      obtain ⟨b1, b2, b3, b4⟩ := cods_small h2 hl hlen
      refine (written_mh mk 1000000 a cs W bigSort_32 bigSort_64 (by omega) h1 (fun c hc => by obtain ⟨d1, d2, d3⟩ := b2 c hc; exact ⟨by omega, by omega, by omega, d3⟩) (by omega) (by unfold mhBytes at b4; rw [List.length_append] at b4; omega)).mono ?_
      rintro e w' ⟨rfl, hb⟩
      exact ⟨⟨_, rfl, fun s hs => ⟨cs, h2, by cases hs; rw [mhBytes, b3]⟩⟩, hb⟩)
  clear hR
  go_enter Tryz.func10, Tryz.ntmps10
  go_wp2_with fail
  refine hI.mono ?_
  rintro e w1 ⟨⟨s, rfl, hQ⟩, hb⟩
  have HQ := Lib.hid (And.intro (hQ s rfl) hb)
  clear hQ hb
  go_wp2_with fail
  go_ret2
  exact ⟨⟨s, rfl, HQ.out.1⟩, HQ.out.2⟩
end Go.Proofs.YtobdjcnojbnegaaGreatDoor

/- What the guards say: tidy identifiers, entries, sizes. -/
namespace Go.Proofs.YtobdjcnojbnegaaGreatDoor
open Go.RowKit
set_option linter.unusedVariables false
set_option linter.unusedSimpArgs false
attribute [local go_sem] setCell_drewN alloc_drewN

def CidOf.agg (c : CidOf) : Value := .agg #[.int .u64 c.ver, .int .u64 c.codec, .int .u64 c.code, .string (sOf c.dig)]

def tidyB (v x y n : Nat) : Bool := decide (v = 0 ∧ x = 112 ∧ y = 18 ∧ n = 32 ∨ v = 1 ∧ x < 9223372036854775808 ∧ y < 9223372036854775808)
theorem tidyB_t {v x y n : Nat} (h : v = 0 ∧ x = 112 ∧ y = 18 ∧ n = 32 ∨ v = 1 ∧ x < 9223372036854775808 ∧ y < 9223372036854775808) : Ending.returned (Value.bool true) = Ending.returned (Value.bool (tidyB v x y n)) := by rw [tidyB, decide_eq_true h]
theorem tidyB_f {v x y n : Nat} (h : ¬ (v = 0 ∧ x = 112 ∧ y = 18 ∧ n = 32 ∨ v = 1 ∧ x < 9223372036854775808 ∧ y < 9223372036854775808)) : Ending.returned (Value.bool false) = Ending.returned (Value.bool (tidyB v x y n)) := by rw [tidyB, decide_eq_false h]
theorem tidyB_n {v x y n : Nat} (h1 : (v : Int) = 0) (h2 : (x : Int) = 112) (h3 : (y : Int) = 18) : Ending.returned (Value.bool ((n : Int) == 32)) = Ending.returned (Value.bool (tidyB v x y n)) := by
  by_cases h : n = 32
  · subst h; exact tidyB_t (by omega)
  · have e : ((n : Int) == 32) = false := beq_eq_false_iff_ne.2 (by omega)
    rw [e]; exact tidyB_f (by omega)

set_option maxRecDepth 100000 in
set_option maxHeartbeats 3200000 in
theorem Tidy_ok (c : CidOf) (w : World) :
    Calls Tryz.prog 9 #[c.agg] w fun e w' => e = .returned (.bool (tidyB c.ver c.codec c.code c.dig.length)) ∧ Below w.heap.size w w' := by
  have hss : (sOf c.dig).size = c.dig.length := rfl
  show Calls Tryz.prog 9 #[.agg #[.int .u64 c.ver, .int .u64 c.codec, .int .u64 c.code, .string (sOf c.dig)]] w _
  generalize sOf c.dig = s at *
  generalize hv : c.ver = v at *
  generalize hc : c.codec = x at *
  generalize hd : c.code = y at *
  generalize hl : c.dig.length = n at *
  clear hv hc hd hl
  by_cases h0 : (v : Int) = 0
  · by_cases h1 : (x : Int) = 112
    · by_cases h2 : (y : Int) = 18
      · (go_enter Tryz.func9, Tryz.ntmps9; go_wp2_with fail; go_ret; exact ⟨tidyB_n h0 h1 h2, by (repeat (first | (with_reducible exact Below.refl _ _) | (with_reducible exact below_boxed _ _) | (with_reducible refine below_box ?_ _) | (with_reducible refine below_drew1 ?_) | (with_reducible refine below_drewn ?_ _) | (with_reducible refine below_bytes ?_ _ _) | (with_reducible refine below_next ?_ (by assumption)) | (with_reducible refine below_set ?_ (by first | (simp; done) | (simp; omega) | omega) _)))⟩)
      · go_enter Tryz.func9, Tryz.ntmps9; go_wp2_with fail; go_ret; first | exact ⟨tidyB_t (by omega), by (repeat (first | (with_reducible exact Below.refl _ _) | (with_reducible exact below_boxed _ _) | (with_reducible refine below_box ?_ _) | (with_reducible refine below_drew1 ?_) | (with_reducible refine below_drewn ?_ _) | (with_reducible refine below_bytes ?_ _ _) | (with_reducible refine below_next ?_ (by assumption)) | (with_reducible refine below_set ?_ (by first | (simp; done) | (simp; omega) | omega) _)))⟩ | exact ⟨tidyB_f (by omega), by (repeat (first | (with_reducible exact Below.refl _ _) | (with_reducible exact below_boxed _ _) | (with_reducible refine below_box ?_ _) | (with_reducible refine below_drew1 ?_) | (with_reducible refine below_drewn ?_ _) | (with_reducible refine below_bytes ?_ _ _) | (with_reducible refine below_next ?_ (by assumption)) | (with_reducible refine below_set ?_ (by first | (simp; done) | (simp; omega) | omega) _)))⟩
    · go_enter Tryz.func9, Tryz.ntmps9; go_wp2_with fail; go_ret; first | exact ⟨tidyB_t (by omega), by (repeat (first | (with_reducible exact Below.refl _ _) | (with_reducible exact below_boxed _ _) | (with_reducible refine below_box ?_ _) | (with_reducible refine below_drew1 ?_) | (with_reducible refine below_drewn ?_ _) | (with_reducible refine below_bytes ?_ _ _) | (with_reducible refine below_next ?_ (by assumption)) | (with_reducible refine below_set ?_ (by first | (simp; done) | (simp; omega) | omega) _)))⟩ | exact ⟨tidyB_f (by omega), by (repeat (first | (with_reducible exact Below.refl _ _) | (with_reducible exact below_boxed _ _) | (with_reducible refine below_box ?_ _) | (with_reducible refine below_drew1 ?_) | (with_reducible refine below_drewn ?_ _) | (with_reducible refine below_bytes ?_ _ _) | (with_reducible refine below_next ?_ (by assumption)) | (with_reducible refine below_set ?_ (by first | (simp; done) | (simp; omega) | omega) _)))⟩
  · by_cases h1 : (v : Int) = 1
    · by_cases h2 : (x : Int) < 9223372036854775808
      · by_cases h3 : (y : Int) < 9223372036854775808
        all_goals (go_enter Tryz.func9, Tryz.ntmps9; go_wp2_with fail; go_ret; first | exact ⟨tidyB_t (by omega), by (repeat (first | (with_reducible exact Below.refl _ _) | (with_reducible exact below_boxed _ _) | (with_reducible refine below_box ?_ _) | (with_reducible refine below_drew1 ?_) | (with_reducible refine below_drewn ?_ _) | (with_reducible refine below_bytes ?_ _ _) | (with_reducible refine below_next ?_ (by assumption)) | (with_reducible refine below_set ?_ (by first | (simp; done) | (simp; omega) | omega) _)))⟩ | exact ⟨tidyB_f (by omega), by (repeat (first | (with_reducible exact Below.refl _ _) | (with_reducible exact below_boxed _ _) | (with_reducible refine below_box ?_ _) | (with_reducible refine below_drew1 ?_) | (with_reducible refine below_drewn ?_ _) | (with_reducible refine below_bytes ?_ _ _) | (with_reducible refine below_next ?_ (by assumption)) | (with_reducible refine below_set ?_ (by first | (simp; done) | (simp; omega) | omega) _)))⟩)
      · go_enter Tryz.func9, Tryz.ntmps9; go_wp2_with fail; go_ret; first | exact ⟨tidyB_t (by omega), by (repeat (first | (with_reducible exact Below.refl _ _) | (with_reducible exact below_boxed _ _) | (with_reducible refine below_box ?_ _) | (with_reducible refine below_drew1 ?_) | (with_reducible refine below_drewn ?_ _) | (with_reducible refine below_bytes ?_ _ _) | (with_reducible refine below_next ?_ (by assumption)) | (with_reducible refine below_set ?_ (by first | (simp; done) | (simp; omega) | omega) _)))⟩ | exact ⟨tidyB_f (by omega), by (repeat (first | (with_reducible exact Below.refl _ _) | (with_reducible exact below_boxed _ _) | (with_reducible refine below_box ?_ _) | (with_reducible refine below_drew1 ?_) | (with_reducible refine below_drewn ?_ _) | (with_reducible refine below_bytes ?_ _ _) | (with_reducible refine below_next ?_ (by assumption)) | (with_reducible refine below_set ?_ (by first | (simp; done) | (simp; omega) | omega) _)))⟩
    · go_enter Tryz.func9, Tryz.ntmps9; go_wp2_with fail; go_ret; first | exact ⟨tidyB_t (by omega), by (repeat (first | (with_reducible exact Below.refl _ _) | (with_reducible exact below_boxed _ _) | (with_reducible refine below_box ?_ _) | (with_reducible refine below_drew1 ?_) | (with_reducible refine below_drewn ?_ _) | (with_reducible refine below_bytes ?_ _ _) | (with_reducible refine below_next ?_ (by assumption)) | (with_reducible refine below_set ?_ (by first | (simp; done) | (simp; omega) | omega) _)))⟩ | exact ⟨tidyB_f (by omega), by (repeat (first | (with_reducible exact Below.refl _ _) | (with_reducible exact below_boxed _ _) | (with_reducible refine below_box ?_ _) | (with_reducible refine below_drew1 ?_) | (with_reducible refine below_drewn ?_ _) | (with_reducible refine below_bytes ?_ _ _) | (with_reducible refine below_next ?_ (by assumption)) | (with_reducible refine below_set ?_ (by first | (simp; done) | (simp; omega) | omega) _)))⟩

def fitB (n : Nat) : Bool := decide (n ≤ 2147483647)
set_option maxRecDepth 100000 in
set_option maxHeartbeats 3200000 in
theorem zzFits1_ok (c : CidOf) (w : World) :
    Calls Tryz.prog 7 #[c.agg] w fun e w' => e = .returned (.bool (fitB c.dig.length)) ∧ Below w.heap.size w w' := by
  have hss : (sOf c.dig).size = c.dig.length := rfl
  show Calls Tryz.prog 7 #[.agg #[.int .u64 c.ver, .int .u64 c.codec, .int .u64 c.code, .string (sOf c.dig)]] w _
  generalize sOf c.dig = s at *
  generalize c.dig.length = n at *
  by_cases h1 : (2147483647 : Int) < (n : Int)
  all_goals (go_enter Tryz.func7, Tryz.ntmps7; go_wp2_with fail; go_ret)
  · exact ⟨by have h3 : ¬ n ≤ 2147483647 := by omega
              simp [fitB, h3], by (repeat (first | (with_reducible exact Below.refl _ _) | (with_reducible exact below_boxed _ _) | (with_reducible refine below_box ?_ _) | (with_reducible refine below_drew1 ?_) | (with_reducible refine below_drewn ?_ _) | (with_reducible refine below_bytes ?_ _ _) | (with_reducible refine below_next ?_ (by assumption)) | (with_reducible refine below_set ?_ (by first | (simp; done) | (simp; omega) | omega) _)))⟩
  · exact ⟨by have h3 : n ≤ 2147483647 := by omega
              simp [fitB, h3], by (repeat (first | (with_reducible exact Below.refl _ _) | (with_reducible exact below_boxed _ _) | (with_reducible refine below_box ?_ _) | (with_reducible refine below_drew1 ?_) | (with_reducible refine below_drewn ?_ _) | (with_reducible refine below_bytes ?_ _ _) | (with_reducible refine below_next ?_ (by assumption)) | (with_reducible refine below_set ?_ (by first | (simp; done) | (simp; omega) | omega) _)))⟩

set_option maxRecDepth 100000 in
set_option maxHeartbeats 3200000 in
theorem zzFits8_ok (c : CidOf) (off : Int) (w : World) :
    Calls Tryz.prog 19 #[.agg #[.int .u64 c.ver, .int .u64 c.codec, .int .u64 c.code, .string (sOf c.dig), .int .u64 off]] w fun e w' => e = .returned (.bool (fitB c.dig.length)) ∧ Below w.heap.size w w' := by
  have hF := fun W => zzFits1_ok c W
  have hag : c.agg = .agg #[.int .u64 c.ver, .int .u64 c.codec, .int .u64 c.code, .string (sOf c.dig)] := rfl
  rw [hag] at hF
  clear hag
  generalize fitB c.dig.length = b at *
  generalize sOf c.dig = s at *
  cases b
  all_goals (go_enter Tryz.func19, Tryz.ntmps19)
  all_goals (go_wp2_with fail)
  all_goals (refine (hF _).mono ?_; rintro e w1 ⟨rfl, hb1⟩)
  all_goals (go_wp2_with fail)
  all_goals go_ret
  all_goals exact ⟨rfl, by (repeat (first | (with_reducible exact Below.refl _ _) | (with_reducible exact below_boxed _ _) | (with_reducible refine below_box ?_ _) | (with_reducible refine below_drew1 ?_) | (with_reducible refine below_drewn ?_ _) | (with_reducible refine below_bytes ?_ _ _) | (with_reducible refine below_next ?_ (by assumption)) | (with_reducible refine below_set ?_ (by first | (simp; done) | (simp; omega) | omega) _)))⟩

set_option maxRecDepth 100000 in
set_option maxHeartbeats 3200000 in
theorem zzFits7_ok (l : List (CidOf × Int)) (A : Option Addr) (cap : Nat) (w : World) (hR : RowsAt w A l) (hlen : l.length ≤ 9223372036854775807) (hcap : l.length ≤ cap) :
    Calls Tryz.prog 6 #[.slice A l.length cap] w fun e w' => ∃ b, e = .returned (.bool b) ∧ Below w.heap.size w w' := by
  by_cases hbig : (2147483647 : Int) < (l.length : Int)
  · go_enter Tryz.func6, Tryz.ntmps6
    go_wp2_with fail
    go_ret
    exact ⟨_, rfl, Below.refl _ _⟩
  go_enter Tryz.func6, Tryz.ntmps6
  go_wp2_with fail
  go_loopw [10] (fun vi wr => ∃ k : Nat, k ≤ l.length ∧ vi = .int .i64 k ∧ Below w.heap.size w wr) (fun vi _ => l.length - (intOf vi).toNat)
  case atStart => exact ⟨0, Nat.zero_le _, rfl, Below.refl _ _⟩
  case round =>
    obtain ⟨k, hk, rfl, hbw⟩ := hrel
    by_cases hlt : k < l.length
    · have hx := List.getElem?_eq_getElem hlt
      generalize l[k] = x at hx
      obtain ⟨g0, o, rfl, hg0, c0, c1, c2, c3, c4⟩ := hR.row hbw hx
      have hF := fun W => zzFits8_ok x.1 x.2 W
      have hsz := hbw.size
      have hglt : g0 < wr.heap.size := by omega
      generalize sOf x.1.dig = s at *
      generalize fitB x.1.dig.length = b at *
      go_wp2_with fail
      refine (hF _).mono ?_
      rintro e w2 ⟨rfl, hb2⟩
      have hb3 : Below w.heap.size w w2 := by
        have hbx : Below wr.heap.size wr (wr.alloc (.cells #[.int .u64 x.1.ver, .int .u64 x.1.codec, .int .u64 x.1.code, .string s, .int .u64 x.2] 40)) := below_boxed wr _
        exact hbw.trans ((below_next hbx hb2).mono hsz)
      cases b with
      | false =>
        go_wp2_with fail
        go_ret
        exact ⟨_, rfl, hb3⟩
      | true =>
        go_wp2_with fail
        go_roundw
        case rel => exact ⟨k + 1, by omega, by go_num, hb3⟩
        case measure => simp [intOf]; omega
    · obtain rfl : k = l.length := by omega
      go_wp2_with fail
      go_ret
      exact ⟨_, rfl, hbw⟩

/-- What ixGood says of entries. -/
def Good (l : List (CidOf × Int)) (kind : Nat) : Prop := l.length ≤ 100 ∧ (kind = 1024 ∨ kind = 1025) ∧ ∀ x ∈ l, x.1.dig.length ≤ 200 ∧ tidyB x.1.ver x.1.codec x.1.code x.1.dig.length = true
theorem good_ok {c : CidOf} (h : c.dig.length ≤ 200 ∧ tidyB c.ver c.codec c.code c.dig.length = true) : c.Ok := by
  have ht := of_decide_eq_true h.2
  exact ⟨by omega, by omega, by omega, h.1⟩
set_option maxRecDepth 100000 in
set_option maxHeartbeats 3200000 in
theorem ixGood_ok (l : List (CidOf × Int)) (A : Option Addr) (cap kind : Nat) (w : World) (hR : RowsAt w A l) (hlen : l.length ≤ 9223372036854775807) (hcap : l.length ≤ cap) :
    Calls Tryz.prog 8 #[.slice A l.length cap, .int .u64 (kind : Int)] w fun e w' => (e = .returned (.bool false) ∨ (e = .returned (.bool true) ∧ Good l kind)) ∧ Below w.heap.size w w' := by
  by_cases hbig : (100 : Int) < (l.length : Int)
  · go_enter Tryz.func8, Tryz.ntmps8
    go_wp2_with fail
    go_ret
    exact ⟨.inl rfl, Below.refl _ _⟩
  by_cases hk0 : kind = 1024
  · subst hk0
    go_enter Tryz.func8, Tryz.ntmps8
    go_wp2_with fail
    go_loopw [20] (fun vi wr => ∃ k : Nat, k ≤ l.length ∧ vi = .int .i64 (k : Int) ∧ Below w.heap.size w wr ∧ ∀ x ∈ l.take k, x.1.dig.length ≤ 200 ∧ tidyB x.1.ver x.1.codec x.1.code x.1.dig.length = true) (fun vi _ => l.length - (intOf vi).toNat)
    case atStart => exact ⟨0, Nat.zero_le _, rfl, Below.refl _ _, fun x hx => by simp at hx⟩
    case round =>
      obtain ⟨k, hk, rfl, hbw, hal⟩ := hrel
      have HA := Lib.hid hal
      clear hal
      by_cases hlt : k < l.length
      · have hx := List.getElem?_eq_getElem hlt
        generalize l[k] = x at hx
        obtain ⟨g0, o, rfl, hg0, c0, c1, c2, c3, c4⟩ := hR.row hbw hx
        have hT := fun W => Tidy_ok x.1 W
        have hag : x.1.agg = .agg #[.int .u64 x.1.ver, .int .u64 x.1.codec, .int .u64 x.1.code, .string (sOf x.1.dig)] := rfl
        rw [hag] at hT
        have htk : l.take (k + 1) = l.take k ++ [x] := by rw [List.take_succ_eq_append_getElem hlt, (List.getElem?_eq_some_iff.1 hx).2]
        have HTK := Lib.hid htk
        have hsz := hbw.size
        have hglt : g0 < wr.heap.size := by omega
        have hss : (sOf x.1.dig).size = x.1.dig.length := rfl
        have HD := Lib.hid hss
        generalize hn : x.1.dig.length = n at *
        generalize sOf x.1.dig = s at *
        generalize htb : tidyB x.1.ver x.1.codec x.1.code n = tb at *
        have HN := Lib.hid (And.intro hn htb)
        have hbx : Below w.heap.size w (wr.alloc (.cells #[.int .u64 x.1.ver, .int .u64 x.1.codec, .int .u64 x.1.code, .string s, .int .u64 x.2] 40)) := below_box hbw _
        clear htk hx hag hn htb
        by_cases h200 : (200 : Int) < (n : Int)
        · go_wp2_with fail
          go_ret
          exact ⟨.inl rfl, hbx⟩
        · cases tb with
          | false =>
            go_wp2_with fail
            refine (hT _).mono ?_
            rintro e w2 ⟨rfl, hb2⟩
            have hb3 : Below w.heap.size w w2 := below_next hbx hb2
            clear hb2 hbx
            go_wp2_with fail
            go_ret
            exact ⟨.inl rfl, hb3⟩
          | true =>
            go_wp2_with fail
            refine (hT _).mono ?_
            rintro e w2 ⟨rfl, hb2⟩
            have hb3 : Below w.heap.size w w2 := below_next hbx hb2
            clear hb2 hbx
            go_wp2_with fail
            go_roundw
            case rel => exact ⟨k + 1, by omega, by go_num, hb3, fun y hy => by
              rw [HTK.out] at hy
              rcases List.mem_append.1 hy with hy | hy
              · exact HA.out y hy
              · simp only [List.mem_singleton] at hy
                subst hy
                rw [HN.out.1]
                exact ⟨by omega, HN.out.2⟩⟩
            case measure => simp [intOf]; omega
      · obtain rfl : k = l.length := by omega
        go_wp2_with fail
        go_ret
        exact ⟨.inr ⟨rfl, by omega, by simp, by have := HA.out; rwa [List.take_length] at this⟩, hbw⟩
  by_cases hk1 : kind = 1025
  · subst hk1
    go_enter Tryz.func8, Tryz.ntmps8
    go_wp2_with fail
    go_loopw [20] (fun vi wr => ∃ k : Nat, k ≤ l.length ∧ vi = .int .i64 (k : Int) ∧ Below w.heap.size w wr ∧ ∀ x ∈ l.take k, x.1.dig.length ≤ 200 ∧ tidyB x.1.ver x.1.codec x.1.code x.1.dig.length = true) (fun vi _ => l.length - (intOf vi).toNat)
    case atStart => exact ⟨0, Nat.zero_le _, rfl, Below.refl _ _, fun x hx => by simp at hx⟩
    case round =>
      obtain ⟨k, hk, rfl, hbw, hal⟩ := hrel
      have HA := Lib.hid hal
      clear hal
      by_cases hlt : k < l.length
      · have hx := List.getElem?_eq_getElem hlt
        generalize l[k] = x at hx
        obtain ⟨g0, o, rfl, hg0, c0, c1, c2, c3, c4⟩ := hR.row hbw hx
        have hT := fun W => Tidy_ok x.1 W
        have hag : x.1.agg = .agg #[.int .u64 x.1.ver, .int .u64 x.1.codec, .int .u64 x.1.code, .string (sOf x.1.dig)] := rfl
        rw [hag] at hT
        have htk : l.take (k + 1) = l.take k ++ [x] := by rw [List.take_succ_eq_append_getElem hlt, (List.getElem?_eq_some_iff.1 hx).2]
        have HTK := Lib.hid htk
        have hsz := hbw.size
        have hglt : g0 < wr.heap.size := by omega
        have hss : (sOf x.1.dig).size = x.1.dig.length := rfl
        have HD := Lib.hid hss
        generalize hn : x.1.dig.length = n at *
        generalize sOf x.1.dig = s at *
        generalize htb : tidyB x.1.ver x.1.codec x.1.code n = tb at *
        have HN := Lib.hid (And.intro hn htb)
        have hbx : Below w.heap.size w (wr.alloc (.cells #[.int .u64 x.1.ver, .int .u64 x.1.codec, .int .u64 x.1.code, .string s, .int .u64 x.2] 40)) := below_box hbw _
        clear htk hx hag hn htb
        by_cases h200 : (200 : Int) < (n : Int)
        · go_wp2_with fail
          go_ret
          exact ⟨.inl rfl, hbx⟩
        · cases tb with
          | false =>
            go_wp2_with fail
            refine (hT _).mono ?_
            rintro e w2 ⟨rfl, hb2⟩
            have hb3 : Below w.heap.size w w2 := below_next hbx hb2
            clear hb2 hbx
            go_wp2_with fail
            go_ret
            exact ⟨.inl rfl, hb3⟩
          | true =>
            go_wp2_with fail
            refine (hT _).mono ?_
            rintro e w2 ⟨rfl, hb2⟩
            have hb3 : Below w.heap.size w w2 := below_next hbx hb2
            clear hb2 hbx
            go_wp2_with fail
            go_roundw
            case rel => exact ⟨k + 1, by omega, by go_num, hb3, fun y hy => by
              rw [HTK.out] at hy
              rcases List.mem_append.1 hy with hy | hy
              · exact HA.out y hy
              · simp only [List.mem_singleton] at hy
                subst hy
                rw [HN.out.1]
                exact ⟨by omega, HN.out.2⟩⟩
            case measure => simp [intOf]; omega
      · obtain rfl : k = l.length := by omega
        go_wp2_with fail
        go_ret
        exact ⟨.inr ⟨rfl, by omega, by simp, by have := HA.out; rwa [List.take_length] at this⟩, hbw⟩
  have h0 : ((kind : Int) == 1024) = false := by simp; omega
  have h1 : ((kind : Int) == 1025) = false := by simp; omega
  clear hk0 hk1
  go_enter Tryz.func8, Tryz.ntmps8
  go_wp2_with fail
  all_goals first | (go_ret; exact ⟨.inl rfl, Below.refl _ _⟩) | (exfalso; omega) | (exfalso; rename_i hbad; simp_all; done)
end Go.Proofs.YtobdjcnojbnegaaGreatDoor
