import Derived.Test.YtobdjcnojbnegaaGreatDoorG13
import Derived.Test.YtobdjcnojbnegaaGreatDoorG30
import Derived.Test.YtobdjcnojbnegaaGreatDoorG17
import Derived.Test.YtobdjcnojbnegaaGreatDoorG11
/- IxAll at 0x0401. -/
namespace Go.Proofs.YtobdjcnojbnegaaGreatDoor
open Go.RowKit
set_option linter.unusedVariables false
set_option linter.unusedSimpArgs false
attribute [local go_sem] setCell_drewN alloc_drewN

theorem method_GetAllC (v : Value) (w : World) : (method 471 mhT v "GetAll").run Tryz.prog w = .ok (189, v) w := by kernel_rfl

set_option maxRecDepth 100000 in
set_option maxHeartbeats 3200000 in
theorem offsets_mh (s : ByteArray) (ss : List (Nat × List (Nat × List UInt8))) (rest : List UInt8) (hs : s.data.toList = Lib.uvarint 1025 ++ (mhBytes ss ++ rest)) (hw : ∀ p ∈ ss, p.1 < 18446744073709551616 ∧ (∀ x ∈ p.2, 8 ≤ x.1 ∧ x.1 ≤ 33554432 ∧ ∃ n, x.2.length = n * x.1 ∧ n ≤ 1000000) ∧ (p.2.map (·.1)).Nodup) (hnd : (ss.map (·.1)).Nodup)
    (hl : s.size ≤ 16777216) (c : CidOf) (hc : c.Ok) (most : Nat) (hm : 1 ≤ most) (p : Addr) (w : World) (hg5 : 0 < w.heap.size) (he : w.cell? ⟨0, 0, none⟩ = some (.iface 168 (.pointer (some p)))) :
    Calls Tryz.prog 21 #[.string s, .agg #[.int .u64 c.ver, .int .u64 c.codec, .int .u64 c.code, .string (sOf c.dig)], .int .i64 (most : Int)] w fun e w' =>
      ∃ v M, e = .returned (.tuple #[v, .int .u8 (whyOf M)]) ∧ TellsC ss c.code c.dig M ∧ OutOf w' w.heap.size v (M.take most) ∧ Below w.heap.size w w' := by
  have hsz : s.size = s.data.toList.length := by rw [Array.length_toList]; rfl
  generalize hS : s.data.toList = bs at *
  have HS := Lib.hid hS; clear hS
  have HZ := Lib.hid hsz
  have hl' : bs.length ≤ 16777216 := by omega
  have hp : 0 < bs.length := by rw [hs, List.length_append, uv1025]; simp; omega
  clear hl hsz
  have HB := Lib.hid hs; clear hs
  have hme := method_GetAllC
  have hmf : ∀ (fn : Fn) (first cap : Array Value) (w : World), (Instr.makeFunc fn first cap).run Tryz.prog w = .ok (.func fn first cap) w := fun _ _ _ _ => rfl
  go_enter Tryz.func21, Tryz.ntmps21
  go_wp2_with (with_reducible refine conv_event rfl (.tmp 14) 9 65 5 rfl Tryz.underlying9 Tryz.underlying65 Tryz.underlying5 s rfl ?_)
  intro g0 cap0 w0 hg0 hcap0 hb0 hA0 hB0
  refine later ?_
  have hwA : Below w.heap.size w ((w.alloc (.cells #[.int .u64 (c.ver : Int), .int .u64 (c.codec : Int), .int .u64 (c.code : Int), .string (sOf c.dig)] 25)).alloc (.cells #[.int .i64 (most : Int)] 3)) := by (repeat (first | (with_reducible exact Below.refl _ _) | (with_reducible exact below_boxed _ _) | (with_reducible refine below_box ?_ _) | (with_reducible refine below_drew1 ?_) | (with_reducible refine below_drewn ?_ _) | (with_reducible refine below_bytes ?_ _ _) | (with_reducible refine below_next ?_ (by assumption)) | (with_reducible refine below_set ?_ (by first | (simp; done) | (simp; omega) | omega) _)))
  have hA1 := heap_alloc_last w (.cells #[.int .u64 (c.ver : Int), .int .u64 (c.codec : Int), .int .u64 (c.code : Int), .string (sOf c.dig)] 25)
  have hA2 := heap_alloc_last (w.alloc (.cells #[.int .u64 (c.ver : Int), .int .u64 (c.codec : Int), .int .u64 (c.code : Int), .string (sOf c.dig)] 25)) (.cells #[.int .i64 (most : Int)] 3)
  have hsz1 : (w.alloc (.cells #[.int .u64 (c.ver : Int), .int .u64 (c.codec : Int), .int .u64 (c.code : Int), .string (sOf c.dig)] 25)).heap.size = w.heap.size + 1 := by simp
  rw [hsz1] at hA2
  have hcb : w0.heap[w.heap.size]? = some (.cells #[.int .u64 (c.ver : Int), .int .u64 (c.codec : Int), .int .u64 (c.code : Int), .string (sOf c.dig)] 25 (0, 0)) := (hb0.block _ (by omega)).trans ((heap_alloc_old _ _ (by simp)).trans hA1)
  have hmb : w0.heap[w.heap.size + 1]? = some (.cells #[.int .i64 (most : Int)] 3 (0, 0)) := (hb0.block _ (by omega)).trans hA2
  have hbw0 : Below w.heap.size w w0 := hwA.trans (hb0.mono (by omega))
  have hgz : g0 < w0.heap.size := by
    rw [HS.out] at hA0
    rcases hA0 with h | ⟨g, o, e, hc⟩
    · rw [h] at hp; simp at hp
    · cases e
      exact World.block_lt_of_cell? w0 _ (hc 0 bs[0] (List.getElem?_eq_getElem hp))
  rw [HS.out] at hA0
  rw [HZ.out] at hcap0
  have hg0' : w.heap.size + 1 < g0 := by omega
  have hNR := NewReader_ok (some ⟨g0, 0, none⟩) cap0 bs w0 hA0 hcap0 (by omega) (fun g o e => by cases e; exact hgz)
  clear hA1 hA2 hsz1 hwA hb0 hA0 hB0 hg0
  rw [HZ.out]
  refine now ?_
  go_wp2_with fail
  refine hNR.mono ?_
  rintro e w1 ⟨rfl, hR1, hb1⟩
  have hz01 : w0.heap.size < w1.heap.size := hR1.blt
  have hRF := ReadFrom_mh w0.heap.size (some ⟨g0, 0, none⟩) cap0 bs ss rest (fun x hx => ⟨(hw x hx).1, fun y hy => ⟨((hw x hx).2.1 y hy).1, ((hw x hx).2.1 y hy).2.1⟩, (hw x hx).2.2⟩) hnd w1 hl' hR1 HB.out (fun g' o e => by cases e; omega)
  have hbw1 := hbw0.trans (hb1.mono hbw0.size)
  have hcb1 := (hb1.block _ (Array.getElem?_eq_some_iff.1 hcb).1).trans hcb
  have hmb1 := (hb1.block _ (Array.getElem?_eq_some_iff.1 hmb).1).trans hmb
  clear hNR hR1 hb1 hcb hmb
  go_wp2_with fail
  refine hRF.mono ?_
  clear hRF
  rintro e w2 ⟨a, mk, cs, rfl, _, hss, hM2, hgds, haz, hmz, hK2⟩
  have hcb2 := (hK2.block _ (Array.getElem?_eq_some_iff.1 hcb1).1 (by omega)).trans hcb1
  have hmb2 := (hK2.block _ (Array.getElem?_eq_some_iff.1 hmb1).1 (by omega)).trans hmb1
  have hbw2 : Below w.heap.size w w2 := hK2.to_below hbw1 (fun i hi => by omega)
  have hz12 := hK2.size
  have kc0 := (blk_cell' hcb2 0).trans (show _ = some (Value.int .u64 (c.ver : Int)) from rfl)
  have kc1 := (blk_cell' hcb2 1).trans (show _ = some (Value.int .u64 (c.codec : Int)) from rfl)
  have kc2 := (blk_cell' hcb2 2).trans (show _ = some (Value.int .u64 (c.code : Int)) from rfl)
  have kc3 := (blk_cell' hcb2 3).trans (show _ = some (Value.string (sOf c.dig)) from rfl)
  have hWh : ∀ x ∈ cs, Whole x.secs := by
    intro x hx s hs
    have := (hw x.two (by rw [← hss]; exact List.mem_map.2 ⟨x, hx, rfl⟩)).2.1 s.two (List.mem_map.2 ⟨s, hs, rfl⟩)
    exact ⟨this.1, this.2.1, this.2.2⟩
  have HSS := Lib.hid hss
  clear hK2 hcb1 hmb1 hbw1 hbw0 hw hnd hss
  go_wp2_with fail
  refine (cidIn_ok c hc w2).mono ?_
  rintro e w3 ⟨rfl, hb3⟩
  have hbX : Below w2.heap.size w2 ((w3.alloc (.cells #[.string c.str] 85)).alloc (.cells #[.slice none 0 0] 31)) := (by (repeat (first | (with_reducible exact Below.refl _ _) | (with_reducible exact below_boxed _ _) | (with_reducible refine below_box ?_ _) | (with_reducible refine below_drew1 ?_) | (with_reducible refine below_drewn ?_ _) | (with_reducible refine below_bytes ?_ _ _) | (with_reducible refine below_next ?_ (by assumption)) | (with_reducible refine below_set ?_ (by first | (simp; done) | (simp; omega) | omega) _))) : Below w2.heap.size w2 _)
  have hsz3 : (w3.alloc (.cells #[.string c.str] 85)).heap.size = w3.heap.size + 1 := by simp
  have hz3 := hb3.size
  have hMX := hM2.kp (S := fun _ => False) (Kp.of_below hbX) id id (fun _ _ => ⟨id, id, fun _ _ => id⟩)
  have hbwX : Below w.heap.size w ((w3.alloc (.cells #[.string c.str] 85)).alloc (.cells #[.slice none 0 0] 31)) := below_next hbw2 hbX
  have hOX : OutAt ((w3.alloc (.cells #[.string c.str] 85)).alloc (.cells #[.slice none 0 0] 31)) (w3.heap.size + 1) (w.heap.size + 1) most [] := by
    have h1 := heap_alloc_last (w3.alloc (.cells #[.string c.str] 85)) (.cells #[.slice none 0 0] 31)
    rw [hsz3] at h1
    refine ⟨⟨_, h1, World.ownsRow_nil _ _ _ _⟩, ?_, by omega⟩
    exact (blk_cell' ((hbX.block _ (Array.getElem?_eq_some_iff.1 hmb2).1).trans hmb2) 0).trans rfl
  have hgdX : ∀ x ∈ cs, ∀ s ∈ x.secs, s.gd ≠ w3.heap.size + 1 := fun x hx s hs => by have := (Array.getElem?_eq_some_iff.1 ((hM2.row x hx).mw.row s hs)).1; omega
  have heX := (hbwX.cell (p := ⟨0, 0, none⟩) hg5).trans he
  have hGA := MhGetAll_ok ⟨a, 0, none⟩ mk (w3.heap.size + 1) (w.heap.size + 1) most cs c hc 168 (.pointer (some p)) _ hMX hWh hOX hm hgdX (by omega) heX
  have HBW := Lib.hid hbwX
  clear hMX hOX hM2 hcb2 hmb2 kc0 kc1 kc2 kc3 hbX hbw2 hb3 hsz3
  go_wp2_with fail
  refine hGA.mono ?_
  clear hGA
  rintro e w4 ⟨M, hGA, hTe, hO4, hT4⟩
  rw [HSS.out] at hTe
  have hbw4 : Below w.heap.size w w4 := HBW.out.trans (hT4.bel.mono (by omega))
  have he4 := (hT4.bel.cell (p := ⟨0, 0, none⟩) (by show 0 < w3.heap.size + 1; omega)).trans heX
  obtain ⟨⟨v, hvb, hown⟩, _, _⟩ := hO4
  have kv := (blk_cell' hvb 0).trans (show _ = some v from rfl)
  have hownw : OutOf w4 w.heap.size v (M.take most) := own_mono hown (by omega)
  clear hT4 heX hvb hown
  by_cases hM0 : M = []
  · have hf := fun n => found_no p (w4.drewN n) he4
    rw [GotAll, if_pos hM0] at hGA
    subst hGA
    go_wp2_with fail
    go_quiet ((go_at_call 40; exact Calls.quiet_of_same ((hf _).mono fun e w1 h => ⟨h.1, h.2.symm⟩)))
    go_wp2_with fail
    go_ret2
    exact ⟨v, M, by rw [whyOf, if_pos hM0]; rfl, hTe, own_kp hownw (S := fun _ => False) ⟨rfl, rfl, rfl, Nat.le_refl _, fun _ _ _ => rfl⟩ (fun _ _ => id), below_drewn hbw4 _⟩
  · have hf := fun n => found_nil (w4.drewN n)
    rw [GotAll, if_neg hM0] at hGA
    subst hGA
    go_wp2_with fail
    go_quiet ((go_at_call 40; exact Calls.quiet_of_same ((hf _).mono fun e w1 h => ⟨h.1, h.2.symm⟩)))
    go_wp2_with fail
    go_ret2
    exact ⟨v, M, by rw [whyOf, if_neg hM0]; rfl, hTe, own_kp hownw (S := fun _ => False) ⟨rfl, rfl, rfl, Nat.le_refl _, fun _ _ _ => rfl⟩ (fun _ _ => id), below_drewn hbw4 _⟩

set_option maxRecDepth 100000 in
set_option maxHeartbeats 800000 in
theorem IxAll_mh (s : ByteArray) (ss : List (Nat × List (Nat × List UInt8))) (rest : List UInt8) (hs : s.data.toList = Lib.uvarint 1025 ++ (mhBytes ss ++ rest)) (hw : ∀ p ∈ ss, p.1 < 18446744073709551616 ∧ (∀ x ∈ p.2, 8 ≤ x.1 ∧ x.1 ≤ 33554432 ∧ ∃ n, x.2.length = n * x.1 ∧ n ≤ 1000000) ∧ (p.2.map (·.1)).Nodup) (hnd : (ss.map (·.1)).Nodup)
    (hl : s.size ≤ 16777216) (c : CidOf) (hc : c.Ok) (most : Nat) (hm : 1 ≤ most) (p : Addr) (w : World) (hg5 : 0 < w.heap.size) (he : w.cell? ⟨0, 0, none⟩ = some (.iface 168 (.pointer (some p)))) :
    Calls Tryz.prog 11 #[.string s, .agg #[.int .u64 c.ver, .int .u64 c.codec, .int .u64 c.code, .string (sOf c.dig)], .int .i64 (most : Int)] w fun e w' =>
      ∃ v M, e = .returned (.tuple #[v, .int .u8 (whyOf M)]) ∧ TellsC ss c.code c.dig M ∧ OutOf w' w.heap.size v (M.take most) ∧ Below w.heap.size w w' := by
  have hb0 : Below w.heap.size w (w.alloc (.cells #[.int .u64 (c.ver : Int), .int .u64 (c.codec : Int), .int .u64 (c.code : Int), .string (sOf c.dig)] 25)) := below_boxed w _
  have hO := offsets_mh s ss rest hs hw hnd hl c hc most hm p (w.alloc (.cells #[.int .u64 (c.ver : Int), .int .u64 (c.codec : Int), .int .u64 (c.code : Int), .string (sOf c.dig)] 25)) (by have := hb0.size; omega) ((hb0.cell (p := ⟨0, 0, none⟩) hg5).trans he)
  clear hs hw hnd he
  go_enter Tryz.func11, Tryz.ntmps11
  go_wp2_with fail
  refine hO.mono ?_
  clear hO
  rintro e w1 ⟨v, M, rfl, hT, hown, hb⟩
  go_wp2_with fail
  go_ret2
  exact ⟨v, M, rfl, hT, hown.mono hb0.size, hb0.trans (hb.mono hb0.size)⟩
end Go.Proofs.YtobdjcnojbnegaaGreatDoor

/- ixOne at 0x0401. -/
namespace Go.Proofs.YtobdjcnojbnegaaGreatDoor
open Go.RowKit
set_option linter.unusedVariables false
set_option linter.unusedSimpArgs false
attribute [local go_sem] setCell_drewN alloc_drewN

theorem parts_one {ss : List (Nat × List (Nat × List UInt8))} (hss : ss.map (·.1) = sortN (codesOf [(oneC, ((7 : Nat) : Int))])) (hPa : Parts [(oneC, ((7 : Nat) : Int))] ss) : ss = [(oneC.code, [(oneC.dig.length + 8, oneC.dig ++ Lib.leBytes 8 7)])] := by
  have hc : sortN (codesOf [(oneC, ((7 : Nat) : Int))]) = [oneC.code] := by
    have : codesOf [(oneC, ((7 : Nat) : Int))] = [oneC.code] := by simp [codesOf, codeStep]
    rw [this, sortN_tiny (by simp)]
  rw [hc] at hss
  obtain ⟨p, rfl⟩ : ∃ p, ss = [p] := by
    rcases ss with _ | ⟨p, _ | ⟨q, ss⟩⟩
    · simp at hss
    · exact ⟨p, rfl⟩
    · simp at hss
  · simp only [List.map_cons, List.map_nil, List.cons.injEq, and_true] at hss
    obtain ⟨l', hP, _, h2⟩ := hPa p List.mem_cons_self
    have hco : codedOf [(oneC, ((7 : Nat) : Int))] p.1 = [(oneC, ((7 : Nat) : Int))] := by rw [hss]; simp [codedOf, hasCode]
    rw [hco] at hP h2
    obtain rfl := List.perm_singleton.1 hP
    have hse : secsOf [(oneC, ((7 : Nat) : Int))] [(oneC, ((7 : Nat) : Int))] = [(oneC.dig.length + 8, oneC.dig ++ Lib.leBytes 8 7)] := by
      have hw : sortN (widthsOf [(oneC, ((7 : Nat) : Int))]) = [oneC.dig.length] := by
        have : widthsOf [(oneC, ((7 : Nat) : Int))] = [oneC.dig.length] := by simp [widthsOf, widthStep]
        rw [this, sortN_tiny (by simp)]
      rw [secsOf, hw]
      simp [rowsOf, hasLen]
    rw [hse] at h2
    obtain ⟨p1, p2⟩ := p
    simp only at hss h2
    rw [hss, h2]

set_option maxRecDepth 100000 in
set_option maxHeartbeats 3200000 in
theorem ixOne_mh (p : Addr) (w : World) (hg5 : 0 < w.heap.size) (he : w.cell? ⟨0, 0, none⟩ = some (.iface 168 (.pointer (some p)))) :
    Calls Tryz.prog 15 #[.int .u64 1025] w fun e w' => e = .returned (.bool true) ∧ Below w.heap.size w w' := by
  go_enter Tryz.func15, Tryz.ntmps15
  go_wp2_with fail
  refine (Fitting_id _ _).mono ?_
  rintro e w1 ⟨rfl, hb1⟩
  go_wp2_with fail
  obtain ⟨w2, hw2⟩ : ∃ w2, w2 = w1.alloc (.cells #[.int .u64 1, .int .u64 85, .int .u64 0, .string ⟨#[97]⟩, .int .u64 7] 40) := ⟨_, rfl⟩
  have hblk : w2.heap[w1.heap.size]? = some (.cells #[.int .u64 1, .int .u64 85, .int .u64 0, .string ⟨#[97]⟩, .int .u64 7] 40 (0, 0)) := by rw [hw2]; exact heap_alloc_new w1 _
  have hE2 : EntAt w2 w1.heap.size oneC 7 := ⟨blk_cell' hblk 0, blk_cell' hblk 1, blk_cell' hblk 2, blk_cell' hblk 3, blk_cell' hblk 4⟩
  have hb2 : Below w.heap.size w w2 := by rw [hw2]; exact below_box hb1 _
  rw [← hw2]
  generalize hge : w1.heap.size = ge at *
  have hI := IxBytes_mh1 ge 1 7 oneC oneC_ok (by decide) (by decide) w2 hE2
  have hol : (oneMh oneC.code oneC.dig 7).length = 39 := by
    simp [oneMh, mhBytes, codsBytes, codBytes, mwBytes, secsBytes, secBytes, le_length, uv1025, oneC]
  have hos : (sOf (oneMh oneC.code oneC.dig 7)).data.toList = Lib.uvarint 1025 ++ (mhBytes [(oneC.code, [(oneC.dig.length + 8, oneC.dig ++ Lib.leBytes 8 7)])] ++ []) := by rw [List.append_nil]; simp [sOf, oneMh]
  have hA : ∀ W, Below w.heap.size w W → Calls Tryz.prog 11 #[.string (sOf (oneMh oneC.code oneC.dig 7)), .agg #[.int .u64 1, .int .u64 85, .int .u64 0, .string ⟨#[97]⟩], .int .i64 9] W fun e w' =>
      ∃ q cq, e = .returned (.tuple #[.slice (some ⟨q, 0, none⟩) 1 cq, .int .u8 0]) ∧ w'.cell? ⟨q, 0, none⟩ = some (.int .u64 7) ∧ Below W.heap.size W w' := fun W hW => by
    refine (IxAll_mh (sOf (oneMh oneC.code oneC.dig 7)) _ [] hos (by
      intro x hx
      obtain rfl : x = (oneC.code, [(oneC.dig.length + 8, oneC.dig ++ Lib.leBytes 8 7)]) := by simpa using hx
      refine ⟨by decide, fun y hy => ?_, by simp⟩
      obtain rfl : y = (oneC.dig.length + 8, oneC.dig ++ Lib.leBytes 8 7) := by simpa using hy
      exact ⟨by decide, by decide, 1, by decide, by omega⟩) (by simp) (by rw [show (sOf (oneMh oneC.code oneC.dig 7)).size = 39 from by simp [sOf, ByteArray.size]; exact hol]; omega) oneC oneC_ok 9 (by omega) p W (by have := hW.size; omega) ((hW.cell (p := ⟨0, 0, none⟩) hg5).trans he)).mono ?_
    rintro e w' ⟨v, M, rfl, hT, hO, hb⟩
    have hT1 : Tells [(oneC.dig.length + 8, oneC.dig ++ Lib.leBytes 8 7)] oneC.dig M := by
      rcases hT with ⟨h, _⟩ | ⟨x, hx, _, h⟩
      · exact absurd rfl (h _ List.mem_cons_self)
      · obtain rfl : x = (oneC.code, [(oneC.dig.length + 8, oneC.dig ++ Lib.leBytes 8 7)]) := by simpa using hx
        exact h
    obtain rfl := tells_one (by decide) hT1
    rcases hO.2 with ⟨_, h⟩ | ⟨q, cq, cur, rfl, hq, hcur, h1, _, _, htk⟩
    · simp at h
    · refine ⟨q, cq, rfl, ?_, hb⟩
      exact World.ownsRow.cells hO (g := q) rfl 0 _ rfl
  have hX : ∀ W, Below w2.heap.size w2 W → Calls Tryz.prog 26 #[.slice (some ⟨ge, 0, none⟩) 1 1, .int .u64 1025] W fun e w' => e = .returned (.string (sOf (oneMh oneC.code oneC.dig 7))) ∧ Below W.heap.size W w' := fun W hW => by
    refine (IndexBytes_mh 1 stable_one [(oneC, ((7 : Nat) : Int))] (some ⟨ge, 0, none⟩) 1 W ((hE2.below hW).rows) (by decide) (by decide) (by decide) (by
      intro x hx
      obtain rfl : x = (oneC, ((7 : Nat) : Int)) := by simpa using hx
      decide) (by
      intro x hx
      obtain rfl : x = (oneC, ((7 : Nat) : Int)) := by simpa using hx
      decide) (by
      intro x hx
      obtain rfl : x = (oneC, ((7 : Nat) : Int)) := by simpa using hx
      decide)).mono ?_
    rintro e w' ⟨ss, hss, hPa, _, rfl, hb⟩
    obtain rfl := parts_one hss hPa
    exact ⟨rfl, hb⟩
  have HX := Lib.hid hX; have HA := Lib.hid hA
  generalize sOf (oneMh oneC.code oneC.dig 7) = S at *
  have hgelt := hE2.lt
  clear hX hA hos hol hge hw2 he
  refine hI.mono ?_
  clear hI
  rintro e w3 ⟨rfl, hb3⟩
  have hE3 := hE2.below hb3
  have k0 : w3.cell? ⟨ge, 0, none⟩ = some (.int .u64 1) := hE3.c0
  have k1 : w3.cell? ⟨ge, 1, none⟩ = some (.int .u64 85) := hE3.c1
  have k2 : w3.cell? ⟨ge, 2, none⟩ = some (.int .u64 0) := hE3.c2
  have k3 : w3.cell? ⟨ge, 3, none⟩ = some (.string ⟨#[97]⟩) := hE3.c3
  have hbw3 : Below w.heap.size w w3 := below_next hb2 hb3
  go_wp2_with fail
  refine (HA.out w3 hbw3).mono ?_
  rintro e w4 ⟨q, cq, rfl, hq, hb4⟩
  have hbw4 : Below w.heap.size w w4 := below_next hbw3 hb4
  have hb24 : Below w2.heap.size w2 w4 := below_next hb3 hb4
  have hqlt := World.block_lt_of_cell? w4 _ hq
  clear hb2 hb3 hb4 hblk hE2 hE3 k0 k1 k2 k3 hb1 hbw3
  go_wp2_with fail
  refine (HX.out w4 hb24).mono ?_
  rintro e w5 ⟨rfl, hb5⟩
  have hq5 := (hb5.cell (p := ⟨q, 0, none⟩) hqlt).trans hq
  have hbw5 : Below w.heap.size w w5 := below_next hbw4 hb5
  clear hq hb24 hbw4 hb5
  go_wp2_with fail
  go_ret
  exact ⟨rfl, hbw5⟩
end Go.Proofs.YtobdjcnojbnegaaGreatDoor

/- FnIxKindsAgree: the walk. -/
namespace Go.Proofs.YtobdjcnojbnegaaGreatDoor
open Go.RowKit
set_option linter.unusedVariables false
set_option linter.unusedSimpArgs false
attribute [local go_sem] setCell_drewN alloc_drewN

/-- What the two kinds tell of a digest. -/
theorem ask_sorted {l : Ents} {secs : List Sec} (h : SecsFor l secs) (hl : ∀ x ∈ l, x.1.Ok) (ho : ∀ x ∈ l, 0 ≤ x.2 ∧ x.2 < 18446744073709551616) (hlen : l.length ≤ 100) (c : CidOf) (hc : c.Ok) (p : Addr) (W : World) (hg5 : 0 < W.heap.size) (he : W.cell? ⟨0, 0, none⟩ = some (.iface 168 (.pointer (some p)))) :
    Calls Tryz.prog 11 #[.string (sOf (Lib.uvarint 1024 ++ mwBytes (sortedSecs secs))), .agg #[.int .u64 c.ver, .int .u64 c.codec, .int .u64 c.code, .string (sOf c.dig)], .int .i64 1000] W fun e w' => ∃ (v : Value) (os : List Nat) (y : Int), e = .returned (.tuple #[v, .int .u8 y]) ∧ os.Perm (offsOf l c.dig) ∧ OutOf w' W.heap.size v os ∧ Below W.heap.size W w' := by
  have hd : ∀ x ∈ l, x.1.dig.length ≤ 200 := fun x hx => (hl x hx).dig
  obtain ⟨l', hP, hS, e⟩ := h.one
  have hsm := (secs_small h hlen hd).2.2
  rw [e] at hsm ⊢
  have hok := secsOf_ok hP (fun x hx => by have := hd x hx; omega) (by omega)
  refine (IxAll_sorted _ (secsOf l l') [] (by simp [sOf]) hok.1 hok.2 (by
    show (Lib.uvarint 1024 ++ mwBytes (secsOf l l')).toArray.size ≤ _
    simp only [List.size_toArray, List.length_append, uv1024, List.length_cons, List.length_nil]; omega) c hc 1000 (by omega) p W hg5 he).mono ?_
  rintro ee w' ⟨v, M, rfl, hT, hO, hb⟩
  have hM := tells_all hP hS ho hT
  have hMl : M.length ≤ 100 := by
    rw [hM]
    have := offsOf_le l' c.dig
    have := hP.length_eq
    omega
  rw [List.take_of_length_le (by omega)] at hO
  exact ⟨v, M, _, rfl, by rw [hM]; exact offsOf_perm hP _, hO, hb⟩
theorem ask_mh {l : Ents} {cs : List Cod} (h : CodsFor l cs) (hl : ∀ x ∈ l, x.1.Ok) (ho : ∀ x ∈ l, 0 ≤ x.2 ∧ x.2 < 18446744073709551616) (hlen : l.length ≤ 100) (c : CidOf) (hc : c.Ok) (p : Addr) (W : World) (hg5 : 0 < W.heap.size) (he : W.cell? ⟨0, 0, none⟩ = some (.iface 168 (.pointer (some p)))) :
    Calls Tryz.prog 11 #[.string (sOf (Lib.uvarint 1025 ++ mhBytes (sortedCods cs))), .agg #[.int .u64 c.ver, .int .u64 c.codec, .int .u64 c.code, .string (sOf c.dig)], .int .i64 1000] W fun e w' => ∃ (v : Value) (os : List Nat) (y : Int), e = .returned (.tuple #[v, .int .u8 y]) ∧ os.Perm (offsOf (codedOf l c.code) c.dig) ∧ OutOf w' W.heap.size v os ∧ Below W.heap.size W w' := by
  have hd : ∀ x ∈ l, x.1.dig.length ≤ 200 := fun x hx => (hl x hx).dig
  obtain ⟨h1, h2, h3, h4⟩ := h.one
  have hsm := (cods_small h hl hlen).2.2.2
  refine (IxAll_mh _ (sortedCods cs) [] (by simp [sOf]) (fun q hq => ?_) (by rw [h4]; exact (List.mergeSort_perm _ _).nodup_iff.2 h.nodup) (by
    show (Lib.uvarint 1025 ++ mhBytes (sortedCods cs)).toArray.size ≤ _
    simp only [List.size_toArray, List.length_append, uv1025, List.length_cons, List.length_nil]; omega) c hc 1000 (by omega) p W hg5 he).mono ?_
  · obtain ⟨l', hP, hS, e⟩ := h1 q hq
    obtain ⟨x, hx, hxe⟩ := h2 q hq
    have hle := List.length_filter_le (hasCode q.1) l
    have hsec := secsOf_ok hP (fun y hy => by have := hd y (List.mem_filter.1 hy).1; omega) (by unfold codedOf; omega)
    rw [e]
    exact ⟨by have := (hl x hx).code; omega, hsec.1, hsec.2⟩
  · rintro ee w' ⟨v, M, rfl, hT, hO, hb⟩
    have hM := tellsC_all h ho hT
    have hMl : M.length ≤ 100 := by
      have h1 := hM.length_eq
      have h2 := offsOf_le (codedOf l c.code) c.dig
      have h3 := List.length_filter_le (hasCode c.code) l
      unfold codedOf at h1 h2
      omega
    rw [List.take_of_length_le (by omega)] at hO
    exact ⟨v, M, _, rfl, hM, hO, hb⟩

set_option maxRecDepth 100000 in
set_option maxHeartbeats 12800000 in
theorem FnIxKindsAgree_ok (l : Ents) (A : Option Addr) (cap : Nat) (c : CidOf) (w : World) (hR : RowsAt w A l) (hlen : l.length ≤ 9223372036854775807) (hcap : l.length ≤ cap) (hoff : ∀ x ∈ l, 0 ≤ x.2 ∧ x.2 < 18446744073709551616)
    (p : Addr) (hg5 : 0 < w.heap.size) (he : w.cell? ⟨0, 0, none⟩ = some (.iface 168 (.pointer (some p)))) :
    Calls Tryz.prog 3 #[.slice A l.length cap, c.agg] w fun e w' => e = .returned (.bool true) ∧ Below w.heap.size w w' := by
  have hag : c.agg = .agg #[.int .u64 c.ver, .int .u64 c.codec, .int .u64 c.code, .string (sOf c.dig)] := rfl
  have hep : ∀ W, Below w.heap.size w W → 0 < W.heap.size ∧ W.cell? ⟨0, 0, none⟩ = some (.iface 168 (.pointer (some p))) := fun W hW => ⟨by have := hW.size; omega, (hW.cell (p := ⟨0, 0, none⟩) hg5).trans he⟩
  have h7 := fun W (hW : Below w.heap.size w W) => zzFits7_ok l A cap W (hR.below hW) hlen hcap
  have hGd : ∀ W, Below w.heap.size w W → Calls Tryz.prog 8 #[.slice A l.length cap, .int .u64 1024] W fun e w' => (e = .returned (.bool false) ∨ (e = .returned (.bool true) ∧ Good l 1024)) ∧ Below W.heap.size W w' := fun W hW => ixGood_ok l A cap 1024 W (hR.below hW) hlen hcap
  have h1 := fun W => zzFits1_ok c W
  have hT := fun W => Tidy_ok c W
  have HR := Lib.hid hR; have H7 := Lib.hid h7; have HGd := Lib.hid hGd; have HEp := Lib.hid hep; have HOff := Lib.hid hoff
  rw [hag] at h1 hT ⊢
  have hcb := heap_alloc_new w (.cells #[.int .u64 c.ver, .int .u64 c.codec, .int .u64 c.code, .string (sOf c.dig)] 25)
  have hb0 : Below w.heap.size w (w.alloc (.cells #[.int .u64 c.ver, .int .u64 c.codec, .int .u64 c.code, .string (sOf c.dig)] 25)) := below_boxed w _
  have HC := Lib.hid hcb; have HB0 := Lib.hid hb0
  have hz0 : (w.alloc (.cells #[.int .u64 c.ver, .int .u64 c.codec, .int .u64 c.code, .string (sOf c.dig)] 25)).heap.size = w.heap.size + 1 := by simp
  have hss : (sOf c.dig).size = c.dig.length := rfl
  have hK : ∀ W, Below (w.heap.size + 1) (w.alloc (.cells #[.int .u64 c.ver, .int .u64 c.codec, .int .u64 c.code, .string (sOf c.dig)] 25)) W → W.heap[w.heap.size]? = some (.cells #[.int .u64 c.ver, .int .u64 c.codec, .int .u64 c.code, .string (sOf c.dig)] 25 (0, 0)) := fun W hW => (hW.block _ (by omega)).trans hcb
  have hBw : ∀ W, Below (w.heap.size + 1) (w.alloc (.cells #[.int .u64 c.ver, .int .u64 c.codec, .int .u64 c.code, .string (sOf c.dig)] 25)) W → Below w.heap.size w W := fun W hW => hb0.trans (hW.mono (by omega))
  have HK := Lib.hid hK; have HBw := Lib.hid hBw
  clear h7 hGd hcb hb0 hag he hg5 hR hoff hK hBw hep
  go_enter Tryz.func3, Tryz.ntmps3
  go_wp2_with fail
  refine (H7.out _ HB0.out).mono ?_
  rintro e w1 ⟨b7, rfl, hb1⟩
  rw [hz0] at hb1
  have hc1 := HK.out w1 hb1
  have k0 := (blk_cell' hc1 0).trans (show _ = some (Value.int .u64 c.ver) from rfl)
  have k1 := (blk_cell' hc1 1).trans (show _ = some (Value.int .u64 c.codec) from rfl)
  have k2 := (blk_cell' hc1 2).trans (show _ = some (Value.int .u64 c.code) from rfl)
  have k3 := (blk_cell' hc1 3).trans (show _ = some (Value.string (sOf c.dig)) from rfl)
  cases b7 with
  | false =>
    go_wp2_with fail
    go_ret
    exact ⟨rfl, HBw.out _ hb1⟩
  | true =>
    go_wp2_with fail
    refine (h1 _).mono ?_
    rintro e w2 ⟨rfl, hb2⟩
    have hb02 : Below (w.heap.size + 1) (w.alloc (.cells #[.int .u64 c.ver, .int .u64 c.codec, .int .u64 c.code, .string (sOf c.dig)] 25)) w2 := hb1.trans (hb2.mono (by have := hb1.size; omega))
    clear hc1 k0 k1 k2 k3 hb1 hb2
    generalize fitB c.dig.length = bf
    cases bf with
    | false =>
      go_wp2_with fail
      go_ret
      exact ⟨rfl, HBw.out _ hb02⟩
    | true =>
      go_wp2_with fail
      refine (HGd.out _ (HBw.out _ hb02)).mono ?_
      rintro e w3 ⟨hbr, hb3⟩
      have hb03 : Below (w.heap.size + 1) (w.alloc (.cells #[.int .u64 c.ver, .int .u64 c.codec, .int .u64 c.code, .string (sOf c.dig)] 25)) w3 := hb02.trans (hb3.mono (by have := hb02.size; omega))
      have hc3 := HK.out w3 hb03
      have k0 := (blk_cell' hc3 0).trans (show _ = some (Value.int .u64 c.ver) from rfl)
      have k1 := (blk_cell' hc3 1).trans (show _ = some (Value.int .u64 c.codec) from rfl)
      have k2 := (blk_cell' hc3 2).trans (show _ = some (Value.int .u64 c.code) from rfl)
      have k3 := (blk_cell' hc3 3).trans (show _ = some (Value.string (sOf c.dig)) from rfl)
      clear hb02 hb3 hc3
      rcases hbr with rfl | ⟨rfl, hG⟩
      · go_wp2_with fail
        go_ret
        exact ⟨rfl, HBw.out _ hb03⟩
      · by_cases h200 : (200 : Int) < (c.dig.length : Int)
        · go_wp2_with fail
          go_ret
          exact ⟨rfl, HBw.out _ hb03⟩
        · go_wp2_with fail
          refine (hT _).mono ?_
          rintro e w4 ⟨rfl, hb4⟩
          have hb04 : Below (w.heap.size + 1) (w.alloc (.cells #[.int .u64 c.ver, .int .u64 c.codec, .int .u64 c.code, .string (sOf c.dig)] 25)) w4 := hb03.trans (hb4.mono (by have := hb03.size; omega))
          have hc4 := HK.out w4 hb04
          have HOK : Hid (tidyB c.ver c.codec c.code c.dig.length = true → c.Ok) := Lib.hid (fun h => good_ok ⟨by omega, h⟩)
          clear k0 k1 k2 k3 hb03 hb4
          cases htb : tidyB c.ver c.codec c.code c.dig.length with
          | false =>
            go_wp2_with fail
            go_ret
            exact ⟨rfl, HBw.out _ hb04⟩
          | true =>
            have hc := HOK.out htb
            have hl : ∀ x ∈ l, x.1.Ok := fun x hx => good_ok (hG.2.2 x hx)
            have hl100 := hG.1
            have hcd := hc.dig
            have HL := Lib.hid (And.intro hl hG)
            have hbw4 := HBw.out _ hb04
            have hA := IxBytes_srt l hl HOff.out hl100 A cap w4 (HR.out.below hbw4)
            clear htb hl hG hc4
            go_wp2_with fail
            refine hA.mono ?_
            clear hA
            rintro e w5 ⟨⟨sA, rfl, secs, hSA, rfl⟩, hb5⟩
            have hb05 := hb04.trans (hb5.mono (by have := hb04.size; omega))
            have hB := IxBytes_mh l HL.out.1 HOff.out hl100 A cap w5 (HR.out.below (HBw.out _ hb05))
            clear hb04 hb5 hbw4
            go_wp2_with fail
            refine hB.mono ?_
            clear hB
            rintro e w6 ⟨⟨sB, rfl, cs, hSB, rfl⟩, hb6⟩
            have hb06 := hb05.trans (hb6.mono (by have := hb05.size; omega))
            have hc6 := HK.out w6 hb06
            have k0 := (blk_cell' hc6 0).trans (show _ = some (Value.int .u64 c.ver) from rfl)
            have k1 := (blk_cell' hc6 1).trans (show _ = some (Value.int .u64 c.codec) from rfl)
            have k2 := (blk_cell' hc6 2).trans (show _ = some (Value.int .u64 c.code) from rfl)
            have k3 := (blk_cell' hc6 3).trans (show _ = some (Value.string (sOf c.dig)) from rfl)
            have hbw6 := HBw.out _ hb06
            have hAll := ask_sorted hSA HL.out.1 HOff.out hl100 c hc p w6 (HEp.out _ hbw6).1 (HEp.out _ hbw6).2
            have HS := Lib.hid (And.intro hSA hSB)
            obtain ⟨tA, htA⟩ : ∃ t, t = sOf (Lib.uvarint 1024 ++ mwBytes (sortedSecs secs)) := ⟨_, rfl⟩
            obtain ⟨tB, htB⟩ : ∃ t, t = sOf (Lib.uvarint 1025 ++ mhBytes (sortedCods cs)) := ⟨_, rfl⟩
            rw [← htA] at hAll ⊢
            rw [← htB]
            have HTB := Lib.hid htB
            clear htA htB hSA hSB hb05 hb6 hc6
            go_wp2_with fail
            refine hAll.mono ?_
            clear hAll
            rintro e w7 ⟨vA, osA, yA, rfl, hpA, hOA, hb7⟩
            have hb07 := hb06.trans (hb7.mono (by have := hb06.size; omega))
            have hbw7 := HBw.out _ hb07
            have hCo := Codes_ok l A cap w7 (HR.out.below hbw7) (by omega) hcap
            have HA := Lib.hid (And.intro hpA hOA)
            clear k0 k1 k2 k3 hb06 hb7 hpA hOA
            go_wp2_with fail
            refine hCo.mono ?_
            clear hCo
            rintro e w8 ⟨vC, rfl, hOC, hb8⟩
            have hb08 := hb07.trans (hb8.mono (by have := hb07.size; omega))
            have hbw8 := HBw.out _ hb08
            obtain ⟨ws, hws⟩ : ∃ ws, ws = sortN (codesOf l) := ⟨_, rfl⟩
            rw [← hws] at hOC
            have HWS := Lib.hid hws
            have hwl : ws.length ≤ 100 := by
              rw [hws, sortN_len]
              have := codesOf_le l
              omega
            have hnd : ws.Nodup := by rw [hws]; exact (List.mergeSort_perm _ _).nodup_iff.2 (codesOf_nodup l)
            have hmem : ∀ x ∈ l, x.1.code ∈ ws := fun x hx => by rw [hws]; exact sortN_mem.2 (codesOf_all x hx)
            have hcodes := codes_all c.dig ws hnd l hmem
            have hpre : ∀ k, ((ws.take k).flatMap fun n => offsOf (codedOf l n) c.dig).length ≤ 100 := by
              intro k
              have h1 := hcodes.length_eq
              have h2 := offsOf_le l c.dig
              have h3 : (ws.flatMap fun n => offsOf (codedOf l n) c.dig) = ((ws.take k).flatMap fun n => offsOf (codedOf l n) c.dig) ++ ((ws.drop k).flatMap fun n => offsOf (codedOf l n) c.dig) := by rw [← List.flatMap_append, List.take_append_drop]
              rw [h3, List.length_append] at h1
              omega
            have hltc : ∀ n ∈ ws, n < 9223372036854775808 := fun n hn => by
              rw [hws] at hn
              obtain ⟨x, hx, e⟩ := codesOf_mem (sortN_mem.1 hn)
              rw [← e]; exact (HL.out.1 x hx).code
            obtain ⟨pC, cC, rfl⟩ : ∃ p c, vC = .slice p ws.length c := by
              rcases out_shape hOC with ⟨rfl, rfl⟩ | ⟨g, c, rfl, _⟩
              · exact ⟨none, 0, rfl⟩
              · exact ⟨_, _, rfl⟩
            have HOC := Lib.hid (out_shape hOC)
            have HPR := Lib.hid (And.intro hcodes (And.intro hpre hltc))
            have HB8 := Lib.hid (And.intro hb08 hbw8)
            have HA8 : Hid (osA.Perm (offsOf l c.dig) ∧ OutOf w8 w6.heap.size vA osA) := Lib.hid ⟨HA.out.1, own_kp HA.out.2 (Kp.of_below (S := fun _ => False) hb8) (fun _ _ => id)⟩
            obtain ⟨i0, ti, tz0, tz1, tz2⟩ := info_parts info_u64
            clear hws hnd hmem hcodes hpre hltc hOC hb07 hb8 hb08 hbw7 hbw8 HA
            go_wp2_with fail
            go_loopw [11, 57] (fun v11 vi wr => ∃ (k : Nat) (u : Value) (ps : List Nat), u = v11 ∧ k ≤ ws.length ∧ vi = .int .i64 (k : Int) ∧ OutOf wr w8.heap.size u ps ∧ ps.Perm ((ws.take k).flatMap fun n => offsOf (codedOf l n) c.dig) ∧ Below w8.heap.size w8 wr) (fun _ vi _ => ws.length - (intOf vi).toNat)
            case atStart => exact ⟨0, _, [], rfl, Nat.zero_le _, rfl, World.ownsRow_nil _ _ _ _, .refl _, Below.refl _ _⟩
            case round =>
              obtain ⟨k, u, ps, hu, hk, rfl, hO, hP, hB⟩ := hrel
              subst hu
              have hb0r := HB8.out.1.trans (hB.mono (by have := HB8.out.1.size; omega))
              have hbwr := HBw.out _ hb0r
              have hcr := HK.out wr hb0r
              have k0 := (blk_cell' hcr 0).trans (show _ = some (Value.int .u64 c.ver) from rfl)
              have k1 := (blk_cell' hcr 1).trans (show _ = some (Value.int .u64 c.codec) from rfl)
              have k2 := (blk_cell' hcr 2).trans (show _ = some (Value.int .u64 c.code) from rfl)
              have k3 := (blk_cell' hcr 3).trans (show _ = some (Value.string (sOf c.dig)) from rfl)
              have hpl : ps.length ≤ 100 := by rw [hP.length_eq]; exact HPR.out.2.1 k
              by_cases hlt : k < ws.length
              · obtain ⟨n, hnk⟩ : ∃ n, ws[k]? = some n := ⟨_, List.getElem?_eq_getElem hlt⟩
                have hn63 := HPR.out.2.2 n (List.mem_of_getElem? hnk)
                obtain ⟨gC, rfl, q1⟩ : ∃ gC, pC = some ⟨gC, 0, none⟩ ∧ wr.cell? ⟨gC, k, none⟩ = some (.int .u64 (n : Int)) := by
                  rcases HOC.out with ⟨_, h⟩ | ⟨g, c, e, _, h⟩
                  · rw [h] at hlt; simp at hlt
                  · cases e
                    have h1 := h k n hnk
                    exact ⟨g, rfl, (hB.cell (World.block_lt_of_cell? w8 _ h1)).trans h1⟩
                have hgC : gC < wr.heap.size := World.block_lt_of_cell? wr _ q1
                have hcn : (⟨1, 85, n, c.dig⟩ : CidOf).Ok := ⟨.inr rfl, by show 85 < _; omega, hn63, hcd⟩
                have hAsk : Calls Tryz.prog 11 #[.string tB, .agg #[.int .u64 1, .int .u64 85, .int .u64 (n : Int), .string (sOf c.dig)], .int .i64 1000] wr fun e w' => ∃ (v : Value) (os : List Nat) (y : Int), e = .returned (.tuple #[v, .int .u8 y]) ∧ os.Perm (offsOf (codedOf l n) c.dig) ∧ OutOf w' wr.heap.size v os ∧ Below wr.heap.size wr w' := by
                  rw [HTB.out]
                  exact ask_mh HS.out.2 HL.out.1 HOff.out hl100 ⟨1, 85, n, c.dig⟩ hcn p wr (HEp.out _ hbwr).1 (HEp.out _ hbwr).2
                have HO := Lib.hid (And.intro hO (And.intro hP hB))
                have htk : ws.take (k + 1) = ws.take k ++ [n] := by rw [List.take_succ_eq_append_getElem hlt, (List.getElem?_eq_some_iff.1 hnk).2]
                have HTK := Lib.hid htk
                clear hO hP hB hb0r hbwr hcr hnk htk
                go_wp2_with fail
                refine hAsk.mono ?_
                clear hAsk
                rintro e w9 ⟨vN, os, yN, rfl, hpN, hON, hb9⟩
                have hB9 : Below w8.heap.size w8 w9 := HO.out.2.2.trans (hb9.mono HO.out.2.2.size)
                have hU9 : OutOf w9 w8.heap.size u ps := own_kp HO.out.1 (Kp.of_below (S := fun _ => False) hb9) (fun _ _ => id)
                have hos100 : os.length ≤ 100 := by
                  have h1 := HPR.out.2.1 (k + 1)
                  rw [HTK.out, List.flatMap_append, List.length_append] at h1
                  simp only [List.flatMap_cons, List.flatMap_nil, List.append_nil] at h1
                  rw [hpN.length_eq]; omega
                have hperm : (ps ++ os).Perm ((ws.take (k + 1)).flatMap fun n => offsOf (codedOf l n) c.dig) := by
                  rw [HTK.out, List.flatMap_append]
                  simp only [List.flatMap_cons, List.flatMap_nil, List.append_nil]
                  exact HO.out.2.1.append hpN
                have HPM := Lib.hid hperm
                have HB9 := Lib.hid hB9
                have hz9 := hB9.size
                clear k0 k1 k2 k3 q1 hb9 hB9 hperm hpN
                go_wp2_with (at_builtin; refine later ?_)
                rcases out_shape hON with ⟨rfl, rfl⟩ | ⟨gN, cN, rfl, hcN, hcellN⟩
                · refine now ?_
                  refine wpList_append_own_none rfl _ _ 31 rfl w8.heap.size 23 i0 1 Tryz.underlying31 ti _ _ _ rfl hU9 rfl ?_
                  have HU9 := Lib.hid hU9
                  clear hU9 hON
                  go_wp2_with fail
                  go_roundw
                  case rel => exact ⟨k + 1, u, ps, rfl, by omega, by go_num, HU9.out, by simpa using HPM.out, HB9.out⟩
                  case measure => simp [intOf]; omega
                · refine now ?_
                  refine wpList_append_own _ rfl _ _ 31 rfl w8.heap.size 23 i0 (.int .u64 0) 1 8 Tryz.underlying31 ti tz0 tz1 tz2 rfl (by decide) _ _ _ rfl hU9 ⟨gN, 0, none⟩ os.length cN (os.map offVal) rfl (by simp) ?c1 ?c2 ?c3 ?c4 ?c5 ?_
                  case c1 =>
                    intro j u hj
                    rw [List.getElem?_map] at hj
                    cases hq : os[j]? with
                    | none => rw [hq] at hj; cases hj
                    | some n =>
                      rw [hq] at hj; cases hj
                      rw [Addr.add_mid, Nat.zero_add]
                      exact hcellN j n hq
                  case c2 =>
                    intro u hu
                    obtain ⟨n, _, rfl⟩ := List.mem_map.1 hu
                    rfl
                  case c3 => unfold maxLen; omega
                  case c4 => omega
                  case c5 => exact hz9
                  intro v1 wA hown1 hgrow hnn
                  have hBA : Below w8.heap.size w8 wA := (kp_grown hgrow).to_below HB9.out (fun i e => (World.ownsRow.lt hU9 i e.symm).1)
                  have hOA' : OutOf wA w8.heap.size v1 (ps ++ os) := by unfold OutOf; rw [List.length_append, List.map_append]; exact hown1
                  have HX := Lib.hid (And.intro hOA' hBA)
                  clear hown1 hgrow hnn hBA hOA' hU9 hON hcellN
                  go_wp2_with fail
                  go_roundw
                  case rel => exact ⟨k + 1, v1, ps ++ os, rfl, by omega, by go_num, HX.out.1, HPM.out, HX.out.2⟩
                  case measure => simp [intOf]; omega
              · obtain rfl : k = ws.length := by omega
                rw [List.take_length] at hP
                have hsame : sortN osA = sortN ps := sortN_perm ((HA8.out.1.trans HPR.out.1.symm).trans hP.symm)
                have hoA : osA.length ≤ 100 := by rw [HA8.out.1.length_eq]; have := offsOf_le l c.dig; omega
                have hOAr : OutOf wr w6.heap.size vA osA := own_kp HA8.out.2 (Kp.of_below (S := fun _ => False) hB) (fun _ _ => id)
                have hS1 := ixSorted_ok w6.heap.size vA osA wr hOAr (by omega)
                have HX := Lib.hid (And.intro hO (And.intro hbwr hsame))
                clear hO hP hB hb0r hbwr hcr k0 k1 k2 k3 hsame hOAr
                go_wp2_with fail
                refine hS1.mono ?_
                clear hS1
                rintro e wB ⟨v1, rfl, hO1, hbB⟩
                have hbwB := below_next HX.out.2.1 hbB
                have hS2 := ixSorted_ok w8.heap.size u ps wB (own_kp HX.out.1 (Kp.of_below (S := fun _ => False) hbB) (fun _ _ => id)) (by omega)
                rw [← HX.out.2.2] at hS2
                have HO1 := Lib.hid hO1
                clear hO1 hbB
                go_wp2_with fail
                refine hS2.mono ?_
                clear hS2
                rintro e wC ⟨v2, rfl, hO2, hbC⟩
                have hbwC := below_next hbwB hbC
                have hSm := ixSame_eq wr.heap.size wB.heap.size v1 v2 (sortN osA) wC (own_kp HO1.out (Kp.of_below (S := fun _ => False) hbC) (fun _ _ => id)) hO2 (by rw [sortN_len]; omega)
                clear hO2 hbC hbwB
                go_wp2_with fail
                refine hSm.mono ?_
                clear hSm
                rintro e wD ⟨rfl, hbD⟩
                have hbwD := below_next hbwC hbD
                have hOne1 := ixOne_sorted p wD (HEp.out _ hbwD).1 (HEp.out _ hbwD).2
                clear hbD hbwC
                go_wp2_with fail
                refine hOne1.mono ?_
                clear hOne1
                rintro e wE ⟨rfl, hbE⟩
                have hbwE := below_next hbwD hbE
                have hOne2 := ixOne_mh p wE (HEp.out _ hbwE).1 (HEp.out _ hbwE).2
                clear hbE hbwD
                go_wp2_with fail
                refine hOne2.mono ?_
                clear hOne2
                rintro e wF ⟨rfl, hbF⟩
                have hbwF := below_next hbwE hbF
                clear hbF hbwE
                go_wp2_with fail
                go_ret
                exact ⟨rfl, hbwF⟩
end Go.Proofs.YtobdjcnojbnegaaGreatDoor
