import Derived.Test.YtnhhhjnhmbhdgaaGreatDoorG10
import Derived.Test.YtnhhhjnhmbhdgaaGreatDoorG11
import Derived.Test.YtnhhhjnhmbhdgaaGreatDoorG18
import Derived.Test.YtnhhhjnhmbhdgaaGreatDoorG08
/- IxAll at 0x0401. -/
namespace Go.Proofs.YtnhhhjnhmbhdgaaGreatDoor
open Go.RowKit
set_option linter.unusedVariables false
set_option linter.unusedSimpArgs false
attribute [local go_sem] setCell_drewN alloc_drewN

theorem method_GetAllC (v : Value) (w : World) : (method 454 mhT v "GetAll").run Tryz.prog w = .ok (174, v) w := by kernel_rfl

set_option maxRecDepth 100000 in
set_option maxHeartbeats 3200000 in
theorem offsets_mh (s : ByteArray) (ss : List (Nat × List (Nat × List UInt8))) (rest : List UInt8) (hs : s.data.toList = Lib.uvarint 1025 ++ (mhBytes ss ++ rest)) (hw : ∀ p ∈ ss, p.1 < 18446744073709551616 ∧ (∀ x ∈ p.2, 8 ≤ x.1 ∧ x.1 ≤ 33554432 ∧ ∃ n, x.2.length = n * x.1 ∧ n ≤ 1000000) ∧ (p.2.map (·.1)).Nodup) (hnd : (ss.map (·.1)).Nodup)
    (hl : s.size ≤ 16777216) (c : CidOf) (hc : c.Ok) (most : Nat) (hm : 1 ≤ most) (p : Addr) (w : World) (hg5 : 0 < w.heap.size) (he : w.cell? ⟨0, 0, none⟩ = some (.iface 165 (.pointer (some p)))) :
    Calls Tryz.prog 43 #[.string s, .agg #[.int .u64 c.ver, .int .u64 c.codec, .int .u64 c.code, .string (sOf c.dig)], .int .i64 (most : Int)] w fun e w' =>
      ∃ v M, e = .returned (.tuple #[v, .int .u8 (whyOf M)]) ∧ TellsC ss c.code c.dig M ∧ OutOf w' w.heap.size v (M.take most) ∧ Below w.heap.size w w' := by
  have hsz : s.size = s.data.toList.length := by rw [Array.length_toList]; rfl
  generalize hS : s.data.toList = bs at *
  have HS := Lib.hid hS; clear hS
  have HZ := Lib.hid hsz
  have hl' : bs.length ≤ 16777216 := by omega
  have hp : 0 < bs.length := by rw [hs, List.length_append, uv1025]; simp; omega
  clear hl hsz
  have HB := Lib.hid hs; clear hs
  have hme := method_GetAllC
  have hmf : ∀ (fn : Fn) (first cap : Array Value) (w : World), (Instr.makeFunc fn first cap).run Tryz.prog w = .ok (.func fn first cap) w := fun _ _ _ _ => rfl
  go_enter Tryz.func43, Tryz.ntmps43
  go_wp2_with (with_reducible refine conv_event rfl (.tmp 14) 9 49 5 rfl Tryz.underlying9 Tryz.underlying49 Tryz.underlying5 s rfl ?_)
  intro g0 cap0 w0 hg0 hcap0 hb0 hA0 hB0
  refine later ?_
  have hwA : Below w.heap.size w ((w.alloc (.cells #[.int .u64 (c.ver : Int), .int .u64 (c.codec : Int), .int .u64 (c.code : Int), .string (sOf c.dig)] 25)).alloc (.cells #[.int .i64 (most : Int)] 3)) := by (repeat (first | (with_reducible exact Below.refl _ _) | (with_reducible exact below_boxed _ _) | (with_reducible refine below_box ?_ _) | (with_reducible refine below_drew1 ?_) | (with_reducible refine below_drewn ?_ _) | (with_reducible refine below_bytes ?_ _ _) | (with_reducible refine below_next ?_ (by assumption)) | (with_reducible refine below_set ?_ (by first | (simp; done) | (simp; omega) | omega) _)))
  have hA1 := heap_alloc_last w (.cells #[.int .u64 (c.ver : Int), .int .u64 (c.codec : Int), .int .u64 (c.code : Int), .string (sOf c.dig)] 25)
  have hA2 := heap_alloc_last (w.alloc (.cells #[.int .u64 (c.ver : Int), .int .u64 (c.codec : Int), .int .u64 (c.code : Int), .string (sOf c.dig)] 25)) (.cells #[.int .i64 (most : Int)] 3)
  have hsz1 : (w.alloc (.cells #[.int .u64 (c.ver : Int), .int .u64 (c.codec : Int), .int .u64 (c.code : Int), .string (sOf c.dig)] 25)).heap.size = w.heap.size + 1 := by simp
  rw [hsz1] at hA2
  have hcb : w0.heap[w.heap.size]? = some (.cells #[.int .u64 (c.ver : Int), .int .u64 (c.codec : Int), .int .u64 (c.code : Int), .string (sOf c.dig)] 25 (0, 0)) := (hb0.block _ (by omega)).trans ((heap_alloc_old _ _ (by simp)).trans hA1)
  have hmb : w0.heap[w.heap.size + 1]? = some (.cells #[.int .i64 (most : Int)] 3 (0, 0)) := (hb0.block _ (by omega)).trans hA2
  have hbw0 : Below w.heap.size w w0 := hwA.trans (hb0.mono (by omega))
  have hgz : g0 < w0.heap.size := by
    rw [HS.out] at hA0
    rcases hA0 with h | ⟨g, o, e, hc⟩
    · rw [h] at hp; simp at hp
    · cases e
      exact World.block_lt_of_cell? w0 _ (hc 0 bs[0] (List.getElem?_eq_getElem hp))
  rw [HS.out] at hA0
  rw [HZ.out] at hcap0
  have hg0' : w.heap.size + 1 < g0 := by omega
  have hNR := NewReader_ok (some ⟨g0, 0, none⟩) cap0 bs w0 hA0 hcap0 (by omega) (fun g o e => by cases e; exact hgz)
  clear hA1 hA2 hsz1 hwA hb0 hA0 hB0 hg0
  rw [HZ.out]
  refine now ?_
  go_wp2_with fail
  refine hNR.mono ?_
  rintro e w1 ⟨rfl, hR1, hb1⟩
  have hz01 : w0.heap.size < w1.heap.size := hR1.blt
  have hRF := ReadFrom_mh w0.heap.size (some ⟨g0, 0, none⟩) cap0 bs ss rest (fun x hx => ⟨(hw x hx).1, fun y hy => ⟨((hw x hx).2.1 y hy).1, ((hw x hx).2.1 y hy).2.1⟩, (hw x hx).2.2⟩) hnd w1 hl' hR1 HB.out (fun g' o e => by cases e; omega)
  have hbw1 := hbw0.trans (hb1.mono hbw0.size)
  have hcb1 := (hb1.block _ (Array.getElem?_eq_some_iff.1 hcb).1).trans hcb
  have hmb1 := (hb1.block _ (Array.getElem?_eq_some_iff.1 hmb).1).trans hmb
  clear hNR hR1 hb1 hcb hmb
  go_wp2_with fail
  refine hRF.mono ?_
  clear hRF
  rintro e w2 ⟨a, mk, cs, rfl, _, hss, hM2, hgds, haz, hmz, hK2⟩
  have hcb2 := (hK2.block _ (Array.getElem?_eq_some_iff.1 hcb1).1 (by omega)).trans hcb1
  have hmb2 := (hK2.block _ (Array.getElem?_eq_some_iff.1 hmb1).1 (by omega)).trans hmb1
  have hbw2 : Below w.heap.size w w2 := hK2.to_below hbw1 (fun i hi => by omega)
  have hz12 := hK2.size
  have kc0 := (blk_cell' hcb2 0).trans (show _ = some (Value.int .u64 (c.ver : Int)) from rfl)
  have kc1 := (blk_cell' hcb2 1).trans (show _ = some (Value.int .u64 (c.codec : Int)) from rfl)
  have kc2 := (blk_cell' hcb2 2).trans (show _ = some (Value.int .u64 (c.code : Int)) from rfl)
  have kc3 := (blk_cell' hcb2 3).trans (show _ = some (Value.string (sOf c.dig)) from rfl)
  have hWh : ∀ x ∈ cs, Whole x.secs := by
    intro x hx s hs
    have := (hw x.two (by rw [← hss]; exact List.mem_map.2 ⟨x, hx, rfl⟩)).2.1 s.two (List.mem_map.2 ⟨s, hs, rfl⟩)
    exact ⟨this.1, this.2.1, this.2.2⟩
  have HSS := Lib.hid hss
  clear hK2 hcb1 hmb1 hbw1 hbw0 hw hnd hss
  go_wp2_with fail
  refine (cidIn_ok c hc w2).mono ?_
  rintro e w3 ⟨rfl, hb3⟩
  have hbX : Below w2.heap.size w2 ((w3.alloc (.cells #[.string c.str] 51)).alloc (.cells #[.slice none 0 0] 29)) := (by (repeat (first | (with_reducible exact Below.refl _ _) | (with_reducible exact below_boxed _ _) | (with_reducible refine below_box ?_ _) | (with_reducible refine below_drew1 ?_) | (with_reducible refine below_drewn ?_ _) | (with_reducible refine below_bytes ?_ _ _) | (with_reducible refine below_next ?_ (by assumption)) | (with_reducible refine below_set ?_ (by first | (simp; done) | (simp; omega) | omega) _))) : Below w2.heap.size w2 _)
  have hsz3 : (w3.alloc (.cells #[.string c.str] 51)).heap.size = w3.heap.size + 1 := by simp
  have hz3 := hb3.size
  have hMX := hM2.kp (S := fun _ => False) (Kp.of_below hbX) id id (fun _ _ => ⟨id, id, fun _ _ => id⟩)
  have hbwX : Below w.heap.size w ((w3.alloc (.cells #[.string c.str] 51)).alloc (.cells #[.slice none 0 0] 29)) := below_next hbw2 hbX
  have hOX : OutAt ((w3.alloc (.cells #[.string c.str] 51)).alloc (.cells #[.slice none 0 0] 29)) (w3.heap.size + 1) (w.heap.size + 1) most [] := by
    have h1 := heap_alloc_last (w3.alloc (.cells #[.string c.str] 51)) (.cells #[.slice none 0 0] 29)
    rw [hsz3] at h1
    refine ⟨⟨_, h1, World.ownsRow_nil _ _ _ _⟩, ?_, by omega⟩
    exact (blk_cell' ((hbX.block _ (Array.getElem?_eq_some_iff.1 hmb2).1).trans hmb2) 0).trans rfl
  have hgdX : ∀ x ∈ cs, ∀ s ∈ x.secs, s.gd ≠ w3.heap.size + 1 := fun x hx s hs => by have := (Array.getElem?_eq_some_iff.1 ((hM2.row x hx).mw.row s hs)).1; omega
  have heX := (hbwX.cell (p := ⟨0, 0, none⟩) hg5).trans he
  have hGA := MhGetAll_ok ⟨a, 0, none⟩ mk (w3.heap.size + 1) (w.heap.size + 1) most cs c hc 165 (.pointer (some p)) _ hMX hWh hOX hm hgdX (by omega) heX
  have HBW := Lib.hid hbwX
  clear hMX hOX hM2 hcb2 hmb2 kc0 kc1 kc2 kc3 hbX hbw2 hb3 hsz3
  go_wp2_with fail
  refine hGA.mono ?_
  clear hGA
  rintro e w4 ⟨M, hGA, hTe, hO4, hT4⟩
  rw [HSS.out] at hTe
  have hbw4 : Below w.heap.size w w4 := HBW.out.trans (hT4.bel.mono (by omega))
  have he4 := (hT4.bel.cell (p := ⟨0, 0, none⟩) (by show 0 < w3.heap.size + 1; omega)).trans heX
  obtain ⟨⟨v, hvb, hown⟩, _, _⟩ := hO4
  have kv := (blk_cell' hvb 0).trans (show _ = some v from rfl)
  have hownw : OutOf w4 w.heap.size v (M.take most) := own_mono hown (by omega)
  clear hT4 heX hvb hown
  by_cases hM0 : M = []
  · have hf := fun n => found_no p (w4.drewN n) he4
    rw [GotAll, if_pos hM0] at hGA
    subst hGA
    go_wp2_with fail
    go_quiet ((go_at_call 19; exact Calls.quiet_of_same ((hf _).mono fun e w1 h => ⟨h.1, h.2.symm⟩)))
    go_wp2_with fail
    go_ret2
    exact ⟨v, M, by rw [whyOf, if_pos hM0]; rfl, hTe, own_kp hownw (S := fun _ => False) ⟨rfl, rfl, rfl, Nat.le_refl _, fun _ _ _ => rfl⟩ (fun _ _ => id), below_drewn hbw4 _⟩
  · have hf := fun n => found_nil (w4.drewN n)
    rw [GotAll, if_neg hM0] at hGA
    subst hGA
    go_wp2_with fail
    go_quiet ((go_at_call 19; exact Calls.quiet_of_same ((hf _).mono fun e w1 h => ⟨h.1, h.2.symm⟩)))
    go_wp2_with fail
    go_ret2
    exact ⟨v, M, by rw [whyOf, if_neg hM0]; rfl, hTe, own_kp hownw (S := fun _ => False) ⟨rfl, rfl, rfl, Nat.le_refl _, fun _ _ _ => rfl⟩ (fun _ _ => id), below_drewn hbw4 _⟩

set_option maxRecDepth 100000 in
set_option maxHeartbeats 800000 in
theorem IxAll_mh (s : ByteArray) (ss : List (Nat × List (Nat × List UInt8))) (rest : List UInt8) (hs : s.data.toList = Lib.uvarint 1025 ++ (mhBytes ss ++ rest)) (hw : ∀ p ∈ ss, p.1 < 18446744073709551616 ∧ (∀ x ∈ p.2, 8 ≤ x.1 ∧ x.1 ≤ 33554432 ∧ ∃ n, x.2.length = n * x.1 ∧ n ≤ 1000000) ∧ (p.2.map (·.1)).Nodup) (hnd : (ss.map (·.1)).Nodup)
    (hl : s.size ≤ 16777216) (c : CidOf) (hc : c.Ok) (most : Nat) (hm : 1 ≤ most) (p : Addr) (w : World) (hg5 : 0 < w.heap.size) (he : w.cell? ⟨0, 0, none⟩ = some (.iface 165 (.pointer (some p)))) :
    Calls Tryz.prog 24 #[.string s, .agg #[.int .u64 c.ver, .int .u64 c.codec, .int .u64 c.code, .string (sOf c.dig)], .int .i64 (most : Int)] w fun e w' =>
      ∃ v M, e = .returned (.tuple #[v, .int .u8 (whyOf M)]) ∧ TellsC ss c.code c.dig M ∧ OutOf w' w.heap.size v (M.take most) ∧ Below w.heap.size w w' := by
  have hb0 : Below w.heap.size w (w.alloc (.cells #[.int .u64 (c.ver : Int), .int .u64 (c.codec : Int), .int .u64 (c.code : Int), .string (sOf c.dig)] 25)) := below_boxed w _
  have hO := offsets_mh s ss rest hs hw hnd hl c hc most hm p (w.alloc (.cells #[.int .u64 (c.ver : Int), .int .u64 (c.codec : Int), .int .u64 (c.code : Int), .string (sOf c.dig)] 25)) (by have := hb0.size; omega) ((hb0.cell (p := ⟨0, 0, none⟩) hg5).trans he)
  clear hs hw hnd he
  go_enter Tryz.func24, Tryz.ntmps24
  go_wp2_with fail
  refine hO.mono ?_
  clear hO
  rintro e w1 ⟨v, M, rfl, hT, hown, hb⟩
  go_wp2_with fail
  go_ret2
  exact ⟨v, M, rfl, hT, hown.mono hb0.size, hb0.trans (hb.mono hb0.size)⟩
end Go.Proofs.YtnhhhjnhmbhdgaaGreatDoor

/- ixOne at 0x0401. -/
namespace Go.Proofs.YtnhhhjnhmbhdgaaGreatDoor
open Go.RowKit
set_option linter.unusedVariables false
set_option linter.unusedSimpArgs false
attribute [local go_sem] setCell_drewN alloc_drewN

theorem parts_one {ss : List (Nat × List (Nat × List UInt8))} (hss : ss.map (·.1) = sortN (codesOf [(oneC, ((7 : Nat) : Int))])) (hPa : Parts [(oneC, ((7 : Nat) : Int))] ss) : ss = [(oneC.code, [(oneC.dig.length + 8, oneC.dig ++ Lib.leBytes 8 7)])] := by
  have hc : sortN (codesOf [(oneC, ((7 : Nat) : Int))]) = [oneC.code] := by
    have : codesOf [(oneC, ((7 : Nat) : Int))] = [oneC.code] := by simp [codesOf, codeStep]
    rw [this, sortN_tiny (by simp)]
  rw [hc] at hss
  obtain ⟨p, rfl⟩ : ∃ p, ss = [p] := by
    rcases ss with _ | ⟨p, _ | ⟨q, ss⟩⟩
    · simp at hss
    · exact ⟨p, rfl⟩
    · simp at hss
  · simp only [List.map_cons, List.map_nil, List.cons.injEq, and_true] at hss
    obtain ⟨l', hP, _, h2⟩ := hPa p List.mem_cons_self
    have hco : codedOf [(oneC, ((7 : Nat) : Int))] p.1 = [(oneC, ((7 : Nat) : Int))] := by rw [hss]; simp [codedOf, hasCode]
    rw [hco] at hP h2
    obtain rfl := List.perm_singleton.1 hP
    have hse : secsOf [(oneC, ((7 : Nat) : Int))] [(oneC, ((7 : Nat) : Int))] = [(oneC.dig.length + 8, oneC.dig ++ Lib.leBytes 8 7)] := by
      have hw : sortN (widthsOf [(oneC, ((7 : Nat) : Int))]) = [oneC.dig.length] := by
        have : widthsOf [(oneC, ((7 : Nat) : Int))] = [oneC.dig.length] := by simp [widthsOf, widthStep]
        rw [this, sortN_tiny (by simp)]
      rw [secsOf, hw]
      simp [rowsOf, hasLen]
    rw [hse] at h2
    obtain ⟨p1, p2⟩ := p
    simp only at hss h2
    rw [hss, h2]

set_option maxRecDepth 100000 in
set_option maxHeartbeats 3200000 in
theorem ixOne_mh (p : Addr) (w : World) (hg5 : 0 < w.heap.size) (he : w.cell? ⟨0, 0, none⟩ = some (.iface 165 (.pointer (some p)))) :
    Calls Tryz.prog 11 #[.int .u64 1025] w fun e w' => e = .returned (.bool true) ∧ Below w.heap.size w w' := by
  go_enter Tryz.func11, Tryz.ntmps11
  go_wp2_with fail
  refine (Fitting_id _ _).mono ?_
  rintro e w1 ⟨rfl, hb1⟩
  go_wp2_with fail
  obtain ⟨w2, hw2⟩ : ∃ w2, w2 = w1.alloc (.cells #[.int .u64 1, .int .u64 85, .int .u64 0, .string ⟨#[97]⟩, .int .u64 7] 37) := ⟨_, rfl⟩
  have hblk : w2.heap[w1.heap.size]? = some (.cells #[.int .u64 1, .int .u64 85, .int .u64 0, .string ⟨#[97]⟩, .int .u64 7] 37 (0, 0)) := by rw [hw2]; exact heap_alloc_new w1 _
  have hE2 : EntAt w2 w1.heap.size oneC 7 := ⟨blk_cell' hblk 0, blk_cell' hblk 1, blk_cell' hblk 2, blk_cell' hblk 3, blk_cell' hblk 4⟩
  have hb2 : Below w.heap.size w w2 := by rw [hw2]; exact below_box hb1 _
  rw [← hw2]
  generalize hge : w1.heap.size = ge at *
  have hI := IxBytes_mh1 ge 1 7 oneC oneC_ok (by decide) (by decide) w2 hE2
  have hol : (oneMh oneC.code oneC.dig 7).length = 39 := by
    simp [oneMh, mhBytes, codsBytes, codBytes, mwBytes, secsBytes, secBytes, le_length, uv1025, oneC]
  have hos : (sOf (oneMh oneC.code oneC.dig 7)).data.toList = Lib.uvarint 1025 ++ (mhBytes [(oneC.code, [(oneC.dig.length + 8, oneC.dig ++ Lib.leBytes 8 7)])] ++ []) := by rw [List.append_nil]; simp [sOf, oneMh]
  have hA : ∀ W, Below w.heap.size w W → Calls Tryz.prog 24 #[.string (sOf (oneMh oneC.code oneC.dig 7)), .agg #[.int .u64 1, .int .u64 85, .int .u64 0, .string ⟨#[97]⟩], .int .i64 9] W fun e w' =>
      ∃ q cq, e = .returned (.tuple #[.slice (some ⟨q, 0, none⟩) 1 cq, .int .u8 0]) ∧ w'.cell? ⟨q, 0, none⟩ = some (.int .u64 7) ∧ Below W.heap.size W w' := fun W hW => by
    refine (IxAll_mh (sOf (oneMh oneC.code oneC.dig 7)) _ [] hos (by
      intro x hx
      obtain rfl : x = (oneC.code, [(oneC.dig.length + 8, oneC.dig ++ Lib.leBytes 8 7)]) := by simpa using hx
      refine ⟨by decide, fun y hy => ?_, by simp⟩
      obtain rfl : y = (oneC.dig.length + 8, oneC.dig ++ Lib.leBytes 8 7) := by simpa using hy
      exact ⟨by decide, by decide, 1, by decide, by omega⟩) (by simp) (by rw [show (sOf (oneMh oneC.code oneC.dig 7)).size = 39 from by simp [sOf, ByteArray.size]; exact hol]; omega) oneC oneC_ok 9 (by omega) p W (by have := hW.size; omega) ((hW.cell (p := ⟨0, 0, none⟩) hg5).trans he)).mono ?_
    rintro e w' ⟨v, M, rfl, hT, hO, hb⟩
    have hT1 : Tells [(oneC.dig.length + 8, oneC.dig ++ Lib.leBytes 8 7)] oneC.dig M := by
      rcases hT with ⟨h, _⟩ | ⟨x, hx, _, h⟩
      · exact absurd rfl (h _ List.mem_cons_self)
      · obtain rfl : x = (oneC.code, [(oneC.dig.length + 8, oneC.dig ++ Lib.leBytes 8 7)]) := by simpa using hx
        exact h
    obtain rfl := tells_one (by decide) hT1
    rcases hO.2 with ⟨_, h⟩ | ⟨q, cq, cur, rfl, hq, hcur, h1, _, _, htk⟩
    · simp at h
    · refine ⟨q, cq, rfl, ?_, hb⟩
      exact World.ownsRow.cells hO (g := q) rfl 0 _ rfl
  have hX : ∀ W, Below w2.heap.size w2 W → Calls Tryz.prog 10 #[.slice (some ⟨ge, 0, none⟩) 1 1, .int .u64 1025] W fun e w' => e = .returned (.string (sOf (oneMh oneC.code oneC.dig 7))) ∧ Below W.heap.size W w' := fun W hW => by
    refine (IndexBytes_mh 1 stable_one [(oneC, ((7 : Nat) : Int))] (some ⟨ge, 0, none⟩) 1 W ((hE2.below hW).rows) (by decide) (by decide) (by decide) (by
      intro x hx
      obtain rfl : x = (oneC, ((7 : Nat) : Int)) := by simpa using hx
      decide) (by
      intro x hx
      obtain rfl : x = (oneC, ((7 : Nat) : Int)) := by simpa using hx
      decide) (by
      intro x hx
      obtain rfl : x = (oneC, ((7 : Nat) : Int)) := by simpa using hx
      decide)).mono ?_
    rintro e w' ⟨ss, hss, hPa, _, rfl, hb⟩
    obtain rfl := parts_one hss hPa
    exact ⟨rfl, hb⟩
  have HX := Lib.hid hX; have HA := Lib.hid hA
  generalize sOf (oneMh oneC.code oneC.dig 7) = S at *
  have hgelt := hE2.lt
  clear hX hA hos hol hge hw2 he
  refine hI.mono ?_
  clear hI
  rintro e w3 ⟨rfl, hb3⟩
  have hE3 := hE2.below hb3
  have k0 : w3.cell? ⟨ge, 0, none⟩ = some (.int .u64 1) := hE3.c0
  have k1 : w3.cell? ⟨ge, 1, none⟩ = some (.int .u64 85) := hE3.c1
  have k2 : w3.cell? ⟨ge, 2, none⟩ = some (.int .u64 0) := hE3.c2
  have k3 : w3.cell? ⟨ge, 3, none⟩ = some (.string ⟨#[97]⟩) := hE3.c3
  have hbw3 : Below w.heap.size w w3 := below_next hb2 hb3
  go_wp2_with fail
  refine (HA.out w3 hbw3).mono ?_
  rintro e w4 ⟨q, cq, rfl, hq, hb4⟩
  have hbw4 : Below w.heap.size w w4 := below_next hbw3 hb4
  have hb24 : Below w2.heap.size w2 w4 := below_next hb3 hb4
  have hqlt := World.block_lt_of_cell? w4 _ hq
  clear hb2 hb3 hb4 hblk hE2 hE3 k0 k1 k2 k3 hb1 hbw3
  go_wp2_with fail
  refine (HX.out w4 hb24).mono ?_
  rintro e w5 ⟨rfl, hb5⟩
  have hq5 := (hb5.cell (p := ⟨q, 0, none⟩) hqlt).trans hq
  have hbw5 : Below w.heap.size w w5 := below_next hbw4 hb5
  clear hq hb24 hbw4 hb5
  go_wp2_with fail
  go_ret
  exact ⟨rfl, hbw5⟩
end Go.Proofs.YtnhhhjnhmbhdgaaGreatDoor

/- The first offset that is told (index.GetFirst$1). -/
namespace Go.Proofs.YtnhhhjnhmbhdgaaGreatDoor
open Go.RowKit
set_option linter.unusedVariables false
set_option linter.unusedSimpArgs false
attribute [local go_sem] setCell_drewN alloc_drewN

/-- The last of the offsets that were told, in the variable at block ob; one is asked for. -/
structure FstAt (w : World) (ob mb most : Nat) (os : List Nat) : Prop where
  blk : w.heap[ob]? = some (.cells #[offVal (os.getLastD 0)] 23 (0, 0))
  one : most = 1
theorem FstAt.obl {w : World} {ob mb most : Nat} {os : List Nat} (h : FstAt w ob mb most os) : ob < w.heap.size := (Array.getElem?_eq_some_iff.1 h.blk).1
theorem FstAt.told {w w' : World} {ob mb most : Nat} {os : List Nat} (h : FstAt w ob mb most os) (hw : w'.heap = w.heap) : FstAt w' ob mb most os := ⟨by rw [hw]; exact h.blk, h.one⟩
theorem FstAt.below {w w' : World} {ob mb most : Nat} {os : List Nat} (h : FstAt w ob mb most os) (hb : Below w.heap.size w w') : FstAt w' ob mb most os := ⟨(hb.block _ h.obl).trans h.blk, h.one⟩

set_option maxRecDepth 100000 in
set_option maxHeartbeats 800000 in
theorem tellF_ok (ob mb most : Nat) (os : List Nat) (o : Nat) (w : World) (h : FstAt w ob mb most os) (hl : os.length ≤ 1000000) :
    Calls Tryz.prog 36 #[.int .u64 (o : Int), .pointer (some ⟨ob, 0, none⟩)] w fun e w' => e = .returned (.bool (decide (os.length + 1 < most))) ∧ FstAt w' ob mb most (os ++ [o]) ∧ Told ob w w' := by
  obtain ⟨hb, rfl⟩ := h
  have c0 := (blk_cell' hb 0).trans (show _ = some (offVal (os.getLastD 0)) from rfl)
  have f0 := blk_free' hb 0
  go_enter Tryz.func36, Tryz.ntmps36
  go_wp2_with fail
  go_ret
  have hb2 : (w.setCell ⟨ob, 0, none⟩ (.int .u64 (o : Int))).heap[ob]? = some (.cells #[.int .u64 (o : Int)] 23 (0, 0)) := by
    rw [setCell_eq_setRow w ob 0 _ _ _ _ hb, setRow_heap w ob _ _ _ _ hb]; rfl
  refine ⟨by simp, ⟨?_, rfl⟩, Below.setCell (p := ⟨ob, 0, none⟩) (Below.refl ob w) (Nat.le_refl ob) _, Lib.OthersKept.setCell (Lib.OthersKept.refl 23 (some ob) w) ⟨ob, 0, none⟩ rfl _⟩
  rw [hb2]; simp [offVal]
end Go.Proofs.YtnhhhjnhmbhdgaaGreatDoor
