/- index.ReadFrom of an index sorted by digests; impl.IxAll over it. -/
import Derived.Test.YtfjclhfhbclbhaaGreatDoorWt
import Derived.Test.YtfjclhfhbclbhaaGreatDoorIn
import Derived.Test.YtfjclhfhbclbhaaGreatDoorGm
import Derived.LaidEql
namespace Go.Proofs.YtfjclhfhbclbhaaGreatDoor
open Go.RowKit
set_option linter.unusedVariables false
set_option linter.unusedSimpArgs false
attribute [local go_sem] setCell_drewN alloc_drewN

theorem own_mono {w : World} {B B' : Nat} {e : TypeId} {k : Nat} {v : Value} {n : Nat} {xs : List Value} (h : w.ownsRow B e k v n xs) (hb : B' ≤ B) : w.ownsRow B' e k v n xs := by
  refine ⟨h.1, ?_⟩
  rcases h.2 with h | ⟨g, cap, cur, e1, e2, e3⟩
  · exact .inl h
  · exact .inr ⟨g, cap, cur, e1, Nat.le_trans hb e2, e3⟩
def whyOf (M : List Nat) : Int := if M = [] then 1 else 0
/-- A slice of offsets of the call's own. -/
def OutOf (w : World) (B : Nat) (v : Value) (os : List Nat) : Prop := w.ownsRow B 22 1 v os.length (os.map offVal)
theorem OutOf.mono {w : World} {B B' : Nat} {v : Value} {os : List Nat} (h : OutOf w B v os) (hb : B' ≤ B) : OutOf w B' v os := own_mono h hb
theorem method_UnmarshalM (v : Value) (w : World) : (method 448 mwT v "Unmarshal").run Tryz.prog w = .ok (199, v) w := by kernel_rfl
theorem method_GetAllM (v : Value) (w : World) : (method 448 mwT v "GetAll").run Tryz.prog w = .ok (177, v) w := by kernel_rfl
theorem uv1024 : Lib.uvarint 1024 = [128, 8] := by rw [Lib.uvarint_big (by omega), Lib.uvarint_small (by omega)]; rfl

set_option maxRecDepth 100000 in
set_option maxHeartbeats 1600000 in
theorem ReadFrom_sorted (b : Nat) (A : Option Addr) (cap : Nat) (bs : List UInt8) (ss : List (Nat × List UInt8)) (rest : List UInt8) (hw : ∀ s ∈ ss, 8 ≤ s.1 ∧ s.1 ≤ 33554432) (hnd : (ss.map (·.1)).Nodup) (w : World) (hsm : bs.length ≤ 16777216) (h : RdAt w b A cap bs 0)
    (hbs : bs = Lib.uvarint 1024 ++ (mwBytes ss ++ rest)) (hA : ∀ g' o, A = some ⟨g', o, none⟩ → g' < w.heap.size) :
    Calls Tryz.prog 10 #[.iface 32 (.pointer (some ⟨b, 0, none⟩))] w fun e w' => ∃ a mk secs, e = .returned (.tuple #[.iface mwT (.pointer (some a)), .nilIface]) ∧ RdAt w' b A cap bs (2 + (mwBytes ss).length) ∧
      secs.map Sec.two = ss ∧ MwAt w' a mk secs ∧ (∀ s ∈ secs, w.heap.size ≤ s.gd) ∧ w.heap.size ≤ a.block ∧ w.heap.size ≤ mk ∧ Kp (fun i => i = b) w w' := by
  have hme := method_UnmarshalM
  have hbl := h.blt
  have hRC := ReadCodec_ok b A cap bs 0 1024 (by omega) (mwBytes ss ++ rest) w h (by rw [List.drop_zero]; exact hbs)
  rw [uv1024] at hRC
  have hd2 : bs.drop 2 = mwBytes ss ++ rest := by rw [hbs, uv1024]; rfl
  have HD := Lib.hid hd2
  clear hbs hd2 h
  go_enter Tryz.func10, Tryz.ntmps10
  go_wp2_with fail
  refine hRC.mono ?_
  clear hRC
  rintro e w1 ⟨rfl, hR1, hK1⟩
  have hz1 := hK1.size
  go_wp2_with fail
  refine (New_sorted _).mono ?_
  rintro e w2 ⟨rfl, hM2, hb2⟩
  have hR2 : RdAt w2 b A cap bs 2 := hR1.keep (S := fun _ => False) (Kp.of_below hb2) id (fun _ _ _ => id)
  have hal := World.block_lt_of_cell? w2 _ hM2.cell
  have hU := MwUnmarshal_ok b A cap bs 2 ⟨w1.heap.size + 1, 0, none⟩ w1.heap.size ss rest hw hnd w2 hsm hR2 HD.out hM2 (by show w1.heap.size + 1 ≠ b; omega) (by omega) (by show w1.heap.size + 1 ≠ w1.heap.size; omega) (fun g' o e => by have := hA g' o e; have := hb2.size; refine ⟨by omega, ?_, by omega⟩; show g' ≠ w1.heap.size + 1; omega)
  clear hR1 hM2 hR2 hw hnd
  go_wp2_with fail
  refine hU.mono ?_
  clear hU
  rintro e w3 ⟨rfl, hR3, ⟨secs, hs, hM3, hg⟩, hK3⟩
  have hz2 := hb2.size
  go_wp2_with fail
  go_ret2
  refine ⟨_, _, secs, rfl, hR3, hs, hM3, fun s h => by have := hg s h; omega, by show w.heap.size ≤ w1.heap.size + 1; omega, hz1, ?_⟩
  exact (hK1.trans (S' := fun _ => False) (Kp.of_below hb2) (fun _ h => h.elim)).trans hK3 (fun i h => h.elim .inl (fun e => .inr (by omega)))

set_option maxRecDepth 100000 in
theorem found_nil (w : World) : Calls Tryz.prog 45 #[.nilIface] w fun e w' => e = .returned (.int .u8 0) ∧ w = w' := by
  go_enter Tryz.func45, Tryz.ntmps45
  go_wp2_with fail
  go_ret
  exact ⟨rfl, rfl⟩
theorem infoErrP : (Tryz.prog.info? 117).map (·.comparable) = some true := by kernel_rfl
theorem infoErrS : (Tryz.prog.info? 119).isSome = true := by kernel_rfl
theorem eql_err (p : Addr) (w : World) : (Go.binOp .eql 37 (.iface 117 (.pointer (some p))) (.iface 117 (.pointer (some p)))).run Tryz.prog w = .ok (.bool true) w := by
  obtain ⟨i, hi, hc⟩ := Option.map_eq_some_iff.1 infoErrP
  obtain ⟨j, hj⟩ := Option.isSome_iff_exists.1 infoErrS
  exact run_eql_iface_ptr_same w p Tryz.underlying37 Tryz.underlying117 hi hc hj
set_option maxRecDepth 100000 in
theorem found_no (p : Addr) (w : World) (he : w.cell? ⟨4, 0, none⟩ = some (.iface 117 (.pointer (some p)))) : Calls Tryz.prog 45 #[.iface 117 (.pointer (some p))] w fun e w' => e = .returned (.int .u8 1) ∧ w = w' := by
  have hq := eql_err
  go_enter Tryz.func45, Tryz.ntmps45
  go_wp2_with fail
  go_ret
  exact ⟨rfl, rfl⟩
set_option maxRecDepth 100000 in
set_option maxHeartbeats 3200000 in
theorem offsets_sorted (s : ByteArray) (ss : List (Nat × List UInt8)) (rest : List UInt8) (hs : s.data.toList = Lib.uvarint 1024 ++ (mwBytes ss ++ rest)) (hw : ∀ x ∈ ss, 8 ≤ x.1 ∧ x.1 ≤ 33554432 ∧ ∃ n, x.2.length = n * x.1 ∧ n ≤ 1000000) (hnd : (ss.map (·.1)).Nodup)
    (hl : s.size ≤ 16777216) (c : CidOf) (hc : c.Ok) (most : Nat) (hm : 1 ≤ most) (p : Addr) (w : World) (hg5 : 4 < w.heap.size) (he : w.cell? ⟨4, 0, none⟩ = some (.iface 117 (.pointer (some p)))) :
    Calls Tryz.prog 23 #[.string s, .agg #[.int .u64 c.ver, .int .u64 c.codec, .int .u64 c.code, .string (sOf c.dig)], .int .i64 (most : Int)] w fun e w' =>
      ∃ v M, e = .returned (.tuple #[v, .int .u8 (whyOf M)]) ∧ Tells ss c.dig M ∧ OutOf w' w.heap.size v (M.take most) ∧ Below w.heap.size w w' := by
  have hsz : s.size = s.data.toList.length := by rw [Array.length_toList]; rfl
  generalize hS : s.data.toList = bs at *
  have HS := Lib.hid hS; clear hS
  have HZ := Lib.hid hsz
  have hl' : bs.length ≤ 16777216 := by omega
  have hp : 0 < bs.length := by rw [hs, List.length_append, uv1024]; simp; omega
  clear hl hsz
  have HB := Lib.hid hs; clear hs
  have hme := method_GetAllM
  have hmf : ∀ (fn : Fn) (first cap : Array Value) (w : World), (Instr.makeFunc fn first cap).run Tryz.prog w = .ok (.func fn first cap) w := fun _ _ _ _ => rfl
  go_enter Tryz.func23, Tryz.ntmps23
  go_wp2_with (with_reducible refine conv_event rfl (.tmp 14) 9 27 5 rfl Tryz.underlying9 Tryz.underlying27 Tryz.underlying5 s rfl ?_)
  intro g0 cap0 w0 hg0 hcap0 hb0 hA0 hB0
  refine later ?_
  have hwA : Below w.heap.size w ((w.alloc (.cells #[.int .u64 (c.ver : Int), .int .u64 (c.codec : Int), .int .u64 (c.code : Int), .string (sOf c.dig)] 51)).alloc (.cells #[.int .i64 (most : Int)] 3)) := by (repeat (first | (with_reducible exact Below.refl _ _) | (with_reducible exact below_boxed _ _) | (with_reducible refine below_box ?_ _) | (with_reducible refine below_drew1 ?_) | (with_reducible refine below_drewn ?_ _) | (with_reducible refine below_bytes ?_ _ _) | (with_reducible refine below_next ?_ (by assumption)) | (with_reducible refine below_set ?_ (by first | (simp; done) | (simp; omega) | omega) _)))
  have hA1 := heap_alloc_last w (.cells #[.int .u64 (c.ver : Int), .int .u64 (c.codec : Int), .int .u64 (c.code : Int), .string (sOf c.dig)] 51)
  have hA2 := heap_alloc_last (w.alloc (.cells #[.int .u64 (c.ver : Int), .int .u64 (c.codec : Int), .int .u64 (c.code : Int), .string (sOf c.dig)] 51)) (.cells #[.int .i64 (most : Int)] 3)
  have hsz1 : (w.alloc (.cells #[.int .u64 (c.ver : Int), .int .u64 (c.codec : Int), .int .u64 (c.code : Int), .string (sOf c.dig)] 51)).heap.size = w.heap.size + 1 := by simp
  rw [hsz1] at hA2
  have hcb : w0.heap[w.heap.size]? = some (.cells #[.int .u64 (c.ver : Int), .int .u64 (c.codec : Int), .int .u64 (c.code : Int), .string (sOf c.dig)] 51 (0, 0)) := (hb0.block _ (by omega)).trans ((heap_alloc_old _ _ (by simp)).trans hA1)
  have hmb : w0.heap[w.heap.size + 1]? = some (.cells #[.int .i64 (most : Int)] 3 (0, 0)) := (hb0.block _ (by omega)).trans hA2
  have hbw0 : Below w.heap.size w w0 := hwA.trans (hb0.mono (by omega))
  have hgz : g0 < w0.heap.size := by
    rw [HS.out] at hA0
    rcases hA0 with h | ⟨g, o, e, hc⟩
    · rw [h] at hp; simp at hp
    · cases e
      exact World.block_lt_of_cell? w0 _ (hc 0 bs[0] (List.getElem?_eq_getElem hp))
  rw [HS.out] at hA0
  rw [HZ.out] at hcap0
  have hg0' : w.heap.size + 1 < g0 := by omega
  have hNR := NewReader_ok (some ⟨g0, 0, none⟩) cap0 bs w0 hA0 hcap0 (by omega) (fun g o e => by cases e; exact hgz)
  clear hA1 hA2 hsz1 hwA hb0 hA0 hB0 hg0
  rw [HZ.out]
  refine now ?_
  go_wp2_with fail
  refine hNR.mono ?_
  rintro e w1 ⟨rfl, hR1, hb1⟩
  have hz01 : w0.heap.size < w1.heap.size := hR1.blt
  have hRF := ReadFrom_sorted w0.heap.size (some ⟨g0, 0, none⟩) cap0 bs ss rest (fun x hx => ⟨(hw x hx).1, (hw x hx).2.1⟩) hnd w1 hl' hR1 HB.out (fun g' o e => by cases e; omega)
  have hbw1 := hbw0.trans (hb1.mono hbw0.size)
  have hcb1 := (hb1.block _ (Array.getElem?_eq_some_iff.1 hcb).1).trans hcb
  have hmb1 := (hb1.block _ (Array.getElem?_eq_some_iff.1 hmb).1).trans hmb
  clear hNR hR1 hb1 hcb hmb
  go_wp2_with fail
  refine hRF.mono ?_
  clear hRF
  rintro e w2 ⟨a, mk, secs, rfl, _, hss, hM2, hgds, haz, hmz, hK2⟩
  have hcb2 := (hK2.block _ (Array.getElem?_eq_some_iff.1 hcb1).1 (by omega)).trans hcb1
  have hmb2 := (hK2.block _ (Array.getElem?_eq_some_iff.1 hmb1).1 (by omega)).trans hmb1
  have hbw2 : Below w.heap.size w w2 := hK2.to_below hbw1 (fun i hi => by omega)
  have hz12 := hK2.size
  have kc0 := (blk_cell' hcb2 0).trans (show _ = some (Value.int .u64 (c.ver : Int)) from rfl)
  have kc1 := (blk_cell' hcb2 1).trans (show _ = some (Value.int .u64 (c.codec : Int)) from rfl)
  have kc2 := (blk_cell' hcb2 2).trans (show _ = some (Value.int .u64 (c.code : Int)) from rfl)
  have kc3 := (blk_cell' hcb2 3).trans (show _ = some (Value.string (sOf c.dig)) from rfl)
  have hWh : Whole secs := by
    intro x hx
    have := hw x.two (by rw [← hss]; exact List.mem_map.2 ⟨x, hx, rfl⟩)
    exact ⟨this.1, this.2.1, this.2.2⟩
  have HSS := Lib.hid hss
  clear hK2 hcb1 hmb1 hbw1 hbw0 hw hnd hss
  go_wp2_with fail
  refine (cidIn_ok c hc w2).mono ?_
  rintro e w3 ⟨rfl, hb3⟩
  have hbX : Below w2.heap.size w2 ((w3.alloc (.cells #[.string c.str] 63)).alloc (.cells #[.slice none 0 0] 55)) := (by (repeat (first | (with_reducible exact Below.refl _ _) | (with_reducible exact below_boxed _ _) | (with_reducible refine below_box ?_ _) | (with_reducible refine below_drew1 ?_) | (with_reducible refine below_drewn ?_ _) | (with_reducible refine below_bytes ?_ _ _) | (with_reducible refine below_next ?_ (by assumption)) | (with_reducible refine below_set ?_ (by first | (simp; done) | (simp; omega) | omega) _))) : Below w2.heap.size w2 _)
  have hsz3 : (w3.alloc (.cells #[.string c.str] 63)).heap.size = w3.heap.size + 1 := by simp
  have hz3 := hb3.size
  have hMX := hM2.kp (S := fun _ => False) (Kp.of_below hbX) id id (fun _ _ => id)
  have hbwX : Below w.heap.size w ((w3.alloc (.cells #[.string c.str] 63)).alloc (.cells #[.slice none 0 0] 55)) := below_next hbw2 hbX
  have hOX : OutAt ((w3.alloc (.cells #[.string c.str] 63)).alloc (.cells #[.slice none 0 0] 55)) (w3.heap.size + 1) (w.heap.size + 1) most [] := by
    have h1 := heap_alloc_last (w3.alloc (.cells #[.string c.str] 63)) (.cells #[.slice none 0 0] 55)
    rw [hsz3] at h1
    refine ⟨⟨_, h1, World.ownsRow_nil _ _ _ _⟩, ?_, by omega⟩
    exact (blk_cell' ((hbX.block _ (Array.getElem?_eq_some_iff.1 hmb2).1).trans hmb2) 0).trans rfl
  have hgdX : ∀ x ∈ secs, x.gd ≠ w3.heap.size + 1 := fun x hx => by have := (Array.getElem?_eq_some_iff.1 (hM2.row x hx)).1; omega
  have heX := (hbwX.cell (p := ⟨4, 0, none⟩) hg5).trans he
  have hGA := MwGetAll_ok a mk (w3.heap.size + 1) (w.heap.size + 1) most secs c hc 117 (.pointer (some p)) _ hMX hWh hOX hm hgdX (by omega) heX
  have HBW := Lib.hid hbwX
  clear hMX hOX hM2 hcb2 hmb2 kc0 kc1 kc2 kc3 hbX hbw2 hb3 hsz3
  go_wp2_with fail
  refine hGA.mono ?_
  clear hGA
  rintro e w4 ⟨M, hG, hO4, hT4⟩
  obtain ⟨hGA, hTe⟩ : GotAll _ M e ∧ Tells (secs.map Sec.two) c.dig M := hG
  rw [HSS.out] at hTe
  have hbw4 : Below w.heap.size w w4 := HBW.out.trans (hT4.bel.mono (by omega))
  have he4 := (hT4.bel.cell (p := ⟨4, 0, none⟩) (by show 4 < w3.heap.size + 1; omega)).trans heX
  obtain ⟨⟨v, hvb, hown⟩, _, _⟩ := hO4
  have kv := (blk_cell' hvb 0).trans (show _ = some v from rfl)
  have hownw : OutOf w4 w.heap.size v (M.take most) := own_mono hown (by omega)
  clear hT4 heX hvb hown
  by_cases hM0 : M = []
  · have hf := fun n => found_no p (w4.drewN n) he4
    rw [GotAll, if_pos hM0] at hGA
    subst hGA
    go_wp2_with fail
    go_quiet ((go_at_call 45; exact Calls.quiet_of_same ((hf _).mono fun e w1 h => ⟨h.1, h.2.symm⟩)))
    go_wp2_with fail
    go_ret2
    exact ⟨v, M, by rw [whyOf, if_pos hM0]; rfl, hTe, own_kp hownw (S := fun _ => False) ⟨rfl, rfl, rfl, Nat.le_refl _, fun _ _ _ => rfl⟩ (fun _ _ => id), below_drewn hbw4 _⟩
  · have hf := fun n => found_nil (w4.drewN n)
    rw [GotAll, if_neg hM0] at hGA
    subst hGA
    go_wp2_with fail
    go_quiet ((go_at_call 45; exact Calls.quiet_of_same ((hf _).mono fun e w1 h => ⟨h.1, h.2.symm⟩)))
    go_wp2_with fail
    go_ret2
    exact ⟨v, M, by rw [whyOf, if_neg hM0]; rfl, hTe, own_kp hownw (S := fun _ => False) ⟨rfl, rfl, rfl, Nat.le_refl _, fun _ _ _ => rfl⟩ (fun _ _ => id), below_drewn hbw4 _⟩

set_option maxRecDepth 100000 in
set_option maxHeartbeats 800000 in
theorem IxAll_sorted (s : ByteArray) (ss : List (Nat × List UInt8)) (rest : List UInt8) (hs : s.data.toList = Lib.uvarint 1024 ++ (mwBytes ss ++ rest)) (hw : ∀ x ∈ ss, 8 ≤ x.1 ∧ x.1 ≤ 33554432 ∧ ∃ n, x.2.length = n * x.1 ∧ n ≤ 1000000) (hnd : (ss.map (·.1)).Nodup)
    (hl : s.size ≤ 16777216) (c : CidOf) (hc : c.Ok) (most : Nat) (hm : 1 ≤ most) (p : Addr) (w : World) (hg5 : 4 < w.heap.size) (he : w.cell? ⟨4, 0, none⟩ = some (.iface 117 (.pointer (some p)))) :
    Calls Tryz.prog 15 #[.string s, .agg #[.int .u64 c.ver, .int .u64 c.codec, .int .u64 c.code, .string (sOf c.dig)], .int .i64 (most : Int)] w fun e w' =>
      ∃ v M, e = .returned (.tuple #[v, .int .u8 (whyOf M)]) ∧ Tells ss c.dig M ∧ OutOf w' w.heap.size v (M.take most) ∧ Below w.heap.size w w' := by
  have hb0 : Below w.heap.size w (w.alloc (.cells #[.int .u64 (c.ver : Int), .int .u64 (c.codec : Int), .int .u64 (c.code : Int), .string (sOf c.dig)] 51)) := below_boxed w _
  have hO := offsets_sorted s ss rest hs hw hnd hl c hc most hm p (w.alloc (.cells #[.int .u64 (c.ver : Int), .int .u64 (c.codec : Int), .int .u64 (c.code : Int), .string (sOf c.dig)] 51)) (by have := hb0.size; omega) ((hb0.cell (p := ⟨4, 0, none⟩) hg5).trans he)
  clear hs hw hnd he
  go_enter Tryz.func15, Tryz.ntmps15
  go_wp2_with fail
  refine hO.mono ?_
  clear hO
  rintro e w1 ⟨v, M, rfl, hT, hown, hb⟩
  go_wp2_with fail
  go_ret2
  exact ⟨v, M, rfl, hT, hown.mono hb0.size, hb0.trans (hb.mono hb0.size)⟩
end Go.Proofs.YtfjclhfhbclbhaaGreatDoor
