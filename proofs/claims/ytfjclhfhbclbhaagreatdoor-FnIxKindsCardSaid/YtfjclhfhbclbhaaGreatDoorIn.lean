/- cidIn: an identifier made, behind a deferred recover. -/
import Derived.Test.YtfjclhfhbclbhaaGreatDoorBld
import Derived.Defers
import Derived.Recover
import Derived.RegionCalls
import Derived.Deep.RegionWith
import Derived.Deep.RegionHeld3
namespace Go.Proofs.YtfjclhfhbclbhaaGreatDoor
open Go.RowKit
set_option linter.unusedVariables false
set_option linter.unusedSimpArgs false
attribute [local go_sem] setCell_drewN alloc_drewN

set_option maxRecDepth 100000 in
theorem catch_idle (p q : Addr) (w : World) :
    CallsD Tryz.prog 28 #[.pointer (some p), .pointer (some q)] .returning w fun e u' w' => e = .returned (.tuple #[]) ∧ u' = .returning ∧ w = w' := by
  refine callsD_of_wpS Tryz.func28 rfl fun c₀ cs hu => ?_
  apply wpS_seq
  apply wpS_region
  simp [wpOpsS, go_sem, recoverD, hu, Tryz.ntmps28, Exit.thenS]
  refine wpS_cond (t := false) (by simp [Act.eval, Array.replicate]) ?_
  simp only [Bool.false_eq_true, if_false]
  refine wpS_of_wp (wp_skip ?_)
  cases c₀
  simp_all [bodyPostS, results, Tryz.results28]

set_option maxRecDepth 100000 in
set_option maxHeartbeats 3200000 in
theorem cidIn_v1 (c : CidOf) (hc : c.Ok) (h1 : c.ver = 1) (w : World) :
    Calls Tryz.prog 18 #[.agg #[.int .u64 1, .int .u64 c.codec, .int .u64 c.code, .string (sOf c.dig)]] w fun e w' => e = .returned (.tuple #[.agg #[.string c.str], .bool true]) ∧ Below w.heap.size w w' := by
  have hmf : ∀ (fn : Fn) (first cap : Array Value) (w : World), (Instr.makeFunc fn first cap).run Tryz.prog w = .ok (.func fn first cap) w := fun _ _ _ _ => rfl
  have hd := hc.dig
  have hmh : c.mh = mhOf c.code c.dig := rfl
  have hml := CidOf.mh_length hc
  have hss : (sOf c.dig).size = c.dig.length := rfl
  have hst : c.str = sOf ([1] ++ (Lib.uvarint c.codec ++ c.mh)) := by unfold CidOf.str CidOf.bytes; rw [if_neg (by omega), uvarint_1]; rfl
  generalize c.str = str at *
  have HST := Lib.hid hst; clear hst
  generalize hs : sOf c.dig = s at *
  have HS := Lib.hid hs; clear hs
  have HMH := Lib.hid hmh; clear hmh
  have HSS := Lib.hid hss; clear hss
  go_enter_defers Tryz.func18, Tryz.ntmps18
  go_wp2_with (with_reducible refine conv_event rfl (.tmp 9) 9 27 5 rfl Tryz.underlying9 Tryz.underlying27 Tryz.underlying5 s rfl ?_)
  intro g0 cap0 w0 hg0 hcap0 hb0 hA0 hB0
  subst hg0
  obtain ⟨hcc, hff⟩ := bcellB hb0
  have hz0 : w.heap.size + 1 + 1 + 1 ≤ w0.heap.size := by have := hb0.size; simp at this; omega
  have hz01 : w.heap.size < w0.heap.size := by omega
  have hz02 : w.heap.size + 1 < w0.heap.size := by omega
  have hz03 : w.heap.size + 1 + 1 < w0.heap.size := by omega
  have hdl : s.data.toList = c.dig := by rw [← HS.out]; rfl
  rw [hdl] at hA0
  rw [HSS.out] at hcap0
  clear hdl
  rw [HSS.out]
  go_wp2_with fail
  have hen := Encode_ok c.code hc.code c.dig (by omega) _ cap0 w0 hA0 hcap0
  refine hen.mono ?_
  clear hen
  rintro e w1 ⟨g1, rfl, hg1, hb1, hle1⟩
  have hA1 : BytesAt w1 (some ⟨g1, 0, none⟩) c.mh := BytesAt.of_cells hg1
  rw [← HMH.out]
  clear hcc hff
  have hb01 : Below (w.heap.size + 1 + 1 + 1) _ w1 := hb0.trans (hb1.mono hz0)
  obtain ⟨hcc, hff⟩ := bcellB hb01
  have HG1 := Lib.hid hg1; clear hg1
  go_wp2_with fail
  refine (NewCidV1_ok c.codec hc.codec c.mh (by omega) _ _ _ hA1 (Nat.le_refl _)).mono ?_
  rw [← HST.out]
  rintro e w2 ⟨rfl, hb2⟩
  clear hcc hff
  have hz1 : w.heap.size + 1 + 1 + 1 ≤ w1.heap.size := by have := hb1.size; omega
  have hb02 : Below (w.heap.size + 1 + 1 + 1) _ w2 := hb01.trans (hb2.mono hz1)
  obtain ⟨hcc, hff⟩ := bcellB hb02
  go_wp2_with fail
  refine leaves_cons (f := 28) (args := #[.pointer (some ⟨w.heap.size + 1, 0, none⟩), .pointer (some ⟨w.heap.size + 1 + 1, 0, none⟩)]) (by simp) (by simp [go_sem]) ?_
  refine (catch_idle _ _ _).mono ?_
  rintro e u' w'' ⟨rfl, rfl, rfl⟩
  simp [Leaves, settle, results, Tryz.results18, go_sem, hcc, hff]
  refine below_set (below_set ?_ (by simp) _) (by simp; omega) _
  exact Below.trans (by (repeat (first | (with_reducible exact Below.refl _ _) | (with_reducible exact below_boxed _ _) | (with_reducible refine below_box ?_ _) | (with_reducible refine below_drew1 ?_) | (with_reducible refine below_drewn ?_ _) | (with_reducible refine below_bytes ?_ _ _) | (with_reducible refine below_next ?_ (by assumption)) | (with_reducible refine below_set ?_ (by first | (simp; done) | (simp; omega) | omega) _)))) (hb02.mono (by omega))

set_option maxRecDepth 100000 in
set_option maxHeartbeats 3200000 in
theorem cidIn_v0 (c : CidOf) (hc : c.Ok) (h1 : c.ver = 0) (w : World) :
    Calls Tryz.prog 18 #[.agg #[.int .u64 0, .int .u64 112, .int .u64 18, .string (sOf c.dig)]] w fun e w' => e = .returned (.tuple #[.agg #[.string c.str], .bool true]) ∧ Below w.heap.size w w' := by
  have hmf : ∀ (fn : Fn) (first cap : Array Value) (w : World), (Instr.makeFunc fn first cap).run Tryz.prog w = .ok (.func fn first cap) w := fun _ _ _ _ => rfl
  have hd := hc.dig
  have hmh : c.mh = mhOf c.code c.dig := rfl
  have hml := CidOf.mh_length hc
  have hss : (sOf c.dig).size = c.dig.length := rfl
  have hd32 : c.dig.length = 32 := by rcases hc.ver with h | h <;> omega
  have hcode : c.code = 18 := by rcases hc.ver with h | h <;> omega
  have hst : c.str = sOf c.mh := by unfold CidOf.str CidOf.bytes; rw [if_pos h1]; rfl
  rw [hcode] at hmh
  generalize c.str = str at *
  have HST := Lib.hid hst; clear hst
  generalize hs : sOf c.dig = s at *
  have HS := Lib.hid hs; clear hs
  have HMH := Lib.hid hmh; clear hmh
  have HSS := Lib.hid hss; clear hss
  have HD := Lib.hid hd32; clear hd32
  clear hcode h1
  go_enter_defers Tryz.func18, Tryz.ntmps18
  go_wp2_with (with_reducible refine conv_event rfl (.tmp 9) 9 27 5 rfl Tryz.underlying9 Tryz.underlying27 Tryz.underlying5 s rfl ?_)
  intro g0 cap0 w0 hg0 hcap0 hb0 hA0 hB0
  subst hg0
  obtain ⟨hcc, hff⟩ := bcellB hb0
  have hz0 : w.heap.size + 1 + 1 + 1 ≤ w0.heap.size := by have := hb0.size; simp at this; omega
  have hz01 : w.heap.size < w0.heap.size := by omega
  have hz02 : w.heap.size + 1 < w0.heap.size := by omega
  have hz03 : w.heap.size + 1 + 1 < w0.heap.size := by omega
  have hdl : s.data.toList = c.dig := by rw [← HS.out]; rfl
  rw [hdl] at hA0
  rw [HSS.out] at hcap0
  clear hdl
  rw [HSS.out]
  go_wp2_with fail
  have hen := Encode_ok 18 (by omega) c.dig (by omega) _ cap0 w0 hA0 hcap0
  refine hen.mono ?_
  clear hen
  rintro e w1 ⟨g1, rfl, hg1, hb1, hle1⟩
  have hA1 : BytesAt w1 (some ⟨g1, 0, none⟩) (mhOf 18 c.dig) := BytesAt.of_cells hg1
  rw [← HMH.out]
  clear hcc hff
  have hb01 : Below (w.heap.size + 1 + 1 + 1) _ w1 := hb0.trans (hb1.mono hz0)
  obtain ⟨hcc, hff⟩ := bcellB hb01
  have HG1 := Lib.hid hg1; clear hg1
  go_wp2_with fail
  have hz1 : w.heap.size + 1 + 1 + 1 ≤ w1.heap.size := by have := hb1.size; omega
  have hfin : Below w.heap.size w w1 := Below.trans (by (repeat (first | (with_reducible exact Below.refl _ _) | (with_reducible exact below_boxed _ _) | (with_reducible refine below_box ?_ _) | (with_reducible refine below_drew1 ?_) | (with_reducible refine below_drewn ?_ _) | (with_reducible refine below_bytes ?_ _ _) | (with_reducible refine below_next ?_ (by assumption)) | (with_reducible refine below_set ?_ (by first | (simp; done) | (simp; omega) | omega) _)))) (hb01.mono (by omega))
  have hA1d : BytesAt w1.drew (some ⟨g1, 0, none⟩) (mhOf 18 c.dig) := hA1
  clear hA1
  refine wp_region_noPanic ?_
  go_region_with (go_at_call 30; refine (NewCidV0_ok c.dig HD.out _ _ _ _ hA1d (by rw [HMH.out]) (Nat.le_refl _)).mono ?_; rintro e w2 ⟨rfl, hb2⟩; have hb2' : Below w1.heap.size w1 w2 := ⟨hb2.os, hb2.tape, hb2.output, hb2.size, hb2.block⟩; obtain ⟨hcc2, hff2⟩ := bcellB (hb01.trans (hb2'.mono hz1)))
  all_goals
    refine NoPanic.normal ?_
    have hstr : sOf (mhOf 18 c.dig) = str := by rw [HST.out, HMH.out]
    go_wp2_with fail
    refine leaves_cons (f := 28) (args := #[.pointer (some ⟨w.heap.size + 1, 0, none⟩), .pointer (some ⟨w.heap.size + 1 + 1, 0, none⟩)]) (by simp) (by simp [go_sem]) ?_
    refine (catch_idle _ _ _).mono ?_
    rintro e u' w'' ⟨rfl, rfl, rfl⟩
    simp [Leaves, settle, results, Tryz.results18, go_sem, hcc2, hff2]
    have hfin2 := below_next hfin hb2'
    refine ⟨hstr, below_set (below_set ?_ ?_ _) ?_ _⟩
    · exact hfin2
    · show w.heap.size ≤ w.heap.size + 1; omega
    · show w.heap.size ≤ w.heap.size + 1 + 1; omega

theorem cidIn_ok (c : CidOf) (hc : c.Ok) (w : World) :
    Calls Tryz.prog 18 #[.agg #[.int .u64 c.ver, .int .u64 c.codec, .int .u64 c.code, .string (sOf c.dig)]] w fun e w' => e = .returned (.tuple #[.agg #[.string c.str], .bool true]) ∧ Below w.heap.size w w' := by
  rcases hc.ver with h | h
  · obtain ⟨h0, h1, h2, h3⟩ := h
    rw [h0, h1, h2]
    exact cidIn_v0 c hc h0 w
  · rw [h]; exact cidIn_v1 c hc h w
end Go.Proofs.YtfjclhfhbclbhaaGreatDoor
