/- The whole law FnStShould. -/
import Derived.Test.YtifoicdnibgdaaaGreatDoorStsh
import Derived.Test.YtifoicdnibgdaaaGreatDoorAll
import Derived.Test.YtifoicdnibgdaaaGreatDoorPut
import Derived.Deep.RegionWith
import Derived.Deep.RegionHeld3
import Derived.Deep.DeepCutAuto
import Derived.Deep.CutBlock
namespace Go.Proofs.YtifoicdnibgdaaaGreatDoor
open Go.RowKit
set_option linter.unusedVariables false
set_option linter.unusedSimpArgs false
attribute [local go_sem] setCell_drewN alloc_drewN

def FitOkP : Prop := ∀ W, Calls Tryz.prog 8 #[.int .u64 1, .int .u64 85, .int .u64 18, .string ⟨#[]⟩] W fun e w' => (∃ d : List UInt8, d.length = 32 ∧ e = .returned (.agg #[.int .u64 1, .int .u64 85, .int .u64 18, .string (sOf d)])) ∧ Below W.heap.size W w'

def o0 : OOpt := ⟨false, false, false, false, false, false, 0, 0, 0, 0, 0, 0⟩
theorem puts_nil (d : List UInt8) (hd : d.length = 32) : putsB [] ⟨1, 85, 18, d⟩ o0 = (true, true) := by
  have hok : (⟨1, 85, 18, d⟩ : CidOf).Ok := ⟨.inr rfl, (show (85 : Nat) < 9223372036854775808 by decide), (show (18 : Nat) < 9223372036854775808 by decide), by simp only; omega⟩
  have hl := (CidOf.bytes_length hok).1
  have ht : tooLong ⟨1, 85, 18, d⟩ o0 = false := by
    unfold tooLong
    exact decide_eq_false (by show ¬ 2048 < _; omega)
  unfold putsB
  rw [if_neg (by simp), ht]
  rfl

set_option maxRecDepth 100000 in
set_option maxHeartbeats 3200000 in
theorem lawP_ok (l : List (CidOf × Int)) (A : Option Addr) (cap : Nat) (c : CidOf) (o : OOpt) (hom : o.mc < 18446744073709551616) (ty : TypeId) (ev : Value) (w : World) (hR : RowsAt w A l) (hlen : l.length ≤ 9223372036854775807) (hcap : l.length ≤ cap)
    (hg5 : 5 < w.heap.size) (he : w.cell? ⟨5, 0, none⟩ = some (.iface ty ev)) (hFit : FitOkP) :
    Calls Tryz.prog 4 #[.slice A l.length cap, .agg (CidCells c).toArray, .agg o.cells.toArray] w fun e w' => e = .returned (.bool true) ∧ Below w.heap.size w w' := by
  have hZ := fun W h => zzFits7_ok l A cap W h hlen hcap
  have hE := fun W h => stEntries_ok l A cap W h hlen hcap
  have hZ1 := fun W => zzFits1_ok c W
  have hS1 := fun W => stCid_ok c W
  have hag : c.agg = .agg #[.int .u64 c.ver, .int .u64 c.codec, .int .u64 c.code, .string (sOf c.dig)] := rfl
  have hcc0 : (Value.agg (CidCells c).toArray) = .agg #[.int .u64 c.ver, .int .u64 c.codec, .int .u64 c.code, .string (sOf c.dig)] := rfl
  have hoo : (Value.agg o.cells.toArray) = .agg #[.bool o.z, .bool o.i, .bool o.d, .bool o.wh, .bool o.v1, .bool o.tr, .int .u64 o.dp, .int .u64 o.ip, .int .u64 o.codec, .int .u64 o.mc, .int .u64 o.mh, .int .u64 o.ms] := rfl
  rw [hag] at hZ1 hS1
  rw [hoo, hcc0]
  go_enter Tryz.func4, Tryz.ntmps4
  go_wp2_with fail
  refine (hZ _ (hR.below (by (repeat (first | (with_reducible exact Below.refl _ _) | (with_reducible exact below_boxed _ _) | (with_reducible refine below_box ?_ _) | (with_reducible refine below_drew1 ?_) | (with_reducible refine below_drewn ?_ _) | (with_reducible refine below_bytes ?_ _ _) | (with_reducible refine below_next ?_ (by assumption)) | (with_reducible refine below_set ?_ (by first | (simp; done) | (simp; omega) | omega) _)))))).mono ?_
  rintro e w1 ⟨b, rfl, hb1⟩
  obtain ⟨hcc, hff⟩ := bcell hb1
  have hz1 : w.heap.size + 1 < w1.heap.size := by have := hb1.size; simp at this; omega
  cases b with
  | false =>
    go_wp2_with fail
    go_ret
    exact ⟨rfl, by (repeat (first | (with_reducible exact Below.refl _ _) | (with_reducible exact below_boxed _ _) | (with_reducible refine below_box ?_ _) | (with_reducible refine below_drew1 ?_) | (with_reducible refine below_drewn ?_ _) | (with_reducible refine below_bytes ?_ _ _) | (with_reducible refine below_next ?_ (by assumption)) | (with_reducible refine below_set ?_ (by first | (simp; done) | (simp; omega) | omega) _)))⟩
  | true =>
  go_wp2_with fail
  refine (hZ1 _).mono ?_
  rintro e w2 ⟨rfl, hb2⟩
  have hb02 := below_next hb1 hb2
  clear hcc hff
  obtain ⟨hcc, hff⟩ := bcell hb02
  have hz2 : w.heap.size + 1 < w2.heap.size := by have := hb02.size; simp at this; omega
  cases hfb : fitB c.dig.length with
  | false =>
    go_wp2_with fail
    go_ret
    exact ⟨rfl, by (repeat (first | (with_reducible exact Below.refl _ _) | (with_reducible exact below_boxed _ _) | (with_reducible refine below_box ?_ _) | (with_reducible refine below_drew1 ?_) | (with_reducible refine below_drewn ?_ _) | (with_reducible refine below_bytes ?_ _ _) | (with_reducible refine below_next ?_ (by assumption)) | (with_reducible refine below_set ?_ (by first | (simp; done) | (simp; omega) | omega) _)))⟩
  | true =>
  go_wp2_with fail
  have hbw2 : Below w.heap.size w w2 := below_next (below_box (below_boxed w _) _) hb02
  refine (hE _ (hR.below hbw2)).mono ?_
  rintro e w3 ⟨b, rfl, hbt, hb3⟩
  have hb03 := below_next hb02 hb3
  clear hcc hff
  obtain ⟨hcc, hff⟩ := bcell hb03
  have hz3 : w.heap.size + 1 < w3.heap.size := by have := hb03.size; simp at this; omega
  cases b with
  | false =>
    go_wp2_with fail
    go_ret
    exact ⟨rfl, by (repeat (first | (with_reducible exact Below.refl _ _) | (with_reducible exact below_boxed _ _) | (with_reducible refine below_box ?_ _) | (with_reducible refine below_drew1 ?_) | (with_reducible refine below_drewn ?_ _) | (with_reducible refine below_bytes ?_ _ _) | (with_reducible refine below_next ?_ (by assumption)) | (with_reducible refine below_set ?_ (by first | (simp; done) | (simp; omega) | omega) _)))⟩
  | true =>
  go_wp2_with fail
  refine (hS1 _).mono ?_
  rintro e w4 ⟨rfl, hb4⟩
  have hb04 := below_next hb03 hb4
  clear hcc hff
  obtain ⟨hcc, hff⟩ := bcell hb04
  have hz4 : w.heap.size + 1 < w4.heap.size := by have := hb04.size; simp at this; omega
  have hbw4 : Below w.heap.size w w4 := below_next (below_box (below_boxed w _) _) hb04
  cases hsb : stB c with
  | false =>
    go_wp2_with fail
    go_ret
    exact ⟨rfl, by (repeat (first | (with_reducible exact Below.refl _ _) | (with_reducible exact below_boxed _ _) | (with_reducible refine below_box ?_ _) | (with_reducible refine below_drew1 ?_) | (with_reducible refine below_drewn ?_ _) | (with_reducible refine below_bytes ?_ _ _) | (with_reducible refine below_next ?_ (by assumption)) | (with_reducible refine below_set ?_ (by first | (simp; done) | (simp; omega) | omega) _)))⟩
  | true =>
  obtain ⟨h60, hst⟩ := hbt (by simp)
  have hck : c.Ok := stB_ok hsb
  have hlk : ∀ x, x ∈ l → x.1.Ok := fun x hx => stB_ok (hst x hx)
  clear hZ hE hZ1 hS1 hbt hst hsb hfb
  have hSt := fun W h => stOf_ok l A cap W h h60 hcap
  have hPu := fun B cap' W h h2 => Puts_ok (l.map (·.1)) c hck o B cap' W h (by simpa using h60) (by simpa using h2)
  have hSh := fun W h1 h2 h3 => StShould_ok l hlk A cap c hck o hom ty ev W h1 (by omega) hcap h2 h3
  have hcc0 : (Value.agg (CidCells c).toArray) = .agg #[.int .u64 c.ver, .int .u64 c.codec, .int .u64 c.code, .string (sOf c.dig)] := rfl
  have hoo : (Value.agg o.cells.toArray) = .agg #[.bool o.z, .bool o.i, .bool o.d, .bool o.wh, .bool o.v1, .bool o.tr, .int .u64 o.dp, .int .u64 o.ip, .int .u64 o.codec, .int .u64 o.mc, .int .u64 o.mh, .int .u64 o.ms] := rfl
  simp only [hoo, hcc0, List.length_map] at hPu hSh
  obtain ⟨r, hr⟩ : ∃ r, r = putsB (l.map (·.1)) c o := ⟨_, rfl⟩
  rw [← hr] at hPu hSh
  clear hr hcc0 hoo
  obtain ⟨r1, r2⟩ := r
  go_upto_region 5 with fail
  go_cut [7, 8] (fun s7 s8 wx => s7 = .bool r1 ∧ s8 = .bool r2 ∧ Below w4.heap.size w4 wx)
  case first =>
    have d0 : w4.drew.cell? ⟨w.heap.size, 0, none⟩ = some (.int .u64 c.ver) := (hcc w.heap.size 0 (by simp; omega)).trans (by simp)
    have d1 : w4.drew.cell? ⟨w.heap.size, 1, none⟩ = some (.int .u64 c.codec) := (hcc w.heap.size 1 (by simp; omega)).trans (by simp)
    have d2 : w4.drew.cell? ⟨w.heap.size, 2, none⟩ = some (.int .u64 c.code) := (hcc w.heap.size 2 (by simp; omega)).trans (by simp)
    have d3 : w4.drew.cell? ⟨w.heap.size, 3, none⟩ = some (.string (sOf c.dig)) := (hcc w.heap.size 3 (by simp; omega)).trans (by simp)
    have e0 : w4.drew.cell? ⟨w.heap.size + 1, 0, none⟩ = some (.bool o.z) := by simp [hcc]
    have e1 : w4.drew.cell? ⟨w.heap.size + 1, 1, none⟩ = some (.bool o.i) := by simp [hcc]
    have e2 : w4.drew.cell? ⟨w.heap.size + 1, 2, none⟩ = some (.bool o.d) := by simp [hcc]
    have e3 : w4.drew.cell? ⟨w.heap.size + 1, 3, none⟩ = some (.bool o.wh) := by simp [hcc]
    have e4 : w4.drew.cell? ⟨w.heap.size + 1, 4, none⟩ = some (.bool o.v1) := by simp [hcc]
    have e5 : w4.drew.cell? ⟨w.heap.size + 1, 5, none⟩ = some (.bool o.tr) := by simp [hcc]
    have e6 : w4.drew.cell? ⟨w.heap.size + 1, 6, none⟩ = some (.int .u64 o.dp) := by simp [hcc]
    have e7 : w4.drew.cell? ⟨w.heap.size + 1, 7, none⟩ = some (.int .u64 o.ip) := by simp [hcc]
    have e8 : w4.drew.cell? ⟨w.heap.size + 1, 8, none⟩ = some (.int .u64 o.codec) := by simp [hcc]
    have e9 : w4.drew.cell? ⟨w.heap.size + 1, 9, none⟩ = some (.int .u64 o.mc) := by simp [hcc]
    have e10 : w4.drew.cell? ⟨w.heap.size + 1, 10, none⟩ = some (.int .u64 o.mh) := by simp [hcc]
    have e11 : w4.drew.cell? ⟨w.heap.size + 1, 11, none⟩ = some (.int .u64 o.ms) := by simp [hcc]
    go_region_with (first | (go_at_call 12; refine (hSt _ (hR.below (by (repeat (first | (with_reducible exact Below.refl _ _) | (with_reducible exact below_boxed _ _) | (with_reducible refine below_box ?_ _) | (with_reducible refine below_drew1 ?_) | (with_reducible refine below_drewn ?_ _) | (with_reducible refine below_bytes ?_ _ _) | (with_reducible refine below_next ?_ (by assumption)) | (with_reducible refine below_set ?_ (by first | (simp; done) | (simp; omega) | omega) _)))))).mono ?_; rintro e w5 ⟨B, cap', rfl, hc', hCR, hb5⟩; have x0 := (hb5.cell (p := ⟨w.heap.size, 0, none⟩) (show w.heap.size < w4.heap.size by omega)).trans d0; have x1 := (hb5.cell (p := ⟨w.heap.size, 1, none⟩) (show w.heap.size < w4.heap.size by omega)).trans d1; have x2 := (hb5.cell (p := ⟨w.heap.size, 2, none⟩) (show w.heap.size < w4.heap.size by omega)).trans d2; have x3 := (hb5.cell (p := ⟨w.heap.size, 3, none⟩) (show w.heap.size < w4.heap.size by omega)).trans d3; have y0 := (hb5.cell (p := ⟨w.heap.size + 1, 0, none⟩) (show w.heap.size + 1 < w4.heap.size by omega)).trans e0; have y1 := (hb5.cell (p := ⟨w.heap.size + 1, 1, none⟩) (show w.heap.size + 1 < w4.heap.size by omega)).trans e1; have y2 := (hb5.cell (p := ⟨w.heap.size + 1, 2, none⟩) (show w.heap.size + 1 < w4.heap.size by omega)).trans e2; have y3 := (hb5.cell (p := ⟨w.heap.size + 1, 3, none⟩) (show w.heap.size + 1 < w4.heap.size by omega)).trans e3; have y4 := (hb5.cell (p := ⟨w.heap.size + 1, 4, none⟩) (show w.heap.size + 1 < w4.heap.size by omega)).trans e4; have y5 := (hb5.cell (p := ⟨w.heap.size + 1, 5, none⟩) (show w.heap.size + 1 < w4.heap.size by omega)).trans e5; have y6 := (hb5.cell (p := ⟨w.heap.size + 1, 6, none⟩) (show w.heap.size + 1 < w4.heap.size by omega)).trans e6; have y7 := (hb5.cell (p := ⟨w.heap.size + 1, 7, none⟩) (show w.heap.size + 1 < w4.heap.size by omega)).trans e7; have y8 := (hb5.cell (p := ⟨w.heap.size + 1, 8, none⟩) (show w.heap.size + 1 < w4.heap.size by omega)).trans e8; have y9 := (hb5.cell (p := ⟨w.heap.size + 1, 9, none⟩) (show w.heap.size + 1 < w4.heap.size by omega)).trans e9; have y10 := (hb5.cell (p := ⟨w.heap.size + 1, 10, none⟩) (show w.heap.size + 1 < w4.heap.size by omega)).trans e10; have y11 := (hb5.cell (p := ⟨w.heap.size + 1, 11, none⟩) (show w.heap.size + 1 < w4.heap.size by omega)).trans e11) | (go_at_call 11; refine (hPu _ _ _ hCR hc').mono ?_; rintro e w6 ⟨rfl, hb6⟩))
    all_goals go_wp2_with fail
    all_goals go_meet
    all_goals exact ⟨rfl, rfl, by (repeat (first | (with_reducible exact Below.refl _ _) | (with_reducible exact below_boxed _ _) | (with_reducible refine below_box ?_ _) | (with_reducible refine below_drew1 ?_) | (with_reducible refine below_drewn ?_ _) | (with_reducible refine below_bytes ?_ _ _) | (with_reducible refine below_next ?_ (by assumption)) | (with_reducible refine below_set ?_ (by first | (simp; done) | (simp; omega) | omega) _)))⟩
  case rest =>
    obtain ⟨rfl, rfl, hb5⟩ := hcut
    clear hSt hPu
    have hb05 := below_next hb04 hb5
    clear hcc hff
    obtain ⟨hcc, hff⟩ := bcell hb05
    have hz5 : w.heap.size + 1 < wc.heap.size := by have := hb05.size; simp at this; omega
    have hbw5 : Below w.heap.size w wc := below_next (below_box (below_boxed w _) _) hb05
    go_wp2_with fail
    refine (hSh _ (hR.below (by (repeat (first | (with_reducible exact Below.refl _ _) | (with_reducible exact below_boxed _ _) | (with_reducible refine below_box ?_ _) | (with_reducible refine below_drew1 ?_) | (with_reducible refine below_drewn ?_ _) | (with_reducible refine below_bytes ?_ _ _) | (with_reducible refine below_next ?_ (by assumption)) | (with_reducible refine below_set ?_ (by first | (simp; done) | (simp; omega) | omega) _))))) (Nat.lt_of_lt_of_le hg5 hbw5.size) ((hbw5.cell (p := ⟨5, 0, none⟩) hg5).trans he)).mono ?_
    rintro e w6 ⟨rfl, hb6⟩
    have hbw6 : Below w.heap.size w w6 := below_next hbw5 hb6
    clear hcc hff hSh
    go_wp2_with fail
    refine (hFit _).mono ?_
    rintro e w7 ⟨⟨d, hd, rfl⟩, hb7⟩
    have hbw7 := below_next hbw6 hb7
    have hok : (⟨1, 85, 18, d⟩ : CidOf).Ok := ⟨.inr rfl, (show (85 : Nat) < 9223372036854775808 by decide), (show (18 : Nat) < 9223372036854775808 by decide), by simp only; omega⟩
    have hN : Calls Tryz.prog 13 #[.slice none 0 0, .agg #[.int .u64 1, .int .u64 85, .int .u64 18, .string (sOf d)], .agg #[.bool false, .bool false, .bool false, .bool false, .bool false, .bool false, .int .u64 0, .int .u64 0, .int .u64 0, .int .u64 0, .int .u64 0, .int .u64 0]] w7 fun e w' => e = .returned (.tuple #[.bool true, .bool true]) ∧ Below w7.heap.size w7 w' := by
      have h1 := StShould_ok [] (by simp) none 0 ⟨1, 85, 18, d⟩ hok o0 (by decide) ty ev w7 (.inl rfl) (by simp) (by simp) (Nat.lt_of_lt_of_le hg5 hbw7.size) ((hbw7.cell (p := ⟨5, 0, none⟩) hg5).trans he)
      rw [show ([] : List (CidOf × Int)).map (·.1) = [] from rfl, puts_nil d hd] at h1
      exact h1
    go_wp2_with fail
    refine hN.mono ?_
    rintro e w8 ⟨rfl, hb8⟩
    have hbw8 := below_next hbw7 hb8
    clear hN hb8 hb7 hb6 hb5 hb05 hb04 hb4 hb3 hb03 hb02 hb2 hb1
    cases r1 <;> cases r2
    all_goals go_wp2_with fail
    all_goals go_ret
    all_goals exact ⟨rfl, hbw8⟩
end Go.Proofs.YtifoicdnibgdaaaGreatDoor
