import Derived.Test.YtgdgmegpacmgnaaGreatDoorG20
import Derived.BigQuiet
import Derived.RegionCalls
import Derived.Test.YtgdgmegpacmgnaaGreatDoorG01
/- slices.Sort of uint32 (printed by gen_pdq.py). -/
namespace Go.Proofs.YtgdgmegpacmgnaaGreatDoor
open Go.Shelf Go.RowKit Go.Lib Go.Sort
set_option linter.unusedVariables false
set_option linter.unusedSimpArgs false
attribute [local go_sem] setCell_drewN alloc_drewN

set_option maxRecDepth 100000 in
theorem less32 (x y : Int) (w : World) : Calls Tryz.prog 252 #[.int .u32 x, .int .u32 y] w fun e w' => e = .returned (.bool (ltI x y)) ∧ w = w' := by
  have hN : ∀ z w, Calls Tryz.prog 260 #[.int .u32 z] w fun e w' => e = .returned (.bool false) ∧ w' = w := by
    intro z w
    go_enter Tryz.func260, Tryz.ntmps260
    go_wp2_with fail
    go_ret
    exact ⟨by simp, rfl⟩
  go_enter Tryz.func252, Tryz.ntmps252
  go_wp2_with fail
  refine (hN _ _).mono ?_
  rintro e w' ⟨rfl, rfl⟩
  go_wp2_with fail
  go_ret
  exact ⟨rfl, rfl⟩

set_option maxHeartbeats 3200000 in
set_option maxRecDepth 100000 in
theorem insert32 (g cap n a b : Nat) (d : Array Int) (w : World) (hn : n = d.size) (hH : Holds (Value.int .u32) w g 0 d) (hg : g < w.heap.size) (hab : a ≤ b) (hb : b ≤ d.size) (hsz : d.size ≤ 1000000) :
    Calls Tryz.prog 246 #[.slice (some ⟨g, 0, none⟩) n cap, .int .i64 a, .int .i64 b] w fun e w' => e = .returned (.tuple #[]) ∧ RowS .u32 w g (Sort.insertionSort ltI d a b) w' := by
  have hS0 := SW.start hH
  have HS0 := Lib.hid hS0
  have HH := Lib.hid hH
  have hls := less32
  clear hS0 hH
  go_enter Tryz.func246, Tryz.ntmps246
  go_wp2_with fail
  go_loopw [6] (fun vi wr => ∃ (i : Nat) (dk : Array Int), vi = .int .i64 i ∧ a < i ∧ i ≤ b + 1 ∧ dk.size = d.size ∧ RowS .u32 w g dk wr ∧ insOuter ltI a b i dk = insOuter ltI a b (a + 1) d) (fun vi _ => b + 1 - (intOf vi).toNat)
  case atStart => exact ⟨a + 1, d, by go_num, by omega, by omega, rfl, HS0.out, rfl⟩
  case round =>
    obtain ⟨i, dk, rfl, hai, hib, hsk, hS, hOu⟩ := hrel
    have HO := Lib.hid hOu
    clear hOu
    by_cases hlt : i < b
    · obtain ⟨wo, rfl⟩ : ∃ wo, wo = wr := ⟨_, rfl⟩
      go_wp2_with fail
      go_loopw [7] (fun vj wr => ∃ (j : Nat) (dj : Array Int), vj = .int .i64 j ∧ a ≤ j ∧ j ≤ i ∧ dj.size = d.size ∧ RowS .u32 w g dj wr ∧ insInner ltI a j dj = insInner ltI a i dk) (fun vj _ => (intOf vj).toNat)
      case atStart => exact ⟨i, dk, rfl, by omega, Nat.le_refl _, hsk, hS, rfl⟩
      case round =>
        clear hS
        obtain ⟨j, dj, rfl, haj, hji, hsj, hS, hI⟩ := hrel
        have HI := Lib.hid hI
        clear hI
        have HS := Lib.hid hS
        by_cases hja : a < j
        · have hHk := SW.holds hS hg HH.out hsj
          obtain ⟨c1, f1⟩ := holdsN_cell hHk (i := j) (by omega)
          obtain ⟨c2, f2⟩ := holdsN_cell hHk (i := j - 1) (by omega)
          have hjz : ((j - 1 : Nat) : Int) = (j : Int) - 1 := by omega
          generalize hx : dj[j]! = x at *
          generalize hy : dj[j - 1]! = y at *
          have HX := Lib.hid hx; have HY := Lib.hid hy
          clear hx hy
          have hgj : decide ((a : Int) < (j : Int)) = true := by simp; omega
          have out : ltI x y = false → ∀ w1, RowS .u32 w g dj w1 → ∃ (i' : Nat) (dk' : Array Int), Value.int .i64 ((i : Int) + 1) = .int .i64 (i' : Nat) ∧ a < i' ∧ i' ≤ b + 1 ∧ dk'.size = d.size ∧ RowS .u32 w g dk' w1 ∧ insOuter ltI a b i' dk' = insOuter ltI a b (a + 1) d := fun hs w1 hw1 =>
            ⟨i + 1, dj, by go_num, by omega, by omega, hsj, hw1, by rw [← HO.out, insOuter_go _ _ _ _ _ hlt, ← HI.out, insInner_stop _ _ _ _ (.inr (by rw [HX.out, HY.out]; exact hs))]⟩
          have OUT := Lib.hid out
          have hsw := swN HS.out hg (i := j) (j := j - 1) (by omega) (by omega)
          rw [HX.out, HY.out] at hsw
          have HSW := Lib.hid hsw
          clear hS hHk out hsw
          go_wp2_with fail
          go_quiet ((go_at_call 252; exact Calls.quiet_of_same ((hls _ _ _).mono fun e w1 h => ⟨h.1, h.2.symm⟩)))
          cases hv : ltI x y with
          | true =>
            have HV := Lib.hid hv
            clear hv
            go_wp2_with fail
            go_region
            go_wp2_with fail
            go_roundw
            case rel => exact ⟨j - 1, swp dj j (j - 1), by go_num, by omega, by omega, by rw [size_swp]; exact hsj, SW.drewN HSW.out.1 _, by rw [← HI.out, insInner_go ltI a j dj hja (by rw [HX.out, HY.out]; exact HV.out)]⟩
            case measure => simp [intOf]; omega
          | false =>
            have HV := Lib.hid hv
            clear hv
            go_wp2_with fail
            go_roundw
            case rel => exact OUT.out HV.out _ (SW.drewN HS.out _)
            case measure => simp [intOf]; omega
        · have hgj : decide ((a : Int) < (j : Int)) = false := by simp; omega
          have out : ∀ w1, RowS .u32 w g dj w1 → ∃ (i' : Nat) (dk' : Array Int), Value.int .i64 ((i : Int) + 1) = .int .i64 (i' : Nat) ∧ a < i' ∧ i' ≤ b + 1 ∧ dk'.size = d.size ∧ RowS .u32 w g dk' w1 ∧ insOuter ltI a b i' dk' = insOuter ltI a b (a + 1) d := fun w1 hw1 =>
            ⟨i + 1, dj, by go_num, by omega, by omega, hsj, hw1, by rw [← HO.out, insOuter_go _ _ _ _ _ hlt, ← HI.out, insInner_stop _ _ _ _ (.inl (by omega))]⟩
          have OUT := Lib.hid out
          clear hS out
          go_wp2_with fail
          go_quiet ((go_at_call 252; exact Calls.quiet_of_same ((hls _ _ _).mono fun e w1 h => ⟨h.1, h.2.symm⟩)))
          go_wp2_with fail
          go_roundw
          case rel => exact OUT.out _ (SW.drewN HS.out _)
          case measure => simp [intOf]; omega
    · have HS := Lib.hid hS
      clear hS
      go_wp2_with fail
      go_end0
      refine ⟨rfl, ?_⟩
      have e : Sort.insertionSort ltI d a b = dk := by unfold Sort.insertionSort; rw [← HO.out, insOuter_stop _ _ _ _ _ hlt]
      rw [e]
      exact HS.out

set_option maxHeartbeats 6400000 in
set_option maxRecDepth 100000 in
theorem sift32 (g cap n lo hi first : Nat) (d : Array Int) (w : World) (hn : n = d.size) (hH : Holds (Value.int .u32) w g 0 d) (hg : g < w.heap.size) (hf : first + hi ≤ d.size) (hlo : lo ≤ hi) (hsz : d.size ≤ 1000000) :
    Calls Tryz.prog 257 #[.slice (some ⟨g, 0, none⟩) n cap, .int .i64 lo, .int .i64 hi, .int .i64 first] w fun e w' => e = .returned (.tuple #[]) ∧ RowS .u32 w g (siftDown ltI hi first lo d) w' := by
  have hS0 := SW.start hH
  have HS0 := Lib.hid hS0
  have HH := Lib.hid hH
  have hls := less32
  clear hS0 hH
  go_enter Tryz.func257, Tryz.ntmps257
  go_wp2_with fail
  go_loopw [8] (fun vr wr => ∃ (r : Nat) (dk : Array Int), vr = .int .i64 r ∧ r ≤ hi ∧ dk.size = d.size ∧ RowS .u32 w g dk wr ∧ siftDown ltI hi first r dk = siftDown ltI hi first lo d) (fun vr _ => hi - (intOf vr).toNat)
  case atStart => exact ⟨lo, d, rfl, hlo, rfl, HS0.out, rfl⟩
  case round =>
    obtain ⟨r, dk, rfl, hrh, hsk, hS, hEq⟩ := hrel
    have HE := Lib.hid hEq
    have HS := Lib.hid hS
    obtain ⟨ch, hch⟩ : ∃ ch, ch = 2 * r + 1 := ⟨_, rfl⟩
    obtain ⟨c2, hc2⟩ : ∃ c2, c2 = ch + 1 := ⟨_, rfl⟩
    have hci : (2 : Int) * (r : Int) + 1 = (ch : Int) := by omega
    have hcj : (ch : Int) + 1 = (c2 : Int) := by omega
    have HC := Lib.hid (And.intro hch hc2)
    clear hEq
    by_cases hend : hi ≤ ch
    · clear hch hc2 hS
      go_wp2_with fail
      go_end0
      refine ⟨rfl, ?_⟩
      rw [← HE.out, sift_stop (by have := HC.out.1; omega)]
      exact HS.out
    · have hHk := SW.holds hS hg HH.out hsk
      have hrc1 : r < ch := by omega
      have hrc2 : ch < hi := by omega
      obtain ⟨pr, hpr⟩ : ∃ pr, pr = first + r := ⟨_, rfl⟩
      obtain ⟨pc, hpc⟩ : ∃ pc, pc = first + ch := ⟨_, rfl⟩
      obtain ⟨p2, hp2⟩ : ∃ p2, p2 = first + c2 := ⟨_, rfl⟩
      have hfr : pr < d.size := by omega
      have hfc : pc < d.size := by omega
      have hw1 : (first : Int) + (r : Int) = (pr : Int) := by omega
      have hw2 : (first : Int) + (ch : Int) = (pc : Int) := by omega
      have hw3 : (first : Int) + (c2 : Int) = (p2 : Int) := by omega
      have hw4 : (pc : Int) + 1 = (p2 : Int) := by omega
      have hv1 : IntKind.i64.wrap (pr : Int) = (pr : Int) := by rw [IntKind.wrap_i64]; omega
      have hv2 : IntKind.i64.wrap (pc : Int) = (pc : Int) := by rw [IntKind.wrap_i64]; omega
      have hv3 : IntKind.i64.wrap (p2 : Int) = (p2 : Int) := by rw [IntKind.wrap_i64]; omega
      obtain ⟨cr, fr⟩ := holdsN_cell hHk (i := pr) (by omega)
      obtain ⟨cc, fc⟩ := holdsN_cell hHk (i := pc) (by omega)
      generalize hz : dk[pr]! = z at *
      generalize hx : dk[pc]! = x at *
      have HZ := Lib.hid hz; have HX := Lib.hid hx
      have HPR := Lib.hid hpr; have HPC := Lib.hid hpc; have HP2 := Lib.hid hp2
      clear hz hx hS
      by_cases h2 : c2 < hi
      · have hf2 : p2 < d.size := by omega
        obtain ⟨cy, fy⟩ := holdsN_cell hHk (i := p2) (by omega)
        generalize hy : dk[p2]! = y at *
        have HY := Lib.hid hy
        have hg2 : decide ((c2 : Int) < (hi : Int)) = true := by simp; omega
        clear hy hch hc2 hHk hpr hpc hp2
        go_wp2_with fail
        go_quiet ((go_at_call 252; exact Calls.quiet_of_same ((hls _ _ _).mono fun e w1 h => ⟨h.1, h.2.symm⟩)))
        cases hv : ltI x y with
        | true =>
          have HV := Lib.hid hv
          clear hv
          obtain ⟨w1, hw1⟩ : ∃ w1, w1 = wr.drewN nq := ⟨_, rfl⟩
          have hS1 : RowS .u32 w g dk w1 := by rw [hw1]; exact SW.drewN HS.out nq
          rw [← hw1]
          have hHk1 := SW.holds hS1 hg HH.out hsk
          obtain ⟨kr, gr⟩ := holdsN_cell hHk1 (i := pr) (by omega)
          obtain ⟨kc, gc⟩ := holdsN_cell hHk1 (i := p2) (by omega)
          rw [HZ.out] at kr
          rw [HY.out] at kc
          have hsw := swN hS1 hg (i := pr) (j := p2) (by omega) (by omega)
          rw [HZ.out, HY.out] at hsw
          have HSW := Lib.hid hsw
          have HS1 := Lib.hid hS1
          clear hw1 hS1 hHk1 hsw
          go_wp2_with fail
          go_quiet ((go_at_call 252; exact Calls.quiet_of_same ((hls _ _ _).mono fun e w1 h => ⟨h.1, h.2.symm⟩)))
          cases hv2 : ltI z y with
          | true =>
            have HV2 := Lib.hid hv2
            clear hv2
            go_wp2_with fail
            go_region
            go_wp2_with fail
            go_roundw
            case rel => exact ⟨c2, swp dk pr p2, rfl, by omega, by rw [size_swp]; exact hsk, SW.drewN HSW.out.1 _, by rw [← HE.out, sift_right (r := r) HC.out.1 HC.out.2 h2 (by rw [← HPC.out, show pc + 1 = p2 by omega, HX.out, HY.out]; exact HV.out), ← HPR.out, ← HP2.out, if_pos (by rw [HZ.out, HY.out]; exact HV2.out)]⟩
            case measure => simp [intOf]; omega
          | false =>
            have HV2 := Lib.hid hv2
            clear hv2
            go_wp2_with fail
            refine bodyPost_ret (v := .tuple #[]) (by simp [results, Tryz.results257, go_sem]) rfl ?_
            refine ⟨rfl, ?_⟩
            rw [← HE.out, sift_right (r := r) HC.out.1 HC.out.2 h2 (by rw [← HPC.out, show pc + 1 = p2 by omega, HX.out, HY.out]; exact HV.out), ← HPR.out, ← HP2.out, if_neg (by rw [HZ.out, HY.out, HV2.out]; simp)]
            exact SW.drewN HS1.out _
        | false =>
          have HV := Lib.hid hv
          clear hv
          obtain ⟨w1, hw1⟩ : ∃ w1, w1 = wr.drewN nq := ⟨_, rfl⟩
          have hS1 : RowS .u32 w g dk w1 := by rw [hw1]; exact SW.drewN HS.out nq
          rw [← hw1]
          have hHk1 := SW.holds hS1 hg HH.out hsk
          obtain ⟨kr, gr⟩ := holdsN_cell hHk1 (i := pr) (by omega)
          obtain ⟨kc, gc⟩ := holdsN_cell hHk1 (i := pc) (by omega)
          rw [HZ.out] at kr
          rw [HX.out] at kc
          have hsw := swN hS1 hg (i := pr) (j := pc) (by omega) (by omega)
          rw [HZ.out, HX.out] at hsw
          have HSW := Lib.hid hsw
          have HS1 := Lib.hid hS1
          clear hw1 hS1 hHk1 hsw
          go_wp2_with fail
          go_quiet ((go_at_call 252; exact Calls.quiet_of_same ((hls _ _ _).mono fun e w1 h => ⟨h.1, h.2.symm⟩)))
          cases hv2 : ltI z x with
          | true =>
            have HV2 := Lib.hid hv2
            clear hv2
            go_wp2_with fail
            go_region
            go_wp2_with fail
            go_roundw
            case rel => exact ⟨ch, swp dk pr pc, rfl, by omega, by rw [size_swp]; exact hsk, SW.drewN HSW.out.1 _, by rw [← HE.out, sift_left (r := r) HC.out.1 hrc2 (fun _ => by rw [← HPC.out, show pc + 1 = p2 by omega, HX.out, HY.out]; exact HV.out), ← HPR.out, ← HPC.out, if_pos (by rw [HZ.out, HX.out]; exact HV2.out)]⟩
            case measure => simp [intOf]; omega
          | false =>
            have HV2 := Lib.hid hv2
            clear hv2
            go_wp2_with fail
            refine bodyPost_ret (v := .tuple #[]) (by simp [results, Tryz.results257, go_sem]) rfl ?_
            refine ⟨rfl, ?_⟩
            rw [← HE.out, sift_left (r := r) HC.out.1 hrc2 (fun _ => by rw [← HPC.out, show pc + 1 = p2 by omega, HX.out, HY.out]; exact HV.out), ← HPR.out, ← HPC.out, if_neg (by rw [HZ.out, HX.out, HV2.out]; simp)]
            exact SW.drewN HS1.out _
      · skip
        have hg2 : decide ((c2 : Int) < (hi : Int)) = false := by simp; omega
        clear hch hc2 hHk hpr hpc hp2
        go_wp2_with fail
        go_quiet ((go_at_call 252; exact Calls.quiet_of_same ((hls _ _ _).mono fun e w1 h => ⟨h.1, h.2.symm⟩)))
        obtain ⟨w1, hw1⟩ : ∃ w1, w1 = wr.drewN nq := ⟨_, rfl⟩
        have hS1 : RowS .u32 w g dk w1 := by rw [hw1]; exact SW.drewN HS.out nq
        rw [← hw1]
        have hHk1 := SW.holds hS1 hg HH.out hsk
        obtain ⟨kr, gr⟩ := holdsN_cell hHk1 (i := pr) (by omega)
        obtain ⟨kc, gc⟩ := holdsN_cell hHk1 (i := pc) (by omega)
        rw [HZ.out] at kr
        rw [HX.out] at kc
        have hsw := swN hS1 hg (i := pr) (j := pc) (by omega) (by omega)
        rw [HZ.out, HX.out] at hsw
        have HSW := Lib.hid hsw
        have HS1 := Lib.hid hS1
        clear hw1 hS1 hHk1 hsw
        go_wp2_with fail
        go_quiet ((go_at_call 252; exact Calls.quiet_of_same ((hls _ _ _).mono fun e w1 h => ⟨h.1, h.2.symm⟩)))
        cases hv2 : ltI z x with
        | true =>
          have HV2 := Lib.hid hv2
          clear hv2
          go_wp2_with fail
          go_region
          go_wp2_with fail
          go_roundw
          case rel => exact ⟨ch, swp dk pr pc, rfl, by omega, by rw [size_swp]; exact hsk, SW.drewN HSW.out.1 _, by rw [← HE.out, sift_left (r := r) HC.out.1 hrc2 (fun h => by have := HC.out.2; omega), ← HPR.out, ← HPC.out, if_pos (by rw [HZ.out, HX.out]; exact HV2.out)]⟩
          case measure => simp [intOf]; omega
        | false =>
          have HV2 := Lib.hid hv2
          clear hv2
          go_wp2_with fail
          refine bodyPost_ret (v := .tuple #[]) (by simp [results, Tryz.results257, go_sem]) rfl ?_
          refine ⟨rfl, ?_⟩
          rw [← HE.out, sift_left (r := r) HC.out.1 hrc2 (fun h => by have := HC.out.2; omega), ← HPR.out, ← HPC.out, if_neg (by rw [HZ.out, HX.out, HV2.out]; simp)]
          exact SW.drewN HS1.out _

set_option maxHeartbeats 6400000 in
set_option maxRecDepth 100000 in
theorem heap32 (g cap n a b : Nat) (d : Array Int) (w : World) (hn : n = d.size) (hH : Holds (Value.int .u32) w g 0 d) (hg : g < w.heap.size) (hab : a < b) (hb : b ≤ d.size) (hsz : d.size ≤ 1000000) :
    Calls Tryz.prog 247 #[.slice (some ⟨g, 0, none⟩) n cap, .int .i64 a, .int .i64 b] w fun e w' => e = .returned (.tuple #[]) ∧ RowS .u32 w g (Sort.heapSort ltI d a b) w' := by
  subst hn
  have hS0 := SW.start hH
  have HS0 := Lib.hid hS0
  have HH := Lib.hid hH
  obtain ⟨hi, hhi⟩ : ∃ hi, hi = b - a := ⟨_, rfl⟩
  have hbi : (b : Int) - (a : Int) = (hi : Int) := by omega
  obtain ⟨k0, hk0⟩ : ∃ k0, k0 = (hi - 1) / 2 + 1 := ⟨_, rfl⟩
  have hki : ((hi : Int) - 1).tdiv 2 = (k0 : Int) - 1 := by
    rw [show (hi : Int) - 1 = ((hi - 1 : Nat) : Int) by omega, show (2 : Int) = ((2 : Nat) : Int) from rfl, ← Int.ofNat_tdiv]; omega
  have hki2 : ((hi : Int) - 1) / 2 = (k0 : Int) - 1 := by omega
  have HK := Lib.hid (And.intro hhi hk0)
  have hkb : k0 ≤ hi := by omega
  have hih : hi + a ≤ d.size := by omega
  have hfin : Sort.heapSort ltI d a b = heapPop ltI a hi (heapBuild ltI hi a k0 d) := by unfold Sort.heapSort; rw [hk0, hhi]
  have HF := Lib.hid hfin
  have hhp : 0 < hi := by omega
  clear hS0 hH hfin hhi hk0
  go_enter Tryz.func247, Tryz.ntmps247
  go_wp2_with fail
  go_loopw [9] (fun vi wr => ∃ (k : Nat) (dk : Array Int), vi = .int .i64 ((k : Int) - 1) ∧ k ≤ k0 ∧ dk.size = d.size ∧ RowS .u32 w g dk wr ∧ heapBuild ltI hi a k dk = heapBuild ltI hi a k0 d) (fun vi _ => (intOf vi + 1).toNat)
  case atStart => exact ⟨k0, d, rfl, Nat.le_refl _, rfl, HS0.out, rfl⟩
  case round =>
    obtain ⟨k, dk, rfl, hk, hsk, hS, hEq⟩ := hrel
    have HE := Lib.hid hEq
    have HS := Lib.hid hS
    clear hEq hS
    cases k with
    | succ m =>
      rw [show ((m + 1 : Nat) : Int) - 1 = (m : Int) by omega]
      have hC := sift32 g cap d.size m hi a dk wr hsk.symm (SW.holds HS.out hg HH.out hsk) (SW.lt HS.out hg) (by omega) (by omega) (by omega)
      go_wp2_with fail
      refine hC.mono ?_
      clear hC
      rintro e w1 ⟨rfl, hS1⟩
      have HS1 := Lib.hid hS1
      clear hS1
      go_wp2_with fail
      go_roundw
      case rel => exact ⟨m, siftDown ltI hi a m dk, rfl, by omega, by rw [size_sift ltI hi a (hi - m) m dk (Nat.le_refl _)]; exact hsk, swN_trans HS.out HS1.out hg (size_sift ltI hi a (hi - m) m dk (Nat.le_refl _)), by rw [← HE.out]; rfl⟩
      case measure => first | (simp [intOf]; done) | (simp [intOf]; omega)
    | zero =>
      rw [show ((0 : Nat) : Int) - 1 = -1 from rfl]
      obtain ⟨wo, rfl⟩ : ∃ wo, wo = wr := ⟨_, rfl⟩
      have hdB : dk = heapBuild ltI hi a k0 d := HE.out
      have HB := Lib.hid hdB
      clear hdB
      go_wp2_with fail
      go_loopw [10] (fun vi wr => ∃ (k : Nat) (dj : Array Int), vi = .int .i64 ((k : Int) - 1) ∧ k ≤ hi ∧ dj.size = d.size ∧ RowS .u32 w g dj wr ∧ heapPop ltI a k dj = heapPop ltI a hi dk) (fun vi _ => (intOf vi + 1).toNat)
      case atStart => exact ⟨hi, dk, rfl, Nat.le_refl _, hsk, HS.out, rfl⟩
      case round =>
        obtain ⟨k, dj, rfl, hk, hsj, hS, hEq⟩ := hrel
        have HE2 := Lib.hid hEq
        have HS2 := Lib.hid hS
        clear hEq
        cases k with
        | succ m =>
          rw [show ((m + 1 : Nat) : Int) - 1 = (m : Int) by omega]
          have hHk := SW.holds hS hg HH.out hsj
          obtain ⟨pm, hpm⟩ : ∃ pm, pm = a + m := ⟨_, rfl⟩
          have hw1 : (a : Int) + (m : Int) = (pm : Int) := by omega
          have hv1 : IntKind.i64.wrap (pm : Int) = (pm : Int) := by rw [IntKind.wrap_i64]; omega
          have hpd : pm < d.size := by omega
          obtain ⟨c1, f1⟩ := holdsN_cell hHk (i := a) (by omega)
          obtain ⟨c2, f2⟩ := holdsN_cell hHk (i := pm) (by omega)
          have hsw := swN hS hg (i := a) (j := pm) (by omega) (by omega)
          have HPM := Lib.hid hpm
          by_cases hma : pm = a
          · rw [hma] at hsw c2 f2 hw1 hv1
            have HMA := Lib.hid hma
            have HSW := Lib.hid hsw
            generalize dj[a]! = x at *
            clear hHk hS hsw hpm hma c2 f2
            go_wp2_with fail
            go_region
            have hS3 := SW.drewN HSW.out.1 1
            have hss : (swp dj a a).size = d.size := by rw [size_swp]; exact hsj
            have hC := sift32 g cap d.size 0 m a (swp dj a a) _ hss.symm (SW.holds hS3 hg HH.out hss) (SW.lt hS3 hg) (by omega) (Nat.zero_le _) (by omega)
            have HS3 := Lib.hid hS3
            clear hS3
            go_wp2_with fail
            refine hC.mono ?_
            clear hC
            rintro e w1 ⟨rfl, hS1⟩
            have HS1 := Lib.hid hS1
            clear hS1
            go_wp2_with fail
            go_roundw
            case rel => exact ⟨m, siftDown ltI m a 0 (swp dj a a), rfl, by omega, by rw [size_sift ltI m a (m - 0) 0 _ (Nat.le_refl _)]; exact hss, swN_trans HS3.out HS1.out hg (size_sift ltI m a (m - 0) 0 _ (Nat.le_refl _)), by rw [← HE2.out]; have e1 := HPM.out; have e2 := HMA.out; rw [show heapPop ltI a (m + 1) dj = heapPop ltI a m (siftDown ltI m a 0 (swp dj a (a + m))) from rfl, show a + m = a by omega]⟩
            case measure => first | (simp [intOf]; done) | (simp [intOf]; omega)
          · have HSW := Lib.hid hsw
            have hne1 : pm ≠ a := hma
            have hne2 : a ≠ pm := fun e => hma e.symm
            generalize dj[a]! = x at *
            generalize dj[pm]! = y at *
            clear hHk hS hsw hpm hma
            go_wp2_with fail
            go_region
            have hS3 := SW.drewN HSW.out.1 1
            have hss : (swp dj a pm).size = d.size := by rw [size_swp]; exact hsj
            have hC := sift32 g cap d.size 0 m a (swp dj a pm) _ hss.symm (SW.holds hS3 hg HH.out hss) (SW.lt hS3 hg) (by omega) (Nat.zero_le _) (by omega)
            have HS3 := Lib.hid hS3
            clear hS3
            go_wp2_with fail
            refine hC.mono ?_
            clear hC
            rintro e w1 ⟨rfl, hS1⟩
            have HS1 := Lib.hid hS1
            clear hS1
            go_wp2_with fail
            go_roundw
            case rel => exact ⟨m, siftDown ltI m a 0 (swp dj a pm), rfl, by omega, by rw [size_sift ltI m a (m - 0) 0 _ (Nat.le_refl _)]; exact hss, swN_trans HS3.out HS1.out hg (size_sift ltI m a (m - 0) 0 _ (Nat.le_refl _)), by rw [← HE2.out, HPM.out]; rfl⟩
            case measure => first | (simp [intOf]; done) | (simp [intOf]; omega)
        | zero =>
          rw [show ((0 : Nat) : Int) - 1 = -1 from rfl]
          clear hS
          go_wp2_with fail
          go_end0
          refine ⟨rfl, ?_⟩
          rw [HF.out, ← HB.out, ← HE2.out]
          exact HS2.out
end Go.Proofs.YtgdgmegpacmgnaaGreatDoor

/- slices.Sort of uint32: reverseRange, choosePivot (printed by gen_pdq.py). -/
namespace Go.Proofs.YtgdgmegpacmgnaaGreatDoor
open Go.Shelf Go.RowKit Go.Lib Go.Sort
set_option linter.unusedVariables false
set_option linter.unusedSimpArgs false
attribute [local go_sem] setCell_drewN alloc_drewN

set_option maxHeartbeats 3200000 in
set_option maxRecDepth 100000 in
theorem reverse32 (g cap a b : Nat) (d : Array Int) (w : World) (hH : Holds (Value.int .u32) w g 0 d) (hg : g < w.heap.size) (hab : a < b) (hb : b ≤ d.size) (hsz : d.size ≤ 1000000) :
    Calls Tryz.prog 250 #[.slice (some ⟨g, 0, none⟩) d.size cap, .int .i64 a, .int .i64 b] w fun e w' => e = .returned (.tuple #[]) ∧ ∃ d', RowS .u32 w g d' w' ∧ PermIn a b d d' := by
  have hS0 := SW.start hH
  have HS0 := Lib.hid hS0
  have HH := Lib.hid hH
  clear hS0 hH
  go_enter Tryz.func250, Tryz.ntmps250
  go_wp2_with fail
  go_loopw [6, 7] (fun vi vj wr => ∃ (i j : Nat) (dk : Array Int), vi = .int .i64 (i : Int) ∧ vj = .int .i64 (j : Int) ∧ a ≤ i ∧ j < b ∧ dk.size = d.size ∧ RowS .u32 w g dk wr ∧ PermIn a b d dk) (fun vi vj _ => (intOf vj).toNat + 1 - (intOf vi).toNat)
  case atStart => exact ⟨a, b - 1, d, rfl, by go_num, Nat.le_refl _, by omega, rfl, HS0.out, permIn_refl _ _ _⟩
  case round =>
    obtain ⟨i, j, dk, rfl, rfl, hai, hjb, hsk, hS, hP⟩ := hrel
    by_cases hlt : i < j
    · have hHk := SW.holds hS hg HH.out hsk
      obtain ⟨c1, f1⟩ := holdsN_cell hHk (i := i) (by omega)
      obtain ⟨c2, f2⟩ := holdsN_cell hHk (i := j) (by omega)
      have hsw := swN hS hg (i := i) (j := j) (by omega) (by omega)
      have HSW := Lib.hid hsw
      have HP := Lib.hid (permIn_trans _ _ _ _ _ hP (swp_permIn dk a b i j (by omega) (by omega) (by omega) (by omega) (by omega)))
      generalize dk[i]! = x at *
      generalize dk[j]! = y at *
      clear hHk hS hsw hP
      go_wp2_with fail
      go_region
      go_wp2_with fail
      go_roundw
      case rel => exact ⟨i + 1, j - 1, swp dk i j, by go_num, by go_num, by omega, by omega, by rw [size_swp]; exact hsk, SW.drewN HSW.out.1 _, HP.out⟩
      case measure => first | (simp [intOf]; done) | (simp [intOf]; omega)
    · have HX := Lib.hid (And.intro hS hP)
      clear hS hP
      go_wp2_with fail
      go_end0
      exact ⟨rfl, dk, HX.out.1, HX.out.2⟩

/-- The counter of swaps. -/
def Ctr32 (W : World) (cb : Nat) : Prop := ∃ z : Int, W.heap[cb]? = some (.cells #[.int .i64 z] 3 (0, 0))

set_option maxHeartbeats 3200000 in
set_option maxRecDepth 100000 in
theorem order232 (w0 : World) (g cap a b cb : Nat) (d : Array Int) (w : World) (hS : RowS .u32 w0 g d w) (hH0 : ∃ d0 : Array Int, Holds (Value.int .u32) w0 g 0 d0 ∧ d.size = d0.size) (hg : g < w0.heap.size) (hcb : w0.heap.size ≤ cb) (hC : Ctr32 w cb) (ha : a < d.size) (hb : b < d.size) (hsz : d.size ≤ 1000000) :
    Calls Tryz.prog 261 #[.slice (some ⟨g, 0, none⟩) d.size cap, .int .i64 a, .int .i64 b, .pointer (some ⟨cb, 0, none⟩)] w fun e w' => ∃ x y : Nat, e = .returned (.tuple #[.int .i64 (x : Int), .int .i64 (y : Int)]) ∧ ((x = a ∧ y = b) ∨ (x = b ∧ y = a)) ∧ RowS .u32 w0 g d w' ∧ Ctr32 w' cb := by
  obtain ⟨d0, hH0, hs0⟩ := hH0
  obtain ⟨z, hz⟩ := hC
  have hHk := SW.holds hS hg hH0 hs0
  obtain ⟨c1, f1⟩ := holdsN_cell hHk (i := a) ha
  obtain ⟨c2, f2⟩ := holdsN_cell hHk (i := b) hb
  have cz := (blk_cell' hz 0).trans (show _ = some (Value.int .i64 z) from rfl)
  have fz := blk_free' hz 0
  have hls := less32
  have HS := Lib.hid hS; have HZ := Lib.hid hz
  generalize d[a]! = x at *
  generalize d[b]! = y at *
  clear hS hHk hz hH0
  go_enter Tryz.func261, Tryz.ntmps261
  go_wp2_with fail
  go_quiet ((go_at_call 252; exact Calls.quiet_of_same ((hls _ _ _).mono fun e w1 h => ⟨h.1, h.2.symm⟩)))
  cases hv : ltI y x with
  | true =>
    go_wp2_with fail
    go_ret2
    refine ⟨b, a, rfl, .inr ⟨rfl, rfl⟩, ?_, ?_⟩
    · first | exact SW.setCell_new (SW.drewN HS.out _) _ _ _ hcb | exact SW.drewN (SW.setCell_new HS.out _ _ _ hcb) _
    · have hz1 : (w.drewN nq).heap[cb]? = some (.cells #[.int .i64 z] 3 (0, 0)) := HZ.out
      refine ⟨wrap64 (z + 1), ?_⟩
      first
        | (show ((w.drewN nq).setCell ⟨cb, 0, none⟩ _).heap[cb]? = _; rw [setCell_eq_setRow (w.drewN nq) cb 0 _ _ _ _ hz1, setRow_heap (w.drewN nq) cb _ _ _ _ hz1]; rfl)
        | (show ((w.setCell ⟨cb, 0, none⟩ _).drewN nq).heap[cb]? = _; show (w.setCell ⟨cb, 0, none⟩ _).heap[cb]? = _; rw [setCell_eq_setRow w cb 0 _ _ _ _ HZ.out, setRow_heap w cb _ _ _ _ HZ.out]; rfl)
  | false =>
    go_wp2_with fail
    go_ret2
    exact ⟨a, b, rfl, .inl ⟨rfl, rfl⟩, SW.drewN HS.out _, ⟨z, HZ.out⟩⟩

set_option maxHeartbeats 3200000 in
set_option maxRecDepth 100000 in
theorem median32 (w0 : World) (g cap a b c cb : Nat) (d : Array Int) (w : World) (hS : RowS .u32 w0 g d w) (hH0 : ∃ d0 : Array Int, Holds (Value.int .u32) w0 g 0 d0 ∧ d.size = d0.size) (hg : g < w0.heap.size) (hcb : w0.heap.size ≤ cb) (hC : Ctr32 w cb) (ha : a < d.size) (hb : b < d.size) (hc : c < d.size) (hsz : d.size ≤ 1000000) :
    Calls Tryz.prog 259 #[.slice (some ⟨g, 0, none⟩) d.size cap, .int .i64 a, .int .i64 b, .int .i64 c, .pointer (some ⟨cb, 0, none⟩)] w fun e w' => ∃ r : Nat, e = .returned (.int .i64 (r : Int)) ∧ (r = a ∨ r = b ∨ r = c) ∧ RowS .u32 w0 g d w' ∧ Ctr32 w' cb := by
  have H2 := fun a b W (h : RowS .u32 w0 g d W) (h' : Ctr32 W cb) (ha : a < d.size) (hb : b < d.size) => order232 w0 g cap a b cb d W h hH0 hg hcb h' ha hb hsz
  have HH := Lib.hid H2
  have h1 := H2 a b w hS hC ha hb
  clear H2 hS hC
  go_enter Tryz.func259, Tryz.ntmps259
  go_wp2_with fail
  refine h1.mono ?_
  clear h1
  rintro e w1 ⟨x1, y1, rfl, hxy1, hS1, hC1⟩
  have hx1 : x1 = a ∨ x1 = b := by omega
  have hy1 : y1 = a ∨ y1 = b := by omega
  have h2 := HH.out y1 c w1 hS1 hC1 (by omega) hc
  clear hS1 hC1 hxy1
  go_wp2_with fail
  refine h2.mono ?_
  clear h2
  rintro e w2 ⟨x2, y2, rfl, hxy2, hS2, hC2⟩
  have h3 := HH.out x1 x2 w2 hS2 hC2 (by omega) (by omega)
  clear hS2 hC2
  go_wp2_with fail
  refine h3.mono ?_
  clear h3
  rintro e w3 ⟨x3, y3, rfl, hxy3, hS3, hC3⟩
  have HX := Lib.hid (And.intro hS3 hC3)
  have hr : y3 = a ∨ y3 = b ∨ y3 = c := by omega
  clear hS3 hC3
  go_wp2_with fail
  go_ret
  exact ⟨y3, rfl, hr, HX.out.1, HX.out.2⟩

set_option maxHeartbeats 3200000 in
set_option maxRecDepth 100000 in
theorem adjacent32 (w0 : World) (g cap a cb : Nat) (d : Array Int) (w : World) (hS : RowS .u32 w0 g d w) (hH0 : ∃ d0 : Array Int, Holds (Value.int .u32) w0 g 0 d0 ∧ d.size = d0.size) (hg : g < w0.heap.size) (hcb : w0.heap.size ≤ cb) (hC : Ctr32 w cb) (ha : a + 1 < d.size) (ha1 : 0 < a) (hsz : d.size ≤ 1000000) :
    Calls Tryz.prog 258 #[.slice (some ⟨g, 0, none⟩) d.size cap, .int .i64 a, .pointer (some ⟨cb, 0, none⟩)] w fun e w' => ∃ r : Nat, e = .returned (.int .i64 (r : Int)) ∧ (a ≤ r + 1 ∧ r ≤ a + 1) ∧ RowS .u32 w0 g d w' ∧ Ctr32 w' cb := by
  have h1 := median32 w0 g cap (a - 1) a (a + 1) cb d w hS hH0 hg hcb hC (by omega) (by omega) ha hsz
  rw [show ((a - 1 : Nat) : Int) = (a : Int) - 1 by omega, show ((a + 1 : Nat) : Int) = (a : Int) + 1 by omega] at h1
  clear hS hC
  go_enter Tryz.func258, Tryz.ntmps258
  go_wp2_with fail
  refine h1.mono ?_
  clear h1
  rintro e w1 ⟨r, rfl, hr, hS1, hC1⟩
  have HX := Lib.hid (And.intro hS1 hC1)
  clear hS1 hC1
  go_wp2_with fail
  go_ret
  exact ⟨r, rfl, by omega, HX.out.1, HX.out.2⟩

set_option maxHeartbeats 6400000 in
set_option maxRecDepth 100000 in
theorem choose32 (g cap a b : Nat) (d : Array Int) (w : World) (hH : Holds (Value.int .u32) w g 0 d) (hg : g < w.heap.size) (hab : a + 12 < b) (hb : b ≤ d.size) (hsz : d.size ≤ 1000000) :
    Calls Tryz.prog 249 #[.slice (some ⟨g, 0, none⟩) d.size cap, .int .i64 a, .int .i64 b] w fun e w' => ∃ (p h : Nat), e = .returned (.tuple #[.int .i64 (p : Int), .int .i64 (h : Int)]) ∧ a ≤ p ∧ p < b ∧ RowS .u32 w g d w' := by
  have hH0 : ∃ d0 : Array Int, Holds (Value.int .u32) w g 0 d0 ∧ d.size = d0.size := ⟨d, hH, rfl⟩
  have HM := fun i j k W (h : RowS .u32 w g d W) (h' : Ctr32 W w.heap.size) (hi : i < d.size) (hj : j < d.size) (hk : k < d.size) => median32 w g cap i j k w.heap.size d W h hH0 hg (Nat.le_refl _) h' hi hj hk hsz
  have HJ := fun i W (h : RowS .u32 w g d W) (h' : Ctr32 W w.heap.size) (hi : i + 1 < d.size) (hj : 0 < i) => adjacent32 w g cap i w.heap.size d W h hH0 hg (Nat.le_refl _) h' hi hj hsz
  have HMh := Lib.hid HM; have HJh := Lib.hid HJ
  obtain ⟨l, hl⟩ : ∃ l, l = b - a := ⟨_, rfl⟩
  obtain ⟨q, hq⟩ : ∃ q, q = l / 4 := ⟨_, rfl⟩
  have hli : (b : Int) - (a : Int) = (l : Int) := by omega
  have hqi : (l : Int).tdiv 4 = (q : Int) := by
    rw [show (4 : Int) = ((4 : Nat) : Int) from rfl, ← Int.ofNat_tdiv]; omega
  have hqj : (l : Int) / 4 = (q : Int) := by omega
  obtain ⟨i, hi⟩ : ∃ i, i = a + q := ⟨_, rfl⟩
  obtain ⟨j, hj⟩ : ∃ j, j = a + q * 2 := ⟨_, rfl⟩
  obtain ⟨k, hk⟩ : ∃ k, k = a + q * 3 := ⟨_, rfl⟩
  have hii : (a : Int) + (q : Int) = (i : Int) := by omega
  have hjj : (a : Int) + (q : Int) * 2 = (j : Int) := by omega
  have hkk : (a : Int) + (q : Int) * 3 = (k : Int) := by omega
  have hl12 : 12 < l := by omega
  have hq3 : 3 ≤ q := by omega
  have hbnd : a + 3 ≤ i ∧ i < j ∧ j < k ∧ k + 3 ≤ b := by omega
  have hS1 : RowS .u32 w g d (w.alloc (.cells #[.int .i64 0] 3)) := SW.alloc (SW.start hH) _
  have hC1 : Ctr32 (w.alloc (.cells #[.int .i64 0] 3)) w.heap.size := ⟨0, heap_alloc_new w _⟩
  have h8 : ¬ (l : Int) < 8 := by omega
  have HX := Lib.hid (And.intro hS1 hC1)
  have HB := Lib.hid hbnd
  have HQ := Lib.hid (And.intro hl (And.intro hq (And.intro hi (And.intro hj hk))))
  clear HM HJ hS1 hC1 hH hH0 hl hq hi hj hk hbnd
  go_enter Tryz.func249, Tryz.ntmps249
  by_cases h50 : (50 : Int) ≤ (l : Int)
  · have h1 := HJh.out i _ HX.out.1 HX.out.2 (by have := HB.out; omega) (by have := HB.out; omega)
    go_wp2_with fail
    refine h1.mono ?_
    clear h1
    rintro e w1 ⟨i1, rfl, hi1, hS1, hC1⟩
    have h2 := HJh.out j w1 hS1 hC1 (by have := HB.out; omega) (by have := HB.out; omega)
    clear hS1 hC1
    go_wp2_with fail
    refine h2.mono ?_
    clear h2
    rintro e w2 ⟨j1, rfl, hj1, hS2, hC2⟩
    have h3 := HJh.out k w2 hS2 hC2 (by have := HB.out; omega) (by have := HB.out; omega)
    clear hS2 hC2
    go_wp2_with fail
    refine h3.mono ?_
    clear h3
    rintro e w3 ⟨k1, rfl, hk1, hS3, hC3⟩
    have hm := HMh.out i1 j1 k1 w3 hS3 hC3 (by have := HB.out; omega) (by have := HB.out; omega) (by have := HB.out; omega)
    clear hS3 hC3
    go_wp2_with fail
    refine hm.mono ?_
    clear hm
    rintro e w4 ⟨r, rfl, hr, hS4, hC4⟩
    obtain ⟨z, hz⟩ := hC4
    have cz := (blk_cell' hz 0).trans (show _ = some (Value.int .i64 z) from rfl)
    have hrb : a ≤ r ∧ r < b := by have := HB.out; omega
    have HS4 := Lib.hid hS4
    clear hS4 hz
    by_cases hz0 : z = 0
    · subst hz0
      go_wp2_with fail
      go_ret2
      exact ⟨r, 1, rfl, hrb.1, hrb.2, HS4.out⟩
    · have hzb : (z == 0) = false := by simpa using hz0
      by_cases hz12 : z = 12
      · subst hz12
        go_wp2_with fail
        go_ret2
        exact ⟨r, 2, rfl, hrb.1, hrb.2, HS4.out⟩
      · have hzc : (z == 12) = false := by simpa using hz12
        clear hz0 hz12
        go_wp2_with fail
        go_ret2
        exact ⟨r, 0, rfl, hrb.1, hrb.2, HS4.out⟩
  · skip
    have hm := HMh.out i j k _ HX.out.1 HX.out.2 (by have := HB.out; omega) (by have := HB.out; omega) (by have := HB.out; omega)
    skip
    go_wp2_with fail
    refine hm.mono ?_
    clear hm
    rintro e w4 ⟨r, rfl, hr, hS4, hC4⟩
    obtain ⟨z, hz⟩ := hC4
    have cz := (blk_cell' hz 0).trans (show _ = some (Value.int .i64 z) from rfl)
    have hrb : a ≤ r ∧ r < b := by have := HB.out; omega
    have HS4 := Lib.hid hS4
    clear hS4 hz
    by_cases hz0 : z = 0
    · subst hz0
      go_wp2_with fail
      go_ret2
      exact ⟨r, 1, rfl, hrb.1, hrb.2, HS4.out⟩
    · have hzb : (z == 0) = false := by simpa using hz0
      by_cases hz12 : z = 12
      · subst hz12
        go_wp2_with fail
        go_ret2
        exact ⟨r, 2, rfl, hrb.1, hrb.2, HS4.out⟩
      · have hzc : (z == 12) = false := by simpa using hz12
        clear hz0 hz12
        go_wp2_with fail
        go_ret2
        exact ⟨r, 0, rfl, hrb.1, hrb.2, HS4.out⟩
end Go.Proofs.YtgdgmegpacmgnaaGreatDoor

/- The partitions of a row of numbers: what holds between the steps. -/
namespace Go.Proofs.YtgdgmegpacmgnaaGreatDoor
open Go.Sort
set_option linter.unusedVariables false

/-- Behind the pivot p at a: what stands left of i, and what stands right of j. -/
structure PInv (lf : Int → Bool) (p : Int) (a b i j : Nat) (d dk : Array Int) : Prop where
  size : dk.size = d.size
  perm : PermIn a b d dk
  piv : dk[a]! = p
  left : ∀ t, a < t → t < i → lf dk[t]! = true
  right : ∀ t, j < t → t < b → lf dk[t]! = false
  ai : a < i
  jb : j < b
  ij : i ≤ j + 1
theorem PInv.up {lf : Int → Bool} {p : Int} {a b i j : Nat} {d dk : Array Int} (h : PInv lf p a b i j d dk) (hij : i ≤ j) (hx : lf dk[i]! = true) : PInv lf p a b (i + 1) j d dk :=
  ⟨h.size, h.perm, h.piv, fun t h1 h2 => by
    by_cases e : t = i
    · subst e; exact hx
    · exact h.left t h1 (by omega), h.right, by have := h.ai; omega, h.jb, by omega⟩
theorem PInv.down {lf : Int → Bool} {p : Int} {a b i j : Nat} {d dk : Array Int} (h : PInv lf p a b i j d dk) (hij : i ≤ j) (hx : lf dk[j]! = false) : PInv lf p a b i (j - 1) d dk :=
  ⟨h.size, h.perm, h.piv, h.left, fun t h1 h2 => by
    by_cases e : t = j
    · subst e; exact hx
    · exact h.right t (by omega) h2, h.ai, by have := h.jb; omega, by have := h.ai; omega⟩
theorem PInv.swap {lf : Int → Bool} {p : Int} {a b i j : Nat} {d dk : Array Int} (h : PInv lf p a b i j d dk) (hb : b ≤ d.size) (hij : i ≤ j) (hi : lf dk[i]! = false) (hj : lf dk[j]! = true) : PInv lf p a b (i + 1) (j - 1) d (swp dk i j) := by
  have hs := h.size
  have hjb := h.jb
  have hai := h.ai
  have hne : i ≠ j := fun e => by subst e; rw [hi] at hj; cases hj
  have hi' : i < dk.size := by omega
  have hj' : j < dk.size := by omega
  refine ⟨by rw [size_swp]; exact hs, permIn_trans _ _ _ _ _ h.perm (swp_permIn dk a b i j (by omega) (by omega) (by omega) (by omega) (by omega)), ?_, ?_, ?_, by omega, by omega, by omega⟩
  · rw [swp_get dk hi' hj', if_neg (by omega), if_neg (by omega)]; exact h.piv
  · intro t h1 h2
    rw [swp_get dk hi' hj']
    split
    · next e => subst e; omega
    · split
      · exact hj
      · exact h.left t h1 (by omega)
  · intro t h1 h2
    rw [swp_get dk hi' hj']
    split
    · exact hi
    · split
      · next e => subst e; omega
      · exact h.right t (by omega) h2
theorem PInv.start {lf : Int → Bool} {a b c : Nat} {d : Array Int} (hab : a < b) (hb : b ≤ d.size) (hac : a ≤ c) (hcb : c < b) : PInv lf d[c]! a b (a + 1) (b - 1) d (swp d a c) := by
  refine ⟨size_swp _ _ _, swp_permIn d a b a c (by omega) hab hac hcb hb, ?_, fun t h1 h2 => by omega, fun t h1 h2 => by omega, by omega, by omega, by omega⟩
  rw [swp_get d (show a < d.size by omega) (show c < d.size by omega)]
  split
  · next e => subst e; rfl
  · rw [if_pos rfl]
/-- The end of a partition: the pivot between the two sides. -/
theorem PInv.fin {p : Int} {a b i j : Nat} {d dk : Array Int} (h : PInv (fun x => ltI x p) p a b i j d dk) (hb : b ≤ d.size) (hij : j < i) :
    a ≤ j ∧ j < b ∧ PermIn a b d (swp dk j a) ∧ (∀ t, a ≤ t → t < j → (swp dk j a)[t]! < (swp dk j a)[j]!) ∧ (∀ t, j < t → t < b → (swp dk j a)[j]! ≤ (swp dk j a)[t]!) := by
  have hs := h.size
  have hjb := h.jb
  have hai := h.ai
  have hij2 := h.ij
  have hj' : j < dk.size := by omega
  have ha' : a < dk.size := by omega
  have hj : (swp dk j a)[j]! = p := by
    rw [swp_get dk hj' ha']
    split
    · next e => rw [e]; exact h.piv
    · rw [if_pos rfl]; exact h.piv
  refine ⟨by omega, hjb, permIn_trans _ _ _ _ _ h.perm (swp_permIn dk a b j a (by omega) hjb (by omega) (by omega) (by omega)), fun t h1 h2 => ?_, fun t h1 h2 => ?_⟩
  · rw [hj, swp_get dk hj' ha']
    split
    · have := h.left j (by omega) (by omega); simpa using this
    · rw [if_neg (by omega)]
      have := h.left t (by omega) (by omega); simpa using this
  · rw [hj, swp_get dk hj' ha', if_neg (by omega), if_neg (by omega)]
    have := h.right t h1 h2
    simpa using this
end Go.Proofs.YtgdgmegpacmgnaaGreatDoor
