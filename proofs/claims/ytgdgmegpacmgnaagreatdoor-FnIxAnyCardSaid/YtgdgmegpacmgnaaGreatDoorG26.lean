import Derived.Test.YtgdgmegpacmgnaaGreatDoorG25
import Derived.Test.YtgdgmegpacmgnaaGreatDoorG22
import Derived.Deep.CutBlock
import Derived.Deep.DeepCutAuto
import Derived.Test.YtgdgmegpacmgnaaGreatDoorG23
import Derived.Test.YtgdgmegpacmgnaaGreatDoorG06
/- slices.Sort of uint64: partialInsertionSort, breakPatterns (printed by gen_pdq.py). -/
namespace Go.Proofs.YtgdgmegpacmgnaaGreatDoor
open Go.Shelf Go.RowKit Go.Lib Go.Sort
set_option linter.unusedVariables false
set_option linter.unusedSimpArgs false
attribute [local go_sem] setCell_drewN alloc_drewN

set_option maxHeartbeats 12800000 in
set_option maxRecDepth 100000 in
theorem partial64 (g cap a b : Nat) (d : Array Int) (w : World) (hH : Holds (Value.int .u64) w g 0 d) (hg : g < w.heap.size) (hab : a < b) (hb : b ≤ d.size) (hsz : d.size ≤ 1000000) :
    Calls Tryz.prog 232 #[.slice (some ⟨g, 0, none⟩) d.size cap, .int .i64 a, .int .i64 b] w fun e w' => e = .returned (.bool (partialInsertionSort ltI d a b).2) ∧ RowS .u64 w g (partialInsertionSort ltI d a b).1 w' := by
  have HS0 := Lib.hid (SW.start hH)
  have HH := Lib.hid hH
  have hls := less64
  obtain ⟨R, hR⟩ : ∃ R, R = partialInsertionSort ltI d a b := ⟨_, rfl⟩
  have HR0 : Hid (partialIns ltI a b 5 (a + 1) d = R) := Lib.hid (by rw [hR]; rfl)
  rw [← hR]
  clear hH hR
  go_enter Tryz.func232, Tryz.ntmps232
  go_wp2_with fail
  go_loopw [7, 8] (fun vi vj wr => ∃ (i j : Nat) (dk : Array Int), vi = .int .i64 (i : Int) ∧ vj = .int .i64 (j : Int) ∧ a < i ∧ i ≤ b ∧ j ≤ 5 ∧ dk.size = d.size ∧ RowS .u64 w g dk wr ∧ partialIns ltI a b (5 - j) i dk = R) (fun _ vj _ => 5 - (intOf vj).toNat)
  case atStart => exact ⟨a + 1, 0, d, by go_num, rfl, by omega, by omega, by omega, rfl, HS0.out, HR0.out⟩
  case round =>
    obtain ⟨i, j, dk, rfl, rfl, hai, hib, hj5, hsk, hS, hP⟩ := hrel
    have HS := Lib.hid hS
    have HP := Lib.hid hP
    clear hS hP HS0 HR0
    by_cases hj : j < 5
    · obtain ⟨wo, rfl⟩ : ∃ wo, wo = wr := ⟨_, rfl⟩
      go_upto_block 2 with fail
      go_cut [7] (fun s7 wx => ∃ i1 : Nat, s7 = .int .i64 (i1 : Int) ∧ scanSorted ltI dk b i = i1 ∧ i ≤ i1 ∧ i1 ≤ b ∧ RowS .u64 w g dk wx)
      case first =>
        go_wp2_with fail
        go_loopw [7] (fun vi wr => ∃ i1 : Nat, vi = .int .i64 (i1 : Int) ∧ scanSorted ltI dk b i = scanSorted ltI dk b i1 ∧ i ≤ i1 ∧ i1 ≤ b ∧ RowS .u64 w g dk wr) (fun vi _ => b - (intOf vi).toNat)
        case atStart => exact ⟨i, rfl, rfl, Nat.le_refl _, hib, HS.out⟩
        case round =>
          clear HS
          obtain ⟨i1, rfl, hsc, hi1, hi2, hS⟩ := hrel
          have HS := Lib.hid hS
          have HC := Lib.hid hsc
          clear hS hsc
          by_cases hlt : i1 < b
          · have hgd : decide ((i1 : Int) < (b : Int)) = true := by simp; omega
            have hHk := SW.holds HS.out hg HH.out hsk
            obtain ⟨c1, f1⟩ := holdsN_cell hHk (i := i1) (by omega)
            obtain ⟨c2, f2⟩ := holdsN_cell hHk (i := i1 - 1) (by omega)
            have hiz : ((i1 - 1 : Nat) : Int) = (i1 : Int) - 1 := by omega
            generalize hx : dk[i1]! = x at *
            generalize hy : dk[i1 - 1]! = y at *
            have HX := Lib.hid hx; have HY := Lib.hid hy
            clear hHk hx hy
            go_wp2_with fail
            go_quiet ((go_at_call 233; exact Calls.quiet_of_same ((hls _ _ _).mono fun e w1 h => ⟨h.1, h.2.symm⟩)))
            cases hv : ltI x y with
            | false =>
              have HV : Hid (ltI dk[i1]! dk[i1 - 1]! = false) := Lib.hid (by rw [HX.out, HY.out]; exact hv)
              clear hv
              go_wp2_with fail
              go_roundw
              case rel => exact ⟨i1 + 1, by go_num, HC.out.trans (scan_go hlt HV.out), by omega, by omega, SW.drewN HS.out _⟩
              case measure => first | (simp [intOf]; done) | (simp [intOf]; omega)
            | true =>
              have HV : Hid (ltI dk[i1]! dk[i1 - 1]! = true) := Lib.hid (by rw [HX.out, HY.out]; exact hv)
              clear hv
              go_wp2_with fail
              go_meet
              exact ⟨i1, rfl, HC.out.trans (scan_stop HV.out), hi1, hi2, SW.drewN HS.out _⟩
          · have hgd : decide ((i1 : Int) < (b : Int)) = false := by simp; omega
            go_wp2_with fail
            go_quiet ((go_at_call 233; exact Calls.quiet_of_same ((hls _ _ _).mono fun e w1 h => ⟨h.1, h.2.symm⟩)))
            go_wp2_with fail
            go_meet
            exact ⟨i1, rfl, HC.out.trans (scan_end hlt), hi1, hi2, SW.drewN HS.out _⟩
      case rest =>
        clear HS
        obtain ⟨i1, rfl, hsc, hi1, hi2, hS⟩ := hcut
        have HS := Lib.hid hS
        have HC := Lib.hid hsc
        clear hS hsc
        have hs5 : 5 - j = (4 - j) + 1 := by omega
        have HP5 := Lib.hid hs5
        clear hs5
        by_cases hd : i1 = b
        · have e : R = (dk, true) := by rw [← HP.out, HP5.out, ins_done HC.out hd]
          have HE := Lib.hid e
          clear e
          go_wp2_with fail
          go_ret
          rw [HE.out]
          exact ⟨rfl, HS.out⟩
        · by_cases h5 : b - a < 50
          · have e : R = (dk, false) := by rw [← HP.out, HP5.out, ins_short HC.out hd h5]
            have HE := Lib.hid e
            clear e
            go_wp2_with fail
            go_ret
            rw [HE.out]
            exact ⟨rfl, HS.out⟩
          · obtain ⟨d1, hd1⟩ : ∃ d1, d1 = swp dk i1 (i1 - 1) := ⟨_, rfl⟩
            have hsz1 : d1.size = d.size := by rw [hd1, size_swp]; exact hsk
            have hHk := SW.holds HS.out hg HH.out hsk
            obtain ⟨c1, f1⟩ := holdsN_cell hHk (i := i1) (by omega)
            obtain ⟨c2, f2⟩ := holdsN_cell hHk (i := i1 - 1) (by omega)
            have hiz : ((i1 - 1 : Nat) : Int) = (i1 : Int) - 1 := by omega
            have hsw := swN HS.out hg (i := i1) (j := i1 - 1) (by omega) (by omega)
            rw [← hd1] at hsw
            have HSW := Lib.hid hsw
            have HR : Hid (partialIns ltI a b (4 - j) i1 (shU b i1 (shD a i1 d1)) = R) := Lib.hid (by rw [← HP.out, HP5.out, ins_round HC.out hd h5, hd1])
            have hn1 : i1 ≠ i1 - 1 := by omega
            have hn2 : i1 - 1 ≠ i1 := by omega
            generalize dk[i1]! = x at *
            generalize dk[i1 - 1]! = y at *
            clear hHk hsw hd1 HP HC HS
            go_wp2_with fail
            go_region
            have HS := Lib.hid (SW.drewN HSW.out.1 1)
            clear c1 c2 f1 f2 hn1 hn2 hiz
            go_upto_if 61 with fail
            go_cut [9] (fun s9 wx => RowS .u64 w g (shD a i1 d1) wx)
            case first =>
              by_cases h2 : i1 - a ≥ 2
              · go_wp2_with fail
                go_loopw [9] (fun vj wr => ∃ (j1 : Nat) (dj : Array Int), vj = .int .i64 (j1 : Int) ∧ j1 < i1 ∧ j1 ≤ b ∧ dj.size = d.size ∧ RowS .u64 w g dj wr ∧ shiftDown ltI j1 dj = shiftDown ltI (i1 - 1) d1) (fun vj _ => (intOf vj).toNat)
                case atStart => exact ⟨i1 - 1, d1, by go_num, by omega, by omega, hsz1, HS.out, rfl⟩
                case round =>
                  clear HS
                  obtain ⟨j1, dj, rfl, hj1, hj2, hsj, hS, hI⟩ := hrel
                  have HS := Lib.hid hS
                  have HI := Lib.hid hI
                  clear hS hI
                  by_cases hgo : 1 ≤ j1
                  · have hHk := SW.holds HS.out hg HH.out hsj
                    obtain ⟨c1, f1⟩ := holdsN_cell hHk (i := j1) (by omega)
                    obtain ⟨c2, f2⟩ := holdsN_cell hHk (i := j1 - 1) (by omega)
                    have hiz : ((j1 - 1 : Nat) : Int) = (j1 : Int) - 1 := by omega
                    have HSW := Lib.hid (swN HS.out hg (i := j1) (j := j1 - 1) (by omega) (by omega))
                    have hn1 : j1 ≠ j1 - 1 := by omega
                    have hn2 : j1 - 1 ≠ j1 := by omega
                    generalize hx : dj[j1]! = x at *
                    generalize hy : dj[j1 - 1]! = y at *
                    have HX := Lib.hid hx; have HY := Lib.hid hy
                    clear hHk hx hy
                    go_wp2_with fail
                    go_quiet ((go_at_call 233; exact Calls.quiet_of_same ((hls _ _ _).mono fun e w1 h => ⟨h.1, h.2.symm⟩)))
                    cases hv : ltI x y with
                    | true =>
                      have HV : Hid (ltI dj[j1]! dj[j1 - 1]! = true) := Lib.hid (by rw [HX.out, HY.out]; exact hv)
                      clear hv
                      go_wp2_with fail
                      go_region
                      go_wp2_with fail
                      go_roundw
                      case rel => exact ⟨j1 - 1, swp dj j1 (j1 - 1), by go_num, by omega, by omega, by rw [size_swp]; exact hsj, SW.drewN HSW.out.1 _, by rw [← HI.out, down_go hgo HV.out]⟩
                      case measure => first | (simp [intOf]; done) | (simp [intOf]; omega)
                    | false =>
                      have HV : Hid (ltI dj[j1]! dj[j1 - 1]! = false) := Lib.hid (by rw [HX.out, HY.out]; exact hv)
                      clear hv
                      go_wp2_with fail
                      go_meet
                      have e : shD a i1 d1 = dj := by unfold shD; rw [if_pos h2, ← HI.out, down_stop (fun _ => HV.out)]
                      rw [e]
                      exact SW.drewN HS.out _
                  · go_wp2_with fail
                    go_meet
                    have e : shD a i1 d1 = dj := by unfold shD; rw [if_pos h2, ← HI.out, down_stop (fun h => absurd h hgo)]
                    rw [e]
                    exact HS.out
              · go_wp2_with fail
                go_meet
                have e : shD a i1 d1 = d1 := by unfold shD; rw [if_neg h2]
                rw [e]
                exact HS.out
            case rest =>
              clear HS HSW
              obtain ⟨d2, hd2⟩ : ∃ d2, d2 = shD a i1 d1 := ⟨_, rfl⟩
              have hsz2 : d2.size = d.size := by rw [hd2, size_shD]; exact hsz1
              have HR2 : Hid (partialIns ltI a b (4 - j) i1 (shU b i1 d2) = R) := Lib.hid (by rw [hd2]; exact HR.out)
              rw [← hd2] at hcut
              have HS := Lib.hid hcut
              clear hd2 hcut HR hsz1
              clear d1
              obtain ⟨d1, rfl⟩ : ∃ d1, d1 = d2 := ⟨_, rfl⟩
              obtain ⟨wo2, rfl⟩ : ∃ wo2, wo2 = wc := ⟨_, rfl⟩
              have hsz1 := hsz2
              have OUT : Hid (∀ dd, shU b i1 d1 = dd → ∀ wz, RowS .u64 w g dd wz → ∃ (i' j' : Nat) (dk' : Array Int), Value.int .i64 (i1 : Int) = .int .i64 (i' : Int) ∧ Value.int .i64 ((j : Int) + 1) = .int .i64 (j' : Int) ∧ a < i' ∧ i' ≤ b ∧ j' ≤ 5 ∧ dk'.size = d.size ∧ RowS .u64 w g dk' wz ∧ partialIns ltI a b (5 - j') i' dk' = R) := Lib.hid (fun dd e wz h => ⟨i1, j + 1, dd, rfl, by go_num, by omega, by omega, by omega, by rw [← e, size_shU]; exact hsz1, h, by rw [show 5 - (j + 1) = 4 - j by omega, ← e]; exact HR2.out⟩)
              by_cases h2 : b - i1 ≥ 2
              · go_wp2_with fail
                go_loopw [10] (fun vj wr => ∃ (j1 : Nat) (dj : Array Int), vj = .int .i64 (j1 : Int) ∧ i1 < j1 ∧ j1 ≤ b ∧ dj.size = d.size ∧ RowS .u64 w g dj wr ∧ shiftUp ltI b j1 dj = shiftUp ltI b (i1 + 1) d1) (fun vj _ => b - (intOf vj).toNat)
                case atStart => exact ⟨i1 + 1, d1, by go_num, by omega, by omega, hsz1, HS.out, rfl⟩
                case round =>
                  clear HS
                  obtain ⟨j1, dj, rfl, hj1, hj2, hsj, hS, hI⟩ := hrel
                  have HS := Lib.hid hS
                  have HI := Lib.hid hI
                  clear hS hI
                  by_cases hgo : j1 < b
                  · have hHk := SW.holds HS.out hg HH.out hsj
                    obtain ⟨c1, f1⟩ := holdsN_cell hHk (i := j1) (by omega)
                    obtain ⟨c2, f2⟩ := holdsN_cell hHk (i := j1 - 1) (by omega)
                    have hiz : ((j1 - 1 : Nat) : Int) = (j1 : Int) - 1 := by omega
                    have HSW := Lib.hid (swN HS.out hg (i := j1) (j := j1 - 1) (by omega) (by omega))
                    have hn1 : j1 ≠ j1 - 1 := by omega
                    have hn2 : j1 - 1 ≠ j1 := by omega
                    generalize hx : dj[j1]! = x at *
                    generalize hy : dj[j1 - 1]! = y at *
                    have HX := Lib.hid hx; have HY := Lib.hid hy
                    clear hHk hx hy
                    go_wp2_with fail
                    go_quiet ((go_at_call 233; exact Calls.quiet_of_same ((hls _ _ _).mono fun e w1 h => ⟨h.1, h.2.symm⟩)))
                    cases hv : ltI x y with
                    | true =>
                      have HV : Hid (ltI dj[j1]! dj[j1 - 1]! = true) := Lib.hid (by rw [HX.out, HY.out]; exact hv)
                      clear hv
                      go_wp2_with fail
                      go_region
                      go_wp2_with fail
                      go_roundw
                      case rel => exact ⟨j1 + 1, swp dj j1 (j1 - 1), by go_num, by omega, by omega, by rw [size_swp]; exact hsj, SW.drewN HSW.out.1 _, by rw [← HI.out, up_go hgo HV.out]⟩
                      case measure => first | (simp [intOf]; done) | (simp [intOf]; omega)
                    | false =>
                      have HV : Hid (ltI dj[j1]! dj[j1 - 1]! = false) := Lib.hid (by rw [HX.out, HY.out]; exact hv)
                      clear hv
                      go_wp2_with fail
                      have e : shU b i1 d1 = dj := by unfold shU; rw [if_pos h2, ← HI.out, up_stop (fun _ => HV.out)]
                      go_roundw
                      case rel => exact OUT.out _ e _ (SW.drewN HS.out _)
                      case measure => first | (simp [intOf]; done) | (simp [intOf]; omega)
                  · go_wp2_with fail
                    have e : shU b i1 d1 = dj := by unfold shU; rw [if_pos h2, ← HI.out, up_stop (fun h => absurd h hgo)]
                    go_roundw
                    case rel => exact OUT.out _ e _ (HS.out)
                    case measure => first | (simp [intOf]; done) | (simp [intOf]; omega)
              · go_wp2_with fail
                have e : shU b i1 d1 = d1 := by unfold shU; rw [if_neg h2]
                go_roundw
                case rel => exact OUT.out _ e _ (HS.out)
                case measure => first | (simp [intOf]; done) | (simp [intOf]; omega)
    · have e : R = (dk, false) := by rw [← HP.out, show 5 - j = 0 by omega]; rfl
      have HE := Lib.hid e
      clear e
      go_wp2_with fail
      go_ret
      rw [HE.out]
      exact ⟨rfl, HS.out⟩

set_option maxHeartbeats 6400000 in
set_option maxRecDepth 100000 in
theorem break64 (g cap a b : Nat) (d : Array Int) (w : World) (hH : Holds (Value.int .u64) w g 0 d) (hg : g < w.heap.size) (hab : a + 12 < b) (hb : b ≤ d.size) (hsz : d.size ≤ 1000000) :
    Calls Tryz.prog 229 #[.slice (some ⟨g, 0, none⟩) d.size cap, .int .i64 a, .int .i64 b] w fun e w' => e = .returned (.tuple #[]) ∧ ∃ d', RowS .u64 w g d' w' ∧ PermIn a b d d' := by
  obtain ⟨L, rfl⟩ : ∃ L, b = a + L := ⟨b - a, by omega⟩
  have h8 : 8 ≤ L := by omega
  obtain ⟨M, hM⟩ : ∃ M : Nat, M = 1 <<< bitsLen L := ⟨_, rfl⟩
  have hM1 : 1 ≤ M := by rw [hM, Nat.one_shiftLeft]; exact Nat.two_pow_pos _
  have hM2 : M ≤ 2 * L := by rw [hM, Nat.one_shiftLeft]; exact two_pow_bitsLen_le (by omega)
  have hNP : ∀ w, Calls Tryz.prog 142 #[.int .i64 (L : Int)] w fun e w' => e = .returned (.int .u64 (M : Int)) ∧ w' = w := by rw [hM]; exact fun w => next_pow L (by omega) w
  clear hM
  obtain ⟨q, hq⟩ : ∃ q, q = L / 4 := ⟨_, rfl⟩
  obtain ⟨i0, hi0⟩ : ∃ i0, i0 = a + q * 2 - 1 := ⟨_, rfl⟩
  have hLi : ((a + L : Nat) : Int) - (a : Int) = (L : Int) := by omega
  have hqi : (L : Int).tdiv 4 = (q : Int) := by
    rw [show (4 : Int) = ((4 : Nat) : Int) from rfl, ← Int.ofNat_tdiv]; omega
  have hqj : (L : Int) / 4 = (q : Int) := by omega
  have HQ := Lib.hid hq
  have hq1 : 2 ≤ q := by omega
  have hq2 : 4 * q ≤ L := by omega
  have hi1 : a + q * 2 ≤ i0 + 1 := by omega
  have hi2 : i0 + 1 ≤ a + q * 2 := by omega
  clear hq hi0
  have HH := Lib.hid hH
  have HST : Hid (RowS .u64 w g d (w.alloc (Obj.cells #[.int .u64 (L : Int)] 241))) := Lib.hid (SW.alloc (SW.start hH) _)
  clear hH
  go_enter Tryz.func229, Tryz.ntmps229
  go_wp2_with (first | (go_at_call 142; (try rw [hLi]); (try rw [show ((a : Int) + (L : Int) - (a : Int)) = (L : Int) by omega]); refine (hNP _).mono ?_; rintro e w' ⟨rfl, rfl⟩))
  go_loopw [9] (fun vi wr => ∃ (t X : Nat) (dk : Array Int), vi = .int .i64 ((i0 + t : Nat) : Int) ∧ t ≤ 3 ∧ dk.size = d.size ∧ RowS .u64 w g dk wr ∧ PermIn a (a + L) d dk ∧ X < 18446744073709551616 ∧
      wr.cell? ⟨w.heap.size, 0, none⟩ = some (.int .u64 (X : Int)) ∧ wr.frozen? ⟨w.heap.size, 0, none⟩ = false) (fun vi _ => i0 + 3 - (intOf vi).toNat)
  case atStart => exact ⟨0, L, d, by go_num, by omega, rfl, HST.out, permIn_refl _ _ _, by omega, by simp [go_sem], by simp [go_sem]⟩
  case round =>
    obtain ⟨t, X, dk, rfl, ht, hsk, hS, hP, hX, hcB, hfB⟩ := hrel
    have HS := Lib.hid hS
    have HP := Lib.hid hP
    clear hS hP HST
    by_cases h3 : t < 3
    · obtain ⟨R', hR'⟩ : ∃ R' : Nat, R' = xorNextN X := ⟨_, rfl⟩
      have lR' : R' < 18446744073709551616 := by rw [hR']; exact xorNextN_lt X hX
      obtain ⟨O, hO⟩ : ∃ O : Nat, O = R' &&& (M - 1) := ⟨_, rfl⟩
      have lO : O ≤ M - 1 := by rw [hO]; exact Nat.and_le_right
      have eAnd : bits .and .u64 (R' : Int) ((M : Int) - 1) = (O : Int) := by
        rw [show ((M : Int) - 1) = ((M - 1 : Nat) : Int) by omega, bits_and_u64_nat _ _ lR' (by omega), hO]
      have hNext : Calls Tryz.prog 143 #[.pointer (some ⟨w.heap.size, 0, none⟩)] wr fun e w' => e = .returned (.int .u64 (R' : Int)) ∧ w' = (wr.setCell ⟨w.heap.size, 0, none⟩ (.int .u64 (R' : Int))).drewN 3 := by
        rw [hR']; exact xor_next _ X hX wr hcB hfB
      clear hO hR'
      have HPP : Hid (∀ k, a ≤ k → k < a + L → PermIn a (a + L) d (swp dk (i0 + t) k)) := Lib.hid (fun k h1 h2 => permIn_trans _ _ _ _ _ HP.out (swp_permIn dk a (a + L) (i0 + t) k (by omega) (by omega) h1 h2 (by omega)))
      have CB0 : ((wr.setCell ⟨w.heap.size, 0, none⟩ (.int .u64 (R' : Int))).drewN 3).cell? ⟨w.heap.size, 0, none⟩ = some (.int .u64 (R' : Int)) := World.cell?_setCell_same _ _ _ hcB
      have FB0 : ((wr.setCell ⟨w.heap.size, 0, none⟩ (.int .u64 (R' : Int))).drewN 3).frozen? ⟨w.heap.size, 0, none⟩ = false := by
        show (wr.setCell ⟨w.heap.size, 0, none⟩ (.int .u64 (R' : Int))).frozen? ⟨w.heap.size, 0, none⟩ = false
        rw [World.frozen?_setCell]; exact hfB
      have hS1 : RowS .u64 w g dk ((wr.setCell ⟨w.heap.size, 0, none⟩ (.int .u64 (R' : Int))).drewN 3) := SW.drewN (SW.setCell_new HS.out _ _ _ (Nat.le_refl _)) 3
      go_wp2_with fail
      refine hNext.mono ?_
      clear hNext
      rintro e w1 ⟨rfl, hw1⟩
      rw [← hw1] at CB0 FB0 hS1
      clear hw1 hcB hfB HS
      have CB : Hid (∀ i u v n, ((((w1.setCell ⟨g, i, none⟩ u).setCell ⟨g, v, none⟩ n).drewN 1).cell? ⟨w.heap.size, 0, none⟩ = some (.int .u64 (R' : Int)))) := Lib.hid (fun i u v n => by
        show ((w1.setCell ⟨g, i, none⟩ u).setCell ⟨g, v, none⟩ n).cell? ⟨w.heap.size, 0, none⟩ = _
        have hne : g ≠ w.heap.size := by omega
        rw [World.cell?_setCell_other (h := by simp [hne]), World.cell?_setCell_other (h := by simp [hne])]
        exact CB0)
      have FB : Hid (∀ i u v n, ((((w1.setCell ⟨g, i, none⟩ u).setCell ⟨g, v, none⟩ n).drewN 1).frozen? ⟨w.heap.size, 0, none⟩ = false)) := Lib.hid (fun i u v n => by
        show ((w1.setCell ⟨g, i, none⟩ u).setCell ⟨g, v, none⟩ n).frozen? ⟨w.heap.size, 0, none⟩ = _
        rw [World.frozen?_setCell, World.frozen?_setCell]
        exact FB0)
      clear CB0 FB0
      have hH1 := SW.holds hS1 hg HH.out hsk
      obtain ⟨c1, f1⟩ := holdsN_cell hH1 (i := i0 + t) (by omega)
      by_cases hLO : L ≤ O
      · have hOL : ((O - L : Nat) : Int) = (O : Int) - (L : Int) := by omega
        obtain ⟨c2, f2⟩ := holdsN_cell hH1 (i := a + (O - L)) (by omega)
        have hsw := (swN hS1 hg (i := i0 + t) (j := a + (O - L)) (by omega) (by omega)).1
        have hpp := HPP.out (a + (O - L)) (by omega) (by omega)
        by_cases hEq : i0 + t = a + (O - L)
        · rw [hEq] at hsw hpp
          have HSW := Lib.hid hsw
          have HPQ := Lib.hid hpp
          generalize dk[a + (O - L)]! = x at *
          clear hH1 hS1 hsw hpp c1 f1
          go_wp2_with fail
          go_region
          all_goals go_wp2_with fail
          go_roundw
          case rel => exact ⟨t + 1, R', swp dk (a + (O - L)) (a + (O - L)), by go_num, by omega, by rw [size_swp]; exact hsk, SW.drewN HSW.out 1, HPQ.out, lR', CB.out _ _ _ _, FB.out _ _ _ _⟩
          case measure => simp [intOf]; omega
        · have HSW := Lib.hid hsw
          have HPQ := Lib.hid hpp
          generalize dk[i0 + t]! = x at *
          generalize dk[a + (O - L)]! = y at *
          clear hH1 hS1 hsw hpp
          have hEq2 : ¬ a + (O - L) = i0 + t := fun e => hEq e.symm
          go_wp2_with fail
          go_region
          all_goals go_wp2_with fail
          go_roundw
          case rel => exact ⟨t + 1, R', swp dk (i0 + t) (a + (O - L)), by go_num, by omega, by rw [size_swp]; exact hsk, SW.drewN HSW.out 1, HPQ.out, lR', CB.out _ _ _ _, FB.out _ _ _ _⟩
          case measure => simp [intOf]; omega
      · obtain ⟨c2, f2⟩ := holdsN_cell hH1 (i := a + O) (by omega)
        have hsw := (swN hS1 hg (i := i0 + t) (j := a + O) (by omega) (by omega)).1
        have hpp := HPP.out (a + O) (by omega) (by omega)
        by_cases hEq : i0 + t = a + O
        · rw [hEq] at hsw hpp
          have HSW := Lib.hid hsw
          have HPQ := Lib.hid hpp
          generalize dk[a + O]! = x at *
          clear hH1 hS1 hsw hpp c1 f1
          go_wp2_with fail
          go_region
          all_goals go_wp2_with fail
          go_roundw
          case rel => exact ⟨t + 1, R', swp dk (a + O) (a + O), by go_num, by omega, by rw [size_swp]; exact hsk, SW.drewN HSW.out 1, HPQ.out, lR', CB.out _ _ _ _, FB.out _ _ _ _⟩
          case measure => simp [intOf]; omega
        · have HSW := Lib.hid hsw
          have HPQ := Lib.hid hpp
          generalize dk[i0 + t]! = x at *
          generalize dk[a + O]! = y at *
          clear hH1 hS1 hsw hpp
          have hEq2 : ¬ a + O = i0 + t := fun e => hEq e.symm
          go_wp2_with fail
          go_region
          all_goals go_wp2_with fail
          go_roundw
          case rel => exact ⟨t + 1, R', swp dk (i0 + t) (a + O), by go_num, by omega, by rw [size_swp]; exact hsk, SW.drewN HSW.out 1, HPQ.out, lR', CB.out _ _ _ _, FB.out _ _ _ _⟩
          case measure => simp [intOf]; omega
    · go_wp2_with fail
      go_end0
      exact ⟨rfl, dk, HS.out, HP.out⟩

end Go.Proofs.YtgdgmegpacmgnaaGreatDoor

/- slices.Sort of uint64: pdqsort and Sort (printed by gen_pdq.py). -/
namespace Go.Proofs.YtgdgmegpacmgnaaGreatDoor
open Go.Shelf Go.RowKit Go.Lib Go.Sort
set_option linter.unusedVariables false
set_option linter.unusedSimpArgs false
attribute [local go_sem] setCell_drewN alloc_drewN

theorem boolOr64 (x : Bool) : Value.bool x = .bool true ∨ Value.bool x = .bool false := by cases x <;> simp
set_option maxHeartbeats 25600000 in
set_option maxRecDepth 100000 in
theorem pdq64 (N : Nat) : ∀ (g cap a b l : Nat) (d : Array Int) (w : World) (hN : b - a < N) (hH : Holds (Value.int .u64) w g 0 d) (hg : g < w.heap.size) (hab : a ≤ b) (hb : b ≤ d.size) (hsz : d.size ≤ 1000000) (hl : l ≤ 1000) (hB : Below ltI a b d),
    Calls Tryz.prog 213 #[.slice (some ⟨g, 0, none⟩) d.size cap, .int .i64 a, .int .i64 b, .int .i64 l] w fun e w' => e = .returned (.tuple #[]) ∧ ∃ R, RowS .u64 w g R w' ∧ PermIn a b d R ∧ SortedIn ltI a b R := by
  induction N with
  | zero => intro g cap a b l d w hN; omega
  | succ N IH =>
  intro g cap a b l d w hN hH hg hab hb hsz hl hB
  have HJ0 := Lib.hid (Jn.start hab hB)
  have HS0 := Lib.hid (SW.start hH)
  have HH := Lib.hid hH
  have hls := less64
  have HIH := Lib.hid IH
  clear hH hB IH
  go_enter Tryz.func213, Tryz.ntmps213
  go_wp2_with fail
  go_loopw [1, 2, 3, 8, 9] (fun va vb vl v8 v9 wr => ∃ (a1 b1 l1 : Nat) (dk : Array Int), va = .int .i64 (a1 : Int) ∧ vb = .int .i64 (b1 : Int) ∧ vl = .int .i64 (l1 : Int) ∧ (∃ x8 x9 : Bool, v8 = .bool x8 ∧ v9 = .bool x9) ∧ l1 ≤ l ∧ RowS .u64 w g dk wr ∧ Jn a b d a1 b1 dk) (fun va vb _ _ _ _ => (intOf vb).toNat - (intOf va).toNat)
  case atStart => exact ⟨a, b, l, d, rfl, rfl, rfl, ⟨true, true, rfl, rfl⟩, Nat.le_refl _, HS0.out, HJ0.out⟩
  case round =>
    obtain ⟨a1, b1, l1, dk, rfl, rfl, rfl, ⟨x8, x9, rfl, rfl⟩, hl1, hS, hJ⟩ := hrel
    have HS := Lib.hid hS
    have HJ := Lib.hid hJ
    have q1 := hJ.lo
    have q2 := hJ.le
    have q3 := hJ.hi
    have hsk := hJ.size
    have HHk := Lib.hid (SW.holds hS hg HH.out hsk)
    have hgk := SW.lt hS hg
    clear hS hJ HS0 HJ0
    by_cases h12 : b1 - a1 ≤ 12
    · have hins := insert64 g cap d.size a1 b1 dk wr hsk.symm HHk.out hgk q2 (by omega) (by omega)
      go_wp2_with fail
      refine hins.mono ?_
      rintro e w1 ⟨rfl, hS1⟩
      have hs := insertionSort_holds ltI_swo dk a1 b1 q2 (by omega)
      have HF := Lib.hid (HJ.out.fin _ hs.1 hs.2)
      have HS2 := Lib.hid (swN_trans HS.out hS1 hg hs.1.1)
      clear hS1 hs hins
      go_wp2_with fail
      refine bodyPost_ret (v := .tuple #[]) (by simp [results, Tryz.results213, go_sem]) rfl ?_
      exact ⟨rfl, _, HS2.out, HF.out.1, HF.out.2⟩
    · by_cases hl0 : l1 = 0
      · have hins := heap64 g cap d.size a1 b1 dk wr hsk.symm HHk.out hgk (by omega) (by omega) (by omega)
        go_wp2_with fail
        refine hins.mono ?_
        rintro e w1 ⟨rfl, hS1⟩
        have hs := heapSort_holds ltI_swo dk a1 b1 q2 (by omega)
        have HF := Lib.hid (HJ.out.fin _ hs.1 hs.2)
        have HS2 := Lib.hid (swN_trans HS.out hS1 hg hs.1.1)
        clear hS1 hs hins
        go_wp2_with fail
        refine bodyPost_ret (v := .tuple #[]) (by simp [results, Tryz.results213, go_sem]) rfl ?_
        exact ⟨rfl, _, HS2.out, HF.out.1, HF.out.2⟩
      · obtain ⟨wo, rfl⟩ : ∃ wo, wo = wr := ⟨_, rfl⟩
        go_upto_if 35 with fail
        go_cut [3] (fun s3 wx => ∃ (l2 : Nat) (d1 : Array Int), s3 = .int .i64 (l2 : Int) ∧ l2 ≤ l1 ∧ RowS .u64 w g d1 wx ∧ Jn a b d a1 b1 d1)
        case first =>
          cases x8 with
          | true =>
            go_wp2_with fail
            go_meet
            exact ⟨l1, dk, rfl, Nat.le_refl _, HS.out, HJ.out⟩
          | false =>
            have hbr := break64 g cap a1 b1 dk wo HHk.out hgk (by omega) (by omega) (by omega)
            rw [hsk] at hbr
            go_wp2_with fail
            refine hbr.mono ?_
            rintro e w1 ⟨rfl, d1, hS1, hp1⟩
            have HS2 := Lib.hid (swN_trans HS.out hS1 hg hp1.1)
            have HJ2 := Lib.hid (HJ.out.perm hb hp1)
            clear hS1 hp1 hbr
            go_wp2_with fail
            go_meet
            exact ⟨l1 - 1, d1, by go_num, by omega, HS2.out, HJ2.out⟩
        case rest =>
          clear HS HJ HHk hsk hgk
          obtain ⟨l2, d1, rfl, hl2, hS, hJ⟩ := hcut
          have HS := Lib.hid hS
          have HJ := Lib.hid hJ
          have hsk := hJ.size
          have HHk := Lib.hid (SW.holds hS hg HH.out hsk)
          have hgk := SW.lt hS hg
          clear hS hJ
          have hch := choose64 g cap a1 b1 d1 wc HHk.out hgk (by omega) (by omega) (by omega)
          rw [hsk] at hch
          go_wp2_with fail
          refine hch.mono ?_
          clear hch
          rintro e w1 ⟨p, h, rfl, hp1, hp2, hS1⟩
          have HS2 := Lib.hid (swN_trans HS.out hS1 hg rfl)
          have HHk := Lib.hid (SW.holds HS2.out hg HH.out hsk)
          have hgk := SW.lt HS2.out hg
          clear hS1 HS
          go_upto_if 50 with fail
          go_cut [11, 12] (fun s11 s12 wx => ∃ (p h : Nat) (d2 : Array Int), s11 = .int .i64 (p : Int) ∧ s12 = .int .i64 (h : Int) ∧ a1 ≤ p ∧ p < b1 ∧ RowS .u64 w g d2 wx ∧ Jn a b d a1 b1 d2)
          case first =>
            by_cases h2 : h = 2
            · have hbr := reverse64 g cap a1 b1 d1 w1 HHk.out hgk (by omega) (by omega) (by omega)
              rw [hsk] at hbr
              go_wp2_with fail
              refine hbr.mono ?_
              rintro e w2 ⟨rfl, d2, hS1, hpp⟩
              have HS3 := Lib.hid (swN_trans HS2.out hS1 hg hpp.1)
              have HJ2 := Lib.hid (HJ.out.perm hb hpp)
              clear hS1 hpp hbr
              go_wp2_with fail
              go_meet
              exact ⟨(b1 - 1) - (p - a1), 1, d2, by go_num, rfl, by omega, by omega, HS3.out, HJ2.out⟩
            · go_wp2_with fail
              go_meet
              exact ⟨p, h, d1, rfl, rfl, hp1, hp2, HS2.out, HJ.out⟩
          case rest =>
            clear HS2 HJ HHk hsk hgk hp1 hp2
            obtain ⟨w1, rfl⟩ : ∃ w1, w1 = wc := ⟨_, rfl⟩
            obtain ⟨p, h, d2, rfl, rfl, hp1, hp2, hS, hJ⟩ := hcut
            have HS := Lib.hid hS
            have HJ := Lib.hid hJ
            have hsk := hJ.size
            have HHk := Lib.hid (SW.holds hS hg HH.out hsk)
            have hgk := SW.lt hS hg
            clear hS hJ
            go_upto_region 15 with fail
            go_cut [68] (fun s68 wx => (s68 = .bool true ∨ s68 = .bool false) ∧ wx = w1)
            case first =>
              cases x8 <;> cases x9 <;> by_cases h1 : h = 1
              all_goals
                go_wp2_with fail
                go_meet
                exact ⟨by first | exact .inl rfl | exact .inr rfl | exact boolOr64 _, rfl⟩
            case rest =>
              obtain ⟨h68, rfl⟩ := hcut
              obtain ⟨w2, rfl⟩ : ∃ w2, w2 = wc := ⟨_, rfl⟩
              go_upto_if 68 with fail
              go_cut [12] (fun s12 wx => ∃ d3 : Array Int, RowS .u64 w g d3 wx ∧ Jn a b d a1 b1 d3)
              case first =>
                rcases h68 with rfl | rfl
                · have hpi := partial64 g cap a1 b1 d2 w2 HHk.out hgk (by omega) (by omega) (by omega)
                  rw [hsk] at hpi
                  have hs := partialInsertionSort_holds ltI_swo d2 a1 b1 (by omega) (by omega) HJ.out.below
                  have HPS := Lib.hid hs.2
                  have hp := hs.1
                  clear hs
                  generalize partialInsertionSort ltI d2 a1 b1 = r at *
                  obtain ⟨d3, v⟩ := r
                  go_wp2_with fail
                  refine hpi.mono ?_
                  rintro e w3 ⟨rfl, hS1⟩
                  have HS3 := Lib.hid (swN_trans HS.out hS1 hg hp.1)
                  have HP := Lib.hid hp
                  clear hS1 hp hpi
                  cases v with
                  | true =>
                    go_wp2_with fail
                    refine bodyPost_ret (v := .tuple #[]) (by simp [results, Tryz.results213, go_sem]) rfl ?_
                    have hfin := HJ.out.fin _ HP.out (HPS.out (by first | rfl | trivial))
                    exact ⟨rfl, d3, HS3.out, hfin.1, hfin.2⟩
                  | false =>
                    go_wp2_with fail
                    go_meet
                    exact ⟨d3, HS3.out, HJ.out.perm hb HP.out⟩
                · go_wp2_with fail
                  go_meet
                  exact ⟨d2, HS.out, HJ.out⟩
              case rest =>
                clear HS HJ HHk hsk hgk h68
                obtain ⟨w3, rfl⟩ : ∃ w3, w3 = wc := ⟨_, rfl⟩
                obtain ⟨d3, hS, hJ⟩ := hcut
                have HS := Lib.hid hS
                have HJ := Lib.hid hJ
                have hsk := hJ.size
                have hHk := SW.holds hS hg HH.out hsk
                have HHk := Lib.hid hHk
                have hgk := SW.lt hS hg
                clear hS hJ
                go_upto_region 17 with fail
                go_cut [87] (fun s87 wx => ((s87 = .bool true ∧ 0 < a1 ∧ ltI d3[a1 - 1]! d3[p]! = false) ∨ s87 = .bool false) ∧ RowS .u64 w g d3 wx)
                case first =>
                  by_cases h0 : 0 < a1
                  · have hgd : decide (0 < (a1 : Int)) = true := by simp; omega
                    have hgd2 : decide (0 < a1) = true := by simp; omega
                    have hiz : ((a1 - 1 : Nat) : Int) = (a1 : Int) - 1 := by omega
                    obtain ⟨c1, f1⟩ := holdsN_cell hHk (i := a1 - 1) (by omega)
                    obtain ⟨c2, f2⟩ := holdsN_cell hHk (i := p) (by omega)
                    have HX : Hid (ltI d3[a1 - 1]! d3[p]! = ltI d3[a1 - 1]! d3[p]!) := Lib.hid rfl
                    obtain ⟨x, hx⟩ : ∃ x, x = d3[a1 - 1]! := ⟨_, rfl⟩
                    obtain ⟨y, hy⟩ : ∃ y, y = d3[p]! := ⟨_, rfl⟩
                    rw [← hx] at c1
                    rw [← hy] at c2
                    have HXX := Lib.hid hx; have HYY := Lib.hid hy
                    clear hHk hx hy HX
                    go_wp2_with fail
                    go_quiet ((go_at_call 233; exact Calls.quiet_of_same ((hls _ _ _).mono fun e w1 h => ⟨h.1, h.2.symm⟩)))
                    cases hv : ltI x y with
                    | false =>
                      have HV : Hid (ltI d3[a1 - 1]! d3[p]! = false) := Lib.hid (by rw [← HXX.out, ← HYY.out]; exact hv)
                      clear hv
                      go_wp2_with fail
                      go_meet
                      exact ⟨by first | exact .inl ⟨rfl, h0, HV.out⟩ | exact .inl ⟨by simp, h0, HV.out⟩, SW.drewN HS.out _⟩
                    | true =>
                      clear hv
                      go_wp2_with fail
                      go_meet
                      exact ⟨by first | exact .inr rfl | exact .inr (by simp), SW.drewN HS.out _⟩
                  · have hgd : decide (0 < (a1 : Int)) = false := by simp; omega
                    have hgd2 : decide (0 < a1) = false := by simp; omega
                    clear hHk
                    go_wp2_with fail
                    go_quiet ((go_at_call 233; exact Calls.quiet_of_same ((hls _ _ _).mono fun e w1 h => ⟨h.1, h.2.symm⟩)))
                    go_wp2_with fail
                    go_meet
                    exact ⟨by first | exact .inr rfl | exact .inr (by simp), SW.drewN HS.out _⟩
                case rest =>
                  clear HS HHk hHk hgk
                  obtain ⟨w4, rfl⟩ : ∃ w4, w4 = wc := ⟨_, rfl⟩
                  obtain ⟨h87, hS⟩ := hcut
                  have HS := Lib.hid hS
                  have HHk := Lib.hid (SW.holds hS hg HH.out hsk)
                  have hgk := SW.lt hS hg
                  clear hS
                  rcases h87 with ⟨rfl, h0, hnl⟩ | rfl
                  · have HNL := Lib.hid hnl
                    clear hnl
                    have hpt := parteq64 g cap a1 b1 p d3 w4 HHk.out hgk (by omega) (by omega) hp1 hp2 (by omega)
                    rw [hsk] at hpt
                    go_wp2_with fail
                    refine hpt.mono ?_
                    rintro e w5 ⟨m, rfl, d4, hS1, hm1, hm2, hp4, hle, hgt⟩
                    have HJ2 := Lib.hid (HJ.out.equal hb h0 HNL.out hm1 hm2 hp4 hle hgt)
                    have HS2 := Lib.hid (swN_trans HS.out hS1 hg hp4.1)
                    clear hS1 hp4 hle hgt hpt
                    go_wp2_with fail
                    go_roundw
                    case rel => exact ⟨m, b1, l2, d4, rfl, rfl, rfl, ⟨x8, x9, rfl, rfl⟩, by omega, HS2.out, HJ2.out⟩
                    case measure => first | (simp [intOf]; done) | (simp [intOf]; omega)
                  · have hpt := part64 g cap a1 b1 p d3 w4 HHk.out hgk (by omega) (by omega) hp1 hp2 (by omega)
                    rw [hsk] at hpt
                    go_wp2_with fail
                    refine hpt.mono ?_
                    rintro e w5 ⟨m, v, d4, rfl, hv, hS1, hm1, hm2, hp4, hlo, hhi⟩
                    obtain ⟨xv, rfl⟩ : ∃ xv : Bool, v = .bool xv := by rcases hv with rfl | rfl <;> exact ⟨_, rfl⟩
                    clear hv
                    have hs4 : d4.size = d.size := hp4.1.trans hsk
                    have HS2 := Lib.hid (swN_trans HS.out hS1 hg hp4.1)
                    have HHk := Lib.hid (SW.holds HS2.out hg HH.out hs4)
                    have hgk := SW.lt HS2.out hg
                    have HLO := Lib.hid hlo
                    have HHI := Lib.hid hhi
                    have HP4 := Lib.hid hp4
                    clear hS1 hp4 hlo hhi hpt
                    by_cases hlt : m - a1 < b1 - m
                    · have hI := HIH.out g cap a1 m l2 d4 w5 (by omega) HHk.out hgk hm1 (by omega) (by omega) (by omega) (HJ.out.belowL hb hm2 HP4.out)
                      rw [hs4] at hI
                      go_wp2_with fail
                      refine hI.mono ?_
                      rintro e w6 ⟨rfl, L, hS1, hL, hsL⟩
                      have HS3 := Lib.hid (swN_trans HS2.out hS1 hg hL.1)
                      have HJ2 := Lib.hid (HJ.out.left hb hm1 hm2 HP4.out HLO.out HHI.out hL hsL)
                      clear hS1 hL hsL hI
                      go_wp2_with fail
                      go_roundw
                      case rel => exact ⟨m + 1, b1, l2, L, by go_num, rfl, rfl, ⟨_, xv, rfl, rfl⟩, by omega, HS3.out, HJ2.out⟩
                      case measure => first | (simp [intOf]; done) | (simp [intOf]; omega)
                    · have hI := HIH.out g cap (m + 1) b1 l2 d4 w5 (by omega) HHk.out hgk (by omega) (by omega) (by omega) (by omega) (Jn.belowR HHI.out)
                      rw [hs4, show ((m + 1 : Nat) : Int) = (m : Int) + 1 by omega] at hI
                      go_wp2_with fail
                      refine hI.mono ?_
                      rintro e w6 ⟨rfl, L, hS1, hL, hsL⟩
                      have HS3 := Lib.hid (swN_trans HS2.out hS1 hg hL.1)
                      have HJ2 := Lib.hid (HJ.out.right hb hm1 hm2 HP4.out HLO.out HHI.out hL hsL)
                      clear hS1 hL hsL hI
                      go_wp2_with fail
                      go_roundw
                      case rel => exact ⟨a1, m, l2, L, rfl, rfl, rfl, ⟨_, xv, rfl, rfl⟩, by omega, HS3.out, HJ2.out⟩
                      case measure => first | (simp [intOf]; done) | (simp [intOf]; omega)

theorem leI64 (a b : Nat) : decide (a ≤ b) = !ltI (b : Int) (a : Int) := by
  rcases Nat.lt_or_ge b a with h | h
  · have h1 : ¬ a ≤ b := by omega
    simp [ltI, h, h1]
  · have h1 : ¬ b < a := by omega
    simp [ltI, h, h1]
theorem heap_row64 {w : World} {g n : Nat} {os : Array Obj} {cur : Array Value} {e : TypeId} {fr : Nat × Nat} (d : Array Int) (hb : w.heap[g]? = some (.cells cur e fr)) :
    (sortWorld (Value.int .u64) w g 0 n d os).heap[g]? = some (.cells (putCells (Value.int .u64) 0 d cur) e fr) := by
  have hg : g < w.heap.size := (Array.getElem?_eq_some_iff.1 hb).1
  unfold sortWorld
  rw [heap_grow_old _ _ (by simpa using hg)]
  simp [putRow, mapBlock, Sort.ahead, Array.getElem?_modify, hb, onCells]
theorem kp_row64 (w : World) (g n : Nat) (os : Array Obj) (d : Array Int) : Kp (fun i => i = g) w (sortWorld (Value.int .u64) w g 0 n d os) := by
  unfold sortWorld
  refine ⟨rfl, rfl, rfl, by simp, fun i hi hne => ?_⟩
  rw [heap_grow_old _ _ (by simpa using hi)]
  have : ¬ g = i := fun e => hne e.symm
  simp [putRow, mapBlock, Sort.ahead, Array.getElem?_modify, this]
theorem put_row64 (zs ys : List Nat) (tail : List Value) (R : Array Int) (hl : ys.length = zs.length) (hR : R.toList = ys.map fun n : Nat => (n : Int)) :
    putCells (Value.int .u64) 0 R (zs.map (numV .u64) ++ tail).toArray = (ys.map (numV .u64) ++ tail).toArray := by
  have hsz : R.size = ys.length := by rw [← Array.length_toList, hR, List.length_map]
  have hget : ∀ k, k < ys.length → R[k]! = ((ys[k]! : Nat) : Int) := fun k hk => by
    rw [getElem!_pos R k (by omega), ← Array.getElem_toList, List.getElem_of_eq hR]
    simp [hk]
  apply Array.ext
  · simp [putCells, hl]
  · intro k h1 h2
    simp only [putCells, Array.getElem_mapIdx, Nat.zero_le, true_and, Nat.zero_add, Nat.sub_zero]
    by_cases hk : k < ys.length
    · rw [if_pos (by omega), hget k hk]
      simp [List.getElem_append, hk, numV]
    · rw [if_neg (by omega)]
      simp [List.getElem_append, hk, hl, show ¬ k < zs.length by omega]
set_option maxRecDepth 100000 in
set_option maxHeartbeats 1600000 in
theorem bigSort_64 : SortsTo 198 .u64 22 1000000 := by
  intro g cap zs tail w hz hgb
  have hg : g < w.heap.size := (Array.getElem?_eq_some_iff.1 hgb).1
  obtain ⟨d, hd⟩ : ∃ d : Array Int, d = (zs.map fun n : Nat => (n : Int)).toArray := ⟨_, rfl⟩
  have hds : d.size = zs.length := by rw [hd]; simp
  have hH : Holds (Value.int .u64) w g 0 d := fun j hj => by
    rw [Nat.zero_add]
    refine ⟨?_, blk_free' hgb j⟩
    have hj' : j < zs.length := by omega
    rw [blk_cell' hgb, getElem!_pos d j hj]
    subst hd
    simp [List.getElem?_append, hj', numV]
  have hLen : ∀ w, Calls Tryz.prog 82 #[.int .u64 (zs.length : Int)] w fun e w' => e = .returned (.int .i64 (bitsLen zs.length : Nat)) ∧ w' = w := fun w => by
    have h := Tryz.bits_Len (zs.length : Int) w (by omega) (by omega)
    rwa [Int.toNat_natCast, bitLen_eq _ (by omega)] at h
  have hk : bitsLen zs.length ≤ 62 := (bitsLen_le_iff zs.length 62).2 (by omega)
  have hP := pdq64 (zs.length + 1) g cap 0 zs.length (bitsLen zs.length) d w (by omega) hH hg (Nat.zero_le _) (by omega) (by omega) (by omega) (Or.inl rfl)
  rw [hds] at hP
  have hlast : ∀ R, RowS .u64 w g R = RowS .u64 w g R := fun _ => rfl
  have HD := Lib.hid hd
  have HGB := Lib.hid hgb
  clear hd hgb hH
  generalize hbl : bitsLen zs.length = bl at *
  go_enter Tryz.func198, Tryz.ntmps198
  go_wp2_with (first | (go_at_call 82; refine (hLen _).mono ?_; rintro e w' ⟨rfl, rfl⟩))
  refine hP.mono ?_
  rintro e w1 ⟨rfl, R, ⟨n, os, rfl⟩, hp, hs⟩
  have hu := sorted_unique_holds ltI_swo (fun x y h1 h2 => by simp only [ltI, decide_eq_false_iff_not] at h1 h2; omega) d R (by rw [hds]; exact hp) (by rw [hds]; exact hs)
  have hR : R.toList = (sortN zs).map fun n : Nat => (n : Int) := by
    rw [hu, HD.out, sortN]
    rw [List.map_mergeSort (s := fun x y : Int => !ltI y x) (fun a _ b _ => leI64 a b)]
  have HR := Lib.hid hR
  clear hR hu hp hs
  go_wp2_with fail
  go_end0
  refine ⟨rfl, ?_, kp_row64 _ g n os R⟩
  rw [heap_row64 R HGB.out, put_row64 zs (sortN zs) tail R (by simp [sortN]) HR.out]

end Go.Proofs.YtgdgmegpacmgnaaGreatDoor
