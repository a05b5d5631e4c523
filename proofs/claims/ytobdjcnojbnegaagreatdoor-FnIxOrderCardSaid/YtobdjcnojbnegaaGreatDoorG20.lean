import Derived.Test.YtobdjcnojbnegaaGreatDoorG19
import Derived.Deep.CutBlock
import Derived.Deep.DeepCutAuto
import Derived.Sort.LotA
import Derived.Sort.LotD2
import Derived.Test.YtobdjcnojbnegaaGreatDoorShelf
/- sort.Sort of records: partialInsertionSort, breakPatterns (printed by gen_rec4.py). -/
namespace Go.Proofs.YtobdjcnojbnegaaGreatDoor
open Go.Shelf Go.RowKit Go.Lib Go.Sort
set_option linter.unusedVariables false
set_option linter.unusedSimpArgs false
variable {α : Type} [Inhabited α] {lt : α → α → Bool} {R : Array α → World → Prop} {n g N0 : Nat} {rv : Value}

set_option maxHeartbeats 12800000 in
set_option maxRecDepth 100000 in
theorem partialR (H : SortR lt R n g N0 rv) (a b : Nat) (d : Array α) (w : World) (hd : d.size = n) (hR : R d w) (hab : a < b) (hb : b ≤ n) :
    Calls Tryz.prog 237 #[.iface 304 rv, .int .i64 a, .int .i64 b] w fun e w' => e = .returned (.bool (partialInsertionSort lt d a b).2) ∧ R (partialInsertionSort lt d a b).1 w' := by
  have hme := method_LessR
  have hms := method_SwapR
  have hbig := H.big
  have HH := Lib.hid H
  have HS0 := Lib.hid hR
  obtain ⟨Q, hQ⟩ : ∃ Q, Q = partialInsertionSort lt d a b := ⟨_, rfl⟩
  have HR0 : Hid (partialIns lt a b 5 (a + 1) d = Q) := Lib.hid (by rw [hQ]; rfl)
  rw [← hQ]
  clear hR hQ H
  go_enter Tryz.func237, Tryz.ntmps237
  go_wp2_with fail
  go_loopw [7, 8] (fun vi vj wr => ∃ (i j : Nat) (dk : Array α), vi = .int .i64 (i : Int) ∧ vj = .int .i64 (j : Int) ∧ a < i ∧ i ≤ b ∧ j ≤ 5 ∧ dk.size = n ∧ R dk wr ∧ partialIns lt a b (5 - j) i dk = Q) (fun _ vj _ => 5 - (intOf vj).toNat)
  case atStart => exact ⟨a + 1, 0, d, by go_num, rfl, by omega, by omega, by omega, hd, HS0.out, HR0.out⟩
  case round =>
    obtain ⟨i, j, dk, rfl, rfl, hai, hib, hj5, hsk, hS, hP⟩ := hrel
    have HS := Lib.hid hS
    have HP := Lib.hid hP
    clear hS hP HS0 HR0
    by_cases hj : j < 5
    · obtain ⟨wo, rfl⟩ : ∃ wo, wo = wr := ⟨_, rfl⟩
      have hgj : decide ((j : Int) < 5) = true := by simp; omega
      go_upto_block 2 with fail
      go_cut [7] (fun s7 wx => ∃ i1 : Nat, s7 = .int .i64 (i1 : Int) ∧ scanSorted lt dk b i = i1 ∧ i ≤ i1 ∧ i1 ≤ b ∧ R dk wx)
      case first =>
        go_wp2_with fail
        go_loopw [7] (fun vi wr => ∃ i1 : Nat, vi = .int .i64 (i1 : Int) ∧ scanSorted lt dk b i = scanSorted lt dk b i1 ∧ i ≤ i1 ∧ i1 ≤ b ∧ R dk wr) (fun vi _ => b - (intOf vi).toNat)
        case atStart => exact ⟨i, rfl, rfl, Nat.le_refl _, hib, HS.out⟩
        case round =>
          clear HS
          obtain ⟨i1, rfl, hsc, hi1, hi2, hS⟩ := hrel
          have HS := Lib.hid hS
          have HC := Lib.hid hsc
          clear hS hsc
          by_cases hlt : i1 < b
          · have hgd : decide ((i1 : Int) < (b : Int)) = true := by simp; omega
            have hiz : ((i1 - 1 : Nat) : Int) = (i1 : Int) - 1 := by omega
            have hL := HH.out.less dk wr i1 (i1 - 1) HS.out hsk (by omega) (by omega)
            rw [hiz] at hL
            generalize hv : lt dk[i1]! dk[i1 - 1]! = v at hL
            have HV := Lib.hid hv
            clear hv
            go_wp2_with fail
            refine hL.mono ?_
            clear hL
            rintro e w1 ⟨rfl, hR1, hk1⟩
            have HR1 := Lib.hid hR1
            clear hR1 hk1
            cases v with
            | false =>
              go_wp2_with fail
              go_roundw
              case rel => exact ⟨i1 + 1, by go_num, HC.out.trans (gscan_go hlt HV.out), by omega, by omega, HR1.out⟩
              case measure => first | (simp [intOf]; done) | (simp [intOf]; omega)
            | true =>
              go_wp2_with fail
              go_meet
              exact ⟨i1, rfl, HC.out.trans (gscan_stop HV.out), hi1, hi2, HR1.out⟩
          · have hgd : decide ((i1 : Int) < (b : Int)) = false := by simp; omega
            go_wp2_with fail
            go_meet
            exact ⟨i1, rfl, HC.out.trans (gscan_end hlt), hi1, hi2, HS.out⟩
      case rest =>
        clear HS
        obtain ⟨i1, rfl, hsc, hi1, hi2, hS⟩ := hcut
        have HS := Lib.hid hS
        have HC := Lib.hid hsc
        clear hS hsc
        have hs5 : 5 - j = (4 - j) + 1 := by omega
        have HP5 := Lib.hid hs5
        clear hs5
        by_cases hdn : i1 = b
        · have e : Q = (dk, true) := by rw [← HP.out, HP5.out, gins_done HC.out hdn]
          have HE := Lib.hid e
          clear e
          go_wp2_with fail
          go_ret
          rw [HE.out]
          exact ⟨rfl, HS.out⟩
        · by_cases h5 : b - a < 50
          · have e : Q = (dk, false) := by rw [← HP.out, HP5.out, gins_short HC.out hdn h5]
            have HE := Lib.hid e
            clear e
            go_wp2_with fail
            go_ret
            rw [HE.out]
            exact ⟨rfl, HS.out⟩
          · obtain ⟨d1, hd1⟩ : ∃ d1, d1 = swp dk i1 (i1 - 1) := ⟨_, rfl⟩
            have hsz1 : d1.size = n := by rw [hd1, size_swp]; exact hsk
            have hiz : ((i1 - 1 : Nat) : Int) = (i1 : Int) - 1 := by omega
            have hW := HH.out.swap dk wc i1 (i1 - 1) HS.out hsk (by omega) (by omega)
            rw [hiz, ← hd1] at hW
            have HR : Hid (partialIns lt a b (4 - j) i1 (gshU lt b i1 (gshD lt a i1 d1)) = Q) := Lib.hid (by rw [← HP.out, HP5.out, gins_round HC.out hdn h5, hd1])
            clear hd1 HP HC HS
            go_wp2_with fail
            refine hW.mono ?_
            clear hW
            rintro e w1 ⟨rfl, hR1, hk1⟩
            have HS := Lib.hid hR1
            clear hR1 hk1 hiz
            go_upto_if 45 with fail
            go_cut [9] (fun s9 wx => R (gshD lt a i1 d1) wx)
            case first =>
              by_cases h2 : i1 - a ≥ 2
              · have hgc : decide ((2 : Int) ≤ (i1 : Int) - (a : Int)) = true := by simp; omega
                try simp only [hgc]
                go_wp2_with fail
                go_loopw [9] (fun vj wr => ∃ (j1 : Nat) (dj : Array α), vj = .int .i64 (j1 : Int) ∧ j1 < i1 ∧ j1 ≤ b ∧ dj.size = n ∧ R dj wr ∧ shiftDown lt j1 dj = shiftDown lt (i1 - 1) d1) (fun vj _ => (intOf vj).toNat)
                case atStart => exact ⟨i1 - 1, d1, by go_num, by omega, by omega, hsz1, HS.out, rfl⟩
                case round =>
                  clear HS
                  obtain ⟨j1, dj, rfl, hj1, hj2, hsj, hS, hI⟩ := hrel
                  have HS := Lib.hid hS
                  have HI := Lib.hid hI
                  clear hS hI
                  by_cases hgo : 1 ≤ j1
                  · have hiz : ((j1 - 1 : Nat) : Int) = (j1 : Int) - 1 := by omega
                    have hL := HH.out.less dj wr j1 (j1 - 1) HS.out hsj (by omega) (by omega)
                    rw [hiz] at hL
                    generalize hv : lt dj[j1]! dj[j1 - 1]! = v at hL
                    have HV := Lib.hid hv
                    clear hv
                    go_wp2_with fail
                    refine hL.mono ?_
                    clear hL
                    rintro e w1 ⟨rfl, hR1, hk1⟩
                    cases v with
                    | true =>
                      have hW := HH.out.swap dj w1 j1 (j1 - 1) hR1 hsj (by omega) (by omega)
                      rw [hiz] at hW
                      clear hR1 hk1
                      go_wp2_with fail
                      refine hW.mono ?_
                      clear hW
                      rintro e w2 ⟨rfl, hR2, hk2⟩
                      have HR2 := Lib.hid hR2
                      clear hR2 hk2
                      go_wp2_with fail
                      go_roundw
                      case rel => exact ⟨j1 - 1, swp dj j1 (j1 - 1), by go_num, by omega, by omega, by rw [size_swp]; exact hsj, HR2.out, by rw [← HI.out, gdown_go hgo HV.out]⟩
                      case measure => first | (simp [intOf]; done) | (simp [intOf]; omega)
                    | false =>
                      have HR1 := Lib.hid hR1
                      clear hR1 hk1
                      go_wp2_with fail
                      go_meet
                      have e : gshD lt a i1 d1 = dj := by unfold gshD; rw [if_pos h2, ← HI.out, gdown_stop (fun _ => HV.out)]
                      rw [e]
                      exact HR1.out
                  · go_wp2_with fail
                    go_meet
                    have e : gshD lt a i1 d1 = dj := by unfold gshD; rw [if_pos h2, ← HI.out, gdown_stop (fun h => absurd h hgo)]
                    rw [e]
                    exact HS.out
              · go_wp2_with fail
                go_meet
                have e : gshD lt a i1 d1 = d1 := by unfold gshD; rw [if_neg h2]
                rw [e]
                exact HS.out
            case rest =>
              clear HS
              obtain ⟨d2, hd2⟩ : ∃ d2, d2 = gshD lt a i1 d1 := ⟨_, rfl⟩
              have hsz2 : d2.size = n := by rw [hd2, gsize_shD]; exact hsz1
              have HR2 : Hid (partialIns lt a b (4 - j) i1 (gshU lt b i1 d2) = Q) := Lib.hid (by rw [hd2]; exact HR.out)
              rw [← hd2] at hcut
              have HS := Lib.hid hcut
              clear hd2 hcut HR hsz1
              clear d1
              obtain ⟨d1, rfl⟩ : ∃ d1, d1 = d2 := ⟨_, rfl⟩
              obtain ⟨wo2, rfl⟩ : ∃ wo2, wo2 = wc := ⟨_, rfl⟩
              have hsz1 := hsz2
              have OUT : Hid (∀ dd, gshU lt b i1 d1 = dd → ∀ wz, R dd wz → ∃ (i' j' : Nat) (dk' : Array α), Value.int .i64 (i1 : Int) = .int .i64 (i' : Int) ∧ Value.int .i64 ((j : Int) + 1) = .int .i64 (j' : Int) ∧ a < i' ∧ i' ≤ b ∧ j' ≤ 5 ∧ dk'.size = n ∧ R dk' wz ∧ partialIns lt a b (5 - j') i' dk' = Q) := Lib.hid (fun dd e wz h => ⟨i1, j + 1, dd, rfl, by go_num, by omega, by omega, by omega, by rw [← e, gsize_shU]; exact hsz1, h, by rw [show 5 - (j + 1) = 4 - j by omega, ← e]; exact HR2.out⟩)
              by_cases h2 : b - i1 ≥ 2
              · have hgc : decide ((2 : Int) ≤ (b : Int) - (i1 : Int)) = true := by simp; omega
                try simp only [hgc]
                go_wp2_with fail
                go_loopw [10] (fun vj wr => ∃ (j1 : Nat) (dj : Array α), vj = .int .i64 (j1 : Int) ∧ i1 < j1 ∧ j1 ≤ b ∧ dj.size = n ∧ R dj wr ∧ shiftUp lt b j1 dj = shiftUp lt b (i1 + 1) d1) (fun vj _ => b - (intOf vj).toNat)
                case atStart => exact ⟨i1 + 1, d1, by go_num, by omega, by omega, hsz1, HS.out, rfl⟩
                case round =>
                  clear HS
                  obtain ⟨j1, dj, rfl, hj1, hj2, hsj, hS, hI⟩ := hrel
                  have HS := Lib.hid hS
                  have HI := Lib.hid hI
                  clear hS hI
                  by_cases hgo : j1 < b
                  · have hiz : ((j1 - 1 : Nat) : Int) = (j1 : Int) - 1 := by omega
                    have hL := HH.out.less dj wr j1 (j1 - 1) HS.out hsj (by omega) (by omega)
                    rw [hiz] at hL
                    generalize hv : lt dj[j1]! dj[j1 - 1]! = v at hL
                    have HV := Lib.hid hv
                    clear hv
                    go_wp2_with fail
                    refine hL.mono ?_
                    clear hL
                    rintro e w1 ⟨rfl, hR1, hk1⟩
                    cases v with
                    | true =>
                      have hW := HH.out.swap dj w1 j1 (j1 - 1) hR1 hsj (by omega) (by omega)
                      rw [hiz] at hW
                      clear hR1 hk1
                      go_wp2_with fail
                      refine hW.mono ?_
                      clear hW
                      rintro e w2 ⟨rfl, hR2, hk2⟩
                      have HR2 := Lib.hid hR2
                      clear hR2 hk2
                      go_wp2_with fail
                      go_roundw
                      case rel => exact ⟨j1 + 1, swp dj j1 (j1 - 1), by go_num, by omega, by omega, by rw [size_swp]; exact hsj, HR2.out, by rw [← HI.out, gup_go hgo HV.out]⟩
                      case measure => first | (simp [intOf]; done) | (simp [intOf]; omega)
                    | false =>
                      have HR1 := Lib.hid hR1
                      clear hR1 hk1
                      go_wp2_with fail
                      have e : gshU lt b i1 d1 = dj := by unfold gshU; rw [if_pos h2, ← HI.out, gup_stop (fun _ => HV.out)]
                      go_roundw
                      case rel => exact OUT.out _ e _ (HR1.out)
                      case measure => first | (simp [intOf]; done) | (simp [intOf]; omega)
                  · go_wp2_with fail
                    have e : gshU lt b i1 d1 = dj := by unfold gshU; rw [if_pos h2, ← HI.out, gup_stop (fun h => absurd h hgo)]
                    go_roundw
                    case rel => exact OUT.out _ e _ (HS.out)
                    case measure => first | (simp [intOf]; done) | (simp [intOf]; omega)
              · go_wp2_with fail
                have e : gshU lt b i1 d1 = d1 := by unfold gshU; rw [if_neg h2]
                go_roundw
                case rel => exact OUT.out _ e _ (HS.out)
                case measure => first | (simp [intOf]; done) | (simp [intOf]; omega)
    · have e : Q = (dk, false) := by rw [← HP.out, show 5 - j = 0 by omega]; rfl
      have HE := Lib.hid e
      clear e
      go_wp2_with fail
      go_ret
      rw [HE.out]
      exact ⟨rfl, HS.out⟩

set_option maxHeartbeats 6400000 in
set_option maxRecDepth 100000 in
theorem breakR (H : SortR lt R n g N0 rv) (a b : Nat) (d : Array α) (w : World) (hd : d.size = n) (hR : R d w) (hab : a + 12 < b) (hb : b ≤ n) :
    Calls Tryz.prog 234 #[.iface 304 rv, .int .i64 a, .int .i64 b] w fun e w' => e = .returned (.tuple #[]) ∧ ∃ d', R d' w' ∧ PermIn a b d d' := by
  have hms := method_SwapR
  have hbig := H.big
  have hN := H.size d w hR
  have hgb := H.below
  have HH := Lib.hid H
  obtain ⟨L, rfl⟩ : ∃ L, b = a + L := ⟨b - a, by omega⟩
  have h8 : 8 ≤ L := by omega
  obtain ⟨M, hM⟩ : ∃ M : Nat, M = 1 <<< bitsLen L := ⟨_, rfl⟩
  have hM1 : 1 ≤ M := by rw [hM, Nat.one_shiftLeft]; exact Nat.two_pow_pos _
  have hM2 : M ≤ 2 * L := by rw [hM, Nat.one_shiftLeft]; exact two_pow_bitsLen_le (by omega)
  have hNP : ∀ w, Calls Tryz.prog 100 #[.int .i64 (L : Int)] w fun e w' => e = .returned (.int .u64 (M : Int)) ∧ w' = w := by rw [hM]; exact fun w => next_powS L (by omega) w
  clear hM
  obtain ⟨q, hq⟩ : ∃ q, q = L / 4 := ⟨_, rfl⟩
  obtain ⟨i0, hi0⟩ : ∃ i0, i0 = a + q * 2 - 1 := ⟨_, rfl⟩
  have hLi : ((a + L : Nat) : Int) - (a : Int) = (L : Int) := by omega
  have hqi : (L : Int).tdiv 4 = (q : Int) := by
    rw [show (4 : Int) = ((4 : Nat) : Int) from rfl, ← Int.ofNat_tdiv]; omega
  have hqj : (L : Int) / 4 = (q : Int) := by omega
  have HQ := Lib.hid hq
  have hq1 : 2 ≤ q := by omega
  have hq2 : 4 * q ≤ L := by omega
  have hi1 : a + q * 2 ≤ i0 + 1 := by omega
  have hi2 : i0 + 1 ≤ a + q * 2 := by omega
  clear hq hi0
  have HST : Hid (R d (w.alloc (Obj.cells #[.int .u64 (L : Int)] 180))) := Lib.hid (H.keep d w _ hR ((kp_alloc w _).mono fun _ h => h.elim))
  have HB0 := Lib.hid (heap_alloc_new w (.cells #[.int .u64 (L : Int)] 180))
  clear hR H
  go_enter Tryz.func234, Tryz.ntmps234
  go_wp2_with (first | (go_at_call 100; (try rw [hLi]); (try rw [show ((a : Int) + (L : Int) - (a : Int)) = (L : Int) by omega]); refine (hNP _).mono ?_; rintro e w' ⟨rfl, rfl⟩))
  go_loopw [9] (fun vi wr => ∃ (t X : Nat) (dk : Array α), vi = .int .i64 ((i0 + t : Nat) : Int) ∧ t ≤ 3 ∧ dk.size = n ∧ R dk wr ∧ PermIn a (a + L) d dk ∧ X < 18446744073709551616 ∧
      wr.heap[w.heap.size]? = some (.cells #[.int .u64 (X : Int)] 180 (0, 0))) (fun vi _ => i0 + 3 - (intOf vi).toNat)
  case atStart => exact ⟨0, L, d, by go_num, by omega, hd, HST.out, permIn_refl _ _ _, by omega, HB0.out⟩
  case round =>
    obtain ⟨t, X, dk, rfl, ht, hsk, hS, hP, hX, hB⟩ := hrel
    have HS := Lib.hid hS
    have HP := Lib.hid hP
    have hcl := (Array.getElem?_eq_some_iff.1 hB).1
    clear hS hP HST HB0
    by_cases h3 : t < 3
    · obtain ⟨R', hR'⟩ : ∃ R' : Nat, R' = xorNextN X := ⟨_, rfl⟩
      have lR' : R' < 18446744073709551616 := by rw [hR']; exact xorNextN_lt X hX
      obtain ⟨O, hO⟩ : ∃ O : Nat, O = R' &&& (M - 1) := ⟨_, rfl⟩
      have lO : O ≤ M - 1 := by rw [hO]; exact Nat.and_le_right
      have eAnd : bits .and .u64 (R' : Int) ((M : Int) - 1) = (O : Int) := by
        rw [show ((M : Int) - 1) = ((M - 1 : Nat) : Int) by omega, bits_and_u64_nat _ _ lR' (by omega), hO]
      have hNext : Calls Tryz.prog 101 #[.pointer (some ⟨w.heap.size, 0, none⟩)] wr fun e w' => e = .returned (.int .u64 (R' : Int)) ∧ w' = (wr.setCell ⟨w.heap.size, 0, none⟩ (.int .u64 (R' : Int))).drewN 3 := by
        rw [hR']; exact xor_nextS _ X hX wr ((blk_cell' hB 0).trans rfl) (blk_free' hB 0)
      clear hO hR'
      have HPP : Hid (∀ k, a ≤ k → k < a + L → PermIn a (a + L) d (swp dk (i0 + t) k)) := Lib.hid (fun k h1 h2 => permIn_trans _ _ _ _ _ HP.out (swp_permIn dk a (a + L) (i0 + t) k (by omega) (by omega) h1 h2 (by omega)))
      have hB1 : ((wr.setCell ⟨w.heap.size, 0, none⟩ (.int .u64 (R' : Int))).drewN 3).heap[w.heap.size]? = some (.cells #[.int .u64 (R' : Int)] 180 (0, 0)) := by
        show (wr.setCell ⟨w.heap.size, 0, none⟩ _).heap[w.heap.size]? = _
        rw [setCell_eq_setRow wr w.heap.size 0 _ _ _ _ hB, setRow_heap wr w.heap.size _ _ _ _ hB]
        rfl
      have hK1 : Kp (fun x => N0 ≤ x) wr ((wr.setCell ⟨w.heap.size, 0, none⟩ (.int .u64 (R' : Int))).drewN 3) := by
        have h := (kp_set wr ⟨w.heap.size, 0, none⟩ (.int .u64 (R' : Int))).mono (S' := fun x => N0 ≤ x) fun i h => .inl (by subst h; exact hN)
        exact ⟨h.os, h.tape, h.output, h.size, h.block⟩
      have hcl1 : w.heap.size < ((wr.setCell ⟨w.heap.size, 0, none⟩ (.int .u64 (R' : Int))).drewN 3).heap.size := (Array.getElem?_eq_some_iff.1 hB1).1
      have hS1 : R dk ((wr.setCell ⟨w.heap.size, 0, none⟩ (.int .u64 (R' : Int))).drewN 3) := HH.out.keep dk wr _ HS.out hK1
      clear hK1 hcl
      go_wp2_with fail
      refine hNext.mono ?_
      clear hNext
      rintro e w1 ⟨rfl, hw1⟩
      rw [← hw1] at hB1 hcl1 hS1
      have hcl := hcl1
      clear hw1 hB HS hcl1
      by_cases hLO : L ≤ O
      · have hOL : ((O - L : Nat) : Int) = (O : Int) - (L : Int) := by omega
        have hW := HH.out.swap dk w1 (i0 + t) (a + (O - L)) hS1 hsk (by omega) (by omega)
        have HPQ := Lib.hid (HPP.out (a + (O - L)) (by omega) (by omega))
        have hai : ((a + (O - L) : Nat) : Int) = (a : Int) + ((O : Int) - (L : Int)) := by omega
        rw [hai] at hW
        clear hS1
        go_wp2_with fail
        refine hW.mono ?_
        clear hW
        rintro e w2 ⟨rfl, hR2, hk2⟩
        have hg2 := hk2.block w.heap.size hcl (by omega)
        have HK2 := Lib.hid (And.intro hR2 (hg2.trans hB1))
        clear hR2 hk2 hg2 hB1
        go_wp2_with fail
        go_roundw
        case rel => exact ⟨t + 1, R', swp dk (i0 + t) (a + (O - L)), by go_num, by omega, by rw [size_swp]; exact hsk, HK2.out.1, HPQ.out, lR', HK2.out.2⟩
        case measure => simp [intOf]; omega
      · skip
        have hW := HH.out.swap dk w1 (i0 + t) (a + O) hS1 hsk (by omega) (by omega)
        have HPQ := Lib.hid (HPP.out (a + O) (by omega) (by omega))
        have hai : ((a + O : Nat) : Int) = (a : Int) + (O : Int) := by omega
        rw [hai] at hW
        clear hS1
        go_wp2_with fail
        refine hW.mono ?_
        clear hW
        rintro e w2 ⟨rfl, hR2, hk2⟩
        have hg2 := hk2.block w.heap.size hcl (by omega)
        have HK2 := Lib.hid (And.intro hR2 (hg2.trans hB1))
        clear hR2 hk2 hg2 hB1
        go_wp2_with fail
        go_roundw
        case rel => exact ⟨t + 1, R', swp dk (i0 + t) (a + O), by go_num, by omega, by rw [size_swp]; exact hsk, HK2.out.1, HPQ.out, lR', HK2.out.2⟩
        case measure => simp [intOf]; omega
    · go_wp2_with fail
      go_end0
      exact ⟨rfl, dk, HS.out, HP.out⟩

end Go.Proofs.YtobdjcnojbnegaaGreatDoor

/- Rows of numbers: pdqsort's rounds, as relations. -/
namespace Go.Proofs.YtobdjcnojbnegaaGreatDoor
open Go.Shelf Go.RowKit Go.Lib Go.Sort
set_option linter.unusedVariables false

/-- What holds at each round: all that is left to do is to sort [a1, b1). -/
structure Jn (a b : Nat) (d : Array Int) (a1 b1 : Nat) (dk : Array Int) : Prop where
  lo : a ≤ a1
  le : a1 ≤ b1
  hi : b1 ≤ b
  size : dk.size = d.size
  below : Below ltI a1 b1 dk
  fin : ∀ R, PermIn a1 b1 dk R → SortedIn ltI a1 b1 R → PermIn a b d R ∧ SortedIn ltI a b R
theorem Jn.start {a b : Nat} {d : Array Int} (hab : a ≤ b) (hB : Below ltI a b d) : Jn a b d a b d :=
  ⟨Nat.le_refl _, hab, Nat.le_refl _, rfl, hB, fun R h h' => ⟨h, h'⟩⟩
theorem Jn.perm {a b a1 b1 : Nat} {d dk dk' : Array Int} (h : Jn a b d a1 b1 dk) (hb : b ≤ d.size) (hp : PermIn a1 b1 dk dk') : Jn a b d a1 b1 dk' :=
  ⟨h.lo, h.le, h.hi, hp.1.trans h.size, h.below.perm (by rw [h.size]; exact Nat.le_trans h.hi hb) hp, fun R h1 h2 => h.fin R (permIn_trans _ _ _ _ _ hp h1) h2⟩
theorem ltI_of_le {x y : Int} (h : x ≤ y) : ltI y x = false := by simp [ltI]; omega
theorem ltI_of_lt {x y : Int} (h : x < y) : ltI x y = true := by simp [ltI]; omega
/-- Behind partitionEqual. -/
theorem Jn.equal {a b a1 b1 c m : Nat} {d dk d4 : Array Int} (h : Jn a b d a1 b1 dk) (hb : b ≤ d.size) (ha0 : 0 < a1) (hnl : ltI dk[a1 - 1]! dk[c]! = false) (h1 : a1 < m) (h2 : m ≤ b1) (hperm : PermIn a1 b1 dk d4)
    (hle : ∀ t, a1 ≤ t → t < m → d4[t]! ≤ dk[c]!) (hgt : ∀ t, m ≤ t → t < b1 → dk[c]! < d4[t]!) : Jn a b d m b1 d4 := by
  have hb3 : b1 ≤ dk.size := by rw [h.size]; exact Nat.le_trans h.hi hb
  have hge : ∀ i, a1 ≤ i → i < b1 → ltI dk[i]! dk[c]! = false := fun i hi hi' => by
    rcases h.below with h0 | hB
    · omega
    · exact ltI_swo.ntrans _ _ _ (hB i hi hi') hnl
  have hge4 := permIn_all dk d4 a1 b1 (fun x => ltI x dk[c]! = false) hb3 hperm hge
  have hb4 : b1 ≤ d4.size := by rw [hperm.1]; exact hb3
  refine ⟨by have := h.lo; omega, h2, h.hi, hperm.1.trans h.size, Or.inr fun i hi hi' => ?_, fun R hR hs => h.fin R (permIn_trans _ _ _ _ _ hperm (permIn_mono _ _ m b1 a1 b1 (by omega) (Nat.le_refl _) hb4 hR)) ?_⟩
  · have e1 := hle (m - 1) (by omega) (by omega)
    have e2 := hgt i hi hi'
    exact ltI_of_le (by omega)
  · refine sorted_glue_eq ltI_swo dk[c]! hs (fun i hi hi' => ?_) (fun i hi hi' => ?_) (permIn_all d4 R m b1 (fun x => ltI dk[c]! x = true) hb4 hR fun i hi hi' => ltI_of_lt (hgt i hi hi'))
    · rw [hR.2.1 i (Or.inl hi')]; exact ltI_of_le (hle i hi hi')
    · rw [hR.2.1 i (Or.inl hi')]; exact hge4 i hi (by omega)
/-- Behind partition: the left part is sorted, the right part is left. -/
theorem Jn.left {a b a1 b1 m : Nat} {d dk d4 L : Array Int} (h : Jn a b d a1 b1 dk) (hb : b ≤ d.size) (h1 : a1 ≤ m) (h2 : m < b1) (hperm : PermIn a1 b1 dk d4)
    (hlo : ∀ t, a1 ≤ t → t < m → d4[t]! < d4[m]!) (hhi : ∀ t, m < t → t < b1 → d4[m]! ≤ d4[t]!) (hL : PermIn a1 m d4 L) (hsL : SortedIn ltI a1 m L) : Jn a b d (m + 1) b1 L := by
  have hb3 : b1 ≤ dk.size := by rw [h.size]; exact Nat.le_trans h.hi hb
  have hb4 : b1 ≤ d4.size := by rw [hperm.1]; exact hb3
  have hbL : b1 ≤ L.size := by rw [hL.1]; exact hb4
  have eL : ∀ i, m ≤ i → L[i]! = d4[i]! := fun i hi => hL.2.1 i (Or.inr hi)
  refine ⟨by have := h.lo; omega, h2, h.hi, (hL.1.trans hperm.1).trans h.size, Or.inr fun i hi hi' => ?_, fun R hR hsR => h.fin R ?_ ?_⟩
  · rw [Nat.add_sub_cancel, eL i (by omega), eL m (Nat.le_refl _)]; exact ltI_of_le (hhi i (by omega) hi')
  · exact permIn_trans _ _ _ _ _ hperm (permIn_trans _ _ _ _ _ (permIn_mono _ _ a1 m a1 b1 (Nat.le_refl _) (by omega) hb4 hL) (permIn_mono _ _ (m + 1) b1 a1 b1 (by omega) (Nat.le_refl _) hbL hR))
  · have eR : ∀ i, i ≤ m → R[i]! = L[i]! := fun i hi => hR.2.1 i (Or.inl (by omega))
    refine sorted_glue ltI_swo (hsL.congr fun i _ hi' => eR i (by omega)) hsR (fun i hi hi' => ?_) (fun i hi hi' => ?_)
    · rw [eR i (by omega), eR m (Nat.le_refl _), eL m (Nat.le_refl _)]
      exact permIn_all d4 L a1 m (fun x => ltI x d4[m]! = true) (by omega) hL (fun k hk hk' => ltI_of_lt (hlo k hk hk')) i hi hi'
    · rw [eR m (Nat.le_refl _), eL m (Nat.le_refl _)]
      exact permIn_all L R (m + 1) b1 (fun x => ltI x d4[m]! = false) hbL hR (fun k hk hk' => by rw [eL k (by omega)]; exact ltI_of_le (hhi k (by omega) hk')) i (by omega) hi'
/-- Behind partition: the right part is sorted, the left part is left. -/
theorem Jn.right {a b a1 b1 m : Nat} {d dk d4 L : Array Int} (h : Jn a b d a1 b1 dk) (hb : b ≤ d.size) (h1 : a1 ≤ m) (h2 : m < b1) (hperm : PermIn a1 b1 dk d4)
    (hlo : ∀ t, a1 ≤ t → t < m → d4[t]! < d4[m]!) (hhi : ∀ t, m < t → t < b1 → d4[m]! ≤ d4[t]!) (hL : PermIn (m + 1) b1 d4 L) (hsL : SortedIn ltI (m + 1) b1 L) : Jn a b d a1 m L := by
  have hb3 : b1 ≤ dk.size := by rw [h.size]; exact Nat.le_trans h.hi hb
  have hb4 : b1 ≤ d4.size := by rw [hperm.1]; exact hb3
  have hbL : b1 ≤ L.size := by rw [hL.1]; exact hb4
  have eL : ∀ i, i ≤ m → L[i]! = d4[i]! := fun i hi => hL.2.1 i (Or.inl (by omega))
  have hBa : Below ltI a1 m d4 := (h.below.perm hb3 hperm).mono (by omega)
  refine ⟨h.lo, h1, by have := h.hi; omega, (hL.1.trans hperm.1).trans h.size, ?_, fun R hR hsR => h.fin R ?_ ?_⟩
  · rcases hBa with h0 | hBa
    · exact Or.inl h0
    · exact Or.inr fun i hi hi' => by rw [eL i (by omega), eL (a1 - 1) (by omega)]; exact hBa i hi hi'
  · exact permIn_trans _ _ _ _ _ hperm (permIn_trans _ _ _ _ _ (permIn_mono _ _ (m + 1) b1 a1 b1 (by omega) (Nat.le_refl _) hb4 hL) (permIn_mono _ _ a1 m a1 b1 (Nat.le_refl _) (by omega) hbL hR))
  · have eR : ∀ i, m ≤ i → R[i]! = L[i]! := fun i hi => hR.2.1 i (Or.inr hi)
    refine sorted_glue ltI_swo hsR (hsL.congr fun i hi _ => eR i (by omega)) (fun i hi hi' => ?_) (fun i hi hi' => ?_)
    · rw [eR m (Nat.le_refl _), eL m (Nat.le_refl _)]
      exact permIn_all L R a1 m (fun x => ltI x d4[m]! = true) (by omega) hR (fun k hk hk' => by rw [eL k (by omega)]; exact ltI_of_lt (hlo k hk hk')) i hi hi'
    · rw [eR i (by omega), eR m (Nat.le_refl _), eL m (Nat.le_refl _)]
      exact permIn_all d4 L (m + 1) b1 (fun x => ltI x d4[m]! = false) hb4 hL (fun k hk hk' => ltI_of_le (hhi k (by omega) hk')) i (by omega) hi'
theorem Jn.belowL {a b a1 b1 m : Nat} {d dk d4 : Array Int} (h : Jn a b d a1 b1 dk) (hb : b ≤ d.size) (h2 : m < b1) (hperm : PermIn a1 b1 dk d4) : Below ltI a1 m d4 :=
  (h.below.perm (by rw [h.size]; exact Nat.le_trans h.hi hb) hperm).mono (by omega)
theorem Jn.belowR {b1 m : Nat} {d4 : Array Int} (hhi : ∀ t, m < t → t < b1 → d4[m]! ≤ d4[t]!) : Below ltI (m + 1) b1 d4 :=
  Or.inr fun i hi hi' => by rw [Nat.add_sub_cancel]; exact ltI_of_le (hhi i (by omega) hi')
end Go.Proofs.YtobdjcnojbnegaaGreatDoor

/- sort.Sort of records: pdqsort and Sort. -/
namespace Go.Proofs.YtobdjcnojbnegaaGreatDoor
open Go.Shelf Go.RowKit Go.Lib Go.Sort
set_option linter.unusedVariables false
set_option linter.unusedSimpArgs false
variable {α : Type} [Inhabited α] {lt : α → α → Bool} {R : Array α → World → Prop} {n g N0 : Nat} {rv : Value}

theorem boolOrR (x : Bool) : Value.bool x = .bool true ∨ Value.bool x = .bool false := by cases x <;> simp
set_option maxHeartbeats 25600000 in
set_option maxRecDepth 100000 in
theorem pdqR (H : SortR lt R n g N0 rv) (N : Nat) : ∀ (a b l : Nat) (d : Array α) (w : World) (hN : b - a < N) (hd : d.size = n) (hR : R d w) (hab : a ≤ b) (hb : b ≤ n) (hl : l ≤ 1000) (hB : Below lt a b d),
    Calls Tryz.prog 224 #[.iface 304 rv, .int .i64 a, .int .i64 b, .int .i64 l] w fun e w' => e = .returned (.tuple #[]) ∧ ∃ d', R d' w' ∧ PermIn a b d d' ∧ SortedIn lt a b d' := by
  induction N with
  | zero => intro a b l d w hN; omega
  | succ N IH =>
  intro a b l d w hN hd hR hab hb hl hB
  subst hd
  have hbig := H.big
  have hme := method_LessR
  have hO := H.swo
  have HJ0 := Lib.hid (Gn.start hab hB)
  have HS0 := Lib.hid hR
  have HH := Lib.hid H
  have HIH := Lib.hid IH
  have HO := Lib.hid hO
  clear hR hB IH H hO
  go_enter Tryz.func224, Tryz.ntmps224
  go_wp2_with fail
  go_loopw [1, 2, 3, 8, 9] (fun va vb vl v8 v9 wr => ∃ (a1 b1 l1 : Nat) (dk : Array α), va = .int .i64 (a1 : Int) ∧ vb = .int .i64 (b1 : Int) ∧ vl = .int .i64 (l1 : Int) ∧ (∃ x8 x9 : Bool, v8 = .bool x8 ∧ v9 = .bool x9) ∧ l1 ≤ l ∧ R dk wr ∧ Gn lt a b d a1 b1 dk) (fun va vb _ _ _ _ => (intOf vb).toNat - (intOf va).toNat)
  case atStart => exact ⟨a, b, l, d, rfl, rfl, rfl, ⟨true, true, rfl, rfl⟩, Nat.le_refl _, HS0.out, HJ0.out⟩
  case round =>
    obtain ⟨a1, b1, l1, dk, rfl, rfl, rfl, ⟨x8, x9, rfl, rfl⟩, hl1, hS, hJ⟩ := hrel
    have HS := Lib.hid hS
    have HJ := Lib.hid hJ
    have q1 := hJ.lo
    have q2 := hJ.le
    have q3 := hJ.hi
    have hsk := hJ.size
    clear hS hJ HS0 HJ0
    by_cases h12 : b1 - a1 ≤ 12
    · have hins := insertR HH.out a1 b1 dk wr hsk HS.out q2 (by omega)
      go_wp2_with fail
      refine hins.mono ?_
      rintro e w1 ⟨rfl, hS1⟩
      have hs := insertionSort_holds HO.out dk a1 b1 q2 (by omega)
      have HF := Lib.hid (HJ.out.fin _ hs.1 hs.2)
      have HS2 := Lib.hid hS1
      clear hS1 hs hins
      go_wp2_with fail
      refine bodyPost_ret (v := .tuple #[]) (by simp [results, Tryz.results224, go_sem]) rfl ?_
      exact ⟨rfl, _, HS2.out, HF.out.1, HF.out.2⟩
    · by_cases hl0 : l1 = 0
      · have hins := heapR HH.out a1 b1 dk wr hsk HS.out (by omega) (by omega)
        go_wp2_with fail
        refine hins.mono ?_
        rintro e w1 ⟨rfl, hS1⟩
        have hs := heapSort_holds HO.out dk a1 b1 q2 (by omega)
        have HF := Lib.hid (HJ.out.fin _ hs.1 hs.2)
        have HS2 := Lib.hid hS1
        clear hS1 hs hins
        go_wp2_with fail
        refine bodyPost_ret (v := .tuple #[]) (by simp [results, Tryz.results224, go_sem]) rfl ?_
        exact ⟨rfl, _, HS2.out, HF.out.1, HF.out.2⟩
      · obtain ⟨wo, rfl⟩ : ∃ wo, wo = wr := ⟨_, rfl⟩
        go_upto_if 35 with fail
        go_cut [3] (fun s3 wx => ∃ (l2 : Nat) (d1 : Array α), s3 = .int .i64 (l2 : Int) ∧ l2 ≤ l1 ∧ R d1 wx ∧ Gn lt a b d a1 b1 d1)
        case first =>
          cases x8 with
          | true =>
            go_wp2_with fail
            go_meet
            exact ⟨l1, dk, rfl, Nat.le_refl _, HS.out, HJ.out⟩
          | false =>
            have hbr := breakR HH.out a1 b1 dk wo hsk HS.out (by omega) (by omega)
            go_wp2_with fail
            refine hbr.mono ?_
            rintro e w1 ⟨rfl, d1, hS1, hp1⟩
            have HS2 := Lib.hid hS1
            have HJ2 := Lib.hid (HJ.out.perm hb hp1)
            clear hS1 hp1 hbr
            go_wp2_with fail
            go_meet
            exact ⟨l1 - 1, d1, by go_num, by omega, HS2.out, HJ2.out⟩
        case rest =>
          clear HS HJ hsk
          obtain ⟨l2, d1, rfl, hl2, hS, hJ⟩ := hcut
          have HJ := Lib.hid hJ
          have hsk := hJ.size
          have hch := chooseR HH.out a1 b1 d1 wc hsk hS (by omega) (by omega)
          clear hS hJ
          go_wp2_with fail
          refine hch.mono ?_
          clear hch
          rintro e w1 ⟨p, h, rfl, hp1, hp2, hS1⟩
          have HS2 := Lib.hid hS1
          clear hS1
          go_upto_if 50 with fail
          go_cut [11, 12] (fun s11 s12 wx => ∃ (p h : Nat) (d2 : Array α), s11 = .int .i64 (p : Int) ∧ s12 = .int .i64 (h : Int) ∧ a1 ≤ p ∧ p < b1 ∧ R d2 wx ∧ Gn lt a b d a1 b1 d2)
          case first =>
            by_cases h2 : h = 2
            · have hbr := reverseR HH.out a1 b1 d1 w1 hsk HS2.out (by omega) (by omega)
              go_wp2_with fail
              refine hbr.mono ?_
              rintro e w2 ⟨rfl, d2, hS1, hpp⟩
              have HS3 := Lib.hid hS1
              have HJ2 := Lib.hid (HJ.out.perm hb hpp)
              clear hS1 hpp hbr
              go_wp2_with fail
              go_meet
              exact ⟨(b1 - 1) - (p - a1), 1, d2, by go_num, rfl, by omega, by omega, HS3.out, HJ2.out⟩
            · go_wp2_with fail
              go_meet
              exact ⟨p, h, d1, rfl, rfl, hp1, hp2, HS2.out, HJ.out⟩
          case rest =>
            clear HS2 HJ hsk hp1 hp2
            obtain ⟨w1, rfl⟩ : ∃ w1, w1 = wc := ⟨_, rfl⟩
            obtain ⟨p, h, d2, rfl, rfl, hp1, hp2, hS, hJ⟩ := hcut
            have HS := Lib.hid hS
            have HJ := Lib.hid hJ
            have hsk := hJ.size
            clear hS hJ
            go_upto_region 15 with fail
            go_cut [68] (fun s68 wx => (s68 = .bool true ∨ s68 = .bool false) ∧ wx = w1)
            case first =>
              cases x8 <;> cases x9 <;> by_cases h1 : h = 1
              all_goals
                go_wp2_with fail
                go_meet
                exact ⟨by first | exact .inl rfl | exact .inr rfl | exact boolOrR _, rfl⟩
            case rest =>
              obtain ⟨h68, rfl⟩ := hcut
              obtain ⟨w2, rfl⟩ : ∃ w2, w2 = wc := ⟨_, rfl⟩
              go_upto_if 68 with fail
              go_cut [12] (fun s12 wx => ∃ d3 : Array α, R d3 wx ∧ Gn lt a b d a1 b1 d3)
              case first =>
                rcases h68 with rfl | rfl
                · have hpi := partialR HH.out a1 b1 d2 w2 hsk HS.out (by omega) (by omega)
                  have hs := partialInsertionSort_holds HO.out d2 a1 b1 (by omega) (by omega) HJ.out.below
                  have HPS := Lib.hid hs.2
                  have hp := hs.1
                  clear hs
                  generalize partialInsertionSort lt d2 a1 b1 = r at *
                  obtain ⟨d3, v⟩ := r
                  go_wp2_with fail
                  refine hpi.mono ?_
                  rintro e w3 ⟨rfl, hS1⟩
                  have HS3 := Lib.hid hS1
                  have HP := Lib.hid hp
                  clear hS1 hp hpi
                  cases v with
                  | true =>
                    go_wp2_with fail
                    refine bodyPost_ret (v := .tuple #[]) (by simp [results, Tryz.results224, go_sem]) rfl ?_
                    have hfin := HJ.out.fin _ HP.out (HPS.out (by first | rfl | trivial))
                    exact ⟨rfl, d3, HS3.out, hfin.1, hfin.2⟩
                  | false =>
                    go_wp2_with fail
                    go_meet
                    exact ⟨d3, HS3.out, HJ.out.perm hb HP.out⟩
                · go_wp2_with fail
                  go_meet
                  exact ⟨d2, HS.out, HJ.out⟩
              case rest =>
                clear HS HJ hsk h68
                obtain ⟨w3, rfl⟩ : ∃ w3, w3 = wc := ⟨_, rfl⟩
                obtain ⟨d3, hS, hJ⟩ := hcut
                have HS := Lib.hid hS
                have HJ := Lib.hid hJ
                have hsk := hJ.size
                clear hS hJ
                go_upto_region 17 with fail
                go_cut [82] (fun s87 wx => ((s87 = .bool true ∧ 0 < a1 ∧ lt d3[a1 - 1]! d3[p]! = false) ∨ s87 = .bool false) ∧ R d3 wx)
                case first =>
                  by_cases h0 : 0 < a1
                  · have hgd : decide (0 < (a1 : Int)) = true := by simp; omega
                    have hgd2 : decide (0 < a1) = true := by simp; omega
                    have hiz : ((a1 - 1 : Nat) : Int) = (a1 : Int) - 1 := by omega
                    have hL := HH.out.less d3 w3 (a1 - 1) p HS.out hsk (by omega) (by omega)
                    rw [hiz] at hL
                    generalize hv : lt d3[a1 - 1]! d3[p]! = v at hL
                    have HV := Lib.hid hv
                    clear hv
                    go_wp2_with fail
                    refine hL.mono ?_
                    clear hL
                    rintro e w4 ⟨rfl, hR1, hk1⟩
                    have HS4 := Lib.hid hR1
                    clear hR1 hk1
                    cases v with
                    | false =>
                      go_wp2_with fail
                      go_meet
                      exact ⟨by first | exact .inl ⟨rfl, h0, HV.out⟩ | exact .inl ⟨by simp, h0, HV.out⟩, HS4.out⟩
                    | true =>
                      go_wp2_with fail
                      go_meet
                      exact ⟨by first | exact .inr rfl | exact .inr (by simp), HS4.out⟩
                  · have hgd : decide (0 < (a1 : Int)) = false := by simp; omega
                    have hgd2 : decide (0 < a1) = false := by simp; omega
                    go_wp2_with fail
                    go_meet
                    exact ⟨by first | exact .inr rfl | exact .inr (by simp), HS.out⟩
                case rest =>
                  clear HS
                  obtain ⟨w4, rfl⟩ : ∃ w4, w4 = wc := ⟨_, rfl⟩
                  obtain ⟨h87, hS⟩ := hcut
                  have HS := Lib.hid hS
                  clear hS
                  rcases h87 with ⟨rfl, h0, hnl⟩ | rfl
                  · have HNL := Lib.hid hnl
                    clear hnl
                    have hpt := parteqR HH.out a1 b1 p d3 w4 hsk HS.out (by omega) (by omega) hp1 hp2
                    go_wp2_with fail
                    refine hpt.mono ?_
                    rintro e w5 ⟨m, rfl, d4, hS1, hm1, hm2, hp4, hle, hgt⟩
                    have HJ2 := Lib.hid (HJ.out.equal HO.out hb h0 HNL.out hm1 hm2 hp4 hle hgt)
                    have HS2 := Lib.hid hS1
                    clear hS1 hp4 hle hgt hpt
                    go_wp2_with fail
                    go_roundw
                    case rel => exact ⟨m, b1, l2, d4, rfl, rfl, rfl, ⟨x8, x9, rfl, rfl⟩, by omega, HS2.out, HJ2.out⟩
                    case measure => first | (simp [intOf]; done) | (simp [intOf]; omega)
                  · have hpt := partR HH.out a1 b1 p d3 w4 hsk HS.out (by omega) (by omega) hp1 hp2
                    go_wp2_with fail
                    refine hpt.mono ?_
                    rintro e w5 ⟨m, v, d4, rfl, hv, hS1, hm1, hm2, hp4, hlo, hhi⟩
                    obtain ⟨xv, rfl⟩ : ∃ xv : Bool, v = .bool xv := by rcases hv with rfl | rfl <;> exact ⟨_, rfl⟩
                    clear hv
                    have hs4 : d4.size = d.size := hp4.1.trans hsk
                    have HS2 := Lib.hid hS1
                    have HLO := Lib.hid hlo
                    have HHI := Lib.hid hhi
                    have HP4 := Lib.hid hp4
                    clear hS1 hp4 hlo hhi hpt
                    by_cases hlt : m - a1 < b1 - m
                    · have hI := HIH.out a1 m l2 d4 w5 (by omega) hs4 HS2.out hm1 (by omega) (by omega) (HJ.out.belowL HO.out hb hm2 HP4.out)
                      go_wp2_with fail
                      refine hI.mono ?_
                      rintro e w6 ⟨rfl, L, hS1, hL, hsL⟩
                      have HS3 := Lib.hid hS1
                      have HJ2 := Lib.hid (HJ.out.left HO.out hb hm1 hm2 HP4.out HLO.out HHI.out hL hsL)
                      clear hS1 hL hsL hI
                      go_wp2_with fail
                      go_roundw
                      case rel => exact ⟨m + 1, b1, l2, L, by go_num, rfl, rfl, ⟨_, xv, rfl, rfl⟩, by omega, HS3.out, HJ2.out⟩
                      case measure => first | (simp [intOf]; done) | (simp [intOf]; omega)
                    · have hI := HIH.out (m + 1) b1 l2 d4 w5 (by omega) hs4 HS2.out (by omega) (by omega) (by omega) (Gn.belowR HHI.out)
                      rw [show ((m + 1 : Nat) : Int) = (m : Int) + 1 by omega] at hI
                      go_wp2_with fail
                      refine hI.mono ?_
                      rintro e w6 ⟨rfl, L, hS1, hL, hsL⟩
                      have HS3 := Lib.hid hS1
                      have HJ2 := Lib.hid (HJ.out.right HO.out hb hm1 hm2 HP4.out HLO.out HHI.out hL hsL)
                      clear hS1 hL hsL hI
                      go_wp2_with fail
                      go_roundw
                      case rel => exact ⟨a1, m, l2, L, rfl, rfl, rfl, ⟨_, xv, rfl, rfl⟩, by omega, HS3.out, HJ2.out⟩
                      case measure => first | (simp [intOf]; done) | (simp [intOf]; omega)

end Go.Proofs.YtobdjcnojbnegaaGreatDoor
