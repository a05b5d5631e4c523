import Derived.Test.YtobdjcnojbnegaaGreatDoorG17
import Derived.Test.YtobdjcnojbnegaaGreatDoorG00
import Derived.Shelf.GgSortFunc.SW
import Derived.BigQuiet
import Derived.RegionCalls
import Derived.Test.YtobdjcnojbnegaaGreatDoorG01
import Derived.Test.YtobdjcnojbnegaaGreatDoorG03
/- sort.Sort of records, over any row that Less and Swap serve: insertion, siftDown, heapSort. -/
namespace Go.Proofs.YtobdjcnojbnegaaGreatDoor
open Go.Shelf Go.RowKit Go.Lib Go.Sort
set_option linter.unusedVariables false
set_option linter.unusedSimpArgs false

theorem method_LessR (v : Value) (w : World) : (method 471 304 v "Less").run Tryz.prog w = .ok (288, v) w := by kernel_rfl
theorem method_SwapR (v : Value) (w : World) : (method 471 304 v "Swap").run Tryz.prog w = .ok (289, v) w := by kernel_rfl

/-- A row R d of n things that Less and Swap serve: g is its block; what lies from N0 on is others'. -/
structure SortR {α : Type} [Inhabited α] (lt : α → α → Bool) (R : Array α → World → Prop) (n g N0 : Nat) (rv : Value) : Prop where
  swo : SWO lt
  big : n ≤ 1000000
  below : g < N0
  size : ∀ d W, R d W → N0 ≤ W.heap.size
  less : ∀ (d : Array α) (W : World) (i j : Nat), R d W → d.size = n → i < n → j < n → Calls Tryz.prog 288 #[rv, .int .i64 (i : Int), .int .i64 (j : Int)] W fun e w' => e = .returned (.bool (lt d[i]! d[j]!)) ∧ R d w' ∧ Kp (fun x => x = g) W w'
  swap : ∀ (d : Array α) (W : World) (i j : Nat), R d W → d.size = n → i < n → j < n → Calls Tryz.prog 289 #[rv, .int .i64 (i : Int), .int .i64 (j : Int)] W fun e w' => e = .returned (.tuple #[]) ∧ R (swp d i j) w' ∧ Kp (fun x => x = g) W w'
  keep : ∀ (d : Array α) (W W' : World), R d W → Kp (fun x => N0 ≤ x) W W' → R d W'

variable {α : Type} [Inhabited α] {lt : α → α → Bool} {R : Array α → World → Prop} {n g N0 : Nat} {rv : Value}

set_option maxHeartbeats 3200000 in
set_option maxRecDepth 100000 in
theorem insertR (H : SortR lt R n g N0 rv) (a b : Nat) (d : Array α) (w : World) (hd : d.size = n) (hR : R d w) (hab : a ≤ b) (hb : b ≤ n) :
    Calls Tryz.prog 232 #[.iface 304 rv, .int .i64 a, .int .i64 b] w fun e w' => e = .returned (.tuple #[]) ∧ R (Sort.insertionSort lt d a b) w' := by
  have hme := method_LessR
  have hms := method_SwapR
  have hbig := H.big
  have HH := Lib.hid H
  have HS0 := Lib.hid hR
  clear hR H
  go_enter Tryz.func232, Tryz.ntmps232
  go_wp2_with fail
  go_loopw [6] (fun vi wr => ∃ (i : Nat) (dk : Array α), vi = .int .i64 i ∧ a < i ∧ i ≤ b + 1 ∧ dk.size = n ∧ R dk wr ∧ insOuter lt a b i dk = insOuter lt a b (a + 1) d) (fun vi _ => b + 1 - (intOf vi).toNat)
  case atStart => exact ⟨a + 1, d, by go_num, by omega, by omega, hd, HS0.out, rfl⟩
  case round =>
    obtain ⟨i, dk, rfl, hai, hib, hsk, hS, hOu⟩ := hrel
    have HO := Lib.hid hOu
    have HS := Lib.hid hS
    clear hOu hS
    by_cases hlt : i < b
    · obtain ⟨wo, rfl⟩ : ∃ wo, wo = wr := ⟨_, rfl⟩
      go_wp2_with fail
      go_loopw [7] (fun vj wr => ∃ (j : Nat) (dj : Array α), vj = .int .i64 j ∧ a ≤ j ∧ j ≤ i ∧ dj.size = n ∧ R dj wr ∧ insInner lt a j dj = insInner lt a i dk) (fun vj _ => (intOf vj).toNat)
      case atStart => exact ⟨i, dk, rfl, by omega, Nat.le_refl _, hsk, HS.out, rfl⟩
      case round =>
        clear HS
        obtain ⟨j, dj, rfl, haj, hji, hsj, hS, hI⟩ := hrel
        have HI := Lib.hid hI
        have HS := Lib.hid hS
        clear hI hS
        by_cases hja : a < j
        · have hjz : ((j - 1 : Nat) : Int) = (j : Int) - 1 := by omega
          have hgj : decide ((a : Int) < (j : Int)) = true := by simp; omega
          have out : lt dj[j]! dj[j - 1]! = false → ∀ w1, R dj w1 → ∃ (i' : Nat) (dk' : Array α), Value.int .i64 ((i : Int) + 1) = .int .i64 (i' : Nat) ∧ a < i' ∧ i' ≤ b + 1 ∧ dk'.size = n ∧ R dk' w1 ∧ insOuter lt a b i' dk' = insOuter lt a b (a + 1) d := fun hs w1 hw1 =>
            ⟨i + 1, dj, by go_num, by omega, by omega, hsj, hw1, by rw [← HO.out, insOuter_go _ _ _ _ _ hlt, ← HI.out, insInner_stop _ _ _ _ (.inr hs)]⟩
          have OUT := Lib.hid out
          have hL := HH.out.less dj wr j (j - 1) HS.out hsj (by omega) (by omega)
          rw [hjz] at hL
          clear out
          generalize hv : lt dj[j]! dj[j - 1]! = v at hL
          have HV := Lib.hid hv
          clear hv
          go_wp2_with fail
          refine hL.mono ?_
          clear hL
          rintro e w1 ⟨rfl, hR1, hk1⟩
          cases v with
          | true =>
            have hW := HH.out.swap dj w1 j (j - 1) hR1 hsj (by omega) (by omega)
            rw [hjz] at hW
            clear hR1 hk1
            go_wp2_with fail
            refine hW.mono ?_
            clear hW
            rintro e w2 ⟨rfl, hR2, hk2⟩
            have HR2 := Lib.hid hR2
            clear hR2 hk2
            go_wp2_with fail
            go_roundw
            case rel => exact ⟨j - 1, swp dj j (j - 1), by go_num, by omega, by omega, by rw [size_swp]; exact hsj, HR2.out, by rw [← HI.out, insInner_go lt a j dj hja HV.out]⟩
            case measure => simp [intOf]; omega
          | false =>
            have HR1 := Lib.hid hR1
            clear hR1 hk1
            go_wp2_with fail
            go_roundw
            case rel => exact OUT.out HV.out _ HR1.out
            case measure => simp [intOf]; omega
        · have hgj : decide ((a : Int) < (j : Int)) = false := by simp; omega
          have out : ∀ w1, R dj w1 → ∃ (i' : Nat) (dk' : Array α), Value.int .i64 ((i : Int) + 1) = .int .i64 (i' : Nat) ∧ a < i' ∧ i' ≤ b + 1 ∧ dk'.size = n ∧ R dk' w1 ∧ insOuter lt a b i' dk' = insOuter lt a b (a + 1) d := fun w1 hw1 =>
            ⟨i + 1, dj, by go_num, by omega, by omega, hsj, hw1, by rw [← HO.out, insOuter_go _ _ _ _ _ hlt, ← HI.out, insInner_stop _ _ _ _ (.inl (by omega))]⟩
          have OUT := Lib.hid out
          clear out
          go_wp2_with fail
          go_roundw
          case rel => exact OUT.out _ HS.out
          case measure => simp [intOf]; omega
    · go_wp2_with fail
      go_end0
      refine ⟨rfl, ?_⟩
      have e : Sort.insertionSort lt d a b = dk := by unfold Sort.insertionSort; rw [← HO.out, insOuter_stop _ _ _ _ _ hlt]
      rw [e]
      exact HS.out

set_option maxHeartbeats 6400000 in
set_option maxRecDepth 100000 in
theorem siftR (H : SortR lt R n g N0 rv) (lo hi first : Nat) (d : Array α) (w : World) (hd : d.size = n) (hR : R d w) (hf : first + hi ≤ n) (hlo : lo ≤ hi) :
    Calls Tryz.prog 252 #[.iface 304 rv, .int .i64 lo, .int .i64 hi, .int .i64 first] w fun e w' => e = .returned (.tuple #[]) ∧ R (siftDown lt hi first lo d) w' := by
  have hme := method_LessR
  have hms := method_SwapR
  have hbig := H.big
  have HH := Lib.hid H
  have HS0 := Lib.hid hR
  clear hR H
  go_enter Tryz.func252, Tryz.ntmps252
  go_wp2_with fail
  go_loopw [8] (fun vr wr => ∃ (r : Nat) (dk : Array α), vr = .int .i64 r ∧ r ≤ hi ∧ dk.size = n ∧ R dk wr ∧ siftDown lt hi first r dk = siftDown lt hi first lo d) (fun vr _ => hi - (intOf vr).toNat)
  case atStart => exact ⟨lo, d, rfl, hlo, hd, HS0.out, rfl⟩
  case round =>
    obtain ⟨r, dk, rfl, hrh, hsk, hS, hEq⟩ := hrel
    have HE := Lib.hid hEq
    have HS := Lib.hid hS
    obtain ⟨ch, hch⟩ : ∃ ch, ch = 2 * r + 1 := ⟨_, rfl⟩
    obtain ⟨c2, hc2⟩ : ∃ c2, c2 = ch + 1 := ⟨_, rfl⟩
    have hci : (2 : Int) * (r : Int) + 1 = (ch : Int) := by omega
    have hcj : (ch : Int) + 1 = (c2 : Int) := by omega
    have HC := Lib.hid (And.intro hch hc2)
    clear hEq hS
    by_cases hend : hi ≤ ch
    · clear hch hc2
      go_wp2_with fail
      go_end0
      refine ⟨rfl, ?_⟩
      rw [← HE.out, gsift_stop (by have := HC.out.1; omega)]
      exact HS.out
    · have hrc1 : r < ch := by omega
      have hrc2 : ch < hi := by omega
      obtain ⟨pr, hpr⟩ : ∃ pr, pr = first + r := ⟨_, rfl⟩
      obtain ⟨pc, hpc⟩ : ∃ pc, pc = first + ch := ⟨_, rfl⟩
      obtain ⟨p2, hp2⟩ : ∃ p2, p2 = first + c2 := ⟨_, rfl⟩
      have hfr : pr < n := by omega
      have hfc : pc < n := by omega
      have hw1 : (first : Int) + (r : Int) = (pr : Int) := by omega
      have hw2 : (first : Int) + (ch : Int) = (pc : Int) := by omega
      have hw3 : (first : Int) + (c2 : Int) = (p2 : Int) := by omega
      have hw4 : (pc : Int) + 1 = (p2 : Int) := by omega
      have hv1 : IntKind.i64.wrap (pr : Int) = (pr : Int) := by rw [IntKind.wrap_i64]; omega
      have hv2 : IntKind.i64.wrap (pc : Int) = (pc : Int) := by rw [IntKind.wrap_i64]; omega
      have hv3 : IntKind.i64.wrap (p2 : Int) = (p2 : Int) := by rw [IntKind.wrap_i64]; omega
      have HPR := Lib.hid hpr; have HPC := Lib.hid hpc; have HP2 := Lib.hid hp2
      by_cases h2 : c2 < hi
      · have hf2 : p2 < n := by omega
        have hg2 : decide ((c2 : Int) < (hi : Int)) = true := by simp; omega
        have hL := HH.out.less dk wr pc p2 HS.out hsk hfc hf2
        clear hch hc2 hpr hpc hp2
        generalize hv : lt dk[pc]! dk[p2]! = v at hL
        have HV := Lib.hid hv
        clear hv
        go_wp2_with fail
        refine hL.mono ?_
        clear hL
        rintro e w1 ⟨rfl, hR1, hk1⟩
        cases v with
        | true =>
          have hL2 := HH.out.less dk w1 pr p2 hR1 hsk hfr hf2
          generalize hv : lt dk[pr]! dk[p2]! = v at hL2
          have HV2 := Lib.hid hv
          clear hv hR1 hk1
          go_wp2_with fail
          refine hL2.mono ?_
          clear hL2
          rintro e w2 ⟨rfl, hR2, hk2⟩
          cases v with
          | true =>
            have hW := HH.out.swap dk w2 pr p2 hR2 hsk hfr hf2
            clear hR2 hk2
            go_wp2_with fail
            refine hW.mono ?_
            clear hW
            rintro e w3 ⟨rfl, hR3, hk3⟩
            have HR3 := Lib.hid hR3
            clear hR3 hk3
            go_wp2_with fail
            go_roundw
            case rel => exact ⟨c2, swp dk pr p2, rfl, by omega, by rw [size_swp]; exact hsk, HR3.out, by rw [← HE.out, gsift_right (r := r) HC.out.1 HC.out.2 h2 (by rw [← HPC.out, show pc + 1 = p2 by omega]; exact HV.out), ← HPR.out, ← HP2.out, if_pos HV2.out]⟩
            case measure => simp [intOf]; omega
          | false =>
            have HR2 := Lib.hid hR2
            clear hR2 hk2
            go_wp2_with fail
            refine bodyPost_ret (v := .tuple #[]) (by simp [results, Tryz.results252, go_sem]) rfl ?_
            refine ⟨rfl, ?_⟩
            rw [← HE.out, gsift_right (r := r) HC.out.1 HC.out.2 h2 (by rw [← HPC.out, show pc + 1 = p2 by omega]; exact HV.out), ← HPR.out, ← HP2.out, if_neg (by rw [HV2.out]; simp)]
            exact HR2.out
        | false =>
          have hL2 := HH.out.less dk w1 pr pc hR1 hsk hfr hfc
          generalize hv : lt dk[pr]! dk[pc]! = v at hL2
          have HV2 := Lib.hid hv
          clear hv hR1 hk1
          go_wp2_with fail
          refine hL2.mono ?_
          clear hL2
          rintro e w2 ⟨rfl, hR2, hk2⟩
          cases v with
          | true =>
            have hW := HH.out.swap dk w2 pr pc hR2 hsk hfr hfc
            clear hR2 hk2
            go_wp2_with fail
            refine hW.mono ?_
            clear hW
            rintro e w3 ⟨rfl, hR3, hk3⟩
            have HR3 := Lib.hid hR3
            clear hR3 hk3
            go_wp2_with fail
            go_roundw
            case rel => exact ⟨ch, swp dk pr pc, rfl, by omega, by rw [size_swp]; exact hsk, HR3.out, by rw [← HE.out, gsift_left (r := r) HC.out.1 hrc2 (fun _ => by rw [← HPC.out, show pc + 1 = p2 by omega]; exact HV.out), ← HPR.out, ← HPC.out, if_pos HV2.out]⟩
            case measure => simp [intOf]; omega
          | false =>
            have HR2 := Lib.hid hR2
            clear hR2 hk2
            go_wp2_with fail
            refine bodyPost_ret (v := .tuple #[]) (by simp [results, Tryz.results252, go_sem]) rfl ?_
            refine ⟨rfl, ?_⟩
            rw [← HE.out, gsift_left (r := r) HC.out.1 hrc2 (fun _ => by rw [← HPC.out, show pc + 1 = p2 by omega]; exact HV.out), ← HPR.out, ← HPC.out, if_neg (by rw [HV2.out]; simp)]
            exact HR2.out
      · have hg2 : decide ((c2 : Int) < (hi : Int)) = false := by simp; omega
        have hL2 := HH.out.less dk wr pr pc HS.out hsk hfr hfc
        generalize hv : lt dk[pr]! dk[pc]! = v at hL2
        have HV2 := Lib.hid hv
        clear hv hch hc2 hpr hpc hp2
        go_wp2_with fail
        refine hL2.mono ?_
        clear hL2
        rintro e w2 ⟨rfl, hR2, hk2⟩
        cases v with
        | true =>
          have hW := HH.out.swap dk w2 pr pc hR2 hsk hfr hfc
          clear hR2 hk2
          go_wp2_with fail
          refine hW.mono ?_
          clear hW
          rintro e w3 ⟨rfl, hR3, hk3⟩
          have HR3 := Lib.hid hR3
          clear hR3 hk3
          go_wp2_with fail
          go_roundw
          case rel => exact ⟨ch, swp dk pr pc, rfl, by omega, by rw [size_swp]; exact hsk, HR3.out, by rw [← HE.out, gsift_left (r := r) HC.out.1 hrc2 (fun h => by have := HC.out.2; omega), ← HPR.out, ← HPC.out, if_pos HV2.out]⟩
          case measure => simp [intOf]; omega
        | false =>
          have HR2 := Lib.hid hR2
          clear hR2 hk2
          go_wp2_with fail
          refine bodyPost_ret (v := .tuple #[]) (by simp [results, Tryz.results252, go_sem]) rfl ?_
          refine ⟨rfl, ?_⟩
          rw [← HE.out, gsift_left (r := r) HC.out.1 hrc2 (fun h => by have := HC.out.2; omega), ← HPR.out, ← HPC.out, if_neg (by rw [HV2.out]; simp)]
          exact HR2.out

set_option maxHeartbeats 6400000 in
set_option maxRecDepth 100000 in
theorem heapR (H : SortR lt R n g N0 rv) (a b : Nat) (d : Array α) (w : World) (hd : d.size = n) (hR : R d w) (hab : a < b) (hb : b ≤ n) :
    Calls Tryz.prog 233 #[.iface 304 rv, .int .i64 a, .int .i64 b] w fun e w' => e = .returned (.tuple #[]) ∧ R (Sort.heapSort lt d a b) w' := by
  have hms := method_SwapR
  have hbig := H.big
  have HH := Lib.hid H
  have HS0 := Lib.hid hR
  clear hR H
  obtain ⟨hi, hhi⟩ : ∃ hi, hi = b - a := ⟨_, rfl⟩
  have hbi : (b : Int) - (a : Int) = (hi : Int) := by omega
  obtain ⟨k0, hk0⟩ : ∃ k0, k0 = (hi - 1) / 2 + 1 := ⟨_, rfl⟩
  have hki : ((hi : Int) - 1).tdiv 2 = (k0 : Int) - 1 := by
    rw [show (hi : Int) - 1 = ((hi - 1 : Nat) : Int) by omega, show (2 : Int) = ((2 : Nat) : Int) from rfl, ← Int.ofNat_tdiv]; omega
  have hki2 : ((hi : Int) - 1) / 2 = (k0 : Int) - 1 := by omega
  have HK := Lib.hid (And.intro hhi hk0)
  have hkb : k0 ≤ hi := by omega
  have hih : hi + a ≤ n := by omega
  have hfin : Sort.heapSort lt d a b = heapPop lt a hi (heapBuild lt hi a k0 d) := by unfold Sort.heapSort; rw [hk0, hhi]
  have HF := Lib.hid hfin
  have hhp : 0 < hi := by omega
  clear hfin hhi hk0
  go_enter Tryz.func233, Tryz.ntmps233
  go_wp2_with fail
  go_loopw [9] (fun vi wr => ∃ (k : Nat) (dk : Array α), vi = .int .i64 ((k : Int) - 1) ∧ k ≤ k0 ∧ dk.size = n ∧ R dk wr ∧ heapBuild lt hi a k dk = heapBuild lt hi a k0 d) (fun vi _ => (intOf vi + 1).toNat)
  case atStart => exact ⟨k0, d, rfl, Nat.le_refl _, hd, HS0.out, rfl⟩
  case round =>
    obtain ⟨k, dk, rfl, hk, hsk, hS, hEq⟩ := hrel
    have HE := Lib.hid hEq
    have HS := Lib.hid hS
    clear hEq hS
    cases k with
    | succ m =>
      rw [show ((m + 1 : Nat) : Int) - 1 = (m : Int) by omega]
      have hC := siftR HH.out m hi a dk wr hsk HS.out (by omega) (by omega)
      go_wp2_with fail
      refine hC.mono ?_
      clear hC
      rintro e w1 ⟨rfl, hS1⟩
      have HS1 := Lib.hid hS1
      clear hS1
      go_wp2_with fail
      go_roundw
      case rel => exact ⟨m, siftDown lt hi a m dk, rfl, by omega, by rw [gsize_sift lt hi a (hi - m) m dk (Nat.le_refl _)]; exact hsk, HS1.out, by rw [← HE.out]; rfl⟩
      case measure => first | (simp [intOf]; done) | (simp [intOf]; omega)
    | zero =>
      rw [show ((0 : Nat) : Int) - 1 = -1 from rfl]
      obtain ⟨wo, rfl⟩ : ∃ wo, wo = wr := ⟨_, rfl⟩
      have hdB : dk = heapBuild lt hi a k0 d := HE.out
      have HB := Lib.hid hdB
      clear hdB
      go_wp2_with fail
      go_loopw [10] (fun vi wr => ∃ (k : Nat) (dj : Array α), vi = .int .i64 ((k : Int) - 1) ∧ k ≤ hi ∧ dj.size = n ∧ R dj wr ∧ heapPop lt a k dj = heapPop lt a hi dk) (fun vi _ => (intOf vi + 1).toNat)
      case atStart => exact ⟨hi, dk, rfl, Nat.le_refl _, hsk, HS.out, rfl⟩
      case round =>
        obtain ⟨k, dj, rfl, hk, hsj, hS, hEq⟩ := hrel
        have HE2 := Lib.hid hEq
        have HS2 := Lib.hid hS
        clear hEq hS
        cases k with
        | succ m =>
          rw [show ((m + 1 : Nat) : Int) - 1 = (m : Int) by omega]
          obtain ⟨pm, hpm⟩ : ∃ pm, pm = a + m := ⟨_, rfl⟩
          have hw1 : (a : Int) + (m : Int) = (pm : Int) := by omega
          have hv1 : IntKind.i64.wrap (pm : Int) = (pm : Int) := by rw [IntKind.wrap_i64]; omega
          have hpd : pm < n := by omega
          have HPM := Lib.hid hpm
          have hW := HH.out.swap dj wr a pm HS2.out hsj (by omega) hpd
          clear hpm
          go_wp2_with fail
          refine hW.mono ?_
          clear hW
          rintro e w1 ⟨rfl, hR1, hk1⟩
          have hss : (swp dj a pm).size = n := by rw [size_swp]; exact hsj
          have hC := siftR HH.out 0 m a (swp dj a pm) w1 hss hR1 (by omega) (Nat.zero_le _)
          clear hR1 hk1
          go_wp2_with fail
          refine hC.mono ?_
          clear hC
          rintro e w2 ⟨rfl, hS1⟩
          have HS1 := Lib.hid hS1
          clear hS1
          go_wp2_with fail
          go_roundw
          case rel => exact ⟨m, siftDown lt m a 0 (swp dj a pm), rfl, by omega, by rw [gsize_sift lt m a (m - 0) 0 _ (Nat.le_refl _)]; exact hss, HS1.out, by rw [← HE2.out, HPM.out]; rfl⟩
          case measure => first | (simp [intOf]; done) | (simp [intOf]; omega)
        | zero =>
          rw [show ((0 : Nat) : Int) - 1 = -1 from rfl]
          go_wp2_with fail
          go_end0
          refine ⟨rfl, ?_⟩
          rw [HF.out, ← HB.out, ← HE2.out]
          exact HS2.out
end Go.Proofs.YtobdjcnojbnegaaGreatDoor

/- sort.Sort of records: reverseRange, choosePivot. -/
namespace Go.Proofs.YtobdjcnojbnegaaGreatDoor
open Go.Shelf Go.RowKit Go.Lib Go.Sort
set_option linter.unusedVariables false
set_option linter.unusedSimpArgs false
variable {α : Type} [Inhabited α] {lt : α → α → Bool} {R : Array α → World → Prop} {n g N0 : Nat} {rv : Value}

set_option maxHeartbeats 3200000 in
set_option maxRecDepth 100000 in
theorem reverseR (H : SortR lt R n g N0 rv) (a b : Nat) (d : Array α) (w : World) (hd : d.size = n) (hR : R d w) (hab : a < b) (hb : b ≤ n) :
    Calls Tryz.prog 236 #[.iface 304 rv, .int .i64 a, .int .i64 b] w fun e w' => e = .returned (.tuple #[]) ∧ ∃ d', R d' w' ∧ PermIn a b d d' := by
  have hms := method_SwapR
  have hbig := H.big
  have HH := Lib.hid H
  have HS0 := Lib.hid hR
  clear hR H
  go_enter Tryz.func236, Tryz.ntmps236
  go_wp2_with fail
  go_loopw [6, 7] (fun vi vj wr => ∃ (i j : Nat) (dk : Array α), vi = .int .i64 (i : Int) ∧ vj = .int .i64 (j : Int) ∧ a ≤ i ∧ j < b ∧ dk.size = n ∧ R dk wr ∧ PermIn a b d dk) (fun vi vj _ => (intOf vj).toNat + 1 - (intOf vi).toNat)
  case atStart => exact ⟨a, b - 1, d, rfl, by go_num, Nat.le_refl _, by omega, hd, HS0.out, permIn_refl _ _ _⟩
  case round =>
    obtain ⟨i, j, dk, rfl, rfl, hai, hjb, hsk, hS, hP⟩ := hrel
    by_cases hlt : i < j
    · have hW := HH.out.swap dk wr i j hS hsk (by omega) (by omega)
      have HP := Lib.hid (permIn_trans _ _ _ _ _ hP (swp_permIn dk a b i j (by omega) (by omega) (by omega) (by omega) (by omega)))
      clear hS hP
      go_wp2_with fail
      refine hW.mono ?_
      clear hW
      rintro e w1 ⟨rfl, hR1, hk1⟩
      have HR1 := Lib.hid hR1
      clear hR1 hk1
      go_wp2_with fail
      go_roundw
      case rel => exact ⟨i + 1, j - 1, swp dk i j, by go_num, by go_num, by omega, by omega, by rw [size_swp]; exact hsk, HR1.out, HP.out⟩
      case measure => first | (simp [intOf]; done) | (simp [intOf]; omega)
    · have HX := Lib.hid (And.intro hS hP)
      clear hS hP
      go_wp2_with fail
      go_end0
      exact ⟨rfl, dk, HX.out.1, HX.out.2⟩

/-- The counter of swaps. -/
def CtrR (W : World) (cb : Nat) : Prop := ∃ z : Int, W.heap[cb]? = some (.cells #[.int .i64 z] 3 (0, 0))

set_option maxHeartbeats 3200000 in
set_option maxRecDepth 100000 in
theorem order2R (H : SortR lt R n g N0 rv) (a b cb : Nat) (d : Array α) (w : World) (hd : d.size = n) (hR : R d w) (hcb : N0 ≤ cb) (hC : CtrR w cb) (ha : a < n) (hb : b < n) :
    Calls Tryz.prog 268 #[.iface 304 rv, .int .i64 a, .int .i64 b, .pointer (some ⟨cb, 0, none⟩)] w fun e w' => ∃ x y : Nat, e = .returned (.tuple #[.int .i64 (x : Int), .int .i64 (y : Int)]) ∧ ((x = a ∧ y = b) ∨ (x = b ∧ y = a)) ∧ R d w' ∧ CtrR w' cb := by
  obtain ⟨z, hz⟩ := hC
  have hcl := (Array.getElem?_eq_some_iff.1 hz).1
  have hme := method_LessR
  have hL := H.less d w b a hR hd hb ha
  have hgb := H.below
  have HH := Lib.hid H
  clear hR H
  generalize lt d[b]! d[a]! = v at hL
  go_enter Tryz.func268, Tryz.ntmps268
  go_wp2_with fail
  refine hL.mono ?_
  clear hL
  rintro e w1 ⟨rfl, hR1, hk1⟩
  have hz1 : w1.heap[cb]? = some (.cells #[.int .i64 z] 3 (0, 0)) := (hk1.block cb hcl (by omega)).trans hz
  have cz := (blk_cell' hz1 0).trans (show _ = some (Value.int .i64 z) from rfl)
  have fz := blk_free' hz1 0
  have HR1 := Lib.hid hR1
  have HZ := Lib.hid hz1
  clear hk1 hR1 hz1 hz
  cases v with
  | true =>
    go_wp2_with fail
    go_ret2
    refine ⟨b, a, rfl, .inr ⟨rfl, rfl⟩, ?_, ?_⟩
    · exact HH.out.keep _ _ _ HR1.out ((kp_set w1 ⟨cb, 0, none⟩ _).mono fun i h => .inl (by subst h; exact hcb))
    · refine ⟨wrap64 (z + 1), ?_⟩
      show (w1.setCell ⟨cb, 0, none⟩ _).heap[cb]? = _
      rw [setCell_eq_setRow w1 cb 0 _ _ _ _ HZ.out, setRow_heap w1 cb _ _ _ _ HZ.out]
      rfl
  | false =>
    go_wp2_with fail
    go_ret2
    exact ⟨a, b, rfl, .inl ⟨rfl, rfl⟩, HR1.out, ⟨z, HZ.out⟩⟩

set_option maxHeartbeats 3200000 in
set_option maxRecDepth 100000 in
theorem medianR (H : SortR lt R n g N0 rv) (a b c cb : Nat) (d : Array α) (w : World) (hd : d.size = n) (hR : R d w) (hcb : N0 ≤ cb) (hC : CtrR w cb) (ha : a < n) (hb : b < n) (hc : c < n) :
    Calls Tryz.prog 254 #[.iface 304 rv, .int .i64 a, .int .i64 b, .int .i64 c, .pointer (some ⟨cb, 0, none⟩)] w fun e w' => ∃ r : Nat, e = .returned (.int .i64 (r : Int)) ∧ (r = a ∨ r = b ∨ r = c) ∧ R d w' ∧ CtrR w' cb := by
  have H2 := fun a b W (h : R d W) (h' : CtrR W cb) (ha : a < n) (hb : b < n) => order2R H a b cb d W hd h hcb h' ha hb
  have HH := Lib.hid H2
  have h1 := H2 a b w hR hC ha hb
  clear H2 hR hC H
  go_enter Tryz.func254, Tryz.ntmps254
  go_wp2_with fail
  refine h1.mono ?_
  clear h1
  rintro e w1 ⟨x1, y1, rfl, hxy1, hS1, hC1⟩
  have hx1 : x1 = a ∨ x1 = b := by omega
  have hy1 : y1 = a ∨ y1 = b := by omega
  have h2 := HH.out y1 c w1 hS1 hC1 (by omega) hc
  clear hS1 hC1 hxy1
  go_wp2_with fail
  refine h2.mono ?_
  clear h2
  rintro e w2 ⟨x2, y2, rfl, hxy2, hS2, hC2⟩
  have h3 := HH.out x1 x2 w2 hS2 hC2 (by omega) (by omega)
  clear hS2 hC2
  go_wp2_with fail
  refine h3.mono ?_
  clear h3
  rintro e w3 ⟨x3, y3, rfl, hxy3, hS3, hC3⟩
  have HX := Lib.hid (And.intro hS3 hC3)
  have hr : y3 = a ∨ y3 = b ∨ y3 = c := by omega
  clear hS3 hC3
  go_wp2_with fail
  go_ret
  exact ⟨y3, rfl, hr, HX.out.1, HX.out.2⟩

set_option maxHeartbeats 3200000 in
set_option maxRecDepth 100000 in
theorem adjacentR (H : SortR lt R n g N0 rv) (a cb : Nat) (d : Array α) (w : World) (hd : d.size = n) (hR : R d w) (hcb : N0 ≤ cb) (hC : CtrR w cb) (ha : a + 1 < n) (ha1 : 0 < a) :
    Calls Tryz.prog 253 #[.iface 304 rv, .int .i64 a, .pointer (some ⟨cb, 0, none⟩)] w fun e w' => ∃ r : Nat, e = .returned (.int .i64 (r : Int)) ∧ (a ≤ r + 1 ∧ r ≤ a + 1) ∧ R d w' ∧ CtrR w' cb := by
  have h1 := medianR H (a - 1) a (a + 1) cb d w hd hR hcb hC (by omega) (by omega) ha
  have hbig := H.big
  rw [show ((a - 1 : Nat) : Int) = (a : Int) - 1 by omega, show ((a + 1 : Nat) : Int) = (a : Int) + 1 by omega] at h1
  clear hR hC H
  go_enter Tryz.func253, Tryz.ntmps253
  go_wp2_with fail
  refine h1.mono ?_
  clear h1
  rintro e w1 ⟨r, rfl, hr, hS1, hC1⟩
  have HX := Lib.hid (And.intro hS1 hC1)
  clear hS1 hC1
  go_wp2_with fail
  go_ret
  exact ⟨r, rfl, by omega, HX.out.1, HX.out.2⟩

set_option maxHeartbeats 6400000 in
set_option maxRecDepth 100000 in
theorem chooseR (H : SortR lt R n g N0 rv) (a b : Nat) (d : Array α) (w : World) (hd : d.size = n) (hR : R d w) (hab : a + 12 < b) (hb : b ≤ n) :
    Calls Tryz.prog 235 #[.iface 304 rv, .int .i64 a, .int .i64 b] w fun e w' => ∃ (p h : Nat), e = .returned (.tuple #[.int .i64 (p : Int), .int .i64 (h : Int)]) ∧ a ≤ p ∧ p < b ∧ R d w' := by
  have hbig := H.big
  have hN := H.size d w hR
  have HH := Lib.hid H
  have HM := fun i j k W (h : R d W) (h' : CtrR W w.heap.size) (hi : i < n) (hj : j < n) (hk : k < n) => medianR H i j k w.heap.size d W hd h hN h' hi hj hk
  have HJ := fun i W (h : R d W) (h' : CtrR W w.heap.size) (hi : i + 1 < n) (hj : 0 < i) => adjacentR H i w.heap.size d W hd h hN h' hi hj
  have HMh := Lib.hid HM; have HJh := Lib.hid HJ
  clear H
  obtain ⟨l, hl⟩ : ∃ l, l = b - a := ⟨_, rfl⟩
  obtain ⟨q, hq⟩ : ∃ q, q = l / 4 := ⟨_, rfl⟩
  have hli : (b : Int) - (a : Int) = (l : Int) := by omega
  have hqi : (l : Int).tdiv 4 = (q : Int) := by
    rw [show (4 : Int) = ((4 : Nat) : Int) from rfl, ← Int.ofNat_tdiv]; omega
  have hqj : (l : Int) / 4 = (q : Int) := by omega
  obtain ⟨i, hi⟩ : ∃ i, i = a + q := ⟨_, rfl⟩
  obtain ⟨j, hj⟩ : ∃ j, j = a + q * 2 := ⟨_, rfl⟩
  obtain ⟨k, hk⟩ : ∃ k, k = a + q * 3 := ⟨_, rfl⟩
  have hii : (a : Int) + (q : Int) = (i : Int) := by omega
  have hjj : (a : Int) + (q : Int) * 2 = (j : Int) := by omega
  have hkk : (a : Int) + (q : Int) * 3 = (k : Int) := by omega
  have hl12 : 12 < l := by omega
  have hq3 : 3 ≤ q := by omega
  have hbnd : a + 3 ≤ i ∧ i < j ∧ j < k ∧ k + 3 ≤ b := by omega
  have hS1 : R d (w.alloc (.cells #[.int .i64 0] 3)) := HH.out.keep d w _ hR ((kp_alloc w _).mono fun _ h => h.elim)
  have hC1 : CtrR (w.alloc (.cells #[.int .i64 0] 3)) w.heap.size := ⟨0, heap_alloc_new w _⟩
  have h8 : ¬ (l : Int) < 8 := by omega
  have HX := Lib.hid (And.intro hS1 hC1)
  have HB := Lib.hid hbnd
  have HQ := Lib.hid (And.intro hl (And.intro hq (And.intro hi (And.intro hj hk))))
  clear HM HJ hS1 hC1 hR hl hq hi hj hk hbnd
  go_enter Tryz.func235, Tryz.ntmps235
  by_cases h50 : (50 : Int) ≤ (l : Int)
  · have h1 := HJh.out i _ HX.out.1 HX.out.2 (by have := HB.out; omega) (by have := HB.out; omega)
    go_wp2_with fail
    refine h1.mono ?_
    clear h1
    rintro e w1 ⟨i1, rfl, hi1, hS1, hC1⟩
    have h2 := HJh.out j w1 hS1 hC1 (by have := HB.out; omega) (by have := HB.out; omega)
    clear hS1 hC1
    go_wp2_with fail
    refine h2.mono ?_
    clear h2
    rintro e w2 ⟨j1, rfl, hj1, hS2, hC2⟩
    have h3 := HJh.out k w2 hS2 hC2 (by have := HB.out; omega) (by have := HB.out; omega)
    clear hS2 hC2
    go_wp2_with fail
    refine h3.mono ?_
    clear h3
    rintro e w3 ⟨k1, rfl, hk1, hS3, hC3⟩
    have hm := HMh.out i1 j1 k1 w3 hS3 hC3 (by have := HB.out; omega) (by have := HB.out; omega) (by have := HB.out; omega)
    clear hS3 hC3
    go_wp2_with fail
    refine hm.mono ?_
    clear hm
    rintro e w4 ⟨r, rfl, hr, hS4, hC4⟩
    obtain ⟨z, hz⟩ := hC4
    have cz := (blk_cell' hz 0).trans (show _ = some (Value.int .i64 z) from rfl)
    have hrb : a ≤ r ∧ r < b := by have := HB.out; omega
    have HS4 := Lib.hid hS4
    clear hS4 hz
    by_cases hz0 : z = 0
    · subst hz0
      go_wp2_with fail
      go_ret2
      exact ⟨r, 1, rfl, hrb.1, hrb.2, HS4.out⟩
    · have hzb : (z == 0) = false := by simpa using hz0
      by_cases hz12 : z = 12
      · subst hz12
        go_wp2_with fail
        go_ret2
        exact ⟨r, 2, rfl, hrb.1, hrb.2, HS4.out⟩
      · have hzc : (z == 12) = false := by simpa using hz12
        clear hz0 hz12
        go_wp2_with fail
        go_ret2
        exact ⟨r, 0, rfl, hrb.1, hrb.2, HS4.out⟩
  · skip
    have hm := HMh.out i j k _ HX.out.1 HX.out.2 (by have := HB.out; omega) (by have := HB.out; omega) (by have := HB.out; omega)
    skip
    go_wp2_with fail
    refine hm.mono ?_
    clear hm
    rintro e w4 ⟨r, rfl, hr, hS4, hC4⟩
    obtain ⟨z, hz⟩ := hC4
    have cz := (blk_cell' hz 0).trans (show _ = some (Value.int .i64 z) from rfl)
    have hrb : a ≤ r ∧ r < b := by have := HB.out; omega
    have HS4 := Lib.hid hS4
    clear hS4 hz
    by_cases hz0 : z = 0
    · subst hz0
      go_wp2_with fail
      go_ret2
      exact ⟨r, 1, rfl, hrb.1, hrb.2, HS4.out⟩
    · have hzb : (z == 0) = false := by simpa using hz0
      by_cases hz12 : z = 12
      · subst hz12
        go_wp2_with fail
        go_ret2
        exact ⟨r, 2, rfl, hrb.1, hrb.2, HS4.out⟩
      · have hzc : (z == 12) = false := by simpa using hz12
        clear hz0 hz12
        go_wp2_with fail
        go_ret2
        exact ⟨r, 0, rfl, hrb.1, hrb.2, HS4.out⟩
end Go.Proofs.YtobdjcnojbnegaaGreatDoor
