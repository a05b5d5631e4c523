import Derived.Test.YtnhhhjnhmbhdgaaGreatDoorG16
import Derived.Test.YtnhhhjnhmbhdgaaGreatDoorShelf
import Derived.Lib.Bytealg
import Derived.Sort.LotA
import Derived.Test.YtnhhhjnhmbhdgaaGreatDoorG00
import Derived.Test.YtnhhhjnhmbhdgaaGreatDoorG12
import Derived.Shelf.GgSortFunc.SmallK
import Derived.Test.YtnhhhjnhmbhdgaaGreatDoorG14
import Derived.Test.YtnhhhjnhmbhdgaaGreatDoorG15
import Derived.Laws.AppendOwnNone
/- The stable sort of elements of k cells: stable_func. -/
namespace Go.Proofs.YtnhhhjnhmbhdgaaGreatDoor
open Go.Shelf Go.RowKit Go.Lib Go.Sort
set_option linter.unusedVariables false
set_option linter.unusedSimpArgs false
set_option linter.unusedSectionVars false
attribute [local go_sem] setCell_drewN alloc_drewN
variable {α : Type} [Inhabited α]

/-- Each block of so many elements is sorted. -/
def Blks (lt : α → α → Bool) (bs n : Nat) (d : Array α) : Prop := ∀ q, SortedIn lt (bs * q) (min (bs * q + bs) n) d

set_option maxHeartbeats 3200000 in
set_option maxRecDepth 100000 in
theorem insSort_ok (enc : α → List Value) (k : Nat) (hk : ∀ x, (enc x).length = k) (lt : α → α → Bool) (hO : SWO lt) (g : Nat) (lb : Array Value) (sf : Nat) (sb : Array Value) (blk off N : Nat)
    (eg : ∀ args w, (callFunc g args).run Tryz.prog w = .ok (.enter g args) w) (hswap : SwapSwapsK Tryz.prog sf sb enc k blk off N) (hsz : N < 4611686018427387904) (a b : Nat) (d : Array α) (w : World) (hF : Fam enc k lt g lb blk off N d w) (hab : a ≤ b) (hb : b ≤ N) :
    Calls Tryz.prog 55 #[.agg #[.func (.func g) #[] lb, .func (.func sf) #[] sb], .int .i64 a, .int .i64 b] w fun e w' => e = .returned (.tuple #[]) ∧ ∃ d', SWK enc k w blk off d' w' ∧ PermIn a b d d' ∧ SortedIn lt a b d' := by
  have hblk := hF.blt
  have hH := hF.holds
  have hx0 : (w.alloc (.cells #[.func (.func g) #[] lb, .func (.func sf) #[] sb] 75)).cell? ⟨w.heap.size, 0, none⟩ = some (.func (.func g) #[] lb) := by simp
  have hx1 : (w.alloc (.cells #[.func (.func g) #[] lb, .func (.func sf) #[] sb] 75)).cell? ⟨w.heap.size, 1, none⟩ = some (.func (.func sf) #[] sb) := by simp
  have hS0 : SWK enc k w blk off d (w.alloc (.cells #[.func (.func g) #[] lb, .func (.func sf) #[] sb] 75)) := (SWK.start hH).alloc _
  have hF1 := hF.on hS0 rfl
  have hl1 := hF1.less
  have hH1 := hF1.holds
  have hb1 := hF1.blt
  have hdN := hF.size
  have hbw : w.heap.size ≠ blk := by omega
  have hstart := SWK.start hF1.holds
  have HST := Lib.hid hstart
  have HH := Lib.hid hH
  obtain ⟨hspec1, hspec2⟩ := insertionSort_holds (lt := lt) hO d a b hab (by omega)
  have HSP := Lib.hid (And.intro hspec1 hspec2)
  subst hdN
  clear hF hF1 hS0 hstart hspec1 hspec2 hH
  go_enter Tryz.func55, Tryz.ntmps55
  go_wp2
  go_loopw [6] (fun vi wr => ∃ (i : Nat) (dk : Array α), vi = .int .i64 i ∧ a < i ∧ i ≤ b + 1 ∧ dk.size = d.size ∧ SWK enc k (w.alloc (.cells #[.func (.func g) #[] lb, .func (.func sf) #[] sb] 75)) blk off dk wr ∧ insOuter lt a b i dk = insOuter lt a b (a + 1) d) (fun vi _ => b + 1 - (intOf vi).toNat)
  case atStart => exact ⟨a + 1, d, by go_num, by omega, by omega, rfl, HST.out, rfl⟩
  case round =>
    obtain ⟨i, dk, rfl, hai, hib, hsk, hS, hOu⟩ := hrel
    have HO := Lib.hid hOu
    clear hOu
    by_cases hlt : i < b
    · obtain ⟨wo, rfl⟩ : ∃ wo, wo = wr := ⟨_, rfl⟩
      go_wp2_with fail
      go_loopw [7] (fun vj wr2 => ∃ (j : Nat) (dj : Array α), vj = .int .i64 j ∧ a ≤ j ∧ j ≤ i ∧ dj.size = d.size ∧ SWK enc k (w.alloc (.cells #[.func (.func g) #[] lb, .func (.func sf) #[] sb] 75)) blk off dj wr2 ∧ insInner lt a j dj = insInner lt a i dk) (fun vj _ => (intOf vj).toNat)
      case atStart => exact ⟨i, dk, rfl, by omega, Nat.le_refl _, hsk, hS, rfl⟩
      case round =>
        clear hS
        obtain ⟨j, dj, rfl, haj, hji, hsj, hS, hI⟩ := hrel
        have c0 := swk_cell hS hx0 hbw
        have HI := Lib.hid hI
        clear hI
        have out : (j ≤ a ∨ lt dj[j]! dj[j - 1]! = false) → ∀ w1, SWK enc k (w.alloc (.cells #[.func (.func g) #[] lb, .func (.func sf) #[] sb] 75)) blk off dj w1 → ∃ (i' : Nat) (dk' : Array α), Value.int .i64 ((i : Int) + 1) = .int .i64 (i' : Nat) ∧ a < i' ∧ i' ≤ b + 1 ∧ dk'.size = d.size ∧
            SWK enc k (w.alloc (.cells #[.func (.func g) #[] lb, .func (.func sf) #[] sb] 75)) blk off dk' w1 ∧ insOuter lt a b i' dk' = insOuter lt a b (a + 1) d := fun hs w1 hw1 =>
          ⟨i + 1, dj, by go_num, by omega, by omega, hsj, hw1, by rw [← HO.out, insOuter_go _ _ _ _ _ hlt, ← HI.out, insInner_stop _ _ _ _ hs]⟩
        have OUT := Lib.hid out
        clear out
        by_cases hja : a < j
        · have hl := hl1 dj wr hsj hS j (j - 1) (by omega) (by omega)
          rw [show (((j - 1 : Nat) : Int)) = (j : Int) - 1 by omega] at hl
          have HS := Lib.hid hS
          clear hS
          cases hv : lt dj[j]! dj[j - 1]! with
          | true =>
            rw [hv] at hl
            have HV := Lib.hid hv
            clear hv
            go_wp2_with fail
            go_at_fn g
            refine hl.mono ?_
            clear hl
            rintro e w' ⟨rfl, hq⟩
            have hS2 := swk_trans HS.out hq hb1 rfl
            have hHk := hS2.holds hb1 hH1 hsj
            have c1 := swk_cell hS2 hx1 hbw
            have hs := hswap w' dj hHk hsj j (j - 1) (by omega) (by omega)
            have hS3 := hS2.swap hk hb1 j (j - 1) (by omega) (by omega)
            have HX := Lib.hid hS3
            rw [show ((j - 1 : Nat) : Int) = (j : Int) - 1 by omega] at hs
            clear hS3 hS2 hHk hq c0
            go_wp2_with fail
            go_roundw
            case rel => exact ⟨j - 1, swp dj j (j - 1), by go_num, by omega, by omega, by rw [size_swp]; exact hsj, HX.out, by rw [← HI.out, insInner_go lt a j dj hja HV.out]⟩
            case measure => simp [intOf]; omega
          | false =>
            rw [hv] at hl
            have HV := Lib.hid hv
            clear hv
            go_wp2_with fail
            go_at_fn g
            refine hl.mono ?_
            clear hl
            rintro e w' ⟨rfl, hq⟩
            have HQ := Lib.hid (swk_trans HS.out hq hb1 rfl)
            clear hq
            go_wp2_with fail
            go_roundw
            case rel => exact OUT.out (Or.inr HV.out) _ HQ.out
            case measure => simp [intOf]; omega
        · have HS := Lib.hid hS
          clear hS
          go_wp2_with fail
          go_roundw
          case rel => exact OUT.out (Or.inl (by omega)) _ HS.out
          case measure => simp [intOf]; omega
    · have HS := Lib.hid hS
      clear hS
      go_wp2_with fail
      go_end0
      refine ⟨rfl, dk, swk_of_alloc HS.out hblk HH.out hsk, ?_⟩
      have e : Sort.insertionSort lt d a b = dk := by unfold Sort.insertionSort; rw [← HO.out, insOuter_stop _ _ _ _ _ hlt]
      rw [← e]
      exact HSP.out

set_option maxHeartbeats 6400000 in
set_option maxRecDepth 100000 in
theorem stable_ok (enc : α → List Value) (k : Nat) (hk : ∀ x, (enc x).length = k) (lt : α → α → Bool) (hO : SWO lt) (g : Nat) (lb : Array Value) (sf : Nat) (sb : Array Value) (blk off N : Nat)
    (eg : ∀ args w, (callFunc g args).run Tryz.prog w = .ok (.enter g args) w) (hswap : SwapSwapsK Tryz.prog sf sb enc k blk off N) (hsz : N < 1099511627776) (d : Array α) (w : World) (hF : Fam enc k lt g lb blk off N d w) :
    Calls Tryz.prog 115 #[.agg #[.func (.func g) #[] lb, .func (.func sf) #[] sb], .int .i64 N] w fun e w' => e = .returned (.tuple #[]) ∧ ∃ d', SWK enc k w blk off d' w' ∧ PermIn 0 N d d' ∧ SortedIn lt 0 N d' := by
  have hblk := hF.blt
  have hH := hF.holds
  have hx0 : (w.alloc (.cells #[.func (.func g) #[] lb, .func (.func sf) #[] sb] 75)).cell? ⟨w.heap.size, 0, none⟩ = some (.func (.func g) #[] lb) := by simp
  have hx1 : (w.alloc (.cells #[.func (.func g) #[] lb, .func (.func sf) #[] sb] 75)).cell? ⟨w.heap.size, 1, none⟩ = some (.func (.func sf) #[] sb) := by simp
  have hS0 : SWK enc k w blk off d (w.alloc (.cells #[.func (.func g) #[] lb, .func (.func sf) #[] sb] 75)) := (SWK.start hH).alloc _
  have hF1 := hF.on hS0 rfl
  have HF := Lib.hid hF1
  have HS0 := Lib.hid hH
  have hb1 := hF1.blt
  have hdN := hF.size
  have hins := fun a b (dk : Array α) wr (h : SWK enc k (w.alloc (.cells #[.func (.func g) #[] lb, .func (.func sf) #[] sb] 75)) blk off dk wr) (hs : dk.size = N) => insSort_ok enc k hk lt hO g lb sf sb blk off N eg hswap (by omega) a b dk wr (hF1.on h (hs.trans hdN.symm))
  have hmer := fun a m b (dk : Array α) wr (h : SWK enc k (w.alloc (.cells #[.func (.func g) #[] lb, .func (.func sf) #[] sb] 75)) blk off dk wr) (hs : dk.size = N) => symMerge_ok enc k hk lt hO g lb sf sb blk off N eg hswap (by omega) (b - a) a m b dk wr (Nat.le_refl _) (hF1.on h (hs.trans hdN.symm))
  have HI := Lib.hid hins; have HG := Lib.hid hmer
  have hbw : w.heap.size ≠ blk := by omega
  have hstart := SWK.start hF1.holds
  have HST := Lib.hid hstart
  clear hF hF1 hS0 hH hins hmer hstart
  go_enter Tryz.func115, Tryz.ntmps115
  go_wp2
  go_loopw [5, 6] (fun va vb wr => ∃ (q a b : Nat) (dk : Array α), a = 20 * q ∧ b = a + 20 ∧ va = .int .i64 (a : Int) ∧ vb = .int .i64 (b : Int) ∧ a ≤ N ∧ SWK enc k (w.alloc (.cells #[.func (.func g) #[] lb, .func (.func sf) #[] sb] 75)) blk off dk wr ∧ dk.size = N ∧ PermIn 0 N d dk ∧ ∀ q', q' < q → SortedIn lt (20 * q') (20 * q' + 20) dk) (fun va vb _ => N + 20 - (intOf va).toNat)
  case atStart => exact ⟨0, 0, 20, d, rfl, rfl, rfl, rfl, Nat.zero_le _, HST.out, hdN, permIn_refl _ _ _, fun q' h => by omega⟩
  case round =>
    obtain ⟨q, a, b, dk, ha, hba, rfl, rfl, haN, hS, hds, hP, hB⟩ := hrel
    have c0 := swk_cell hS hx0 hbw
    have c1 := swk_cell hS hx1 hbw
    have HX := Lib.hid (And.intro hS (And.intro hP hB))
    by_cases hbN : b ≤ N
    · have hC := HI.out a b dk wr hS hds (by omega) hbN
      have HA := Lib.hid (And.intro ha hba)
      clear hS hP hB ha hba
      go_wp2_with (refine hC.mono ?_; clear hC; rintro e w1 ⟨rfl, d1, hS1, hP1, hs1⟩)
      go_roundw
      case rel =>
        obtain ⟨ha, hba⟩ := HA.out
        exact ⟨q + 1, b, b + 20, d1, by omega, rfl, rfl, by go_num, hbN, swk_trans HX.out.1 hS1 hb1 hP1.1, hP1.1.trans hds, permIn_trans _ _ _ _ _ HX.out.2.1 (permIn_mono _ _ _ _ _ _ (Nat.zero_le _) hbN (by omega) hP1), fun q' h => by
          by_cases h' : q' < q
          · exact sorted_other (HX.out.2.2 q' h') hP1 (.inl (by omega))
          · obtain rfl : q' = q := by omega
            rw [← ha, ← hba]; exact hs1⟩
      case measure => have := HA.out; simp [intOf]; omega
    · have hC := HI.out a N dk wr hS hds haN (Nat.le_refl _)
      have HA := Lib.hid (And.intro ha hba)
      clear hS hP hB ha hba
      obtain ⟨wo, rfl⟩ : ∃ wo, wo = wr := ⟨_, rfl⟩
      go_wp2_with fail
      refine hC.mono ?_
      clear hC
      rintro e w1 ⟨rfl, d1, hS1, hP1, hs1⟩
      have hS1' := swk_trans HX.out.1 hS1 hb1 hP1.1
      have hd1 : d1.size = N := hP1.1.trans hds
      have hPd := permIn_trans _ _ _ _ _ HX.out.2.1 (permIn_mono _ _ _ _ _ _ (Nat.zero_le _) (Nat.le_refl _) (by omega) hP1)
      have hBl : Blks lt 20 N d1 := by
        obtain ⟨ha, hba⟩ := HA.out
        intro q'
        rcases Nat.lt_trichotomy q' q with h | h | h
        · rw [Nat.min_eq_left (by omega)]
          exact sorted_other (HX.out.2.2 q' h) hP1 (.inl (by omega))
        · subst h
          rw [Nat.min_eq_right (by omega), ← ha]; exact hs1
        · exact sorted_none (by omega)
      have HB := Lib.hid hBl; have HP := Lib.hid hPd
      have HS1 := Lib.hid hS1'
      clear hS1 hP1 hs1 hBl hPd hS1' c0 c1 HX HA
      have c0 := swk_cell HS1.out hx0 hbw
      have c1 := swk_cell HS1.out hx1 hbw
      go_wp2_with fail
      go_loopw [4] (fun v4 wr => ∃ (bs : Nat) (dk : Array α), v4 = .int .i64 (bs : Int) ∧ 20 ≤ bs ∧ bs ≤ 2 * N + 20 ∧ SWK enc k (w.alloc (.cells #[.func (.func g) #[] lb, .func (.func sf) #[] sb] 75)) blk off dk wr ∧ dk.size = N ∧ PermIn 0 N d dk ∧ Blks lt bs N dk) (fun v4 _ => 2 * N + 40 - (intOf v4).toNat)
      case atStart => exact ⟨20, d1, rfl, by omega, by omega, HS1.out, hd1, HP.out, HB.out⟩
      case round =>
        clear c0 c1
        obtain ⟨bs, dk, rfl, hb20, hbm, hS, hds2, hP, hB⟩ := hrel
        by_cases hlt : bs < N
        · obtain ⟨wo2, rfl⟩ : ∃ wo2, wo2 = wr := ⟨_, rfl⟩
          obtain ⟨D, hD⟩ : ∃ D, D = 2 * bs := ⟨_, rfl⟩
          have hDi : (2 : Int) * (bs : Int) = (D : Int) := by omega
          have hDj : (bs : Int) * 2 = (D : Int) := by omega
          have hDb : D < 2 * N := by omega
          have HD := Lib.hid hD
          clear hD
          go_wp2_with fail
          go_loopw [5, 6] (fun va vb wr => ∃ (q a b : Nat) (dk : Array α), a = D * q ∧ b = a + D ∧ va = .int .i64 (a : Int) ∧ vb = .int .i64 (b : Int) ∧ a ≤ N ∧ SWK enc k (w.alloc (.cells #[.func (.func g) #[] lb, .func (.func sf) #[] sb] 75)) blk off dk wr ∧ dk.size = N ∧ PermIn 0 N d dk ∧ (∀ q', q' < q → SortedIn lt (D * q') (D * q' + D) dk) ∧ ∀ q', 2 * q ≤ q' → SortedIn lt (bs * q') (min (bs * q' + bs) N) dk) (fun va vb _ => N + D - (intOf va).toNat)
          case atStart => exact ⟨0, 0, D, dk, by omega, by omega, rfl, rfl, Nat.zero_le _, hS, hds2, hP, fun q' h => by omega, fun q' h => hB q'⟩
          case round =>
            clear hS hP hB
            obtain ⟨q, a, b, dk, ha, hba, rfl, rfl, haN, hS, hds3, hP, hB, hR⟩ := hrel
            have c0 := swk_cell hS hx0 hbw
            have c1 := swk_cell hS hx1 hbw
            have hD := HD.out
            have e1 : bs * (2 * q) = a := by rw [ha, hD, Nat.mul_left_comm, Nat.mul_assoc]
            have e2 : bs * (2 * q + 1) = a + bs := by rw [Nat.mul_succ, e1]
            have g1 : SortedIn lt a (min (a + bs) N) dk := by have := hR (2 * q) (Nat.le_refl _); rwa [e1] at this
            have g2 : SortedIn lt (a + bs) (min (a + bs + bs) N) dk := by have := hR (2 * q + 1) (by omega); rwa [e2] at this
            have hmono : ∀ q' q'', q' < q'' → D * q' + D ≤ D * q'' := fun q' q'' h => by rw [← Nat.mul_succ]; exact Nat.mul_le_mul_left _ h
            have hnext : D * (q + 1) = b := by rw [Nat.mul_succ, ← ha, hba]
            have hfar : ∀ q', 2 * (q + 1) ≤ q' → b ≤ bs * q' := fun q' h => by
              have h1 : bs * (2 * (q + 1)) ≤ bs * q' := Nat.mul_le_mul_left _ h
              rw [Nat.mul_left_comm, ← Nat.mul_assoc, ← hD, hnext] at h1
              exact h1
            have HX := Lib.hid (And.intro hS (And.intro hP (And.intro hB hR)))
            have HA := Lib.hid (And.intro ha (And.intro hba (And.intro hmono (And.intro hnext hfar))))
            by_cases hbN : b ≤ N
            · rw [Nat.min_eq_left (by omega)] at g1
              rw [Nat.min_eq_left (by omega)] at g2
              have hC := HG.out a (a + bs) b dk wr hS hds3 (by omega) (by omega) hbN g1 (by rw [show b = a + bs + bs by omega]; exact g2)
              rw [show ((a + bs : Nat) : Int) = (a : Int) + (bs : Int) by omega] at hC
              have hbD : (b : Int) + (D : Int) < 9223372036854775808 := by omega
              clear hS hP hB hR ha hba hmono hnext hfar e1 e2 g1 g2 hD
              go_wp2_with (refine hC.mono ?_; clear hC; rintro e w1 ⟨rfl, d1, hS1, hP1, hs1⟩)
              go_roundw
              case rel =>
                obtain ⟨ha, hba, hmono, hnext, hfar⟩ := HA.out
                exact ⟨q + 1, b, b + D, d1, hnext.symm, rfl, rfl, by go_num, hbN, swk_trans HX.out.1 hS1 hb1 hP1.1, hP1.1.trans hds3, permIn_trans _ _ _ _ _ HX.out.2.1 (permIn_mono _ _ _ _ _ _ (Nat.zero_le _) hbN (by omega) hP1), fun q' h => by
                  by_cases h' : q' < q
                  · exact sorted_other (HX.out.2.2.1 q' h') hP1 (.inl (by have := hmono q' q h'; omega))
                  · obtain rfl : q' = q := by omega
                    rw [← ha, ← hba]; exact hs1, fun q' h => sorted_other (HX.out.2.2.2 q' (by omega)) hP1 (.inr (hfar q' h))⟩
              case measure => have := HA.out.2.1; have := HD.out; simp [intOf]; omega
            · rw [Nat.min_eq_right (a := a + bs + bs) (by omega)] at g2
              by_cases hm : a + bs < N
              · rw [Nat.min_eq_left (by omega)] at g1
                have hC := HG.out a (a + bs) N dk wr hS hds3 (by omega) hm (Nat.le_refl _) g1 g2
                rw [show ((a + bs : Nat) : Int) = (a : Int) + (bs : Int) by omega] at hC
                have hm' : (a : Int) + (bs : Int) < (N : Int) := by omega
                clear hS hP hB hR ha hba hmono hnext hfar e1 e2 g1 g2 hD
                go_wp2_with (refine hC.mono ?_; clear hC; rintro e w1 ⟨rfl, d1, hS1, hP1, hs1⟩)
                go_roundw
                case rel =>
                  obtain ⟨ha, hba, hmono, hnext, hfar⟩ := HA.out
                  have hD := HD.out
                  exact ⟨D, d1, rfl, by omega, by omega, swk_trans HX.out.1 hS1 hb1 hP1.1, hP1.1.trans hds3, permIn_trans _ _ _ _ _ HX.out.2.1 (permIn_mono _ _ _ _ _ _ (Nat.zero_le _) (Nat.le_refl _) (by omega) hP1), fun q' => by
                    rcases Nat.lt_trichotomy q' q with h | h | h
                    · have h1 := hmono q' q h
                      rw [Nat.min_eq_left (by omega)]
                      exact sorted_other (HX.out.2.2.1 q' h) hP1 (.inl (by omega))
                    · subst h
                      rw [Nat.min_eq_right (by omega), ← ha]; exact hs1
                    · have h1 := hmono q q' h
                      exact sorted_none (by omega)⟩
                case measure => have := HD.out; simp [intOf]; omega
              · rw [Nat.min_eq_right (by omega)] at g1
                have hm' : ¬ (a : Int) + (bs : Int) < (N : Int) := by omega
                have HG1 := Lib.hid g1
                clear hS hP hB hR ha hba hmono hnext hfar e1 e2 g1 g2 hD
                go_wp2_with fail
                go_roundw
                case rel =>
                  obtain ⟨ha, hba, hmono, hnext, hfar⟩ := HA.out
                  have hD := HD.out
                  exact ⟨D, dk, rfl, by omega, by omega, HX.out.1, hds3, HX.out.2.1, fun q' => by
                    rcases Nat.lt_trichotomy q' q with h | h | h
                    · have h1 := hmono q' q h
                      rw [Nat.min_eq_left (by omega)]
                      exact HX.out.2.2.1 q' h
                    · subst h
                      rw [Nat.min_eq_right (by omega), ← ha]; exact HG1.out
                    · have h1 := hmono q q' h
                      exact sorted_none (by omega)⟩
                case measure => have := HD.out; simp [intOf]; omega
        · have hB0 := hB 0
          rw [Nat.mul_zero, Nat.zero_add, Nat.min_eq_right (by omega)] at hB0
          have HX := Lib.hid (And.intro hS (And.intro hP hB0))
          clear hS hP hB hB0
          go_wp2_with fail
          go_end0
          exact ⟨rfl, dk, swk_of_alloc HX.out.1 hblk HS0.out (by omega), HX.out.2.1, HX.out.2.2⟩
end Go.Proofs.YtnhhhjnhmbhdgaaGreatDoor

/- The order of bytes, as a strict weak order. Plain. -/
namespace Go.Proofs.YtnhhhjnhmbhdgaaGreatDoor
open Go.Sort
set_option linter.unusedVariables false

theorem co_vals : ∀ a b : List UInt8, Lib.compareBytes a b = -1 ∨ Lib.compareBytes a b = 0 ∨ Lib.compareBytes a b = 1
  | [], [] => .inr (.inl rfl)
  | [], _ :: _ => .inl rfl
  | _ :: _, [] => .inr (.inr rfl)
  | a :: s, b :: u => by
    unfold Lib.compareBytes
    split
    · exact .inl rfl
    · split
      · exact .inr (.inr rfl)
      · exact co_vals s u

theorem co_neg : ∀ a b : List UInt8, Lib.compareBytes b a = - Lib.compareBytes a b
  | [], [] => rfl
  | [], _ :: _ => rfl
  | _ :: _, [] => rfl
  | a :: s, b :: u => by
    unfold Lib.compareBytes
    have ih := co_neg s u
    by_cases h1 : a < b
    · have h2 : ¬ b < a := by rw [UInt8.lt_iff_toNat_lt] at h1 ⊢; omega
      rw [if_neg h2, if_pos h1, if_pos h1]; rfl
    · by_cases h2 : b < a
      · rw [if_pos h2, if_neg h1, if_pos h2]
      · rw [if_neg h1, if_neg h2, if_neg h2, if_neg h1, ih]

theorem co_trans : ∀ a b c : List UInt8, Lib.compareBytes a b ≤ 0 → Lib.compareBytes b c ≤ 0 → Lib.compareBytes a c ≤ 0
  | [], b, [], _, _ => by decide
  | [], b, _ :: _, _, _ => by show (-1 : Int) ≤ 0; decide
  | a :: s, [], c, h, _ => by exact absurd h (by show ¬ (1 : Int) ≤ 0; decide)
  | a :: s, b :: u, [], _, h => by exact absurd h (by show ¬ (1 : Int) ≤ 0; decide)
  | a :: s, b :: u, c :: v, h1, h2 => by
    have ih := co_trans s u v
    unfold Lib.compareBytes at h1 h2 ⊢
    simp only [UInt8.lt_iff_toNat_lt] at h1 h2 ⊢
    by_cases p1 : a.toNat < c.toNat
    · rw [if_pos p1]; decide
    · rw [if_neg p1]
      by_cases p2 : c.toNat < a.toNat
      · exfalso
        by_cases q1 : a.toNat < b.toNat
        · rw [if_neg (by omega), if_pos (by omega)] at h2; exact absurd h2 (by decide)
        · rw [if_neg q1] at h1
          by_cases q2 : b.toNat < a.toNat
          · rw [if_pos q2] at h1; exact absurd h1 (by decide)
          · rw [if_neg (by omega), if_pos (by omega)] at h2; exact absurd h2 (by decide)
      · rw [if_neg p2]
        by_cases q1 : a.toNat < b.toNat
        · rw [if_neg (by omega), if_pos (by omega)] at h2; exact absurd h2 (by decide)
        · rw [if_neg q1] at h1
          by_cases q2 : b.toNat < a.toNat
          · rw [if_pos q2] at h1; exact absurd h1 (by decide)
          · rw [if_neg q2] at h1
            rw [if_neg (by omega), if_neg (by omega)] at h2
            exact ih h1 h2

theorem co_self : ∀ a : List UInt8, Lib.compareBytes a a = 0
  | [] => rfl
  | x :: a => by unfold Lib.compareBytes; simp [co_self a]
theorem co_eq : ∀ a b : List UInt8, Lib.compareBytes a b = 0 → a = b
  | [], [], _ => rfl
  | [], _ :: _, h => by exact absurd h (by show ¬ (-1 : Int) = 0; decide)
  | _ :: _, [], h => by exact absurd h (by show ¬ (1 : Int) = 0; decide)
  | a :: s, b :: u, h => by
    unfold Lib.compareBytes at h
    by_cases h1 : a < b
    · rw [if_pos h1] at h; exact absurd h (by decide)
    · rw [if_neg h1] at h
      by_cases h2 : b < a
      · rw [if_pos h2] at h; exact absurd h (by decide)
      · rw [if_neg h2] at h
        rw [co_eq s u h, show a = b from UInt8.toNat_inj.1 (by rw [UInt8.lt_iff_toNat_lt] at h1 h2; omega)]
theorem co_lt_trans {a b c : List UInt8} (h1 : Lib.compareBytes a b < 0) (h2 : Lib.compareBytes b c ≤ 0) : Lib.compareBytes a c < 0 := by
  have h := co_trans a b c (by omega) h2
  rcases Int.lt_or_eq_of_le h with h' | h'
  · exact h'
  · have e := co_eq a c h'
    subst e
    have := co_neg a b
    omega
theorem co_le_trans {a b c : List UInt8} (h1 : Lib.compareBytes a b ≤ 0) (h2 : Lib.compareBytes b c < 0) : Lib.compareBytes a c < 0 := by
  have h := co_trans a b c h1 (by omega)
  rcases Int.lt_or_eq_of_le h with h' | h'
  · exact h'
  · have e := co_eq a c h'
    subst e
    have := co_neg a b
    omega
theorem less_iff : ∀ (a b : List UInt8), Op.bytesLess a b = decide (Lib.compareBytes a b < 0)
  | [], [] => rfl
  | [], _ :: _ => rfl
  | _ :: _, [] => rfl
  | a :: x, b :: y => by
    unfold Lib.compareBytes
    by_cases h1 : a < b
    · simp [Op.bytesLess, h1]
    · by_cases h2 : b < a
      · have h3 : ¬ a = b := fun e => by subst e; exact h1 h2
        simp [Op.bytesLess, h1, h2, h3]
      · have e : a = b := UInt8.le_antisymm (UInt8.not_lt.1 h2) (UInt8.not_lt.1 h1)
        subst e
        simp [Op.bytesLess, h1, less_iff x y]
end Go.Proofs.YtnhhhjnhmbhdgaaGreatDoor

/- sort.SliceStable of entries by their digests, of any number. -/
namespace Go.Proofs.YtnhhhjnhmbhdgaaGreatDoor
open Go.Shelf Go.RowKit Go.Lib Go.Sort
set_option linter.unusedVariables false
set_option linter.unusedSimpArgs false
attribute [local go_sem] setCell_drewN alloc_drewN

instance : Inhabited CidOf := ⟨⟨0, 0, 0, []⟩⟩
/-- By digests, then by offsets. -/
def ltD (x y : CidOf × Int) : Bool := if x.1.dig = y.1.dig then decide (x.2 < y.2) else Op.bytesLess x.1.dig y.1.dig
theorem ltD_iff (x y : CidOf × Int) : ltD x y = true ↔ Lib.compareBytes x.1.dig y.1.dig < 0 ∨ (x.1.dig = y.1.dig ∧ x.2 < y.2) := by
  unfold ltD
  by_cases h : x.1.dig = y.1.dig
  · rw [if_pos h, h, co_self]; simp
  · rw [if_neg h, less_iff]; simp [h]
theorem ltD_not (x y : CidOf × Int) : ltD x y = false ↔ Lib.compareBytes y.1.dig x.1.dig < 0 ∨ (x.1.dig = y.1.dig ∧ y.2 ≤ x.2) := by
  rw [← Bool.not_eq_true, ltD_iff]
  have h := co_neg x.1.dig y.1.dig
  have v := co_vals x.1.dig y.1.dig
  constructor
  · intro hn
    by_cases e : x.1.dig = y.1.dig
    · exact .inr ⟨e, by have : ¬ x.2 < y.2 := fun h' => hn (.inr ⟨e, h'⟩); omega⟩
    · have e' : Lib.compareBytes x.1.dig y.1.dig ≠ 0 := fun h' => e (co_eq _ _ h')
      have : ¬ Lib.compareBytes x.1.dig y.1.dig < 0 := fun h' => hn (.inl h')
      exact .inl (by omega)
  · rintro (h1 | ⟨e, h1⟩) (h2 | ⟨e', h2⟩)
    · omega
    · rw [e', co_self] at h1; omega
    · rw [e, co_self] at h2; omega
    · omega
theorem ltD_swo : SWO ltD where
  irrefl x := by rw [ltD_not]; exact .inr ⟨rfl, Int.le_refl _⟩
  trans x y z h1 h2 := by
    rw [ltD_iff] at h1 h2 ⊢
    rcases h1 with h1 | ⟨e1, h1⟩ <;> rcases h2 with h2 | ⟨e2, h2⟩
    · exact .inl (co_lt_trans h1 (by omega))
    · rw [e2] at h1; exact .inl h1
    · rw [← e1] at h2; exact .inl h2
    · exact .inr ⟨e1.trans e2, by omega⟩
  ntrans x y z h1 h2 := by
    rw [ltD_not] at h1 h2 ⊢
    rcases h1 with h1 | ⟨e1, h1⟩ <;> rcases h2 with h2 | ⟨e2, h2⟩
    · exact .inl (co_lt_trans h2 (by omega))
    · rw [e2] at h1; exact .inl h1
    · rw [← e1] at h2; exact .inl h2
    · exact .inr ⟨e1.trans e2, by omega⟩
theorem sortedD_of {d : Array (CidOf × Int)} (h : SortedIn ltD 0 d.size d) : SortedD d.toList := by
  refine List.pairwise_iff_getElem.2 fun i j hi hj hij => ?_
  have hi' : i < d.size := by simpa using hi
  have hj' : j < d.size := by simpa using hj
  have := h i j (Nat.zero_le _) hij hj'
  rw [getElem!_pos d i hi', getElem!_pos d j hj', ltD_not] at this
  simp only [Array.getElem_toList]
  rcases this with h | ⟨e, _⟩
  · omega
  · rw [e, co_self]; omega
theorem perm_of {d d' : Array (CidOf × Int)} (h : PermIn 0 d.size d d') : d'.toList.Perm d.toList := by
  have := h.2.2
  rw [show d'.extract 0 d.size = d' by rw [← h.1]; simp, show d.extract 0 d.size = d by simp] at this
  exact this

theorem sofList (l : List UInt8) : (sOf l).toList = l := ByteArray.toList_mk l
theorem flatK_row (d : Array (CidOf × Int)) : (flatK EntCells 5 d).toList = entRow d.toList := by
  refine List.ext_getElem? fun t => ?_
  by_cases ht : t < d.size * 5
  · have hlen : t < (flatK EntCells 5 d).size := by rw [size_flatK]; exact ht
    have hd : t / 5 < d.size := by omega
    have h1 : (flatK EntCells 5 d).toList[t]? = some ((EntCells d[t / 5]!)[t % 5]!) := by
      rw [Array.getElem?_toList, Array.getElem?_eq_getElem hlen, ← getElem!_pos, get_flatK _ _ _ _ ht]
    have hx : d.toList[t / 5]? = some d[t / 5]! := by rw [Array.getElem?_toList, Array.getElem?_eq_getElem hd, getElem!_pos]
    have hv : (EntCells d[t / 5]!)[t % 5]? = some ((EntCells d[t / 5]!)[t % 5]!) := by
      have hl : t % 5 < (EntCells d[t / 5]!).length := by show t % 5 < 5; omega
      rw [List.getElem?_eq_getElem hl, getElem!_pos (EntCells d[t / 5]!) (t % 5) hl]
    have h2 := entRow_get hx hv
    rw [show t / 5 * 5 + t % 5 = t by omega] at h2
    rw [h1, h2]
  · rw [List.getElem?_eq_none (by simp; omega), List.getElem?_eq_none (by rw [entRow_len]; simp; omega)]
theorem holdsK_of {w : World} {g : Nat} {l : List (CidOf × Int)} {tail : List Value} {t : TypeId} (h : w.heap[g]? = some (.cells (entRow l ++ tail).toArray t (0, 0))) : HoldsK EntCells 5 w g 0 l.toArray := by
  intro j hj
  rw [size_flatK] at hj
  simp only [List.size_toArray] at hj
  have h0 : (entRow l)[j]? = some (flatK EntCells 5 l.toArray)[j]! := by
    have h1 := flatK_row l.toArray
    rw [show (l.toArray).toList = l from rfl] at h1
    rw [← h1, Array.getElem?_toList, Array.getElem?_eq_getElem (by rw [size_flatK]; simpa using hj), ← getElem!_pos (flatK EntCells 5 l.toArray) j (by rw [size_flatK]; simpa using hj)]
  refine ⟨?_, by rw [Nat.zero_add]; exact blk_free' h j⟩
  rw [Nat.zero_add, blk_cell' h, List.getElem?_toArray, List.getElem?_append_left (by rw [entRow_len]; omega), h0]; rfl
theorem heap_sortedK {w : World} {g n : Nat} {os : Array Obj} {l : List (CidOf × Int)} {tail : List Value} {t : TypeId} (d : Array (CidOf × Int)) (hd : d.size = l.length) (h : w.heap[g]? = some (.cells (entRow l ++ tail).toArray t (0, 0))) :
    (sortWorldK EntCells 5 w g 0 n d os).heap[g]? = some (.cells (entRow d.toList ++ tail).toArray t (0, 0)) := by
  have hg : g < w.heap.size := (Array.getElem?_eq_some_iff.1 h).1
  have e : putCells id 0 (flatK EntCells 5 d) (entRow l ++ tail).toArray = (entRow d.toList ++ tail).toArray := by
    have hl : (entRow d.toList).length = (entRow l).length := by rw [entRow_len, entRow_len]; simp [hd]
    have hf : (flatK EntCells 5 d).size = (entRow l).length := by rw [size_flatK, entRow_len, hd]
    refine Array.ext (by simp [putCells, hl]) fun i h1 h2 => ?_
    have hi : i < (entRow l ++ tail).length := by simpa [putCells] using h1
    by_cases hlt : i < (flatK EntCells 5 d).size
    · have hr : (entRow d.toList)[i]? = some (flatK EntCells 5 d)[i]! := by
        rw [← flatK_row, Array.getElem?_toList, Array.getElem?_eq_getElem hlt, getElem!_pos]
      have hi2 : i < (entRow d.toList).length := by omega
      rw [List.getElem?_eq_getElem hi2] at hr
      have hlt' : i < d.size * 5 := by rw [size_flatK] at hlt; exact hlt
      have hr' : (entRow d.toList)[i] = (flatK EntCells 5 d)[i]! := Option.some.inj hr
      simp only [putCells]
      simp [hlt', List.getElem_append_left hi2, hr']
    · have hge : (entRow l).length ≤ i := by omega
      have hge2 : (entRow d.toList).length ≤ i := by omega
      have hlt' : ¬ i < d.size * 5 := by rw [size_flatK] at hlt; exact hlt
      simp only [putCells]
      simp [hlt', List.getElem_append_right hge, List.getElem_append_right hge2, hl]
  unfold sortWorldK
  rw [heap_grow_old _ _ (by simpa [putRowK, putRow, mapBlock, Sort.ahead] using hg)]
  simp [putRowK, putRow, mapBlock, Sort.ahead, Array.getElem?_modify, h, onCells, e]
theorem kp_sortK (w : World) (g n : Nat) (os : Array Obj) (d : Array (CidOf × Int)) : Kp (fun i => i = g) w (sortWorldK EntCells 5 w g 0 n d os) := by
  refine ⟨rfl, rfl, rfl, by unfold sortWorldK; rw [size_grow, size_putRowK]; show w.heap.size ≤ w.heap.size + _; omega, fun i hi hne => ?_⟩
  unfold sortWorldK
  rw [heap_grow_old _ _ (by simpa [putRowK, putRow, mapBlock, Sort.ahead] using hi)]
  have : ¬ g = i := fun e => hne e.symm
  simp [putRowK, putRow, mapBlock, Sort.ahead, Array.getElem?_modify, this]

set_option maxRecDepth 100000 in
set_option maxHeartbeats 3200000 in
theorem less_digest (g vb cap n : Nat) (W : World) (dk : Array (CidOf × Int)) (hn : dk.size = n) (i j : Nat) (hi : i < n) (hj : j < n) (hn6 : n ≤ 1000000) (hv : W.cell? ⟨vb, 0, none⟩ = some (.slice (some ⟨g, 0, none⟩) n cap)) (hH : HoldsK EntCells 5 W g 0 dk) (hvg : vb ≠ g) :
    Calls Tryz.prog 100 #[.int .i64 (i : Int), .int .i64 (j : Int), .pointer (some ⟨vb, 0, none⟩)] W fun e w' => e = .returned (.bool (ltD dk[i]! dk[j]!)) ∧ SWK EntCells 5 W g 0 dk w' := by
  subst hn
  have hcell : ∀ x, x < dk.size → ∀ c, c < 5 → W.cell? ⟨g, x * 5 + c, none⟩ = some (EntCells dk[x]!)[c]! := fun x hx c hc => by
    have := (hH.cell hx hc).1
    rwa [Nat.zero_add] at this
  have i0 := hcell i hi 0 (by omega); have i1 := hcell i hi 1 (by omega); have i2 := hcell i hi 2 (by omega); have i3 := hcell i hi 3 (by omega); have i4 := hcell i hi 4 (by omega)
  have j0 := hcell j hj 0 (by omega); have j1 := hcell j hj 1 (by omega); have j2 := hcell j hj 2 (by omega); have j3 := hcell j hj 3 (by omega); have j4 := hcell j hj 4 (by omega)
  rw [Nat.add_zero] at i0 j0
  generalize hx : dk[i]! = x at *
  generalize hy : dk[j]! = y at *
  simp only [EntCells] at i0 i1 i2 i3 i4 j0 j1 j2 j3 j4
  have hS0 := SWK.start hH
  have HS := Lib.hid hS0
  have hglt : g < W.heap.size := World.block_lt_of_cell? W _ i0
  have hvlt : vb < W.heap.size := World.block_lt_of_cell? W _ hv
  clear hcell hS0 hH hx hy
  go_enter Tryz.func100, Tryz.ntmps100
  go_wp2_with fail
  go_region
  all_goals clear i0 i1 i2 i3 i4 j0 j1 j2 j3 j4
  all_goals go_wp2_with fail
  all_goals
    go_ret
    rename_i hcmp
    refine ⟨?_, ?_⟩
    · simp only [sofList] at hcmp ⊢
      first
        | (have he : x.1.dig = y.1.dig := (by simpa using hcmp)
           have h : ltD x y = decide (x.2 < y.2) := (by unfold ltD; rw [if_pos he])
           rw [h]; rfl)
        | (have he : ¬ x.1.dig = y.1.dig := (by simpa using hcmp)
           have h : ltD x y = Op.bytesLess x.1.dig y.1.dig := (by unfold ltD; rw [if_neg he])
           rw [h]; rfl)
    · exact ((HS.out.alloc _).alloc _).drewN 1

/-- sort.SliceStable by digests, of any number. -/
noncomputable def entE : TypeInfo := (Tryz.prog.info? 37).get (by kernel_rfl)
theorem entK (n : Nat) (h2 : 2 ≤ n) : Lib.swapperK n entE 25 = 9 := by
  have a : entE.hasPointers = true := by kernel_rfl
  have b : entE.bytes = 48 := by kernel_rfl
  have c : (n == 0) = false := by simp; omega
  have d : (n == 1) = false := by simp; omega
  simp [Lib.swapperK, a, b, c, d]
theorem stable_ents (most : Nat) (hm : most ≤ 1000000) : StableEnts most := by
  intro g cap vb l tail w hl hg hv
  by_cases h1 : l.length ≤ 1
  · exact stable_one g cap vb l tail w h1 hg hv
  have h2 : 2 ≤ l.length := by omega
  have hglt := (Array.getElem?_eq_some_iff.1 hg).1
  have hvlt := World.block_lt_of_cell? w _ hv
  have hvg : vb ≠ g := by
    intro e
    subst e
    have h0 := (holdsK_of hg).cell (i := 0) (c := 0) (by simp; omega) (by omega)
    rw [Nat.zero_mul] at h0
    have := h0.1
    rw [hv] at this
    simp [EntCells] at this
  have hF : ∀ W (d : Array (CidOf × Int)), d.size = l.length → SWK EntCells 5 w g 0 d W → HoldsK EntCells 5 W g 0 d := fun W d hs h => h.holds hglt (holdsK_of hg) (by simpa using hs)
  have hless : LessG 100 #[.pointer (some ⟨vb, 0, none⟩)] EntCells 5 ltD g 0 l.length w := by
    intro dk W hs hS i j hi hj
    exact less_digest g vb cap l.length W dk hs i j hi hj (by omega) (swk_cell hS hv hvg) (hF W dk hs hS) hvg
  have hH := holdsK_of hg
  have hB : sliceBound Tryz.prog 37 entE 25 (some ⟨g, 0, none⟩) l.length cap = #[.slice (some ⟨g, 0, none⟩) l.length cap, typeHandle Tryz.prog 37] := by
    unfold sliceBound; rw [if_neg (swapperK_gt _ _ _ h2)]
  have hSW : SWK EntCells 5 w g 0 l.toArray (stableWorld Tryz.prog Tryz.laysGt8_ren 22 (some ⟨g, 0, none⟩) l.length cap w) := ((SWK.start hH).alloc _).alloc _
  have hFam : Fam EntCells 5 ltD 100 #[.pointer (some ⟨vb, 0, none⟩)] g 0 l.length l.toArray (stableWorld Tryz.prog Tryz.laysGt8_ren 22 (some ⟨g, 0, none⟩) l.length cap w) :=
    ⟨lessG_on hless hSW hglt (by simp), hF _ _ (by simp) hSW, hSW.lt hglt, by simp⟩
  have hswap := swapSwapsK_of_literal (P := Tryz.prog) false 52 (fun args W => run_callFunc_extern Tryz.func52 (by kernel_rfl) (by kernel_rfl) (by kernel_rfl) (e := Extern.ReflectliteSwapper.swap false) (by kernel_rfl) args W) 37 entE (by kernel_rfl) EntCells 5 (fun _ => rfl) (by kernel_rfl) (fun _ => by kernel_rfl) (fun x v hv => ent_one x v hv) g 0 l.length cap
  have hSt := stable_ok EntCells 5 (fun _ => rfl) ltD ltD_swo 100 #[.pointer (some ⟨vb, 0, none⟩)] 52 _ g 0 l.length (enters_of Tryz.func100 (by kernel_rfl) rfl) hswap (by omega) l.toArray _ hFam
  have hR := Any.sort_SliceStable_of_stable Tryz.laysGt8 22 37 entsT entE (by kernel_rfl) (by kernel_rfl) (by kernel_rfl) (by kernel_rfl) 25 (fun w => by kernel_rfl) (some ⟨g, 0, none⟩) l.length cap (by omega) 52 (by rw [entK _ h2]; kernel_rfl) (.func 100) #[] #[.pointer (some ⟨vb, 0, none⟩)] w
    (fun w' => ∃ l' : List (CidOf × Int), l'.Perm l ∧ SortedD l' ∧ w'.heap[g]? = some (.cells (entRow l' ++ tail).toArray 37 (0, 0)) ∧ Kp (fun i => i = g) w w') (by
      rw [hB]
      refine hSt.mono ?_
      rintro e w' ⟨rfl, d', hS, hP, hSo⟩
      obtain ⟨n, os, rfl⟩ := swk_trans hSW hS hglt (by rw [hP.1])
      have hds : d'.size = l.length := by simpa using hP.1
      refine ⟨rfl, d'.toList, by simpa using perm_of (d := l.toArray) (by simpa using hP), sortedD_of (by rw [hds]; exact hSo), heap_sortedK d' hds hg, kp_sortK w g n os d'⟩)
  exact hR
end Go.Proofs.YtnhhhjnhmbhdgaaGreatDoor

/- spec.IndexBytes of any entries: no entries. -/
namespace Go.Proofs.YtnhhhjnhmbhdgaaGreatDoor
open Go.RowKit
set_option linter.unusedVariables false
set_option linter.unusedSimpArgs false
attribute [local go_sem] setCell_drewN alloc_drewN

set_option maxRecDepth 100000 in
set_option maxHeartbeats 1600000 in
theorem ByDigest_empty (A : Option Addr) (cap : Nat) (hA : A = none → cap = 0) (w : World) :
    Calls Tryz.prog 76 #[.slice A 0 cap] w fun e w' => ∃ g c, e = .returned (.slice (some ⟨g, 0, none⟩) 0 c) ∧ Below w.heap.size w w' := by
  obtain ⟨i0, hi, hz0, hz1, hz2⟩ := info_parts entInfo0
  have hmf : ∀ (fn : Fn) (first cap : Array Value) (w : World), (Instr.makeFunc fn first cap).run Tryz.prog w = .ok (.func fn first cap) w := fun _ _ _ _ => rfl
  have hO0 : (w.alloc (.cells #[] 37)).ownsRow w.heap.size 37 5 (.slice (some ⟨w.heap.size, 0, none⟩) 0 0) 0 [] := ⟨rfl, .inr ⟨_, 0, #[], rfl, Nat.le_refl _, heap_alloc_new w _, Nat.le_refl _, by unfold maxLen; omega, rfl, rfl⟩⟩
  go_enter Tryz.func76, Tryz.ntmps76
  go_wp2_with (at_builtin; refine later ?_)
  cases A with
  | none =>
    obtain rfl := hA rfl
    refine now ?_
    refine wpList_append_own_none rfl _ _ 22 rfl w.heap.size 37 i0 5 Tryz.underlying22 hi _ _ _ rfl hO0 rfl ?_
    obtain ⟨w2, hw2⟩ : ∃ w2, w2 = w.alloc (.cells #[] 37) := ⟨_, rfl⟩
    have hB2 : Below w.heap.size w w2 := by rw [hw2]; exact below_boxed w _
    have hgc : w2.heap[w.heap.size]? = some (.cells #[] 37 (0, 0)) := by rw [hw2]; exact heap_alloc_new w _
    have hz2 : w.heap.size < w2.heap.size := (Array.getElem?_eq_some_iff.1 hgc).1
    rw [← hw2]
    clear hO0 hw2
    have hg3 : (w2.alloc (.cells #[.slice (some ⟨w.heap.size, 0, none⟩) 0 0] 22)).heap[w.heap.size]? = some (.cells (entRow [] ++ (#[] : Array Value).toList).toArray 37 (0, 0)) := (heap_alloc_old w2 _ (Array.getElem?_eq_some_iff.1 hgc).1).trans (by simpa [entRow] using hgc)
    have hbox := heap_alloc_new w2 (.cells #[.slice (some ⟨w.heap.size, 0, none⟩) 0 0] 22)
    have hS := stable_one w.heap.size 0 w2.heap.size [] (#[] : Array Value).toList _ (by simp) hg3 (blk_cell' hbox 0)
    go_wp2_with fail
    refine hS.mono ?_
    rintro e w3 ⟨rfl, l', hp, hsd, hg', hK⟩
    have hb3 := (hK.block w2.heap.size (by simp) (by omega)).trans hbox
    have k1 := (blk_cell' hb3 0).trans (show _ = some (Value.slice (some ⟨w.heap.size, 0, none⟩) 0 0) from rfl)
    have hB3 : Below w.heap.size w w3 := (below_box hB2 _).trans ⟨hK.os, hK.tape, hK.output, hK.size, fun i hi => hK.block i (by have := hB2.size; simp; omega) (by omega)⟩
    clear hS hK hg' hg3 hbox
    go_wp2_with fail
    go_ret
    exact ⟨_, _, rfl, hB3⟩
  | some ad =>
    refine now ?_
    refine wpList_append_own_at _ rfl _ _ 22 rfl w.heap.size 37 i0 _ 5 48 Tryz.underlying22 hi hz0 hz1 hz2 rfl (by decide) _ _ _ rfl hO0 ad 0 cap [] rfl rfl (fun j u h => by simp at h) (fun u h => by simp at h) (by unfold maxLen; omega) (by omega) (by simp) ?_
    intro v' w2 hown hgrow hnn hloc
    have hB2 : Below w.heap.size w w2 := (below_boxed w _).trans ⟨hgrow.os, hgrow.tape, hgrow.output, hgrow.size, fun i hi => hgrow.block i (by simp; omega) (fun e => by have e' : some i = some w.heap.size := e; cases e'; omega)⟩
    obtain ⟨g, cap2, cur, rfl, hge, hgc⟩ : ∃ g cap cur, v' = .slice (some ⟨g, 0, none⟩) 0 cap ∧ w.heap.size ≤ g ∧ w2.heap[g]? = some (.cells cur 37 (0, 0)) := by
      rcases hown.2 with ⟨h, _⟩ | ⟨g, cap, cur, h1, h2, h3, _⟩
      · have := (hnn.1 h).1; cases this
      · exact ⟨g, cap, cur, h1, h2, h3⟩
    have hglt := (Array.getElem?_eq_some_iff.1 hgc).1
    have hg3 : (w2.alloc (.cells #[.slice (some ⟨g, 0, none⟩) 0 cap2] 22)).heap[g]? = some (.cells (entRow [] ++ cur.toList).toArray 37 (0, 0)) := (heap_alloc_old w2 _ hglt).trans (by simpa [entRow] using hgc)
    have hbox := heap_alloc_new w2 (.cells #[.slice (some ⟨g, 0, none⟩) 0 cap2] 22)
    have hS := stable_one g cap2 w2.heap.size [] cur.toList _ (by simp) hg3 (blk_cell' hbox 0)
    clear hown hgrow hnn hloc hO0
    go_wp2_with fail
    refine hS.mono ?_
    rintro e w3 ⟨rfl, l', hp, hsd, hg', hK⟩
    have hb3 := (hK.block w2.heap.size (by simp) (by omega)).trans hbox
    have k1 := (blk_cell' hb3 0).trans (show _ = some (Value.slice (some ⟨g, 0, none⟩) 0 cap2) from rfl)
    have hB3 : Below w.heap.size w w3 := (below_box hB2 _).trans ⟨hK.os, hK.tape, hK.output, hK.size, fun i hi => hK.block i (by have := hB2.size; simp; omega) (by omega)⟩
    clear hS hK hg' hg3 hbox
    go_wp2_with fail
    go_ret
    exact ⟨_, _, rfl, hB3⟩

set_option maxRecDepth 100000 in
set_option maxHeartbeats 1600000 in
theorem sortedBytes_empty (B : Nat) (v : Value) (ob : List UInt8) (A : Option Addr) (cap : Nat) (hA : A = none → cap = 0) (w : World) (hob : ob.length ≤ 900000000000) (hB : B ≤ w.heap.size) (hv : RowU w B v ob) :
    Calls Tryz.prog 37 #[v, .slice A 0 cap] w fun e w' => ∃ v', e = .returned v' ∧ RowU w' B v' (ob ++ sortedSpec [] []) ∧ AppK w w' v v' := by
  have hWid := Widths_ok [] A cap w (.inl rfl) (by simp) (by simp) (by simp)
  have hs0 : sortN (widthsOf []) = [] := by simp [widthsOf, sortN]
  rw [hs0] at hWid
  go_enter Tryz.func37, Tryz.ntmps37
  go_wp2_with fail
  refine hWid.mono ?_
  rintro e w2 ⟨vW, rfl, hI2, hB2⟩
  obtain ⟨pW, cW, rfl⟩ : ∃ p c, vW = .slice p 0 c := by
    rcases hI2.2 with ⟨h, _⟩ | ⟨g, c, _, h, _⟩
    · exact ⟨none, 0, h⟩
    · exact ⟨_, c, h⟩
  have hz2 := hB2.size
  have hl1 := low_ok B 0 4 v ob (by omega) (by omega) (by omega) w2 (by omega) (hv.keep hB2)
  clear hWid
  go_wp2_with fail
  refine hl1.mono ?_
  clear hl1
  rintro e w3 ⟨v2, rfl, hV3, hA3⟩
  have hA03 : AppK w w3 v v2 := AppK.trans ⟨Kp.of_below hB2, .inl rfl⟩ hA3
  have hBy := ByDigest_empty A cap hA w3
  go_wp2_with fail
  refine hBy.mono ?_
  clear hBy
  rintro e w4 ⟨g, c, rfl, hB4⟩
  have hV4 := hV3.keep hB4
  have hA04 : AppK w w4 v v2 := AppK.trans hA03 ⟨Kp.of_below hB4, .inl rfl⟩
  clear hV3 hA03 hI2 hv hA3
  go_wp2_with fail
  refine wp_loop_rounds 1 ?_
  rw [rounds_succ]
  go_wp2_with fail
  go_ret
  refine ⟨v2, rfl, ?_, hA04⟩
  have e0 : ob ++ sortedSpec [] [] = ob ++ Lib.leBytes 4 0 := by simp [sortedSpec, widthsOf, sortN]
  rw [e0]
  exact hV4
end Go.Proofs.YtnhhhjnhmbhdgaaGreatDoor
