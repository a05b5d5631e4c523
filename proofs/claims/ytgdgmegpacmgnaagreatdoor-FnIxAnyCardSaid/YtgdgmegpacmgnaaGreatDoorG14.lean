import Derived.Test.YtgdgmegpacmgnaaGreatDoorG13
import Derived.Test.YtgdgmegpacmgnaaGreatDoorShelf
import Derived.Lib.Bytealg
import Derived.Sort.LotA
import Derived.Test.YtgdgmegpacmgnaaGreatDoorG00
/- The stable sort of elements of k cells: symMerge_func in general. -/
namespace Go.Proofs.YtgdgmegpacmgnaaGreatDoor
open Go.Shelf Go.RowKit Go.Lib Go.Sort
set_option linter.unusedVariables false
set_option linter.unusedSimpArgs false
set_option linter.unusedSectionVars false
attribute [local go_sem] setCell_drewN alloc_drewN
variable {α : Type} [Inhabited α]

set_option maxHeartbeats 6400000 in
set_option maxRecDepth 100000 in
theorem symMerge_ok (enc : α → List Value) (k : Nat) (hk : ∀ x, (enc x).length = k) (lt : α → α → Bool) (hO : SWO lt) (g : Nat) (lb : Array Value) (sf : Nat) (sb : Array Value) (blk off N : Nat)
    (eg : ∀ args w, (callFunc g args).run Tryz.prog w = .ok (.enter g args) w) (hswap : SwapSwapsK Tryz.prog sf sb enc k blk off N) (hsz : N < 4611686018427387904) :
    ∀ (fuel a m b : Nat) (d : Array α) (w : World), b - a ≤ fuel → Fam enc k lt g lb blk off N d w → a < m → m < b → b ≤ N → SortedIn lt a m d → SortedIn lt m b d →
    Calls Tryz.prog 118 #[.agg #[.func (.func g) #[] lb, .func (.func sf) #[] sb], .int .i64 a, .int .i64 m, .int .i64 b] w fun e w' => e = .returned (.tuple #[]) ∧ ∃ d', SWK enc k w blk off d' w' ∧ PermIn a b d d' ∧ SortedIn lt a b d' := by
  intro fuel
  induction fuel with
  | zero => intro a m b d w hf _ h1 h2; omega
  | succ fuel ih =>
    intro a m b d w hf hFam ham hmb hb hA hB
    obtain ⟨hless, hH, hblk, hN⟩ := hFam
    subst hN
    by_cases h1 : m = a + 1
    · exact symMerge_first enc k hk lt hO g lb sf sb blk off eg a m b d w h1 hless hswap hH hblk hmb hb hsz hB
    by_cases h2 : b = m + 1
    · exact symMerge_last enc k hk lt hO g lb sf sb blk off eg a m b d w h2 h1 hless hswap hH hblk ham hb hsz hA
    have hH1 := holdsK_alloc hH hblk (.cells #[.func (.func g) #[] lb, .func (.func sf) #[] sb] 185)
    have hb1 : blk < (w.alloc (.cells #[.func (.func g) #[] lb, .func (.func sf) #[] sb] 185)).heap.size := by simp; omega
    have hx0 : (w.alloc (.cells #[.func (.func g) #[] lb, .func (.func sf) #[] sb] 185)).cell? ⟨w.heap.size, 0, none⟩ = some (.func (.func g) #[] lb) := by simp
    have hx1 : (w.alloc (.cells #[.func (.func g) #[] lb, .func (.func sf) #[] sb] 185)).cell? ⟨w.heap.size, 1, none⟩ = some (.func (.func sf) #[] sb) := by simp
    have hl1 : LessG g lb enc k lt blk off d.size (w.alloc (.cells #[.func (.func g) #[] lb, .func (.func sf) #[] sb] 185)) := lessG_on hless ((SWK.start hH).alloc _) hblk rfl
    have HH := Lib.hid hH
    have hma : ((m : Int) - (a : Int) == 1) = false := by simp; omega
    have hbm : ((b : Int) - (m : Int) == 1) = false := by simp; omega
    obtain ⟨mid, hmid⟩ : ∃ mid, mid = (a + b) / 2 := ⟨_, rfl⟩
    obtain ⟨hsumM, hshM⟩ := half_facts hmid (by omega)
    have hmr : a < mid ∧ mid < b := by omega
    obtain ⟨s0, r0, hcase⟩ : ∃ s0 r0, (mid < m ∧ s0 = mid + m - b ∧ r0 = mid) ∨ (m ≤ mid ∧ s0 = a ∧ r0 = m) := by
      by_cases h : mid < m
      · exact ⟨_, _, .inl ⟨h, rfl, rfl⟩⟩
      · exact ⟨_, _, .inr ⟨by omega, rfl, rfl⟩⟩
    have hrange : a ≤ s0 ∧ s0 ≤ r0 ∧ r0 ≤ mid ∧ r0 ≤ m ∧ (∀ c, s0 ≤ c → c < r0 → a ≤ c ∧ c < m ∧ m ≤ mid + m - 1 - c ∧ mid + m - 1 - c < b) := by
      refine ⟨by omega, by omega, by omega, by omega, fun c h1 h2 => by omega⟩
    have hF : Falls (fun c => !lt d[mid + m - 1 - c]! d[c]!) s0 r0 := by
      intro c c' h1 h2 h3 e
      simp only [Bool.not_eq_true', Bool.not_eq_eq_eq_not, Bool.not_true] at e ⊢
      have r1 := hrange.2.2.2.2 c h1 (by omega)
      have r2 := hrange.2.2.2.2 c' (by omega) h3
      have g1 : lt d[mid + m - 1 - c]! d[mid + m - 1 - c']! = false := sortedF_le hO (f := fun t => d[t]!) hB (by omega) (by omega) (by omega)
      have g2 : lt d[c']! d[c]! = false := sortedF_le hO (f := fun t => d[t]!) hA (by omega) h2 (by omega)
      exact hO.ntrans _ _ _ g1 (hO.ntrans _ _ _ e g2)
    have hEND : ∀ i, s0 ≤ i → i ≤ r0 → (∀ c, s0 ≤ c → c < i → (!lt d[mid + m - 1 - c]! d[c]!) = true) → (∀ c, i ≤ c → c < r0 → (!lt d[mid + m - 1 - c]! d[c]!) = false) → ∀ d1 : Array α, (∀ t, d1[t]! = rotG (fun t => d[t]!) i m (mid + m - i) t) →
        SortedIn lt a i d1 ∧ SortedIn lt i mid d1 ∧ SortedIn lt mid (mid + m - i) d1 ∧ SortedIn lt (mid + m - i) b d1 ∧ ∀ x y, a ≤ x → x < mid → mid ≤ y → y < b → lt d1[y]! d1[x]! = false := by
      intro i hi1 hi2 hT hFa d1 hG
      obtain ⟨p1, p2, p3, p4⟩ := rot_parts (a := a) (m := m) (b := b) (mid := mid) (s := i) (f := fun t => d[t]!) hA hB (by omega) (by omega) (by omega) (by omega)
      refine ⟨sorted_fn p1 hG, sorted_fn p2 hG, sorted_fn p3 hG, sorted_fn p4 hG, fun x y h1 h2 h3 h4 => ?_⟩
      rw [hG x, hG y]
      exact cross hO (f := fun t => d[t]!) hA hB ham hmb hmid hcase hi1 hi2 (fun c h1 h2 => by simpa using hT c h1 h2) (fun c h1 h2 => by simpa using hFa c h1 h2) x y h1 h2 h3 h4
    have HE := Lib.hid hEND
    have HR := Lib.hid hrange.2.2.2.2
    have hra : a ≤ s0 ∧ s0 ≤ r0 ∧ r0 ≤ mid ∧ r0 ≤ m ∧ mid + m ≤ b + s0 := by omega
    have HM := Lib.hid hmid
    have HF0 := Lib.hid hF
    have hswap' := hswap
    clear hEND hrange hF hmid h1 h2 hH hless hA hB
    go_enter Tryz.func118, Tryz.ntmps118
    rcases hcase with ⟨hc1, hc2, hc3⟩ | ⟨hc1, hc2, hc3⟩
    · have hs0 : (mid : Int) + (m : Int) - (b : Int) = (s0 : Int) := by omega
      have HC := Lib.hid (And.intro hc2 hc3)
      clear hc2 hc3
      go_wp2
      go_loopw [18, 19] (fun vi vj wr => ∃ (i j : Nat), vi = .int .i64 (i : Int) ∧ vj = .int .i64 (j : Int) ∧ s0 ≤ i ∧ i ≤ j ∧ j ≤ r0 ∧ SWK enc k (w.alloc (.cells #[.func (.func g) #[] lb, .func (.func sf) #[] sb] 185)) blk off d wr ∧
        (∀ c, s0 ≤ c → c < i → (!lt d[mid + m - 1 - c]! d[c]!) = true) ∧ (∀ c, j ≤ c → c < r0 → (!lt d[mid + m - 1 - c]! d[c]!) = false)) (fun vi vj _ => (intOf vj).toNat - (intOf vi).toNat)
      case atStart => exact ⟨s0, r0, by have := HC.out; first | rfl | (congr 1; omega), by have := HC.out; first | rfl | (congr 1; omega), Nat.le_refl _, by omega, Nat.le_refl _, SWK.start hH1, fun c h1 h2 => by omega, fun c h1 h2 => by omega⟩
      case round =>
        obtain ⟨i, j, rfl, rfl, hmi, hij, hjb, hS, hT, hFa⟩ := hrel
        have c0 := swk_cell hS hx0 (by show w.heap.size ≠ blk; omega)
        have c1 := swk_cell hS hx1 (by show w.heap.size ≠ blk; omega)
        by_cases hlt : i < j
        · obtain ⟨h, hh⟩ : ∃ h, h = (i + j) / 2 := ⟨_, rfl⟩
          obtain ⟨hsum, hsh⟩ := half_facts hh (by omega)
          have hhr : i ≤ h ∧ h < j := by omega
          have hr := HR.out h (by omega) (by omega)
          have hl := hl1 d wr rfl hS (mid + m - 1 - h) h (by omega) (by omega)
          rw [show ((mid + m - 1 - h : Nat) : Int) = (mid : Int) + m - 1 - h by omega] at hl
          have HT := Lib.hid hT; have HF2 := Lib.hid hFa; have HS := Lib.hid hS
          clear hT hFa hh hS
          cases hv : lt d[mid + m - 1 - h]! d[h]! with
          | false =>
            rw [hv] at hl
            have HV : Hid ((!lt d[mid + m - 1 - h]! d[h]!) = true) := Lib.hid (by rw [hv]; rfl)
            clear hv
            go_wp2_with (go_at_fn g; refine hl.mono ?_; rintro e w' ⟨rfl, hq⟩)
            go_roundw
            case rel => exact ⟨h + 1, j, by go_num, rfl, by omega, by omega, hjb, swk_trans HS.out hq hb1 rfl, HF0.out.up (by omega) HV.out, HF2.out⟩
            case measure => simp [intOf]; omega
          | true =>
            rw [hv] at hl
            have HV : Hid ((!lt d[mid + m - 1 - h]! d[h]!) = false) := Lib.hid (by rw [hv]; rfl)
            clear hv
            go_wp2_with (go_at_fn g; refine hl.mono ?_; rintro e w' ⟨rfl, hq⟩)
            go_roundw
            case rel => exact ⟨i, h, rfl, rfl, by omega, by omega, by omega, swk_trans HS.out hq hb1 rfl, HT.out, HF0.out.down (by omega) HV.out⟩
            case measure => simp [intOf]; omega
        · obtain rfl : i = j := by omega
          obtain ⟨e, he⟩ : ∃ e, e = mid + m - i := ⟨_, rfl⟩
          have hE : ∀ d1 : Array α, (∀ t, d1[t]! = rotG (fun t => d[t]!) i m e t) → SortedIn lt a i d1 ∧ SortedIn lt i mid d1 ∧ SortedIn lt mid e d1 ∧ SortedIn lt e b d1 ∧ ∀ x y, a ≤ x → x < mid → mid ≤ y → y < b → lt d1[y]! d1[x]! = false := by
            rw [he]; exact fun d1 hG => HE.out i hmi hjb hT hFa d1 hG
          have HE1 := Lib.hid hE
          have hei : (mid : Int) + (m : Int) - (i : Int) = (e : Int) := by omega
          have FW : Fam enc k lt g lb blk off d.size d wr := ⟨lessG_on hl1 hS hb1 rfl, hS.holds hb1 hH1 rfl, hS.lt hb1, rfl⟩
          have hro : a ≤ i ∧ i ≤ mid ∧ i ≤ m ∧ mid ≤ e ∧ m ≤ e ∧ e ≤ b := by omega
          have HEE := Lib.hid he
          have HS := Lib.hid hS
          clear hE hT hFa hij he hS hra hl1 hH1
          by_cases hrot : i < m ∧ i < mid
          · obtain ⟨him, hid⟩ := hrot
            have hme : m < e := by have := HEE.out; omega
            have hde : mid < e := by have := HEE.out; omega
            have hRo := rotate_ok enc k hk (.func g) #[] lb sf sb blk off i m e d wr hswap FW.holds FW.blt him hme (by omega) hsz
            have HFW := Lib.hid FW
            clear FW
            go_wp2_with fail
            refine hRo.mono ?_
            clear hRo
            rintro e' w1 ⟨rfl, d1, hS1, hP1, hG1⟩
            have F1 := HFW.out.on hS1 hP1.1
            obtain ⟨q1, q2, q3, q4, qx⟩ := HE1.out d1 hG1
            have HP : Hid (PermIn a b d d1) := Lib.hid (permIn_mono _ _ _ _ _ _ (by omega) (by omega) (by omega) hP1)
            have hS1' := swk_trans HS.out hS1 hb1 hP1.1
            have c01 := swk_cell hS1' hx0 (by show w.heap.size ≠ blk; omega)
            have c11 := swk_cell hS1' hx1 (by show w.heap.size ≠ blk; omega)
            have HX := Lib.hid qx
            clear hS1 hP1 hG1 c0 c1 qx
            by_cases hai : a < i
            · have hM1 := ih a i mid d1 w1 (by omega) F1 hai hid (by omega) q1 q2
              have HQ := Lib.hid (And.intro F1 (And.intro q3 q4))
              have HS1 := Lib.hid hS1'
              clear F1 q1 q2 q3 q4 hS1'
              go_wp2_with fail
              refine hM1.mono ?_
              clear hM1
              rintro e' w2 ⟨rfl, d2, hS2, hP2, hs2⟩
              have hS2' := swk_trans HS1.out hS2 hb1 hP2.1
              have F2 := HQ.out.1.on hS2 hP2.1
              have c02 := swk_cell hS2' hx0 (by show w.heap.size ≠ blk; omega)
              have c12 := swk_cell hS2' hx1 (by show w.heap.size ≠ blk; omega)
              have q3' := sorted_other HQ.out.2.1 hP2 (.inr (Nat.le_refl _))
              have q4' := sorted_other HQ.out.2.2 hP2 (.inr (by omega))
              by_cases heb : e < b
              · have hM2 := ih mid e b d2 w2 (by omega) F2 hde heb (by omega) q3' q4'
                have HZ := Lib.hid (And.intro hS2' (And.intro hP2 hs2))
                clear F2 q3' q4' hS2' hS2 hP2 hs2 c01 c11
                go_wp2_with (refine hM2.mono ?_; clear hM2; rintro e' w3 ⟨rfl, d3, hS3, hP3, hs3⟩)
                go_end0
                exact ⟨rfl, d3, swk_of_alloc (swk_trans HZ.out.1 hS3 hb1 hP3.1) hblk HH.out (by rw [hP3.1, HZ.out.2.1.1, HP.out.1]), merge_fin (by omega) (by omega) hb HP.out HZ.out.2.1 hP3 HZ.out.2.2 hs3 HX.out⟩
              · obtain rfl : e = b := by omega
                have HZ := Lib.hid (And.intro hS2' (And.intro hP2 (And.intro hs2 q3')))
                clear F2 q3' q4' hS2' hS2 hP2 hs2 c01 c11
                go_wp2
                go_end0
                exact ⟨rfl, d2, swk_of_alloc HZ.out.1 hblk HH.out (by rw [HZ.out.2.1.1, HP.out.1]), merge_fin (by omega) (by omega) hb HP.out HZ.out.2.1 (permIn_refl _ _ _) HZ.out.2.2.1 HZ.out.2.2.2 HX.out⟩
            · obtain rfl : a = i := by omega
              by_cases heb : e < b
              · have hM2 := ih mid e b d1 w1 (by omega) F1 hde heb (by omega) q3 q4
                have HZ := Lib.hid (And.intro hS1' q2)
                clear F1 q1 q2 q3 q4 hS1'
                go_wp2_with (refine hM2.mono ?_; clear hM2; rintro e' w3 ⟨rfl, d3, hS3, hP3, hs3⟩)
                go_end0
                exact ⟨rfl, d3, swk_of_alloc (swk_trans HZ.out.1 hS3 hb1 hP3.1) hblk HH.out (by rw [hP3.1, HP.out.1]), merge_fin (by omega) (by omega) hb HP.out (permIn_refl _ _ _) hP3 HZ.out.2 hs3 HX.out⟩
              · obtain rfl : e = b := by omega
                have HZ := Lib.hid (And.intro hS1' (And.intro q2 q3))
                clear F1 q1 q2 q3 q4 hS1'
                go_wp2
                go_end0
                exact ⟨rfl, d1, swk_of_alloc HZ.out.1 hblk HH.out HP.out.1, merge_fin (by omega) (by omega) hb HP.out (permIn_refl _ _ _) (permIn_refl _ _ _) HZ.out.2.1 HZ.out.2.2 HX.out⟩
          · obtain ⟨q1, q2, q3, q4, qx⟩ := HE1.out d (fun t => rot_none (fun t => d[t]!) i m e t (by have := HEE.out; omega) hro.2.2.1 hro.2.2.2.2.1)
            have HX := Lib.hid qx
            by_cases him : i < m
            · obtain rfl : i = mid := by omega
              obtain rfl : e = m := by have := HEE.out; omega
              have hM2 := ih i e b d wr (by omega) FW (by omega) hmb (by omega) q3 q4
              have HZ := Lib.hid q1
              clear FW q1 q2 q3 q4 qx
              go_wp2_with (refine hM2.mono ?_; clear hM2; rintro e' w3 ⟨rfl, d3, hS3, hP3, hs3⟩)
              go_end0
              exact ⟨rfl, d3, swk_of_alloc (swk_trans HS.out hS3 hb1 hP3.1) hblk HH.out hP3.1, merge_fin (by omega) (by omega) hb (permIn_refl _ _ _) (permIn_refl _ _ _) hP3 HZ.out hs3 HX.out⟩
            · obtain rfl : i = m := by omega
              obtain rfl : e = mid := by have := HEE.out; omega
              by_cases hid : i < e
              · have hM1 := ih a i e d wr (by omega) FW ham hid (by omega) q1 q2
                have HZ := Lib.hid q4
                clear FW q1 q2 q3 q4 qx
                go_wp2_with (refine hM1.mono ?_; clear hM1; rintro e' w2 ⟨rfl, d2, hS2, hP2, hs2⟩)
                go_end0
                exact ⟨rfl, d2, swk_of_alloc (swk_trans HS.out hS2 hb1 hP2.1) hblk HH.out hP2.1, merge_fin (by omega) (by omega) hb (permIn_refl _ _ _) hP2 (permIn_refl _ _ _) hs2 (sorted_other HZ.out hP2 (.inr (Nat.le_refl _))) HX.out⟩
              · obtain rfl : i = e := by omega
                have HZ := Lib.hid (And.intro q1 q4)
                clear FW q1 q2 q3 q4 qx
                go_wp2
                go_end0
                exact ⟨rfl, d, swk_of_alloc HS.out hblk HH.out rfl, merge_fin (by omega) (by omega) hb (permIn_refl _ _ _) (permIn_refl _ _ _) (permIn_refl _ _ _) HZ.out.1 HZ.out.2 HX.out⟩
    · have HC := Lib.hid (And.intro hc2 hc3)
      have hc1' : ¬ mid < m := by omega
      clear hc2 hc3
      go_wp2
      go_loopw [18, 19] (fun vi vj wr => ∃ (i j : Nat), vi = .int .i64 (i : Int) ∧ vj = .int .i64 (j : Int) ∧ s0 ≤ i ∧ i ≤ j ∧ j ≤ r0 ∧ SWK enc k (w.alloc (.cells #[.func (.func g) #[] lb, .func (.func sf) #[] sb] 185)) blk off d wr ∧
        (∀ c, s0 ≤ c → c < i → (!lt d[mid + m - 1 - c]! d[c]!) = true) ∧ (∀ c, j ≤ c → c < r0 → (!lt d[mid + m - 1 - c]! d[c]!) = false)) (fun vi vj _ => (intOf vj).toNat - (intOf vi).toNat)
      case atStart => exact ⟨s0, r0, by have := HC.out; first | rfl | (congr 1; omega), by have := HC.out; first | rfl | (congr 1; omega), Nat.le_refl _, by omega, Nat.le_refl _, SWK.start hH1, fun c h1 h2 => by omega, fun c h1 h2 => by omega⟩
      case round =>
        obtain ⟨i, j, rfl, rfl, hmi, hij, hjb, hS, hT, hFa⟩ := hrel
        have c0 := swk_cell hS hx0 (by show w.heap.size ≠ blk; omega)
        have c1 := swk_cell hS hx1 (by show w.heap.size ≠ blk; omega)
        by_cases hlt : i < j
        · obtain ⟨h, hh⟩ : ∃ h, h = (i + j) / 2 := ⟨_, rfl⟩
          obtain ⟨hsum, hsh⟩ := half_facts hh (by omega)
          have hhr : i ≤ h ∧ h < j := by omega
          have hr := HR.out h (by omega) (by omega)
          have hl := hl1 d wr rfl hS (mid + m - 1 - h) h (by omega) (by omega)
          rw [show ((mid + m - 1 - h : Nat) : Int) = (mid : Int) + m - 1 - h by omega] at hl
          have HT := Lib.hid hT; have HF2 := Lib.hid hFa; have HS := Lib.hid hS
          clear hT hFa hh hS
          cases hv : lt d[mid + m - 1 - h]! d[h]! with
          | false =>
            rw [hv] at hl
            have HV : Hid ((!lt d[mid + m - 1 - h]! d[h]!) = true) := Lib.hid (by rw [hv]; rfl)
            clear hv
            go_wp2_with (go_at_fn g; refine hl.mono ?_; rintro e w' ⟨rfl, hq⟩)
            go_roundw
            case rel => exact ⟨h + 1, j, by go_num, rfl, by omega, by omega, hjb, swk_trans HS.out hq hb1 rfl, HF0.out.up (by omega) HV.out, HF2.out⟩
            case measure => simp [intOf]; omega
          | true =>
            rw [hv] at hl
            have HV : Hid ((!lt d[mid + m - 1 - h]! d[h]!) = false) := Lib.hid (by rw [hv]; rfl)
            clear hv
            go_wp2_with (go_at_fn g; refine hl.mono ?_; rintro e w' ⟨rfl, hq⟩)
            go_roundw
            case rel => exact ⟨i, h, rfl, rfl, by omega, by omega, by omega, swk_trans HS.out hq hb1 rfl, HT.out, HF0.out.down (by omega) HV.out⟩
            case measure => simp [intOf]; omega
        · obtain rfl : i = j := by omega
          obtain ⟨e, he⟩ : ∃ e, e = mid + m - i := ⟨_, rfl⟩
          have hE : ∀ d1 : Array α, (∀ t, d1[t]! = rotG (fun t => d[t]!) i m e t) → SortedIn lt a i d1 ∧ SortedIn lt i mid d1 ∧ SortedIn lt mid e d1 ∧ SortedIn lt e b d1 ∧ ∀ x y, a ≤ x → x < mid → mid ≤ y → y < b → lt d1[y]! d1[x]! = false := by
            rw [he]; exact fun d1 hG => HE.out i hmi hjb hT hFa d1 hG
          have HE1 := Lib.hid hE
          have hei : (mid : Int) + (m : Int) - (i : Int) = (e : Int) := by omega
          have FW : Fam enc k lt g lb blk off d.size d wr := ⟨lessG_on hl1 hS hb1 rfl, hS.holds hb1 hH1 rfl, hS.lt hb1, rfl⟩
          have hro : a ≤ i ∧ i ≤ mid ∧ i ≤ m ∧ mid ≤ e ∧ m ≤ e ∧ e ≤ b := by omega
          have HEE := Lib.hid he
          have HS := Lib.hid hS
          clear hE hT hFa hij he hS hra hl1 hH1
          by_cases hrot : i < m ∧ i < mid
          · obtain ⟨him, hid⟩ := hrot
            have hme : m < e := by have := HEE.out; omega
            have hde : mid < e := by have := HEE.out; omega
            have hRo := rotate_ok enc k hk (.func g) #[] lb sf sb blk off i m e d wr hswap FW.holds FW.blt him hme (by omega) hsz
            have HFW := Lib.hid FW
            clear FW
            go_wp2_with fail
            refine hRo.mono ?_
            clear hRo
            rintro e' w1 ⟨rfl, d1, hS1, hP1, hG1⟩
            have F1 := HFW.out.on hS1 hP1.1
            obtain ⟨q1, q2, q3, q4, qx⟩ := HE1.out d1 hG1
            have HP : Hid (PermIn a b d d1) := Lib.hid (permIn_mono _ _ _ _ _ _ (by omega) (by omega) (by omega) hP1)
            have hS1' := swk_trans HS.out hS1 hb1 hP1.1
            have c01 := swk_cell hS1' hx0 (by show w.heap.size ≠ blk; omega)
            have c11 := swk_cell hS1' hx1 (by show w.heap.size ≠ blk; omega)
            have HX := Lib.hid qx
            clear hS1 hP1 hG1 c0 c1 qx
            by_cases hai : a < i
            · have hM1 := ih a i mid d1 w1 (by omega) F1 hai hid (by omega) q1 q2
              have HQ := Lib.hid (And.intro F1 (And.intro q3 q4))
              have HS1 := Lib.hid hS1'
              clear F1 q1 q2 q3 q4 hS1'
              go_wp2_with fail
              refine hM1.mono ?_
              clear hM1
              rintro e' w2 ⟨rfl, d2, hS2, hP2, hs2⟩
              have hS2' := swk_trans HS1.out hS2 hb1 hP2.1
              have F2 := HQ.out.1.on hS2 hP2.1
              have c02 := swk_cell hS2' hx0 (by show w.heap.size ≠ blk; omega)
              have c12 := swk_cell hS2' hx1 (by show w.heap.size ≠ blk; omega)
              have q3' := sorted_other HQ.out.2.1 hP2 (.inr (Nat.le_refl _))
              have q4' := sorted_other HQ.out.2.2 hP2 (.inr (by omega))
              by_cases heb : e < b
              · have hM2 := ih mid e b d2 w2 (by omega) F2 hde heb (by omega) q3' q4'
                have HZ := Lib.hid (And.intro hS2' (And.intro hP2 hs2))
                clear F2 q3' q4' hS2' hS2 hP2 hs2 c01 c11
                go_wp2_with (refine hM2.mono ?_; clear hM2; rintro e' w3 ⟨rfl, d3, hS3, hP3, hs3⟩)
                go_end0
                exact ⟨rfl, d3, swk_of_alloc (swk_trans HZ.out.1 hS3 hb1 hP3.1) hblk HH.out (by rw [hP3.1, HZ.out.2.1.1, HP.out.1]), merge_fin (by omega) (by omega) hb HP.out HZ.out.2.1 hP3 HZ.out.2.2 hs3 HX.out⟩
              · obtain rfl : e = b := by omega
                have HZ := Lib.hid (And.intro hS2' (And.intro hP2 (And.intro hs2 q3')))
                clear F2 q3' q4' hS2' hS2 hP2 hs2 c01 c11
                go_wp2
                go_end0
                exact ⟨rfl, d2, swk_of_alloc HZ.out.1 hblk HH.out (by rw [HZ.out.2.1.1, HP.out.1]), merge_fin (by omega) (by omega) hb HP.out HZ.out.2.1 (permIn_refl _ _ _) HZ.out.2.2.1 HZ.out.2.2.2 HX.out⟩
            · obtain rfl : a = i := by omega
              by_cases heb : e < b
              · have hM2 := ih mid e b d1 w1 (by omega) F1 hde heb (by omega) q3 q4
                have HZ := Lib.hid (And.intro hS1' q2)
                clear F1 q1 q2 q3 q4 hS1'
                go_wp2_with (refine hM2.mono ?_; clear hM2; rintro e' w3 ⟨rfl, d3, hS3, hP3, hs3⟩)
                go_end0
                exact ⟨rfl, d3, swk_of_alloc (swk_trans HZ.out.1 hS3 hb1 hP3.1) hblk HH.out (by rw [hP3.1, HP.out.1]), merge_fin (by omega) (by omega) hb HP.out (permIn_refl _ _ _) hP3 HZ.out.2 hs3 HX.out⟩
              · obtain rfl : e = b := by omega
                have HZ := Lib.hid (And.intro hS1' (And.intro q2 q3))
                clear F1 q1 q2 q3 q4 hS1'
                go_wp2
                go_end0
                exact ⟨rfl, d1, swk_of_alloc HZ.out.1 hblk HH.out HP.out.1, merge_fin (by omega) (by omega) hb HP.out (permIn_refl _ _ _) (permIn_refl _ _ _) HZ.out.2.1 HZ.out.2.2 HX.out⟩
          · obtain ⟨q1, q2, q3, q4, qx⟩ := HE1.out d (fun t => rot_none (fun t => d[t]!) i m e t (by have := HEE.out; omega) hro.2.2.1 hro.2.2.2.2.1)
            have HX := Lib.hid qx
            by_cases him : i < m
            · obtain rfl : i = mid := by omega
              obtain rfl : e = m := by have := HEE.out; omega
              have hM2 := ih i e b d wr (by omega) FW (by omega) hmb (by omega) q3 q4
              have HZ := Lib.hid q1
              clear FW q1 q2 q3 q4 qx
              go_wp2_with (refine hM2.mono ?_; clear hM2; rintro e' w3 ⟨rfl, d3, hS3, hP3, hs3⟩)
              go_end0
              exact ⟨rfl, d3, swk_of_alloc (swk_trans HS.out hS3 hb1 hP3.1) hblk HH.out hP3.1, merge_fin (by omega) (by omega) hb (permIn_refl _ _ _) (permIn_refl _ _ _) hP3 HZ.out hs3 HX.out⟩
            · obtain rfl : i = m := by omega
              obtain rfl : e = mid := by have := HEE.out; omega
              by_cases hid : i < e
              · have hM1 := ih a i e d wr (by omega) FW ham hid (by omega) q1 q2
                have HZ := Lib.hid q4
                clear FW q1 q2 q3 q4 qx
                go_wp2_with (refine hM1.mono ?_; clear hM1; rintro e' w2 ⟨rfl, d2, hS2, hP2, hs2⟩)
                go_end0
                exact ⟨rfl, d2, swk_of_alloc (swk_trans HS.out hS2 hb1 hP2.1) hblk HH.out hP2.1, merge_fin (by omega) (by omega) hb (permIn_refl _ _ _) hP2 (permIn_refl _ _ _) hs2 (sorted_other HZ.out hP2 (.inr (Nat.le_refl _))) HX.out⟩
              · obtain rfl : i = e := by omega
                have HZ := Lib.hid (And.intro q1 q4)
                clear FW q1 q2 q3 q4 qx
                go_wp2
                go_end0
                exact ⟨rfl, d, swk_of_alloc HS.out hblk HH.out rfl, merge_fin (by omega) (by omega) hb (permIn_refl _ _ _) (permIn_refl _ _ _) (permIn_refl _ _ _) HZ.out.1 HZ.out.2 HX.out⟩
end Go.Proofs.YtgdgmegpacmgnaaGreatDoor

/- The stable sort of elements of k cells: stable_func. -/
namespace Go.Proofs.YtgdgmegpacmgnaaGreatDoor
open Go.Shelf Go.RowKit Go.Lib Go.Sort
set_option linter.unusedVariables false
set_option linter.unusedSimpArgs false
set_option linter.unusedSectionVars false
attribute [local go_sem] setCell_drewN alloc_drewN
variable {α : Type} [Inhabited α]

/-- Each block of so many elements is sorted. -/
def Blks (lt : α → α → Bool) (bs n : Nat) (d : Array α) : Prop := ∀ q, SortedIn lt (bs * q) (min (bs * q + bs) n) d

set_option maxHeartbeats 3200000 in
set_option maxRecDepth 100000 in
theorem insSort_ok (enc : α → List Value) (k : Nat) (hk : ∀ x, (enc x).length = k) (lt : α → α → Bool) (hO : SWO lt) (g : Nat) (lb : Array Value) (sf : Nat) (sb : Array Value) (blk off N : Nat)
    (eg : ∀ args w, (callFunc g args).run Tryz.prog w = .ok (.enter g args) w) (hswap : SwapSwapsK Tryz.prog sf sb enc k blk off N) (hsz : N < 4611686018427387904) (a b : Nat) (d : Array α) (w : World) (hF : Fam enc k lt g lb blk off N d w) (hab : a ≤ b) (hb : b ≤ N) :
    Calls Tryz.prog 103 #[.agg #[.func (.func g) #[] lb, .func (.func sf) #[] sb], .int .i64 a, .int .i64 b] w fun e w' => e = .returned (.tuple #[]) ∧ ∃ d', SWK enc k w blk off d' w' ∧ PermIn a b d d' ∧ SortedIn lt a b d' := by
  have hblk := hF.blt
  have hH := hF.holds
  have hx0 : (w.alloc (.cells #[.func (.func g) #[] lb, .func (.func sf) #[] sb] 185)).cell? ⟨w.heap.size, 0, none⟩ = some (.func (.func g) #[] lb) := by simp
  have hx1 : (w.alloc (.cells #[.func (.func g) #[] lb, .func (.func sf) #[] sb] 185)).cell? ⟨w.heap.size, 1, none⟩ = some (.func (.func sf) #[] sb) := by simp
  have hS0 : SWK enc k w blk off d (w.alloc (.cells #[.func (.func g) #[] lb, .func (.func sf) #[] sb] 185)) := (SWK.start hH).alloc _
  have hF1 := hF.on hS0 rfl
  have hl1 := hF1.less
  have hH1 := hF1.holds
  have hb1 := hF1.blt
  have hdN := hF.size
  have hbw : w.heap.size ≠ blk := by omega
  have hstart := SWK.start hF1.holds
  have HST := Lib.hid hstart
  have HH := Lib.hid hH
  obtain ⟨hspec1, hspec2⟩ := insertionSort_holds (lt := lt) hO d a b hab (by omega)
  have HSP := Lib.hid (And.intro hspec1 hspec2)
  subst hdN
  clear hF hF1 hS0 hstart hspec1 hspec2 hH
  go_enter Tryz.func103, Tryz.ntmps103
  go_wp2
  go_loopw [6] (fun vi wr => ∃ (i : Nat) (dk : Array α), vi = .int .i64 i ∧ a < i ∧ i ≤ b + 1 ∧ dk.size = d.size ∧ SWK enc k (w.alloc (.cells #[.func (.func g) #[] lb, .func (.func sf) #[] sb] 185)) blk off dk wr ∧ insOuter lt a b i dk = insOuter lt a b (a + 1) d) (fun vi _ => b + 1 - (intOf vi).toNat)
  case atStart => exact ⟨a + 1, d, by go_num, by omega, by omega, rfl, HST.out, rfl⟩
  case round =>
    obtain ⟨i, dk, rfl, hai, hib, hsk, hS, hOu⟩ := hrel
    have HO := Lib.hid hOu
    clear hOu
    by_cases hlt : i < b
    · obtain ⟨wo, rfl⟩ : ∃ wo, wo = wr := ⟨_, rfl⟩
      go_wp2_with fail
      go_loopw [7] (fun vj wr2 => ∃ (j : Nat) (dj : Array α), vj = .int .i64 j ∧ a ≤ j ∧ j ≤ i ∧ dj.size = d.size ∧ SWK enc k (w.alloc (.cells #[.func (.func g) #[] lb, .func (.func sf) #[] sb] 185)) blk off dj wr2 ∧ insInner lt a j dj = insInner lt a i dk) (fun vj _ => (intOf vj).toNat)
      case atStart => exact ⟨i, dk, rfl, by omega, Nat.le_refl _, hsk, hS, rfl⟩
      case round =>
        clear hS
        obtain ⟨j, dj, rfl, haj, hji, hsj, hS, hI⟩ := hrel
        have c0 := swk_cell hS hx0 hbw
        have HI := Lib.hid hI
        clear hI
        have out : (j ≤ a ∨ lt dj[j]! dj[j - 1]! = false) → ∀ w1, SWK enc k (w.alloc (.cells #[.func (.func g) #[] lb, .func (.func sf) #[] sb] 185)) blk off dj w1 → ∃ (i' : Nat) (dk' : Array α), Value.int .i64 ((i : Int) + 1) = .int .i64 (i' : Nat) ∧ a < i' ∧ i' ≤ b + 1 ∧ dk'.size = d.size ∧
            SWK enc k (w.alloc (.cells #[.func (.func g) #[] lb, .func (.func sf) #[] sb] 185)) blk off dk' w1 ∧ insOuter lt a b i' dk' = insOuter lt a b (a + 1) d := fun hs w1 hw1 =>
          ⟨i + 1, dj, by go_num, by omega, by omega, hsj, hw1, by rw [← HO.out, insOuter_go _ _ _ _ _ hlt, ← HI.out, insInner_stop _ _ _ _ hs]⟩
        have OUT := Lib.hid out
        clear out
        by_cases hja : a < j
        · have hl := hl1 dj wr hsj hS j (j - 1) (by omega) (by omega)
          rw [show (((j - 1 : Nat) : Int)) = (j : Int) - 1 by omega] at hl
          have HS := Lib.hid hS
          clear hS
          cases hv : lt dj[j]! dj[j - 1]! with
          | true =>
            rw [hv] at hl
            have HV := Lib.hid hv
            clear hv
            go_wp2_with fail
            go_at_fn g
            refine hl.mono ?_
            clear hl
            rintro e w' ⟨rfl, hq⟩
            have hS2 := swk_trans HS.out hq hb1 rfl
            have hHk := hS2.holds hb1 hH1 hsj
            have c1 := swk_cell hS2 hx1 hbw
            have hs := hswap w' dj hHk hsj j (j - 1) (by omega) (by omega)
            have hS3 := hS2.swap hk hb1 j (j - 1) (by omega) (by omega)
            have HX := Lib.hid hS3
            rw [show ((j - 1 : Nat) : Int) = (j : Int) - 1 by omega] at hs
            clear hS3 hS2 hHk hq c0
            go_wp2_with fail
            go_roundw
            case rel => exact ⟨j - 1, swp dj j (j - 1), by go_num, by omega, by omega, by rw [size_swp]; exact hsj, HX.out, by rw [← HI.out, insInner_go lt a j dj hja HV.out]⟩
            case measure => simp [intOf]; omega
          | false =>
            rw [hv] at hl
            have HV := Lib.hid hv
            clear hv
            go_wp2_with fail
            go_at_fn g
            refine hl.mono ?_
            clear hl
            rintro e w' ⟨rfl, hq⟩
            have HQ := Lib.hid (swk_trans HS.out hq hb1 rfl)
            clear hq
            go_wp2_with fail
            go_roundw
            case rel => exact OUT.out (Or.inr HV.out) _ HQ.out
            case measure => simp [intOf]; omega
        · have HS := Lib.hid hS
          clear hS
          go_wp2_with fail
          go_roundw
          case rel => exact OUT.out (Or.inl (by omega)) _ HS.out
          case measure => simp [intOf]; omega
    · have HS := Lib.hid hS
      clear hS
      go_wp2_with fail
      go_end0
      refine ⟨rfl, dk, swk_of_alloc HS.out hblk HH.out hsk, ?_⟩
      have e : Sort.insertionSort lt d a b = dk := by unfold Sort.insertionSort; rw [← HO.out, insOuter_stop _ _ _ _ _ hlt]
      rw [← e]
      exact HSP.out

set_option maxHeartbeats 6400000 in
set_option maxRecDepth 100000 in
theorem stable_ok (enc : α → List Value) (k : Nat) (hk : ∀ x, (enc x).length = k) (lt : α → α → Bool) (hO : SWO lt) (g : Nat) (lb : Array Value) (sf : Nat) (sb : Array Value) (blk off N : Nat)
    (eg : ∀ args w, (callFunc g args).run Tryz.prog w = .ok (.enter g args) w) (hswap : SwapSwapsK Tryz.prog sf sb enc k blk off N) (hsz : N < 1099511627776) (d : Array α) (w : World) (hF : Fam enc k lt g lb blk off N d w) :
    Calls Tryz.prog 92 #[.agg #[.func (.func g) #[] lb, .func (.func sf) #[] sb], .int .i64 N] w fun e w' => e = .returned (.tuple #[]) ∧ ∃ d', SWK enc k w blk off d' w' ∧ PermIn 0 N d d' ∧ SortedIn lt 0 N d' := by
  have hblk := hF.blt
  have hH := hF.holds
  have hx0 : (w.alloc (.cells #[.func (.func g) #[] lb, .func (.func sf) #[] sb] 185)).cell? ⟨w.heap.size, 0, none⟩ = some (.func (.func g) #[] lb) := by simp
  have hx1 : (w.alloc (.cells #[.func (.func g) #[] lb, .func (.func sf) #[] sb] 185)).cell? ⟨w.heap.size, 1, none⟩ = some (.func (.func sf) #[] sb) := by simp
  have hS0 : SWK enc k w blk off d (w.alloc (.cells #[.func (.func g) #[] lb, .func (.func sf) #[] sb] 185)) := (SWK.start hH).alloc _
  have hF1 := hF.on hS0 rfl
  have HF := Lib.hid hF1
  have HS0 := Lib.hid hH
  have hb1 := hF1.blt
  have hdN := hF.size
  have hins := fun a b (dk : Array α) wr (h : SWK enc k (w.alloc (.cells #[.func (.func g) #[] lb, .func (.func sf) #[] sb] 185)) blk off dk wr) (hs : dk.size = N) => insSort_ok enc k hk lt hO g lb sf sb blk off N eg hswap (by omega) a b dk wr (hF1.on h (hs.trans hdN.symm))
  have hmer := fun a m b (dk : Array α) wr (h : SWK enc k (w.alloc (.cells #[.func (.func g) #[] lb, .func (.func sf) #[] sb] 185)) blk off dk wr) (hs : dk.size = N) => symMerge_ok enc k hk lt hO g lb sf sb blk off N eg hswap (by omega) (b - a) a m b dk wr (Nat.le_refl _) (hF1.on h (hs.trans hdN.symm))
  have HI := Lib.hid hins; have HG := Lib.hid hmer
  have hbw : w.heap.size ≠ blk := by omega
  have hstart := SWK.start hF1.holds
  have HST := Lib.hid hstart
  clear hF hF1 hS0 hH hins hmer hstart
  go_enter Tryz.func92, Tryz.ntmps92
  go_wp2
  go_loopw [5, 6] (fun va vb wr => ∃ (q a b : Nat) (dk : Array α), a = 20 * q ∧ b = a + 20 ∧ va = .int .i64 (a : Int) ∧ vb = .int .i64 (b : Int) ∧ a ≤ N ∧ SWK enc k (w.alloc (.cells #[.func (.func g) #[] lb, .func (.func sf) #[] sb] 185)) blk off dk wr ∧ dk.size = N ∧ PermIn 0 N d dk ∧ ∀ q', q' < q → SortedIn lt (20 * q') (20 * q' + 20) dk) (fun va vb _ => N + 20 - (intOf va).toNat)
  case atStart => exact ⟨0, 0, 20, d, rfl, rfl, rfl, rfl, Nat.zero_le _, HST.out, hdN, permIn_refl _ _ _, fun q' h => by omega⟩
  case round =>
    obtain ⟨q, a, b, dk, ha, hba, rfl, rfl, haN, hS, hds, hP, hB⟩ := hrel
    have c0 := swk_cell hS hx0 hbw
    have c1 := swk_cell hS hx1 hbw
    have HX := Lib.hid (And.intro hS (And.intro hP hB))
    by_cases hbN : b ≤ N
    · have hC := HI.out a b dk wr hS hds (by omega) hbN
      have HA := Lib.hid (And.intro ha hba)
      clear hS hP hB ha hba
      go_wp2_with (refine hC.mono ?_; clear hC; rintro e w1 ⟨rfl, d1, hS1, hP1, hs1⟩)
      go_roundw
      case rel =>
        obtain ⟨ha, hba⟩ := HA.out
        exact ⟨q + 1, b, b + 20, d1, by omega, rfl, rfl, by go_num, hbN, swk_trans HX.out.1 hS1 hb1 hP1.1, hP1.1.trans hds, permIn_trans _ _ _ _ _ HX.out.2.1 (permIn_mono _ _ _ _ _ _ (Nat.zero_le _) hbN (by omega) hP1), fun q' h => by
          by_cases h' : q' < q
          · exact sorted_other (HX.out.2.2 q' h') hP1 (.inl (by omega))
          · obtain rfl : q' = q := by omega
            rw [← ha, ← hba]; exact hs1⟩
      case measure => have := HA.out; simp [intOf]; omega
    · have hC := HI.out a N dk wr hS hds haN (Nat.le_refl _)
      have HA := Lib.hid (And.intro ha hba)
      clear hS hP hB ha hba
      obtain ⟨wo, rfl⟩ : ∃ wo, wo = wr := ⟨_, rfl⟩
      go_wp2_with fail
      refine hC.mono ?_
      clear hC
      rintro e w1 ⟨rfl, d1, hS1, hP1, hs1⟩
      have hS1' := swk_trans HX.out.1 hS1 hb1 hP1.1
      have hd1 : d1.size = N := hP1.1.trans hds
      have hPd := permIn_trans _ _ _ _ _ HX.out.2.1 (permIn_mono _ _ _ _ _ _ (Nat.zero_le _) (Nat.le_refl _) (by omega) hP1)
      have hBl : Blks lt 20 N d1 := by
        obtain ⟨ha, hba⟩ := HA.out
        intro q'
        rcases Nat.lt_trichotomy q' q with h | h | h
        · rw [Nat.min_eq_left (by omega)]
          exact sorted_other (HX.out.2.2 q' h) hP1 (.inl (by omega))
        · subst h
          rw [Nat.min_eq_right (by omega), ← ha]; exact hs1
        · exact sorted_none (by omega)
      have HB := Lib.hid hBl; have HP := Lib.hid hPd
      have HS1 := Lib.hid hS1'
      clear hS1 hP1 hs1 hBl hPd hS1' c0 c1 HX HA
      have c0 := swk_cell HS1.out hx0 hbw
      have c1 := swk_cell HS1.out hx1 hbw
      go_wp2_with fail
      go_loopw [4] (fun v4 wr => ∃ (bs : Nat) (dk : Array α), v4 = .int .i64 (bs : Int) ∧ 20 ≤ bs ∧ bs ≤ 2 * N + 20 ∧ SWK enc k (w.alloc (.cells #[.func (.func g) #[] lb, .func (.func sf) #[] sb] 185)) blk off dk wr ∧ dk.size = N ∧ PermIn 0 N d dk ∧ Blks lt bs N dk) (fun v4 _ => 2 * N + 40 - (intOf v4).toNat)
      case atStart => exact ⟨20, d1, rfl, by omega, by omega, HS1.out, hd1, HP.out, HB.out⟩
      case round =>
        clear c0 c1
        obtain ⟨bs, dk, rfl, hb20, hbm, hS, hds2, hP, hB⟩ := hrel
        by_cases hlt : bs < N
        · obtain ⟨wo2, rfl⟩ : ∃ wo2, wo2 = wr := ⟨_, rfl⟩
          obtain ⟨D, hD⟩ : ∃ D, D = 2 * bs := ⟨_, rfl⟩
          have hDi : (2 : Int) * (bs : Int) = (D : Int) := by omega
          have hDj : (bs : Int) * 2 = (D : Int) := by omega
          have hDb : D < 2 * N := by omega
          have HD := Lib.hid hD
          clear hD
          go_wp2_with fail
          go_loopw [5, 6] (fun va vb wr => ∃ (q a b : Nat) (dk : Array α), a = D * q ∧ b = a + D ∧ va = .int .i64 (a : Int) ∧ vb = .int .i64 (b : Int) ∧ a ≤ N ∧ SWK enc k (w.alloc (.cells #[.func (.func g) #[] lb, .func (.func sf) #[] sb] 185)) blk off dk wr ∧ dk.size = N ∧ PermIn 0 N d dk ∧ (∀ q', q' < q → SortedIn lt (D * q') (D * q' + D) dk) ∧ ∀ q', 2 * q ≤ q' → SortedIn lt (bs * q') (min (bs * q' + bs) N) dk) (fun va vb _ => N + D - (intOf va).toNat)
          case atStart => exact ⟨0, 0, D, dk, by omega, by omega, rfl, rfl, Nat.zero_le _, hS, hds2, hP, fun q' h => by omega, fun q' h => hB q'⟩
          case round =>
            clear hS hP hB
            obtain ⟨q, a, b, dk, ha, hba, rfl, rfl, haN, hS, hds3, hP, hB, hR⟩ := hrel
            have c0 := swk_cell hS hx0 hbw
            have c1 := swk_cell hS hx1 hbw
            have hD := HD.out
            have e1 : bs * (2 * q) = a := by rw [ha, hD, Nat.mul_left_comm, Nat.mul_assoc]
            have e2 : bs * (2 * q + 1) = a + bs := by rw [Nat.mul_succ, e1]
            have g1 : SortedIn lt a (min (a + bs) N) dk := by have := hR (2 * q) (Nat.le_refl _); rwa [e1] at this
            have g2 : SortedIn lt (a + bs) (min (a + bs + bs) N) dk := by have := hR (2 * q + 1) (by omega); rwa [e2] at this
            have hmono : ∀ q' q'', q' < q'' → D * q' + D ≤ D * q'' := fun q' q'' h => by rw [← Nat.mul_succ]; exact Nat.mul_le_mul_left _ h
            have hnext : D * (q + 1) = b := by rw [Nat.mul_succ, ← ha, hba]
            have hfar : ∀ q', 2 * (q + 1) ≤ q' → b ≤ bs * q' := fun q' h => by
              have h1 : bs * (2 * (q + 1)) ≤ bs * q' := Nat.mul_le_mul_left _ h
              rw [Nat.mul_left_comm, ← Nat.mul_assoc, ← hD, hnext] at h1
              exact h1
            have HX := Lib.hid (And.intro hS (And.intro hP (And.intro hB hR)))
            have HA := Lib.hid (And.intro ha (And.intro hba (And.intro hmono (And.intro hnext hfar))))
            by_cases hbN : b ≤ N
            · rw [Nat.min_eq_left (by omega)] at g1
              rw [Nat.min_eq_left (by omega)] at g2
              have hC := HG.out a (a + bs) b dk wr hS hds3 (by omega) (by omega) hbN g1 (by rw [show b = a + bs + bs by omega]; exact g2)
              rw [show ((a + bs : Nat) : Int) = (a : Int) + (bs : Int) by omega] at hC
              have hbD : (b : Int) + (D : Int) < 9223372036854775808 := by omega
              clear hS hP hB hR ha hba hmono hnext hfar e1 e2 g1 g2 hD
              go_wp2_with (refine hC.mono ?_; clear hC; rintro e w1 ⟨rfl, d1, hS1, hP1, hs1⟩)
              go_roundw
              case rel =>
                obtain ⟨ha, hba, hmono, hnext, hfar⟩ := HA.out
                exact ⟨q + 1, b, b + D, d1, hnext.symm, rfl, rfl, by go_num, hbN, swk_trans HX.out.1 hS1 hb1 hP1.1, hP1.1.trans hds3, permIn_trans _ _ _ _ _ HX.out.2.1 (permIn_mono _ _ _ _ _ _ (Nat.zero_le _) hbN (by omega) hP1), fun q' h => by
                  by_cases h' : q' < q
                  · exact sorted_other (HX.out.2.2.1 q' h') hP1 (.inl (by have := hmono q' q h'; omega))
                  · obtain rfl : q' = q := by omega
                    rw [← ha, ← hba]; exact hs1, fun q' h => sorted_other (HX.out.2.2.2 q' (by omega)) hP1 (.inr (hfar q' h))⟩
              case measure => have := HA.out.2.1; have := HD.out; simp [intOf]; omega
            · rw [Nat.min_eq_right (a := a + bs + bs) (by omega)] at g2
              by_cases hm : a + bs < N
              · rw [Nat.min_eq_left (by omega)] at g1
                have hC := HG.out a (a + bs) N dk wr hS hds3 (by omega) hm (Nat.le_refl _) g1 g2
                rw [show ((a + bs : Nat) : Int) = (a : Int) + (bs : Int) by omega] at hC
                have hm' : (a : Int) + (bs : Int) < (N : Int) := by omega
                clear hS hP hB hR ha hba hmono hnext hfar e1 e2 g1 g2 hD
                go_wp2_with (refine hC.mono ?_; clear hC; rintro e w1 ⟨rfl, d1, hS1, hP1, hs1⟩)
                go_roundw
                case rel =>
                  obtain ⟨ha, hba, hmono, hnext, hfar⟩ := HA.out
                  have hD := HD.out
                  exact ⟨D, d1, rfl, by omega, by omega, swk_trans HX.out.1 hS1 hb1 hP1.1, hP1.1.trans hds3, permIn_trans _ _ _ _ _ HX.out.2.1 (permIn_mono _ _ _ _ _ _ (Nat.zero_le _) (Nat.le_refl _) (by omega) hP1), fun q' => by
                    rcases Nat.lt_trichotomy q' q with h | h | h
                    · have h1 := hmono q' q h
                      rw [Nat.min_eq_left (by omega)]
                      exact sorted_other (HX.out.2.2.1 q' h) hP1 (.inl (by omega))
                    · subst h
                      rw [Nat.min_eq_right (by omega), ← ha]; exact hs1
                    · have h1 := hmono q q' h
                      exact sorted_none (by omega)⟩
                case measure => have := HD.out; simp [intOf]; omega
              · rw [Nat.min_eq_right (by omega)] at g1
                have hm' : ¬ (a : Int) + (bs : Int) < (N : Int) := by omega
                have HG1 := Lib.hid g1
                clear hS hP hB hR ha hba hmono hnext hfar e1 e2 g1 g2 hD
                go_wp2_with fail
                go_roundw
                case rel =>
                  obtain ⟨ha, hba, hmono, hnext, hfar⟩ := HA.out
                  have hD := HD.out
                  exact ⟨D, dk, rfl, by omega, by omega, HX.out.1, hds3, HX.out.2.1, fun q' => by
                    rcases Nat.lt_trichotomy q' q with h | h | h
                    · have h1 := hmono q' q h
                      rw [Nat.min_eq_left (by omega)]
                      exact HX.out.2.2.1 q' h
                    · subst h
                      rw [Nat.min_eq_right (by omega), ← ha]; exact HG1.out
                    · have h1 := hmono q q' h
                      exact sorted_none (by omega)⟩
                case measure => have := HD.out; simp [intOf]; omega
        · have hB0 := hB 0
          rw [Nat.mul_zero, Nat.zero_add, Nat.min_eq_right (by omega)] at hB0
          have HX := Lib.hid (And.intro hS (And.intro hP hB0))
          clear hS hP hB hB0
          go_wp2_with fail
          go_end0
          exact ⟨rfl, dk, swk_of_alloc HX.out.1 hblk HS0.out (by omega), HX.out.2.1, HX.out.2.2⟩
end Go.Proofs.YtgdgmegpacmgnaaGreatDoor

/- The order of bytes, as a strict weak order. Plain. -/
namespace Go.Proofs.YtgdgmegpacmgnaaGreatDoor
open Go.Sort
set_option linter.unusedVariables false

theorem co_vals : ∀ a b : List UInt8, Lib.compareBytes a b = -1 ∨ Lib.compareBytes a b = 0 ∨ Lib.compareBytes a b = 1
  | [], [] => .inr (.inl rfl)
  | [], _ :: _ => .inl rfl
  | _ :: _, [] => .inr (.inr rfl)
  | a :: s, b :: u => by
    unfold Lib.compareBytes
    split
    · exact .inl rfl
    · split
      · exact .inr (.inr rfl)
      · exact co_vals s u

theorem co_neg : ∀ a b : List UInt8, Lib.compareBytes b a = - Lib.compareBytes a b
  | [], [] => rfl
  | [], _ :: _ => rfl
  | _ :: _, [] => rfl
  | a :: s, b :: u => by
    unfold Lib.compareBytes
    have ih := co_neg s u
    by_cases h1 : a < b
    · have h2 : ¬ b < a := by rw [UInt8.lt_iff_toNat_lt] at h1 ⊢; omega
      rw [if_neg h2, if_pos h1, if_pos h1]; rfl
    · by_cases h2 : b < a
      · rw [if_pos h2, if_neg h1, if_pos h2]
      · rw [if_neg h1, if_neg h2, if_neg h2, if_neg h1, ih]

theorem co_trans : ∀ a b c : List UInt8, Lib.compareBytes a b ≤ 0 → Lib.compareBytes b c ≤ 0 → Lib.compareBytes a c ≤ 0
  | [], b, [], _, _ => by decide
  | [], b, _ :: _, _, _ => by show (-1 : Int) ≤ 0; decide
  | a :: s, [], c, h, _ => by exact absurd h (by show ¬ (1 : Int) ≤ 0; decide)
  | a :: s, b :: u, [], _, h => by exact absurd h (by show ¬ (1 : Int) ≤ 0; decide)
  | a :: s, b :: u, c :: v, h1, h2 => by
    have ih := co_trans s u v
    unfold Lib.compareBytes at h1 h2 ⊢
    simp only [UInt8.lt_iff_toNat_lt] at h1 h2 ⊢
    by_cases p1 : a.toNat < c.toNat
    · rw [if_pos p1]; decide
    · rw [if_neg p1]
      by_cases p2 : c.toNat < a.toNat
      · exfalso
        by_cases q1 : a.toNat < b.toNat
        · rw [if_neg (by omega), if_pos (by omega)] at h2; exact absurd h2 (by decide)
        · rw [if_neg q1] at h1
          by_cases q2 : b.toNat < a.toNat
          · rw [if_pos q2] at h1; exact absurd h1 (by decide)
          · rw [if_neg (by omega), if_pos (by omega)] at h2; exact absurd h2 (by decide)
      · rw [if_neg p2]
        by_cases q1 : a.toNat < b.toNat
        · rw [if_neg (by omega), if_pos (by omega)] at h2; exact absurd h2 (by decide)
        · rw [if_neg q1] at h1
          by_cases q2 : b.toNat < a.toNat
          · rw [if_pos q2] at h1; exact absurd h1 (by decide)
          · rw [if_neg q2] at h1
            rw [if_neg (by omega), if_neg (by omega)] at h2
            exact ih h1 h2

theorem co_self : ∀ a : List UInt8, Lib.compareBytes a a = 0
  | [] => rfl
  | x :: a => by unfold Lib.compareBytes; simp [co_self a]
theorem co_eq : ∀ a b : List UInt8, Lib.compareBytes a b = 0 → a = b
  | [], [], _ => rfl
  | [], _ :: _, h => by exact absurd h (by show ¬ (-1 : Int) = 0; decide)
  | _ :: _, [], h => by exact absurd h (by show ¬ (1 : Int) = 0; decide)
  | a :: s, b :: u, h => by
    unfold Lib.compareBytes at h
    by_cases h1 : a < b
    · rw [if_pos h1] at h; exact absurd h (by decide)
    · rw [if_neg h1] at h
      by_cases h2 : b < a
      · rw [if_pos h2] at h; exact absurd h (by decide)
      · rw [if_neg h2] at h
        rw [co_eq s u h, show a = b from UInt8.toNat_inj.1 (by rw [UInt8.lt_iff_toNat_lt] at h1 h2; omega)]
theorem co_lt_trans {a b c : List UInt8} (h1 : Lib.compareBytes a b < 0) (h2 : Lib.compareBytes b c ≤ 0) : Lib.compareBytes a c < 0 := by
  have h := co_trans a b c (by omega) h2
  rcases Int.lt_or_eq_of_le h with h' | h'
  · exact h'
  · have e := co_eq a c h'
    subst e
    have := co_neg a b
    omega
theorem co_le_trans {a b c : List UInt8} (h1 : Lib.compareBytes a b ≤ 0) (h2 : Lib.compareBytes b c < 0) : Lib.compareBytes a c < 0 := by
  have h := co_trans a b c h1 (by omega)
  rcases Int.lt_or_eq_of_le h with h' | h'
  · exact h'
  · have e := co_eq a c h'
    subst e
    have := co_neg a b
    omega
theorem less_iff : ∀ (a b : List UInt8), Op.bytesLess a b = decide (Lib.compareBytes a b < 0)
  | [], [] => rfl
  | [], _ :: _ => rfl
  | _ :: _, [] => rfl
  | a :: x, b :: y => by
    unfold Lib.compareBytes
    by_cases h1 : a < b
    · simp [Op.bytesLess, h1]
    · by_cases h2 : b < a
      · have h3 : ¬ a = b := fun e => by subst e; exact h1 h2
        simp [Op.bytesLess, h1, h2, h3]
      · have e : a = b := UInt8.le_antisymm (UInt8.not_lt.1 h2) (UInt8.not_lt.1 h1)
        subst e
        simp [Op.bytesLess, h1, less_iff x y]
end Go.Proofs.YtgdgmegpacmgnaaGreatDoor
