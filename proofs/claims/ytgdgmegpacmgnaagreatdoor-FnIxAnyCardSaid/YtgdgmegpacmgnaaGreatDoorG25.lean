import Derived.Test.YtgdgmegpacmgnaaGreatDoorG24
import Derived.Test.YtgdgmegpacmgnaaGreatDoorG21
import Derived.Deep.CutBlock
import Derived.Deep.DeepCutAuto
/- slices.Sort of uint64: the partitions (printed by gen_pdq.py). -/
namespace Go.Proofs.YtgdgmegpacmgnaaGreatDoor
open Go.Shelf Go.RowKit Go.Lib Go.Sort
set_option linter.unusedVariables false
set_option linter.unusedSimpArgs false
attribute [local go_sem] setCell_drewN alloc_drewN

set_option maxHeartbeats 12800000 in
set_option maxRecDepth 100000 in
theorem part64 (g cap a b c : Nat) (d : Array Int) (w : World) (hH : Holds (Value.int .u64) w g 0 d) (hg : g < w.heap.size) (hab : a < b) (hb : b ≤ d.size) (hac : a ≤ c) (hcb : c < b) (hsz : d.size ≤ 1000000) :
    Calls Tryz.prog 235 #[.slice (some ⟨g, 0, none⟩) d.size cap, .int .i64 a, .int .i64 b, .int .i64 c] w fun e w' => ∃ (m : Nat) (v : Value) (d' : Array Int), e = .returned (.tuple #[.int .i64 (m : Int), v]) ∧ (v = .bool true ∨ v = .bool false) ∧ RowS .u64 w g d' w' ∧ a ≤ m ∧ m < b ∧ PermIn a b d d' ∧ (∀ t, a ≤ t → t < m → d'[t]! < d'[m]!) ∧ (∀ t, m < t → t < b → d'[m]! ≤ d'[t]!) := by
  have hS0 := SW.start hH
  have HH := Lib.hid hH
  have hls := less64
  obtain ⟨c1, f1⟩ := holdsN_cell hH (i := a) (by omega)
  obtain ⟨c2, f2⟩ := holdsN_cell hH (i := c) (by omega)
  have HSW := Lib.hid (swN hS0 hg (i := a) (j := c) (by omega) (by omega))
  obtain ⟨p, hp⟩ : ∃ p, p = d[c]! := ⟨_, rfl⟩
  have HP0 : Hid (PInv (fun x => ltI x p) p a b (a + 1) (b - 1) d (swp d a c)) := Lib.hid (by rw [hp]; exact PInv.start hab hb hac hcb)
  rw [← hp] at HSW c2
  have HPV := Lib.hid hp
  clear hS0 hH hp
  go_enter Tryz.func235, Tryz.ntmps235
  go_upto_region 1 with fail
  go_cut [12] (fun s12 wx => RowS .u64 w g (swp d a c) wx)
  case first =>
    by_cases hca : a = c
    · subst hca
      obtain rfl := HPV.out
      clear c2 f2 HP0 HPV
      generalize d[a]! = y at *
      go_region
      go_wp2_with fail
      go_meet
      exact SW.drewN HSW.out.1 _
    · have hn1 : a ≠ c := hca
      have hn2 : c ≠ a := fun e => hca e.symm
      generalize d[a]! = y at *
      go_region
      go_wp2_with fail
      go_meet
      exact SW.drewN HSW.out.1 _
  case rest =>
    have HS := Lib.hid hcut
    obtain ⟨dk, hdk⟩ : ∃ dk, dk = swp d a c := ⟨_, rfl⟩
    rw [← hdk] at HS HP0
    obtain ⟨i, hi⟩ : ∃ i, i = a + 1 := ⟨_, rfl⟩
    obtain ⟨j, hj⟩ : ∃ j, j = b - 1 := ⟨_, rfl⟩
    rw [← hi, ← hj] at HP0
    have hii : (a : Int) + 1 = (i : Int) := by omega
    have hjj : (b : Int) - 1 = (j : Int) := by omega
    have HP := HP0
    clear hcut hdk hi hj HP0 c1 c2 f1 f2 HSW
    obtain ⟨io, hio⟩ : ∃ io, io = i := ⟨_, rfl⟩
    have hio1 : io ≤ i := by omega
    have hio2 : i ≤ io := by omega
    clear hio
    go_upto_block 0 with fail
    go_cut [10] (fun s10 wx => ∃ i : Nat, s10 = .int .i64 (i : Int) ∧ PInv (fun x => ltI x p) p a b i j d dk ∧ (i ≤ j → (fun x => ltI x p) dk[i]! = false) ∧ RowS .u64 w g dk wx ∧ io ≤ i)
    case first =>
      go_wp2_with fail
      go_loopw [10] (fun vi wr => ∃ i : Nat, vi = .int .i64 (i : Int) ∧ PInv (fun x => ltI x p) p a b i j d dk ∧ RowS .u64 w g dk wr ∧ io ≤ i) (fun vi _ => j + 1 - (intOf vi).toNat)
      case atStart => exact ⟨i, rfl, HP.out, HS.out, by omega⟩
      case round =>
        obtain ⟨i, rfl, hP1, hS1, hbd⟩ := hrel
        have HP := Lib.hid hP1
        have HS := Lib.hid hS1
        have hb1 := hP1.jb
        have hb2 := hP1.ai
        have hb3 := hP1.ij
        have hb4 := hP1.size
        clear hP1 hS1
        by_cases hij : i ≤ j
        · have hgd : decide ((i : Int) ≤ (j : Int)) = true := by simp; omega
          have hHk := SW.holds HS.out hg HH.out HP.out.size
          obtain ⟨c1, f1⟩ := holdsN_cell hHk (i := i) (by omega)
          obtain ⟨c2, f2⟩ := holdsN_cell hHk (i := a) (by omega)
          rw [HP.out.piv] at c2
          have HX : Hid (∀ t, dk[i]! = t → dk[i]! = t) := Lib.hid (fun _ h => h)
          generalize hx : dk[i]! = x at c1
          have HXX := Lib.hid hx
          clear hHk hx
          go_wp2_with fail
          go_quiet ((go_at_call 233; exact Calls.quiet_of_same ((hls _ _ _).mono fun e w1 h => ⟨h.1, h.2.symm⟩)))
          cases hv : ltI x p with
          | true =>
            have HV : Hid ((fun x => ltI x p) dk[i]! = true) := Lib.hid (by rw [HXX.out]; simpa using hv)
            clear hv
            go_wp2_with fail
            go_roundw
            case rel => exact ⟨i + 1, by go_num, HP.out.up hij HV.out, SW.drewN HS.out _, by omega⟩
            case measure => first | (simp [intOf]; done) | (simp [intOf]; omega)
          | false =>
            have HV : Hid ((fun x => ltI x p) dk[i]! = false) := Lib.hid (by rw [HXX.out]; simpa using hv)
            clear hv
            go_wp2_with fail
            go_meet
            exact ⟨i, rfl, HP.out, fun _ => HV.out, SW.drewN HS.out _, hbd⟩
        · have hgd : decide ((i : Int) ≤ (j : Int)) = false := by simp; omega
          go_wp2_with fail
          go_quiet ((go_at_call 233; exact Calls.quiet_of_same ((hls _ _ _).mono fun e w1 h => ⟨h.1, h.2.symm⟩)))
          go_wp2_with fail
          go_meet
          exact ⟨i, rfl, HP.out, fun h => absurd h hij, SW.drewN HS.out _, hbd⟩
    case rest =>
      clear HP HS
      obtain ⟨i, rfl, hP, hst, hS, hbi⟩ := hcut
      obtain ⟨jo, hjo⟩ : ∃ jo, jo = j := ⟨_, rfl⟩
      have hjo1 : jo ≤ j := by omega
      have hjo2 : j ≤ jo := by omega
      rw [← hjo] at hst
      clear hjo
      have HP := Lib.hid hP
      have HS := Lib.hid hS
      have HST := Lib.hid hst
      have hb1 := hP.jb
      have hb2 := hP.ai
      have hb3 := hP.ij
      have hb4 := hP.size
      clear hP hS hst
      go_upto_block 2 with fail
      go_cut [11] (fun s11 wx => ∃ j : Nat, s11 = .int .i64 (j : Int) ∧ PInv (fun x => ltI x p) p a b i j d dk ∧ (i ≤ j → (fun x => ltI x p) dk[j]! = true) ∧ RowS .u64 w g dk wx ∧ j ≤ jo)
      case first =>
        go_wp2_with fail
        go_loopw [11] (fun vi wr => ∃ j : Nat, vi = .int .i64 (j : Int) ∧ PInv (fun x => ltI x p) p a b i j d dk ∧ RowS .u64 w g dk wr ∧ j ≤ jo) (fun vi _ => (intOf vi).toNat + 1 - i)
        case atStart => exact ⟨j, rfl, HP.out, HS.out, by omega⟩
        case round =>
          obtain ⟨j, rfl, hP1, hS1, hbd⟩ := hrel
          have HP := Lib.hid hP1
          have HS := Lib.hid hS1
          have hb1 := hP1.jb
          have hb2 := hP1.ai
          have hb3 := hP1.ij
          have hb4 := hP1.size
          clear hP1 hS1
          by_cases hij : i ≤ j
          · have hgd : decide ((i : Int) ≤ (j : Int)) = true := by simp; omega
            have hHk := SW.holds HS.out hg HH.out HP.out.size
            obtain ⟨c1, f1⟩ := holdsN_cell hHk (i := j) (by omega)
            obtain ⟨c2, f2⟩ := holdsN_cell hHk (i := a) (by omega)
            rw [HP.out.piv] at c2
            have HX : Hid (∀ t, dk[j]! = t → dk[j]! = t) := Lib.hid (fun _ h => h)
            generalize hx : dk[j]! = x at c1
            have HXX := Lib.hid hx
            clear hHk hx
            go_wp2_with fail
            go_quiet ((go_at_call 233; exact Calls.quiet_of_same ((hls _ _ _).mono fun e w1 h => ⟨h.1, h.2.symm⟩)))
            cases hv : ltI x p with
            | false =>
              have HV : Hid ((fun x => ltI x p) dk[j]! = false) := Lib.hid (by rw [HXX.out]; simpa using hv)
              clear hv
              go_wp2_with fail
              go_roundw
              case rel => exact ⟨j - 1, by go_num, HP.out.down hij HV.out, SW.drewN HS.out _, by omega⟩
              case measure => first | (simp [intOf]; done) | (simp [intOf]; omega)
            | true =>
              have HV : Hid ((fun x => ltI x p) dk[j]! = true) := Lib.hid (by rw [HXX.out]; simpa using hv)
              clear hv
              go_wp2_with fail
              go_meet
              exact ⟨j, rfl, HP.out, fun _ => HV.out, SW.drewN HS.out _, hbd⟩
          · have hgd : decide ((i : Int) ≤ (j : Int)) = false := by simp; omega
            go_wp2_with fail
            go_quiet ((go_at_call 233; exact Calls.quiet_of_same ((hls _ _ _).mono fun e w1 h => ⟨h.1, h.2.symm⟩)))
            go_wp2_with fail
            go_meet
            exact ⟨j, rfl, HP.out, fun h => absurd h hij, SW.drewN HS.out _, hbd⟩
      case rest =>
        clear HP HS
        obtain ⟨j, rfl, hP, hst2, hS, hbj⟩ := hcut
        have HP := Lib.hid hP
        have HS := Lib.hid hS
        have hb1 := hP.jb
        have hb2 := hP.ai
        have hb3 := hP.ij
        have hb4 := hP.size
        have HST2 := Lib.hid hst2
        clear hP hS hst2
        by_cases hgt : j < i
        · skip
          have HFIN := Lib.hid (HP.out.fin hb hgt)
          have hHk := SW.holds HS.out hg HH.out HP.out.size
          obtain ⟨c1, f1⟩ := holdsN_cell hHk (i := j) (by omega)
          obtain ⟨c2, f2⟩ := holdsN_cell hHk (i := a) (by omega)
          have hsw := swN HS.out hg (i := j) (j := a) (by omega) (by omega)
          clear hHk
          by_cases hja : j = a
          · subst hja
            have HSW := Lib.hid hsw
            clear hsw c1 f1
            generalize dk[j]! = y at *
            go_wp2_with fail
            go_region
            go_wp2_with fail
            go_ret2
            exact ⟨j, .bool true, _, rfl, .inl rfl, SW.drewN HSW.out.1 _, HFIN.out.1, HFIN.out.2.1, HFIN.out.2.2.1, HFIN.out.2.2.2.1, HFIN.out.2.2.2.2⟩
          · have hn1 : j ≠ a := hja
            have hn2 : a ≠ j := fun e => hja e.symm
            have HSW := Lib.hid hsw
            generalize dk[j]! = x at *
            generalize dk[a]! = y at *
            clear hsw hja
            go_wp2_with fail
            go_region
            go_wp2_with fail
            go_ret2
            exact ⟨j, .bool true, _, rfl, .inl rfl, SW.drewN HSW.out.1 _, HFIN.out.1, HFIN.out.2.1, HFIN.out.2.2.1, HFIN.out.2.2.2.1, HFIN.out.2.2.2.2⟩
        · have hi0 := HST.out
          have HSWP := Lib.hid (HP.out.swap hb (by omega) (HST.out (by omega)) (HST2.out (by omega)))
          have hne : i ≠ j := fun e => by
            have h1 := HST.out (by omega)
            have h2 := HST2.out (by omega)
            rw [e] at h1; rw [h1] at h2; cases h2
          have hHk := SW.holds HS.out hg HH.out HP.out.size
          obtain ⟨c1, f1⟩ := holdsN_cell hHk (i := i) (by omega)
          obtain ⟨c2, f2⟩ := holdsN_cell hHk (i := j) (by omega)
          have HSW := Lib.hid (swN HS.out hg (i := i) (j := j) (by omega) (by omega))
          have hn1 : i ≠ j := hne
          have hn2 : j ≠ i := fun e => hne e.symm
          generalize dk[i]! = x at *
          generalize dk[j]! = y at *
          obtain ⟨i2, hi2⟩ : ∃ i2, i2 = i + 1 := ⟨_, rfl⟩
          obtain ⟨j2, hj2⟩ : ∃ j2, j2 = j - 1 := ⟨_, rfl⟩
          have hii2 : (i : Int) + 1 = (i2 : Int) := by omega
          have hjj2 : (j : Int) - 1 = (j2 : Int) := by omega
          obtain ⟨dk2, hdk2⟩ : ∃ dk2, dk2 = swp dk i j := ⟨_, rfl⟩
          rw [← hdk2] at HSW HSWP
          rw [← hi2, ← hj2] at HSWP
          clear hHk hi0 hne hi2 hj2 hdk2
          go_wp2_with fail
          go_region
          have HS2 := Lib.hid (SW.drewN HSW.out.1 1)
          go_wp2_with fail
          go_loopw [10, 11] (fun vi vj wr => ∃ (i j : Nat) (dk : Array Int), vi = .int .i64 (i : Int) ∧ vj = .int .i64 (j : Int) ∧ PInv (fun x => ltI x p) p a b i j d dk ∧ RowS .u64 w g dk wr) (fun vi vj _ => (intOf vj).toNat + 2 - (intOf vi).toNat)
          case atStart => exact ⟨i2, j2, dk2, rfl, rfl, HSWP.out, HS2.out⟩
          case round =>
            clear HP HS HST HST2 HSWP HS2 HSW c1 f1 c2 f2 hn1 hn2 hii2 hjj2 hb1 hb2 hb3 hb4 hgt
            obtain ⟨i, j, dk, rfl, rfl, hP, hS⟩ := hrel
            have HP := Lib.hid hP
            have HS := Lib.hid hS
            have hb1 := hP.jb
            have hb2 := hP.ai
            have hb3 := hP.ij
            have hb4 := hP.size
            clear hP hS
            obtain ⟨wo, rfl⟩ : ∃ wo, wo = wr := ⟨_, rfl⟩
            obtain ⟨io, hio⟩ : ∃ io, io = i := ⟨_, rfl⟩
            have hio1 : io ≤ i := by omega
            have hio2 : i ≤ io := by omega
            clear hio
            go_upto_block 6 with fail
            go_cut [10] (fun s10 wx => ∃ i : Nat, s10 = .int .i64 (i : Int) ∧ PInv (fun x => ltI x p) p a b i j d dk ∧ (i ≤ j → (fun x => ltI x p) dk[i]! = false) ∧ RowS .u64 w g dk wx ∧ io ≤ i)
            case first =>
              go_wp2_with fail
              go_loopw [10] (fun vi wr => ∃ i : Nat, vi = .int .i64 (i : Int) ∧ PInv (fun x => ltI x p) p a b i j d dk ∧ RowS .u64 w g dk wr ∧ io ≤ i) (fun vi _ => j + 1 - (intOf vi).toNat)
              case atStart => exact ⟨i, rfl, HP.out, HS.out, by omega⟩
              case round =>
                obtain ⟨i, rfl, hP1, hS1, hbd⟩ := hrel
                have HP := Lib.hid hP1
                have HS := Lib.hid hS1
                have hb1 := hP1.jb
                have hb2 := hP1.ai
                have hb3 := hP1.ij
                have hb4 := hP1.size
                clear hP1 hS1
                by_cases hij : i ≤ j
                · have hgd : decide ((i : Int) ≤ (j : Int)) = true := by simp; omega
                  have hHk := SW.holds HS.out hg HH.out HP.out.size
                  obtain ⟨c1, f1⟩ := holdsN_cell hHk (i := i) (by omega)
                  obtain ⟨c2, f2⟩ := holdsN_cell hHk (i := a) (by omega)
                  rw [HP.out.piv] at c2
                  have HX : Hid (∀ t, dk[i]! = t → dk[i]! = t) := Lib.hid (fun _ h => h)
                  generalize hx : dk[i]! = x at c1
                  have HXX := Lib.hid hx
                  clear hHk hx
                  go_wp2_with fail
                  go_quiet ((go_at_call 233; exact Calls.quiet_of_same ((hls _ _ _).mono fun e w1 h => ⟨h.1, h.2.symm⟩)))
                  cases hv : ltI x p with
                  | true =>
                    have HV : Hid ((fun x => ltI x p) dk[i]! = true) := Lib.hid (by rw [HXX.out]; simpa using hv)
                    clear hv
                    go_wp2_with fail
                    go_roundw
                    case rel => exact ⟨i + 1, by go_num, HP.out.up hij HV.out, SW.drewN HS.out _, by omega⟩
                    case measure => first | (simp [intOf]; done) | (simp [intOf]; omega)
                  | false =>
                    have HV : Hid ((fun x => ltI x p) dk[i]! = false) := Lib.hid (by rw [HXX.out]; simpa using hv)
                    clear hv
                    go_wp2_with fail
                    go_meet
                    exact ⟨i, rfl, HP.out, fun _ => HV.out, SW.drewN HS.out _, hbd⟩
                · have hgd : decide ((i : Int) ≤ (j : Int)) = false := by simp; omega
                  go_wp2_with fail
                  go_quiet ((go_at_call 233; exact Calls.quiet_of_same ((hls _ _ _).mono fun e w1 h => ⟨h.1, h.2.symm⟩)))
                  go_wp2_with fail
                  go_meet
                  exact ⟨i, rfl, HP.out, fun h => absurd h hij, SW.drewN HS.out _, hbd⟩
            case rest =>
              clear HP HS
              obtain ⟨i, rfl, hP, hst, hS, hbi⟩ := hcut
              obtain ⟨jo, hjo⟩ : ∃ jo, jo = j := ⟨_, rfl⟩
              have hjo1 : jo ≤ j := by omega
              have hjo2 : j ≤ jo := by omega
              rw [← hjo] at hst
              clear hjo
              have HP := Lib.hid hP
              have HS := Lib.hid hS
              have HST := Lib.hid hst
              have hb1 := hP.jb
              have hb2 := hP.ai
              have hb3 := hP.ij
              have hb4 := hP.size
              clear hP hS hst
              go_upto_block 8 with fail
              go_cut [11] (fun s11 wx => ∃ j : Nat, s11 = .int .i64 (j : Int) ∧ PInv (fun x => ltI x p) p a b i j d dk ∧ (i ≤ j → (fun x => ltI x p) dk[j]! = true) ∧ RowS .u64 w g dk wx ∧ j ≤ jo)
              case first =>
                go_wp2_with fail
                go_loopw [11] (fun vi wr => ∃ j : Nat, vi = .int .i64 (j : Int) ∧ PInv (fun x => ltI x p) p a b i j d dk ∧ RowS .u64 w g dk wr ∧ j ≤ jo) (fun vi _ => (intOf vi).toNat + 1 - i)
                case atStart => exact ⟨j, rfl, HP.out, HS.out, by omega⟩
                case round =>
                  obtain ⟨j, rfl, hP1, hS1, hbd⟩ := hrel
                  have HP := Lib.hid hP1
                  have HS := Lib.hid hS1
                  have hb1 := hP1.jb
                  have hb2 := hP1.ai
                  have hb3 := hP1.ij
                  have hb4 := hP1.size
                  clear hP1 hS1
                  by_cases hij : i ≤ j
                  · have hgd : decide ((i : Int) ≤ (j : Int)) = true := by simp; omega
                    have hHk := SW.holds HS.out hg HH.out HP.out.size
                    obtain ⟨c1, f1⟩ := holdsN_cell hHk (i := j) (by omega)
                    obtain ⟨c2, f2⟩ := holdsN_cell hHk (i := a) (by omega)
                    rw [HP.out.piv] at c2
                    have HX : Hid (∀ t, dk[j]! = t → dk[j]! = t) := Lib.hid (fun _ h => h)
                    generalize hx : dk[j]! = x at c1
                    have HXX := Lib.hid hx
                    clear hHk hx
                    go_wp2_with fail
                    go_quiet ((go_at_call 233; exact Calls.quiet_of_same ((hls _ _ _).mono fun e w1 h => ⟨h.1, h.2.symm⟩)))
                    cases hv : ltI x p with
                    | false =>
                      have HV : Hid ((fun x => ltI x p) dk[j]! = false) := Lib.hid (by rw [HXX.out]; simpa using hv)
                      clear hv
                      go_wp2_with fail
                      go_roundw
                      case rel => exact ⟨j - 1, by go_num, HP.out.down hij HV.out, SW.drewN HS.out _, by omega⟩
                      case measure => first | (simp [intOf]; done) | (simp [intOf]; omega)
                    | true =>
                      have HV : Hid ((fun x => ltI x p) dk[j]! = true) := Lib.hid (by rw [HXX.out]; simpa using hv)
                      clear hv
                      go_wp2_with fail
                      go_meet
                      exact ⟨j, rfl, HP.out, fun _ => HV.out, SW.drewN HS.out _, hbd⟩
                  · have hgd : decide ((i : Int) ≤ (j : Int)) = false := by simp; omega
                    go_wp2_with fail
                    go_quiet ((go_at_call 233; exact Calls.quiet_of_same ((hls _ _ _).mono fun e w1 h => ⟨h.1, h.2.symm⟩)))
                    go_wp2_with fail
                    go_meet
                    exact ⟨j, rfl, HP.out, fun h => absurd h hij, SW.drewN HS.out _, hbd⟩
              case rest =>
                clear HP HS
                obtain ⟨j, rfl, hP, hst2, hS, hbj⟩ := hcut
                have HP := Lib.hid hP
                have HS := Lib.hid hS
                have hb1 := hP.jb
                have hb2 := hP.ai
                have hb3 := hP.ij
                have hb4 := hP.size
                have HST2 := Lib.hid hst2
                clear hP hS hst2
                by_cases hgt : j < i
                · skip
                  have HFIN := Lib.hid (HP.out.fin hb hgt)
                  have hHk := SW.holds HS.out hg HH.out HP.out.size
                  obtain ⟨c1, f1⟩ := holdsN_cell hHk (i := j) (by omega)
                  obtain ⟨c2, f2⟩ := holdsN_cell hHk (i := a) (by omega)
                  have hsw := swN HS.out hg (i := j) (j := a) (by omega) (by omega)
                  clear hHk
                  by_cases hja : j = a
                  · subst hja
                    have HSW := Lib.hid hsw
                    clear hsw c1 f1
                    generalize dk[j]! = y at *
                    go_wp2_with fail
                    go_region
                    go_wp2_with fail
                    go_ret2
                    exact ⟨j, .bool false, _, rfl, .inr rfl, SW.drewN HSW.out.1 _, HFIN.out.1, HFIN.out.2.1, HFIN.out.2.2.1, HFIN.out.2.2.2.1, HFIN.out.2.2.2.2⟩
                  · have hn1 : j ≠ a := hja
                    have hn2 : a ≠ j := fun e => hja e.symm
                    have HSW := Lib.hid hsw
                    generalize dk[j]! = x at *
                    generalize dk[a]! = y at *
                    clear hsw hja
                    go_wp2_with fail
                    go_region
                    go_wp2_with fail
                    go_ret2
                    exact ⟨j, .bool false, _, rfl, .inr rfl, SW.drewN HSW.out.1 _, HFIN.out.1, HFIN.out.2.1, HFIN.out.2.2.1, HFIN.out.2.2.2.1, HFIN.out.2.2.2.2⟩
                · have HSWP := Lib.hid (HP.out.swap hb (by omega) (HST.out (by omega)) (HST2.out (by omega)))
                  have hne : i ≠ j := fun e => by
                    have h1 := HST.out (by omega)
                    have h2 := HST2.out (by omega)
                    rw [e] at h1; rw [h1] at h2; cases h2
                  have hHk := SW.holds HS.out hg HH.out HP.out.size
                  obtain ⟨c1, f1⟩ := holdsN_cell hHk (i := i) (by omega)
                  obtain ⟨c2, f2⟩ := holdsN_cell hHk (i := j) (by omega)
                  have HSW := Lib.hid (swN HS.out hg (i := i) (j := j) (by omega) (by omega))
                  have hn1 : i ≠ j := hne
                  have hn2 : j ≠ i := fun e => hne e.symm
                  generalize dk[i]! = x at *
                  generalize dk[j]! = y at *
                  clear hHk hne
                  go_wp2_with fail
                  go_region
                  go_wp2_with fail
                  go_roundw
                  case rel => exact ⟨i + 1, j - 1, swp dk i j, by go_num, by go_num, HSWP.out, SW.drewN HSW.out.1 _⟩
                  case measure => first | (simp [intOf]; done) | (simp [intOf]; omega)

set_option maxHeartbeats 12800000 in
set_option maxRecDepth 100000 in
theorem parteq64 (g cap a b c : Nat) (d : Array Int) (w : World) (hH : Holds (Value.int .u64) w g 0 d) (hg : g < w.heap.size) (hab : a < b) (hb : b ≤ d.size) (hac : a ≤ c) (hcb : c < b) (hsz : d.size ≤ 1000000) :
    Calls Tryz.prog 234 #[.slice (some ⟨g, 0, none⟩) d.size cap, .int .i64 a, .int .i64 b, .int .i64 c] w fun e w' => ∃ m : Nat, e = .returned (.int .i64 (m : Int)) ∧ ∃ d' : Array Int, RowS .u64 w g d' w' ∧ a < m ∧ m ≤ b ∧ PermIn a b d d' ∧ (∀ t, a ≤ t → t < m → d'[t]! ≤ d[c]!) ∧ (∀ t, m ≤ t → t < b → d[c]! < d'[t]!) := by
  have hS0 := SW.start hH
  have HH := Lib.hid hH
  have hls := less64
  obtain ⟨c1, f1⟩ := holdsN_cell hH (i := a) (by omega)
  obtain ⟨c2, f2⟩ := holdsN_cell hH (i := c) (by omega)
  have HSW := Lib.hid (swN hS0 hg (i := a) (j := c) (by omega) (by omega))
  obtain ⟨p, hp⟩ : ∃ p, p = d[c]! := ⟨_, rfl⟩
  have HP0 : Hid (PInv (fun x => !ltI p x) p a b (a + 1) (b - 1) d (swp d a c)) := Lib.hid (by rw [hp]; exact PInv.start hab hb hac hcb)
  rw [← hp] at HSW c2
  have HPV := Lib.hid hp
  clear hS0 hH hp
  go_enter Tryz.func234, Tryz.ntmps234
  go_upto_region 1 with fail
  go_cut [12] (fun s12 wx => RowS .u64 w g (swp d a c) wx)
  case first =>
    by_cases hca : a = c
    · subst hca
      obtain rfl := HPV.out
      clear c2 f2 HP0 HPV
      generalize d[a]! = y at *
      go_region
      go_wp2_with fail
      go_meet
      exact SW.drewN HSW.out.1 _
    · have hn1 : a ≠ c := hca
      have hn2 : c ≠ a := fun e => hca e.symm
      generalize d[a]! = y at *
      go_region
      go_wp2_with fail
      go_meet
      exact SW.drewN HSW.out.1 _
  case rest =>
    have HS := Lib.hid hcut
    obtain ⟨dk, hdk⟩ : ∃ dk, dk = swp d a c := ⟨_, rfl⟩
    rw [← hdk] at HS HP0
    obtain ⟨i, hi⟩ : ∃ i, i = a + 1 := ⟨_, rfl⟩
    obtain ⟨j, hj⟩ : ∃ j, j = b - 1 := ⟨_, rfl⟩
    rw [← hi, ← hj] at HP0
    have hii : (a : Int) + 1 = (i : Int) := by omega
    have hjj : (b : Int) - 1 = (j : Int) := by omega
    have HP := HP0
    clear hcut hdk hi hj HP0 c1 c2 f1 f2 HSW
    go_wp2_with fail
    go_loopw [9, 10] (fun vi vj wr => ∃ (i j : Nat) (dk : Array Int), vi = .int .i64 (i : Int) ∧ vj = .int .i64 (j : Int) ∧ PInv (fun x => !ltI p x) p a b i j d dk ∧ RowS .u64 w g dk wr) (fun vi vj _ => (intOf vj).toNat + 2 - (intOf vi).toNat)
    case atStart => exact ⟨i, j, dk, rfl, rfl, HP.out, HS.out⟩
    case round =>
      clear HP HS hii hjj
      obtain ⟨i, j, dk, rfl, rfl, hP, hS⟩ := hrel
      have HP := Lib.hid hP
      have HS := Lib.hid hS
      have hb1 := hP.jb
      have hb2 := hP.ai
      have hb3 := hP.ij
      have hb4 := hP.size
      clear hP hS
      obtain ⟨wo, rfl⟩ : ∃ wo, wo = wr := ⟨_, rfl⟩
      obtain ⟨io, hio⟩ : ∃ io, io = i := ⟨_, rfl⟩
      have hio1 : io ≤ i := by omega
      have hio2 : i ≤ io := by omega
      clear hio
      go_upto_block 2 with fail
      go_cut [9] (fun s9 wx => ∃ i : Nat, s9 = .int .i64 (i : Int) ∧ PInv (fun x => !ltI p x) p a b i j d dk ∧ (i ≤ j → (fun x => !ltI p x) dk[i]! = false) ∧ RowS .u64 w g dk wx ∧ io ≤ i)
      case first =>
        go_wp2_with fail
        go_loopw [9] (fun vi wr => ∃ i : Nat, vi = .int .i64 (i : Int) ∧ PInv (fun x => !ltI p x) p a b i j d dk ∧ RowS .u64 w g dk wr ∧ io ≤ i) (fun vi _ => j + 1 - (intOf vi).toNat)
        case atStart => exact ⟨i, rfl, HP.out, HS.out, by omega⟩
        case round =>
          obtain ⟨i, rfl, hP1, hS1, hbd⟩ := hrel
          have HP := Lib.hid hP1
          have HS := Lib.hid hS1
          have hb1 := hP1.jb
          have hb2 := hP1.ai
          have hb3 := hP1.ij
          have hb4 := hP1.size
          clear hP1 hS1
          by_cases hij : i ≤ j
          · have hgd : decide ((i : Int) ≤ (j : Int)) = true := by simp; omega
            have hHk := SW.holds HS.out hg HH.out HP.out.size
            obtain ⟨c1, f1⟩ := holdsN_cell hHk (i := i) (by omega)
            obtain ⟨c2, f2⟩ := holdsN_cell hHk (i := a) (by omega)
            rw [HP.out.piv] at c2
            have HX : Hid (∀ t, dk[i]! = t → dk[i]! = t) := Lib.hid (fun _ h => h)
            generalize hx : dk[i]! = x at c1
            have HXX := Lib.hid hx
            clear hHk hx
            go_wp2_with fail
            go_quiet ((go_at_call 233; exact Calls.quiet_of_same ((hls _ _ _).mono fun e w1 h => ⟨h.1, h.2.symm⟩)))
            cases hv : ltI p x with
            | false =>
              have HV : Hid ((fun x => !ltI p x) dk[i]! = true) := Lib.hid (by rw [HXX.out]; simpa using hv)
              clear hv
              go_wp2_with fail
              go_roundw
              case rel => exact ⟨i + 1, by go_num, HP.out.up hij HV.out, SW.drewN HS.out _, by omega⟩
              case measure => first | (simp [intOf]; done) | (simp [intOf]; omega)
            | true =>
              have HV : Hid ((fun x => !ltI p x) dk[i]! = false) := Lib.hid (by rw [HXX.out]; simpa using hv)
              clear hv
              go_wp2_with fail
              go_meet
              exact ⟨i, rfl, HP.out, fun _ => HV.out, SW.drewN HS.out _, hbd⟩
          · have hgd : decide ((i : Int) ≤ (j : Int)) = false := by simp; omega
            go_wp2_with fail
            go_quiet ((go_at_call 233; exact Calls.quiet_of_same ((hls _ _ _).mono fun e w1 h => ⟨h.1, h.2.symm⟩)))
            go_wp2_with fail
            go_meet
            exact ⟨i, rfl, HP.out, fun h => absurd h hij, SW.drewN HS.out _, hbd⟩
      case rest =>
        clear HP HS
        obtain ⟨i, rfl, hP, hst, hS, hbi⟩ := hcut
        obtain ⟨jo, hjo⟩ : ∃ jo, jo = j := ⟨_, rfl⟩
        have hjo1 : jo ≤ j := by omega
        have hjo2 : j ≤ jo := by omega
        rw [← hjo] at hst
        clear hjo
        have HP := Lib.hid hP
        have HS := Lib.hid hS
        have HST := Lib.hid hst
        have hb1 := hP.jb
        have hb2 := hP.ai
        have hb3 := hP.ij
        have hb4 := hP.size
        clear hP hS hst
        go_upto_block 4 with fail
        go_cut [10] (fun s10 wx => ∃ j : Nat, s10 = .int .i64 (j : Int) ∧ PInv (fun x => !ltI p x) p a b i j d dk ∧ (i ≤ j → (fun x => !ltI p x) dk[j]! = true) ∧ RowS .u64 w g dk wx ∧ j ≤ jo)
        case first =>
          go_wp2_with fail
          go_loopw [10] (fun vi wr => ∃ j : Nat, vi = .int .i64 (j : Int) ∧ PInv (fun x => !ltI p x) p a b i j d dk ∧ RowS .u64 w g dk wr ∧ j ≤ jo) (fun vi _ => (intOf vi).toNat + 1 - i)
          case atStart => exact ⟨j, rfl, HP.out, HS.out, by omega⟩
          case round =>
            obtain ⟨j, rfl, hP1, hS1, hbd⟩ := hrel
            have HP := Lib.hid hP1
            have HS := Lib.hid hS1
            have hb1 := hP1.jb
            have hb2 := hP1.ai
            have hb3 := hP1.ij
            have hb4 := hP1.size
            clear hP1 hS1
            by_cases hij : i ≤ j
            · have hgd : decide ((i : Int) ≤ (j : Int)) = true := by simp; omega
              have hHk := SW.holds HS.out hg HH.out HP.out.size
              obtain ⟨c1, f1⟩ := holdsN_cell hHk (i := j) (by omega)
              obtain ⟨c2, f2⟩ := holdsN_cell hHk (i := a) (by omega)
              rw [HP.out.piv] at c2
              have HX : Hid (∀ t, dk[j]! = t → dk[j]! = t) := Lib.hid (fun _ h => h)
              generalize hx : dk[j]! = x at c1
              have HXX := Lib.hid hx
              clear hHk hx
              go_wp2_with fail
              go_quiet ((go_at_call 233; exact Calls.quiet_of_same ((hls _ _ _).mono fun e w1 h => ⟨h.1, h.2.symm⟩)))
              cases hv : ltI p x with
              | true =>
                have HV : Hid ((fun x => !ltI p x) dk[j]! = false) := Lib.hid (by rw [HXX.out]; simpa using hv)
                clear hv
                go_wp2_with fail
                go_roundw
                case rel => exact ⟨j - 1, by go_num, HP.out.down hij HV.out, SW.drewN HS.out _, by omega⟩
                case measure => first | (simp [intOf]; done) | (simp [intOf]; omega)
              | false =>
                have HV : Hid ((fun x => !ltI p x) dk[j]! = true) := Lib.hid (by rw [HXX.out]; simpa using hv)
                clear hv
                go_wp2_with fail
                go_meet
                exact ⟨j, rfl, HP.out, fun _ => HV.out, SW.drewN HS.out _, hbd⟩
            · have hgd : decide ((i : Int) ≤ (j : Int)) = false := by simp; omega
              go_wp2_with fail
              go_quiet ((go_at_call 233; exact Calls.quiet_of_same ((hls _ _ _).mono fun e w1 h => ⟨h.1, h.2.symm⟩)))
              go_wp2_with fail
              go_meet
              exact ⟨j, rfl, HP.out, fun h => absurd h hij, SW.drewN HS.out _, hbd⟩
        case rest =>
          clear HP HS
          obtain ⟨j, rfl, hP, hst2, hS, hbj⟩ := hcut
          have HP := Lib.hid hP
          have HS := Lib.hid hS
          have hb1 := hP.jb
          have hb2 := hP.ai
          have hb3 := hP.ij
          have hb4 := hP.size
          have HST2 := Lib.hid hst2
          clear hP hS hst2
          by_cases hgt : j < i
          · go_wp2_with fail
            go_ret
            refine ⟨i, rfl, dk, HS.out, by omega, by omega, HP.out.perm, fun t h1 h2 => ?_, fun t h1 h2 => ?_⟩
            · rw [← HPV.out]
              by_cases e : t = a
              · subst e; rw [HP.out.piv]; exact Int.le_refl _
              · have := HP.out.left t (by omega) h2; simpa using this
            · rw [← HPV.out]
              have := HP.out.right t (by omega) h2; simpa using this
          · have HSWP := Lib.hid (HP.out.swap hb (by omega) (HST.out (by omega)) (HST2.out (by omega)))
            have hne : i ≠ j := fun e => by
              have h1 := HST.out (by omega)
              have h2 := HST2.out (by omega)
              rw [e] at h1; rw [h1] at h2; cases h2
            have hHk := SW.holds HS.out hg HH.out HP.out.size
            obtain ⟨c1, f1⟩ := holdsN_cell hHk (i := i) (by omega)
            obtain ⟨c2, f2⟩ := holdsN_cell hHk (i := j) (by omega)
            have HSW := Lib.hid (swN HS.out hg (i := i) (j := j) (by omega) (by omega))
            have hn1 : i ≠ j := hne
            have hn2 : j ≠ i := fun e => hne e.symm
            generalize dk[i]! = x at *
            generalize dk[j]! = y at *
            clear hHk hne
            go_wp2_with fail
            go_region
            go_wp2_with fail
            go_roundw
            case rel => exact ⟨i + 1, j - 1, swp dk i j, by go_num, by go_num, HSWP.out, SW.drewN HSW.out.1 _⟩
            case measure => first | (simp [intOf]; done) | (simp [intOf]; omega)
end Go.Proofs.YtgdgmegpacmgnaaGreatDoor
