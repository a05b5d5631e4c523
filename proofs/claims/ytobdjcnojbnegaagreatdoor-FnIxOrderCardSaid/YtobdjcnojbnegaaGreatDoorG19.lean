import Derived.Test.YtobdjcnojbnegaaGreatDoorG18
import Derived.Deep.CutBlock
import Derived.Deep.DeepCutAuto
import Derived.Test.YtobdjcnojbnegaaGreatDoorG00
import Derived.Shelf.GgSortFunc.SW
import Derived.Sort.LotB
import Derived.Test.YtobdjcnojbnegaaGreatDoorShelf
import Derived.Sort.Walk7a
import Derived.Laws.Bits64
import Derived.Laws.Bits64b
import Derived.RegionCalls
/- sort.Sort of records: the partitions (printed by gen_rec3.py). -/
namespace Go.Proofs.YtobdjcnojbnegaaGreatDoor
open Go.Shelf Go.RowKit Go.Lib Go.Sort
set_option linter.unusedVariables false
set_option linter.unusedSimpArgs false
variable {α : Type} [Inhabited α] {lt : α → α → Bool} {R : Array α → World → Prop} {n g N0 : Nat} {rv : Value}

set_option maxHeartbeats 12800000 in
set_option maxRecDepth 100000 in
theorem partR (H : SortR lt R n g N0 rv) (a b c : Nat) (d : Array α) (w : World) (hd : d.size = n) (hR : R d w) (hab : a < b) (hb : b ≤ d.size) (hac : a ≤ c) (hcb : c < b) :
    Calls Tryz.prog 239 #[.iface 304 rv, .int .i64 a, .int .i64 b, .int .i64 c] w fun e w' => ∃ (m : Nat) (v : Value) (d' : Array α), e = .returned (.tuple #[.int .i64 (m : Int), v]) ∧ (v = .bool true ∨ v = .bool false) ∧ R d' w' ∧ a ≤ m ∧ m < b ∧ PermIn a b d d' ∧ (∀ t, a ≤ t → t < m → lt d'[t]! d'[m]! = true) ∧ (∀ t, m < t → t < b → lt d'[t]! d'[m]! = false) := by
  have hme := method_LessR
  have hms := method_SwapR
  have hbig := H.big
  have HH := Lib.hid H
  obtain ⟨p, hp⟩ : ∃ p, p = d[c]! := ⟨_, rfl⟩
  have HP0 : Hid (QInv (fun x => lt x p) p a b (a + 1) (b - 1) d (swp d a c)) := Lib.hid (by rw [hp]; exact QInv.start hab (by omega) hac hcb)
  have HPV := Lib.hid hp
  have hW := H.swap d w a c hR hd (by omega) (by omega)
  clear hR H hp
  go_enter Tryz.func239, Tryz.ntmps239
  go_wp2_with fail
  refine hW.mono ?_
  clear hW
  rintro e w1 ⟨rfl, hR1, hk1⟩
  obtain ⟨dk, hdk⟩ : ∃ dk, dk = swp d a c := ⟨_, rfl⟩
  rw [← hdk] at HP0 hR1
  have HS := Lib.hid hR1
  obtain ⟨i, hi⟩ : ∃ i, i = a + 1 := ⟨_, rfl⟩
  obtain ⟨j, hj⟩ : ∃ j, j = b - 1 := ⟨_, rfl⟩
  rw [← hi, ← hj] at HP0
  have hii : (a : Int) + 1 = (i : Int) := by omega
  have hjj : (b : Int) - 1 = (j : Int) := by omega
  have HP := HP0
  clear hR1 hk1 hdk hi hj HP0
  obtain ⟨io, hio⟩ : ∃ io, io = i := ⟨_, rfl⟩
  have hio1 : io ≤ i := by omega
  have hio2 : i ≤ io := by omega
  clear hio
  go_upto_block 0 with fail
  go_cut [10] (fun s10 wx => ∃ i : Nat, s10 = .int .i64 (i : Int) ∧ QInv (fun x => lt x p) p a b i j d dk ∧ (i ≤ j → (fun x => lt x p) dk[i]! = false) ∧ R dk wx ∧ io ≤ i)
  case first =>
    go_wp2_with fail
    go_loopw [10] (fun vi wr => ∃ i : Nat, vi = .int .i64 (i : Int) ∧ QInv (fun x => lt x p) p a b i j d dk ∧ R dk wr ∧ io ≤ i) (fun vi _ => j + 1 - (intOf vi).toNat)
    case atStart => exact ⟨i, rfl, HP.out, HS.out, by omega⟩
    case round =>
      obtain ⟨i, rfl, hP1, hS1, hbd⟩ := hrel
      have HP := Lib.hid hP1
      have HS := Lib.hid hS1
      have hb1 := hP1.jb
      have hb2 := hP1.ai
      have hb3 := hP1.ij
      have hb4 := hP1.size
      clear hP1 hS1
      by_cases hij : i ≤ j
      · have hgd : decide ((i : Int) ≤ (j : Int)) = true := by simp; omega
        have hL := HH.out.less dk wr i a HS.out (HP.out.size.trans hd) (by omega) (by omega)
        rw [HP.out.piv] at hL
        generalize hv : lt dk[i]! p = v at hL
        have HVV := Lib.hid hv
        clear hv
        go_wp2_with fail
        refine hL.mono ?_
        clear hL
        rintro e w1 ⟨rfl, hR1, hk1⟩
        have HR1 := Lib.hid hR1
        clear hR1 hk1
        cases v with
        | true =>
          have HV : Hid ((fun x => lt x p) dk[i]! = true) := Lib.hid (by simpa using HVV.out)
          go_wp2_with fail
          go_roundw
          case rel => exact ⟨i + 1, by go_num, HP.out.up hij HV.out, HR1.out, by omega⟩
          case measure => first | (simp [intOf]; done) | (simp [intOf]; omega)
        | false =>
          have HV : Hid ((fun x => lt x p) dk[i]! = false) := Lib.hid (by simpa using HVV.out)
          go_wp2_with fail
          go_meet
          exact ⟨i, rfl, HP.out, fun _ => HV.out, HR1.out, hbd⟩
      · have hgd : decide ((i : Int) ≤ (j : Int)) = false := by simp; omega
        go_wp2_with fail
        go_meet
        exact ⟨i, rfl, HP.out, fun h => absurd h hij, HS.out, hbd⟩
  case rest =>
    clear HP HS
    obtain ⟨i, rfl, hP, hst, hS, hbi⟩ := hcut
    obtain ⟨jo, hjo⟩ : ∃ jo, jo = j := ⟨_, rfl⟩
    have hjo1 : jo ≤ j := by omega
    have hjo2 : j ≤ jo := by omega
    rw [← hjo] at hst
    clear hjo
    have HP := Lib.hid hP
    have HS := Lib.hid hS
    have HST := Lib.hid hst
    have hb1 := hP.jb
    have hb2 := hP.ai
    have hb3 := hP.ij
    have hb4 := hP.size
    clear hP hS hst
    obtain ⟨wi, rfl⟩ : ∃ wi, wi = wc := ⟨_, rfl⟩
    go_upto_block 2 with fail
    go_cut [11] (fun s11 wx => ∃ j : Nat, s11 = .int .i64 (j : Int) ∧ QInv (fun x => lt x p) p a b i j d dk ∧ (i ≤ j → (fun x => lt x p) dk[j]! = true) ∧ R dk wx ∧ j ≤ jo)
    case first =>
      go_wp2_with fail
      go_loopw [11] (fun vi wr => ∃ j : Nat, vi = .int .i64 (j : Int) ∧ QInv (fun x => lt x p) p a b i j d dk ∧ R dk wr ∧ j ≤ jo) (fun vi _ => (intOf vi).toNat + 1 - i)
      case atStart => exact ⟨j, rfl, HP.out, HS.out, by omega⟩
      case round =>
        obtain ⟨j, rfl, hP1, hS1, hbd⟩ := hrel
        have HP := Lib.hid hP1
        have HS := Lib.hid hS1
        have hb1 := hP1.jb
        have hb2 := hP1.ai
        have hb3 := hP1.ij
        have hb4 := hP1.size
        clear hP1 hS1
        by_cases hij : i ≤ j
        · have hgd : decide ((i : Int) ≤ (j : Int)) = true := by simp; omega
          have hL := HH.out.less dk wr j a HS.out (HP.out.size.trans hd) (by omega) (by omega)
          rw [HP.out.piv] at hL
          generalize hv : lt dk[j]! p = v at hL
          have HVV := Lib.hid hv
          clear hv
          go_wp2_with fail
          refine hL.mono ?_
          clear hL
          rintro e w1 ⟨rfl, hR1, hk1⟩
          have HR1 := Lib.hid hR1
          clear hR1 hk1
          cases v with
          | false =>
            have HV : Hid ((fun x => lt x p) dk[j]! = false) := Lib.hid (by simpa using HVV.out)
            go_wp2_with fail
            go_roundw
            case rel => exact ⟨j - 1, by go_num, HP.out.down hij HV.out, HR1.out, by omega⟩
            case measure => first | (simp [intOf]; done) | (simp [intOf]; omega)
          | true =>
            have HV : Hid ((fun x => lt x p) dk[j]! = true) := Lib.hid (by simpa using HVV.out)
            go_wp2_with fail
            go_meet
            exact ⟨j, rfl, HP.out, fun _ => HV.out, HR1.out, hbd⟩
        · have hgd : decide ((i : Int) ≤ (j : Int)) = false := by simp; omega
          go_wp2_with fail
          go_meet
          exact ⟨j, rfl, HP.out, fun h => absurd h hij, HS.out, hbd⟩
    case rest =>
      clear HP HS
      obtain ⟨j, rfl, hP, hst2, hS, hbj⟩ := hcut
      have HP := Lib.hid hP
      have HS := Lib.hid hS
      have hb1 := hP.jb
      have hb2 := hP.ai
      have hb3 := hP.ij
      have hb4 := hP.size
      have HST2 := Lib.hid hst2
      clear hP hS hst2
      by_cases hgt : j < i
      · skip
        have HFIN := Lib.hid (HP.out.fin hb hgt)
        have hW := HH.out.swap dk wc j a HS.out (HP.out.size.trans hd) (by omega) (by omega)
        go_wp2_with fail
        refine hW.mono ?_
        clear hW
        rintro e w1 ⟨rfl, hR1, hk1⟩
        have HR1 := Lib.hid hR1
        clear hR1 hk1
        go_wp2_with fail
        go_ret2
        exact ⟨j, .bool true, _, rfl, .inl rfl, HR1.out, HFIN.out.1, HFIN.out.2.1, HFIN.out.2.2.1, HFIN.out.2.2.2.1, HFIN.out.2.2.2.2⟩
      · skip
        have HSWP := Lib.hid (HP.out.swap (by omega) (by omega) (HST.out (by omega)) (HST2.out (by omega)))
        have hW := HH.out.swap dk wc i j HS.out (HP.out.size.trans hd) (by omega) (by omega)
        obtain ⟨i2, hi2⟩ : ∃ i2, i2 = i + 1 := ⟨_, rfl⟩
        obtain ⟨j2, hj2⟩ : ∃ j2, j2 = j - 1 := ⟨_, rfl⟩
        have hii2 : (i : Int) + 1 = (i2 : Int) := by omega
        have hjj2 : (j : Int) - 1 = (j2 : Int) := by omega
        obtain ⟨dk2, hdk2⟩ : ∃ dk2, dk2 = swp dk i j := ⟨_, rfl⟩
        rw [← hdk2] at HSWP hW
        rw [← hi2, ← hj2] at HSWP
        clear hi2 hj2 hdk2
        go_wp2_with fail
        refine hW.mono ?_
        clear hW
        rintro e w2 ⟨rfl, hR2, hk2⟩
        have HS2 := Lib.hid hR2
        clear hR2 hk2
        go_wp2_with fail
        go_loopw [10, 11] (fun vi vj wr => ∃ (i j : Nat) (dk : Array α), vi = .int .i64 (i : Int) ∧ vj = .int .i64 (j : Int) ∧ QInv (fun x => lt x p) p a b i j d dk ∧ R dk wr) (fun vi vj _ => (intOf vj).toNat + 2 - (intOf vi).toNat)
        case atStart => exact ⟨i2, j2, dk2, rfl, rfl, HSWP.out, HS2.out⟩
        case round =>
          clear HP HS HST HST2 HSWP HS2 hii2 hjj2 hb1 hb2 hb3 hb4 hgt
          obtain ⟨i, j, dk, rfl, rfl, hP, hS⟩ := hrel
          have HP := Lib.hid hP
          have HS := Lib.hid hS
          have hb1 := hP.jb
          have hb2 := hP.ai
          have hb3 := hP.ij
          have hb4 := hP.size
          clear hP hS
          obtain ⟨wo, rfl⟩ : ∃ wo, wo = wr := ⟨_, rfl⟩
          obtain ⟨io, hio⟩ : ∃ io, io = i := ⟨_, rfl⟩
          have hio1 : io ≤ i := by omega
          have hio2 : i ≤ io := by omega
          clear hio
          go_upto_block 6 with fail
          go_cut [10] (fun s10 wx => ∃ i : Nat, s10 = .int .i64 (i : Int) ∧ QInv (fun x => lt x p) p a b i j d dk ∧ (i ≤ j → (fun x => lt x p) dk[i]! = false) ∧ R dk wx ∧ io ≤ i)
          case first =>
            go_wp2_with fail
            go_loopw [10] (fun vi wr => ∃ i : Nat, vi = .int .i64 (i : Int) ∧ QInv (fun x => lt x p) p a b i j d dk ∧ R dk wr ∧ io ≤ i) (fun vi _ => j + 1 - (intOf vi).toNat)
            case atStart => exact ⟨i, rfl, HP.out, HS.out, by omega⟩
            case round =>
              obtain ⟨i, rfl, hP1, hS1, hbd⟩ := hrel
              have HP := Lib.hid hP1
              have HS := Lib.hid hS1
              have hb1 := hP1.jb
              have hb2 := hP1.ai
              have hb3 := hP1.ij
              have hb4 := hP1.size
              clear hP1 hS1
              by_cases hij : i ≤ j
              · have hgd : decide ((i : Int) ≤ (j : Int)) = true := by simp; omega
                have hL := HH.out.less dk wr i a HS.out (HP.out.size.trans hd) (by omega) (by omega)
                rw [HP.out.piv] at hL
                generalize hv : lt dk[i]! p = v at hL
                have HVV := Lib.hid hv
                clear hv
                go_wp2_with fail
                refine hL.mono ?_
                clear hL
                rintro e w1 ⟨rfl, hR1, hk1⟩
                have HR1 := Lib.hid hR1
                clear hR1 hk1
                cases v with
                | true =>
                  have HV : Hid ((fun x => lt x p) dk[i]! = true) := Lib.hid (by simpa using HVV.out)
                  go_wp2_with fail
                  go_roundw
                  case rel => exact ⟨i + 1, by go_num, HP.out.up hij HV.out, HR1.out, by omega⟩
                  case measure => first | (simp [intOf]; done) | (simp [intOf]; omega)
                | false =>
                  have HV : Hid ((fun x => lt x p) dk[i]! = false) := Lib.hid (by simpa using HVV.out)
                  go_wp2_with fail
                  go_meet
                  exact ⟨i, rfl, HP.out, fun _ => HV.out, HR1.out, hbd⟩
              · have hgd : decide ((i : Int) ≤ (j : Int)) = false := by simp; omega
                go_wp2_with fail
                go_meet
                exact ⟨i, rfl, HP.out, fun h => absurd h hij, HS.out, hbd⟩
          case rest =>
            clear HP HS
            obtain ⟨i, rfl, hP, hst, hS, hbi⟩ := hcut
            obtain ⟨jo, hjo⟩ : ∃ jo, jo = j := ⟨_, rfl⟩
            have hjo1 : jo ≤ j := by omega
            have hjo2 : j ≤ jo := by omega
            rw [← hjo] at hst
            clear hjo
            have HP := Lib.hid hP
            have HS := Lib.hid hS
            have HST := Lib.hid hst
            have hb1 := hP.jb
            have hb2 := hP.ai
            have hb3 := hP.ij
            have hb4 := hP.size
            clear hP hS hst
            obtain ⟨wi, rfl⟩ : ∃ wi, wi = wc := ⟨_, rfl⟩
            go_upto_block 8 with fail
            go_cut [11] (fun s11 wx => ∃ j : Nat, s11 = .int .i64 (j : Int) ∧ QInv (fun x => lt x p) p a b i j d dk ∧ (i ≤ j → (fun x => lt x p) dk[j]! = true) ∧ R dk wx ∧ j ≤ jo)
            case first =>
              go_wp2_with fail
              go_loopw [11] (fun vi wr => ∃ j : Nat, vi = .int .i64 (j : Int) ∧ QInv (fun x => lt x p) p a b i j d dk ∧ R dk wr ∧ j ≤ jo) (fun vi _ => (intOf vi).toNat + 1 - i)
              case atStart => exact ⟨j, rfl, HP.out, HS.out, by omega⟩
              case round =>
                obtain ⟨j, rfl, hP1, hS1, hbd⟩ := hrel
                have HP := Lib.hid hP1
                have HS := Lib.hid hS1
                have hb1 := hP1.jb
                have hb2 := hP1.ai
                have hb3 := hP1.ij
                have hb4 := hP1.size
                clear hP1 hS1
                by_cases hij : i ≤ j
                · have hgd : decide ((i : Int) ≤ (j : Int)) = true := by simp; omega
                  have hL := HH.out.less dk wr j a HS.out (HP.out.size.trans hd) (by omega) (by omega)
                  rw [HP.out.piv] at hL
                  generalize hv : lt dk[j]! p = v at hL
                  have HVV := Lib.hid hv
                  clear hv
                  go_wp2_with fail
                  refine hL.mono ?_
                  clear hL
                  rintro e w1 ⟨rfl, hR1, hk1⟩
                  have HR1 := Lib.hid hR1
                  clear hR1 hk1
                  cases v with
                  | false =>
                    have HV : Hid ((fun x => lt x p) dk[j]! = false) := Lib.hid (by simpa using HVV.out)
                    go_wp2_with fail
                    go_roundw
                    case rel => exact ⟨j - 1, by go_num, HP.out.down hij HV.out, HR1.out, by omega⟩
                    case measure => first | (simp [intOf]; done) | (simp [intOf]; omega)
                  | true =>
                    have HV : Hid ((fun x => lt x p) dk[j]! = true) := Lib.hid (by simpa using HVV.out)
                    go_wp2_with fail
                    go_meet
                    exact ⟨j, rfl, HP.out, fun _ => HV.out, HR1.out, hbd⟩
                · have hgd : decide ((i : Int) ≤ (j : Int)) = false := by simp; omega
                  go_wp2_with fail
                  go_meet
                  exact ⟨j, rfl, HP.out, fun h => absurd h hij, HS.out, hbd⟩
            case rest =>
              clear HP HS
              obtain ⟨j, rfl, hP, hst2, hS, hbj⟩ := hcut
              have HP := Lib.hid hP
              have HS := Lib.hid hS
              have hb1 := hP.jb
              have hb2 := hP.ai
              have hb3 := hP.ij
              have hb4 := hP.size
              have HST2 := Lib.hid hst2
              clear hP hS hst2
              by_cases hgt : j < i
              · skip
                have HFIN := Lib.hid (HP.out.fin hb hgt)
                have hW := HH.out.swap dk wc j a HS.out (HP.out.size.trans hd) (by omega) (by omega)
                go_wp2_with fail
                refine hW.mono ?_
                clear hW
                rintro e w1 ⟨rfl, hR1, hk1⟩
                have HR1 := Lib.hid hR1
                clear hR1 hk1
                go_wp2_with fail
                go_ret2
                exact ⟨j, .bool false, _, rfl, .inr rfl, HR1.out, HFIN.out.1, HFIN.out.2.1, HFIN.out.2.2.1, HFIN.out.2.2.2.1, HFIN.out.2.2.2.2⟩
              · skip
                have HSWP := Lib.hid (HP.out.swap (by omega) (by omega) (HST.out (by omega)) (HST2.out (by omega)))
                have hW := HH.out.swap dk wc i j HS.out (HP.out.size.trans hd) (by omega) (by omega)
                go_wp2_with fail
                refine hW.mono ?_
                clear hW
                rintro e w2 ⟨rfl, hR2, hk2⟩
                have HS2 := Lib.hid hR2
                clear hR2 hk2
                go_wp2_with fail
                go_roundw
                case rel => exact ⟨i + 1, j - 1, swp dk i j, by go_num, by go_num, HSWP.out, HS2.out⟩
                case measure => first | (simp [intOf]; done) | (simp [intOf]; omega)

set_option maxHeartbeats 12800000 in
set_option maxRecDepth 100000 in
theorem parteqR (H : SortR lt R n g N0 rv) (a b c : Nat) (d : Array α) (w : World) (hd : d.size = n) (hR : R d w) (hab : a < b) (hb : b ≤ d.size) (hac : a ≤ c) (hcb : c < b) :
    Calls Tryz.prog 238 #[.iface 304 rv, .int .i64 a, .int .i64 b, .int .i64 c] w fun e w' => ∃ m : Nat, e = .returned (.int .i64 (m : Int)) ∧ ∃ d' : Array α, R d' w' ∧ a < m ∧ m ≤ b ∧ PermIn a b d d' ∧ (∀ t, a ≤ t → t < m → lt d[c]! d'[t]! = false) ∧ (∀ t, m ≤ t → t < b → lt d[c]! d'[t]! = true) := by
  have hirr := H.swo.irrefl
  have hme := method_LessR
  have hms := method_SwapR
  have hbig := H.big
  have HH := Lib.hid H
  obtain ⟨p, hp⟩ : ∃ p, p = d[c]! := ⟨_, rfl⟩
  have HP0 : Hid (QInv (fun x => !lt p x) p a b (a + 1) (b - 1) d (swp d a c)) := Lib.hid (by rw [hp]; exact QInv.start hab (by omega) hac hcb)
  have HPV := Lib.hid hp
  have hW := H.swap d w a c hR hd (by omega) (by omega)
  clear hR H hp
  go_enter Tryz.func238, Tryz.ntmps238
  go_wp2_with fail
  refine hW.mono ?_
  clear hW
  rintro e w1 ⟨rfl, hR1, hk1⟩
  obtain ⟨dk, hdk⟩ : ∃ dk, dk = swp d a c := ⟨_, rfl⟩
  rw [← hdk] at HP0 hR1
  have HS := Lib.hid hR1
  obtain ⟨i, hi⟩ : ∃ i, i = a + 1 := ⟨_, rfl⟩
  obtain ⟨j, hj⟩ : ∃ j, j = b - 1 := ⟨_, rfl⟩
  rw [← hi, ← hj] at HP0
  have hii : (a : Int) + 1 = (i : Int) := by omega
  have hjj : (b : Int) - 1 = (j : Int) := by omega
  have HP := HP0
  clear hR1 hk1 hdk hi hj HP0
  have HIRR := Lib.hid hirr
  clear hirr
  go_wp2_with fail
  go_loopw [9, 10] (fun vi vj wr => ∃ (i j : Nat) (dk : Array α), vi = .int .i64 (i : Int) ∧ vj = .int .i64 (j : Int) ∧ QInv (fun x => !lt p x) p a b i j d dk ∧ R dk wr) (fun vi vj _ => (intOf vj).toNat + 2 - (intOf vi).toNat)
  case atStart => exact ⟨i, j, dk, rfl, rfl, HP.out, HS.out⟩
  case round =>
    clear HP HS hii hjj
    obtain ⟨i, j, dk, rfl, rfl, hP, hS⟩ := hrel
    have HP := Lib.hid hP
    have HS := Lib.hid hS
    have hb1 := hP.jb
    have hb2 := hP.ai
    have hb3 := hP.ij
    have hb4 := hP.size
    clear hP hS
    obtain ⟨wo, rfl⟩ : ∃ wo, wo = wr := ⟨_, rfl⟩
    obtain ⟨io, hio⟩ : ∃ io, io = i := ⟨_, rfl⟩
    have hio1 : io ≤ i := by omega
    have hio2 : i ≤ io := by omega
    clear hio
    go_upto_block 2 with fail
    go_cut [9] (fun s9 wx => ∃ i : Nat, s9 = .int .i64 (i : Int) ∧ QInv (fun x => !lt p x) p a b i j d dk ∧ (i ≤ j → (fun x => !lt p x) dk[i]! = false) ∧ R dk wx ∧ io ≤ i)
    case first =>
      go_wp2_with fail
      go_loopw [9] (fun vi wr => ∃ i : Nat, vi = .int .i64 (i : Int) ∧ QInv (fun x => !lt p x) p a b i j d dk ∧ R dk wr ∧ io ≤ i) (fun vi _ => j + 1 - (intOf vi).toNat)
      case atStart => exact ⟨i, rfl, HP.out, HS.out, by omega⟩
      case round =>
        obtain ⟨i, rfl, hP1, hS1, hbd⟩ := hrel
        have HP := Lib.hid hP1
        have HS := Lib.hid hS1
        have hb1 := hP1.jb
        have hb2 := hP1.ai
        have hb3 := hP1.ij
        have hb4 := hP1.size
        clear hP1 hS1
        by_cases hij : i ≤ j
        · have hgd : decide ((i : Int) ≤ (j : Int)) = true := by simp; omega
          have hL := HH.out.less dk wr a i HS.out (HP.out.size.trans hd) (by omega) (by omega)
          rw [HP.out.piv] at hL
          generalize hv : lt p dk[i]! = v at hL
          have HVV := Lib.hid hv
          clear hv
          go_wp2_with fail
          refine hL.mono ?_
          clear hL
          rintro e w1 ⟨rfl, hR1, hk1⟩
          have HR1 := Lib.hid hR1
          clear hR1 hk1
          cases v with
          | false =>
            have HV : Hid ((fun x => !lt p x) dk[i]! = true) := Lib.hid (by simpa using HVV.out)
            go_wp2_with fail
            go_roundw
            case rel => exact ⟨i + 1, by go_num, HP.out.up hij HV.out, HR1.out, by omega⟩
            case measure => first | (simp [intOf]; done) | (simp [intOf]; omega)
          | true =>
            have HV : Hid ((fun x => !lt p x) dk[i]! = false) := Lib.hid (by simpa using HVV.out)
            go_wp2_with fail
            go_meet
            exact ⟨i, rfl, HP.out, fun _ => HV.out, HR1.out, hbd⟩
        · have hgd : decide ((i : Int) ≤ (j : Int)) = false := by simp; omega
          go_wp2_with fail
          go_meet
          exact ⟨i, rfl, HP.out, fun h => absurd h hij, HS.out, hbd⟩
    case rest =>
      clear HP HS
      obtain ⟨i, rfl, hP, hst, hS, hbi⟩ := hcut
      obtain ⟨jo, hjo⟩ : ∃ jo, jo = j := ⟨_, rfl⟩
      have hjo1 : jo ≤ j := by omega
      have hjo2 : j ≤ jo := by omega
      rw [← hjo] at hst
      clear hjo
      have HP := Lib.hid hP
      have HS := Lib.hid hS
      have HST := Lib.hid hst
      have hb1 := hP.jb
      have hb2 := hP.ai
      have hb3 := hP.ij
      have hb4 := hP.size
      clear hP hS hst
      obtain ⟨wi, rfl⟩ : ∃ wi, wi = wc := ⟨_, rfl⟩
      go_upto_block 4 with fail
      go_cut [10] (fun s10 wx => ∃ j : Nat, s10 = .int .i64 (j : Int) ∧ QInv (fun x => !lt p x) p a b i j d dk ∧ (i ≤ j → (fun x => !lt p x) dk[j]! = true) ∧ R dk wx ∧ j ≤ jo)
      case first =>
        go_wp2_with fail
        go_loopw [10] (fun vi wr => ∃ j : Nat, vi = .int .i64 (j : Int) ∧ QInv (fun x => !lt p x) p a b i j d dk ∧ R dk wr ∧ j ≤ jo) (fun vi _ => (intOf vi).toNat + 1 - i)
        case atStart => exact ⟨j, rfl, HP.out, HS.out, by omega⟩
        case round =>
          obtain ⟨j, rfl, hP1, hS1, hbd⟩ := hrel
          have HP := Lib.hid hP1
          have HS := Lib.hid hS1
          have hb1 := hP1.jb
          have hb2 := hP1.ai
          have hb3 := hP1.ij
          have hb4 := hP1.size
          clear hP1 hS1
          by_cases hij : i ≤ j
          · have hgd : decide ((i : Int) ≤ (j : Int)) = true := by simp; omega
            have hL := HH.out.less dk wr a j HS.out (HP.out.size.trans hd) (by omega) (by omega)
            rw [HP.out.piv] at hL
            generalize hv : lt p dk[j]! = v at hL
            have HVV := Lib.hid hv
            clear hv
            go_wp2_with fail
            refine hL.mono ?_
            clear hL
            rintro e w1 ⟨rfl, hR1, hk1⟩
            have HR1 := Lib.hid hR1
            clear hR1 hk1
            cases v with
            | true =>
              have HV : Hid ((fun x => !lt p x) dk[j]! = false) := Lib.hid (by simpa using HVV.out)
              go_wp2_with fail
              go_roundw
              case rel => exact ⟨j - 1, by go_num, HP.out.down hij HV.out, HR1.out, by omega⟩
              case measure => first | (simp [intOf]; done) | (simp [intOf]; omega)
            | false =>
              have HV : Hid ((fun x => !lt p x) dk[j]! = true) := Lib.hid (by simpa using HVV.out)
              go_wp2_with fail
              go_meet
              exact ⟨j, rfl, HP.out, fun _ => HV.out, HR1.out, hbd⟩
          · have hgd : decide ((i : Int) ≤ (j : Int)) = false := by simp; omega
            go_wp2_with fail
            go_meet
            exact ⟨j, rfl, HP.out, fun h => absurd h hij, HS.out, hbd⟩
      case rest =>
        clear HP HS
        obtain ⟨j, rfl, hP, hst2, hS, hbj⟩ := hcut
        have HP := Lib.hid hP
        have HS := Lib.hid hS
        have hb1 := hP.jb
        have hb2 := hP.ai
        have hb3 := hP.ij
        have hb4 := hP.size
        have HST2 := Lib.hid hst2
        clear hP hS hst2
        by_cases hgt : j < i
        · go_wp2_with fail
          go_ret
          refine ⟨i, rfl, dk, HS.out, by omega, by omega, HP.out.perm, fun t h1 h2 => ?_, fun t h1 h2 => ?_⟩
          · rw [← HPV.out]
            by_cases e : t = a
            · subst e; rw [HP.out.piv]; exact HIRR.out _
            · have := HP.out.left t (by omega) h2; simpa using this
          · rw [← HPV.out]
            have := HP.out.right t (by omega) h2; simpa using this
        · skip
          have HSWP := Lib.hid (HP.out.swap (by omega) (by omega) (HST.out (by omega)) (HST2.out (by omega)))
          have hW := HH.out.swap dk wc i j HS.out (HP.out.size.trans hd) (by omega) (by omega)
          go_wp2_with fail
          refine hW.mono ?_
          clear hW
          rintro e w2 ⟨rfl, hR2, hk2⟩
          have HS2 := Lib.hid hR2
          clear hR2 hk2
          go_wp2_with fail
          go_roundw
          case rel => exact ⟨i + 1, j - 1, swp dk i j, by go_num, by go_num, HSWP.out, HS2.out⟩
          case measure => first | (simp [intOf]; done) | (simp [intOf]; omega)
end Go.Proofs.YtobdjcnojbnegaaGreatDoor

/- Rows of numbers that are sorted: what lies in the memory. -/
namespace Go.Proofs.YtobdjcnojbnegaaGreatDoor
open Go.Shelf Go.RowKit Go.Lib Go.Sort
set_option linter.unusedVariables false
set_option linter.unusedSimpArgs false

abbrev ltI (x y : Int) : Bool := decide (x < y)
theorem ltI_swo : SWO ltI where
  irrefl x := by simp [ltI]
  trans x y z h1 h2 := by simp only [ltI, decide_eq_true_eq] at *; omega
  ntrans x y z h1 h2 := by simp only [ltI, decide_eq_false_iff_not] at *; omega
/-- A row of numbers at block g, in a world that came from w0. -/
abbrev RowS (q : IntKind) (w0 : World) (g : Nat) (d : Array Int) (W : World) : Prop := SW (Value.int q) w0 g 0 d W
theorem holdsN_cell {q : IntKind} {W : World} {g : Nat} {d : Array Int} (h : Holds (Value.int q) W g 0 d) {i : Nat} (hi : i < d.size) : W.cell? ⟨g, i, none⟩ = some (.int q d[i]!) ∧ W.frozen? ⟨g, i, none⟩ = false := by
  have := h i hi
  rwa [Nat.zero_add] at this
theorem swp_comm (d : Array Int) (i j : Nat) (hi : i < d.size) (hj : j < d.size) : swp d i j = swp d j i := by
  refine Array.ext (by simp [size_swp]) fun k h1 h2 => ?_
  rw [← getElem!_pos _ k h1, ← getElem!_pos _ k h2, swp_get d hi hj, swp_get d hj hi]
  by_cases e : k = j
  · by_cases e' : k = i
    · subst e; subst e'; simp
    · simp [e, e']
      intro e2; subst e2; rfl
  · by_cases e' : k = i
    · simp [e, e']
      intro e2; subst e2; rfl
    · simp [e, e']
theorem swN {q : IntKind} {w0 W : World} {g : Nat} {d : Array Int} (h : RowS q w0 g d W) (hg : g < w0.heap.size) {i j : Nat} (hi : i < d.size) (hj : j < d.size) :
    RowS q w0 g (swp d i j) ((W.setCell ⟨g, i, none⟩ (.int q d[j]!)).setCell ⟨g, j, none⟩ (.int q d[i]!)) ∧ RowS q w0 g (swp d i j) ((W.setCell ⟨g, j, none⟩ (.int q d[i]!)).setCell ⟨g, i, none⟩ (.int q d[j]!)) := by
  have h1 := SW.swap h hg i j hi hj
  have h2 := SW.swap h hg j i hj hi
  rw [Nat.zero_add, Nat.zero_add] at h1 h2
  exact ⟨h1, by rw [swp_comm d i j hi hj]; exact h2⟩
theorem swN_trans {q : IntKind} {w0 W W' : World} {g : Nat} {d d' : Array Int} (h : RowS q w0 g d W) (h' : RowS q W g d' W') (hg : g < w0.heap.size) (hs : d'.size = d.size) : RowS q w0 g d' W' := by
  obtain ⟨n, os, rfl⟩ := h'
  exact SW.on h hg n d' os hs
theorem sift_stop {lt : Int → Int → Bool} {hi first r : Nat} {d : Array Int} (h : hi ≤ 2 * r + 1) : siftDown lt hi first r d = d := by
  rw [siftDown, dif_pos h]
theorem sift_right {lt : Int → Int → Bool} {hi first r ch c2 : Nat} {d : Array Int} (hch : ch = 2 * r + 1) (hc2 : c2 = ch + 1) (h : c2 < hi) (hl : lt d[first + ch]! d[first + ch + 1]! = true) :
    siftDown lt hi first r d = if lt d[first + r]! d[first + c2]! = true then siftDown lt hi first c2 (swp d (first + r) (first + c2)) else d := by
  subst hc2; subst hch
  have e : first + (2 * r + 2) = first + (2 * r + 1 + 1) := by omega
  rw [siftDown, dif_neg (by omega), if_pos (by simp only [Bool.and_eq_true, decide_eq_true_eq]; exact ⟨by omega, hl⟩)]
  by_cases h1 : lt d[first + r]! d[first + (2 * r + 1 + 1)]! = true
  · rw [if_pos h1, if_neg (by rw [e]; simpa using h1), dif_pos (by omega)]
  · rw [if_neg h1, if_pos (by rw [e]; simpa using h1)]
theorem sift_left {lt : Int → Int → Bool} {hi first r ch : Nat} {d : Array Int} (hch : ch = 2 * r + 1) (h : ch < hi) (hl : ch + 1 < hi → lt d[first + ch]! d[first + ch + 1]! = false) :
    siftDown lt hi first r d = if lt d[first + r]! d[first + ch]! = true then siftDown lt hi first ch (swp d (first + r) (first + ch)) else d := by
  subst hch
  rw [siftDown, dif_neg (by omega), if_neg (by
    simp only [Bool.and_eq_true, decide_eq_true_eq, not_and, Bool.not_eq_true]
    intro h1; exact hl (by omega))]
  by_cases h1 : lt d[first + r]! d[first + (2 * r + 1)]! = true
  · rw [if_pos h1, if_neg (by simpa using h1)]
  · rw [if_neg h1, if_pos (by simpa using h1)]
theorem size_sift (lt : Int → Int → Bool) (hi first : Nat) : ∀ (m r : Nat) (d : Array Int), hi - r ≤ m → (siftDown lt hi first r d).size = d.size := by
  intro m
  induction m with
  | zero => intro r d h; rw [sift_stop (by omega)]
  | succ m ih =>
    intro r d h
    by_cases h0 : hi ≤ 2 * r + 1
    · rw [sift_stop h0]
    · by_cases h1 : 2 * r + 1 + 1 < hi ∧ lt d[first + (2 * r + 1)]! d[first + (2 * r + 1) + 1]! = true
      · rw [sift_right rfl rfl h1.1 h1.2]
        split
        · rw [ih _ _ (by omega), size_swp]
        · rfl
      · rw [sift_left rfl (by omega) (fun h2 => by simpa using fun h3 => h1 ⟨h2, h3⟩)]
        split
        · rw [ih _ _ (by omega), size_swp]
        · rfl
end Go.Proofs.YtobdjcnojbnegaaGreatDoor

/- sort: xorshift.Next, nextPowerOfTwo. -/
namespace Go.Proofs.YtobdjcnojbnegaaGreatDoor
open Go.Shelf Go.RowKit Go.Lib Go.Sort
set_option linter.unusedVariables false
set_option linter.unusedSimpArgs false

set_option maxHeartbeats 2000000 in
set_option maxRecDepth 1000000 in
theorem xor_nextS (rb X : Nat) (hX : X < 18446744073709551616) (w : World) (hc : w.cell? ⟨rb, 0, none⟩ = some (.int .u64 X)) (hf : w.frozen? ⟨rb, 0, none⟩ = false) :
    Calls Tryz.prog 101 #[.pointer (some ⟨rb, 0, none⟩)] w fun e w' => e = .returned (.int .u64 (xorNextN X : Nat)) ∧ w' = (w.setCell ⟨rb, 0, none⟩ (.int .u64 (xorNextN X : Nat))).drewN 3 := by
  obtain ⟨A, hA⟩ : ∃ A : Nat, A = X ^^^ (X * 8192 % 18446744073709551616) := ⟨_, rfl⟩
  obtain ⟨B, hB⟩ : ∃ B : Nat, B = A ^^^ (A / 128) := ⟨_, rfl⟩
  obtain ⟨C, hC⟩ : ∃ C : Nat, C = B ^^^ (B * 131072 % 18446744073709551616) := ⟨_, rfl⟩
  have lA : A < 18446744073709551616 := by rw [hA]; exact Nat.xor_lt_two_pow (n := 64) (by omega) (by omega)
  have lB : B < 18446744073709551616 := by rw [hB]; exact Nat.xor_lt_two_pow (n := 64) (by omega) (by omega)
  have e1 : bits .xor .u64 (X : Int) (IntKind.u64.wrap ((X : Int) * 8192)) = (A : Int) := by
    rw [IntKind.wrap_u64, show ((X : Int) * 8192 % 18446744073709551616) = ((X * 8192 % 18446744073709551616 : Nat) : Int) by omega, bits_xor_u64_nat _ _ hX (by omega), hA]
  have e2 : bits .xor .u64 (A : Int) ((A : Int) / 128) = (B : Int) := by
    rw [show ((A : Int) / 128) = ((A / 128 : Nat) : Int) by omega, bits_xor_u64_nat _ _ lA (by omega), hB]
  have e3 : bits .xor .u64 (B : Int) (IntKind.u64.wrap ((B : Int) * 131072)) = (C : Int) := by
    rw [IntKind.wrap_u64, show ((B : Int) * 131072 % 18446744073709551616) = ((B * 131072 % 18446744073709551616 : Nat) : Int) by omega, bits_xor_u64_nat _ _ lB (by omega), hC]
  have hv : xorNextN X = C := by unfold xorNextN; simp only []; rw [← hA, ← hB, ← hC]
  rw [hv]
  clear hA hB hC hv
  have hss : ∀ v v', (w.setCell ⟨rb, 0, none⟩ v).setCell ⟨rb, 0, none⟩ v' = w.setCell ⟨rb, 0, none⟩ v' := setCell_setCell w rb 0
  go_enter Tryz.func101, Tryz.ntmps101
  go_wp2_with fail
  go_region
  all_goals go_wp2_with fail
  all_goals go_region
  all_goals go_wp2_with fail
  all_goals go_region
  all_goals go_wp2_with fail
  go_ret
  exact ⟨rfl, rfl⟩

theorem next_powS (n : Nat) (hn : n < 4611686018427387904) (w : World) :
    Calls Tryz.prog 100 #[.int .i64 n] w fun e w' => e = .returned (.int .u64 ((1 <<< bitsLen n : Nat) : Int)) ∧ w' = w := by
  have hLen : ∀ w, Calls Tryz.prog 44 #[.int .u64 (n : Int)] w fun e w' => e = .returned (.int .i64 (bitsLen n : Nat)) ∧ w' = w := fun w => by
    have h := Tryz.bits_Len (n : Int) w (by omega) (by omega)
    rwa [Int.toNat_natCast, bitLen_eq _ (by omega)] at h
  have hk : bitsLen n ≤ 62 := (bitsLen_le_iff n 62).2 (by omega)
  have hp := wrap_two_pow (bitsLen n) hk
  go_enter Tryz.func100, Tryz.ntmps100
  go_wp2_with (first | (go_at_call 44; refine (hLen _).mono ?_; rintro e w' ⟨rfl, rfl⟩))
  go_ret
  exact ⟨rfl, rfl⟩
end Go.Proofs.YtobdjcnojbnegaaGreatDoor
