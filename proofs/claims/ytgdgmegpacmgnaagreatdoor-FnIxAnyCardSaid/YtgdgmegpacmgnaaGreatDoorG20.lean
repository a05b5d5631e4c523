import Derived.Test.YtgdgmegpacmgnaaGreatDoorG19
import Derived.Test.YtgdgmegpacmgnaaGreatDoorG17
import Derived.Test.YtgdgmegpacmgnaaGreatDoorG09
import Derived.Test.YtgdgmegpacmgnaaGreatDoorG07
import Derived.Test.YtgdgmegpacmgnaaGreatDoorG00
import Derived.Shelf.GgSortFunc.SW
import Derived.Sort.LotB
/- .. of an index 0x0401; and ReadFrom. -/
namespace Go.Proofs.YtgdgmegpacmgnaaGreatDoor
open Go.RowKit
open Go.ChangeMaps (setBlock)
set_option linter.unusedVariables false
set_option linter.unusedSimpArgs false
attribute [local go_sem] setCell_drewN alloc_drewN

set_option maxRecDepth 100000 in
set_option maxHeartbeats 1600000 in
theorem CoUnmarshal_bad (b : Nat) (A : Option Addr) (cap : Nat) (bs : List UInt8) (pos : Nat) (cb mb : Nat) (w : World)
    (hsm : bs.length ≤ 16777216) (h : RdAt w b A cap bs pos) (hbad : (bs.drop pos).length < 8 ∨ MwBad ((bs.drop pos).drop 8)) (hM : CodAt w ⟨0, cb, mb, []⟩) (hf : w.frozen? ⟨cb, 1, none⟩ = false) (hab : cb ≠ b) (hmb : mb ≠ b) (ham : cb ≠ mb)
    (hA : ∀ g' o, A = some ⟨g', o, none⟩ → g' < w.heap.size ∧ g' ≠ cb ∧ g' ≠ mb) {L : Nat} {pe pu : Addr} (hE : Errs w L pe pu) (hLb : L ≤ b) (hLm : L ≤ mb) (hLc : L ≤ cb) :
    Calls Tryz.prog 191 #[.pointer (some ⟨cb, 0, none⟩), .iface 40 (.pointer (some ⟨b, 0, none⟩))] w fun e w' => (∃ p, e = .returned (.iface 137 (.pointer (some p)))) ∧ Kp (fun i => i = b ∨ i = mb ∨ i = cb) w w' := by
  have hle := h.le
  by_cases h8 : pos + 8 ≤ bs.length
  · have hs8 := le_split_at 8 bs pos h8
    have hw8 := le_lt 8 (bs.drop pos) (by rw [List.length_drop]; omega)
    have hbw : MwBad (bs.drop (pos + 8)) := by
      rcases hbad with hb | hb
      · rw [List.length_drop] at hb; omega
      · rw [← List.drop_drop]; exact hb
    generalize Lib.leNat ((bs.drop pos).take 8) = code at hs8 hw8
    have hR := zzRead64_more b A cap bs pos code (by omega) _ ⟨cb, 1, none⟩ _ w h hs8 hM.code hf hab (fun g o e => ⟨(hA g o e).1, (hA g o e).2.1⟩)
    have hmbl := hM.mw.map.lt
    clear hbad h hs8
    go_enter Tryz.func191, Tryz.ntmps191
    go_wp2_with fail
    refine hR.mono ?_
    rintro e w1 ⟨rfl, hR1, ⟨hc1, ho1⟩, hK1⟩
    have hz1 := hK1.size
    have hM1 : MwAt w1 ⟨cb, 0, none⟩ mb [] := ⟨((ho1 ⟨cb, 0, none⟩ rfl (by simp)).1).trans hM.mw.cell, hM.mw.map.kp hK1 (fun h => h.elim hmb (fun e => ham e.symm)), by simp⟩
    have hE1 := hE.kp hK1 (fun i hi => by rcases hi with rfl | rfl; exact hLb; exact hLc)
    have hU := MwUnmarshal_bad b A cap bs (pos + 8) ⟨cb, 0, none⟩ mb w1 hsm hR1 hbw hM1 hab hmb ham (fun g o e => ⟨Nat.lt_of_lt_of_le (hA g o e).1 hz1, (hA g o e).2.1, (hA g o e).2.2⟩) hE1 hLb hLm
    clear hR hR1 hbw hM1 hE hE1
    go_wp2_with fail
    refine hU.mono ?_
    clear hU
    rintro e w2 ⟨⟨p, rfl⟩, hK2⟩
    go_wp2_with fail
    go_ret
    refine ⟨⟨_, rfl⟩, ?_⟩
    exact (hK1.mono (S' := fun i => i = b ∨ i = mb ∨ i = cb) (fun i h => .inl (h.elim .inl (fun e => .inr (.inr e))))).trans hK2 (fun i h => .inl (h.elim .inl (fun e => .inr (.inl e))))
  · have hR1 := zzRead64_short b A cap bs pos ⟨cb, 1, none⟩ w h (by omega) (fun g' o e => (hA g' o e).1) hE hLb
    have cc := World.block_lt_of_cell? w _ hM.code
    clear h hbad hM
    go_enter Tryz.func191, Tryz.ntmps191
    go_wp2_with fail
    refine hR1.mono ?_
    clear hR1
    rintro e w1 ⟨⟨p, rfl, hp⟩, hK1⟩
    have hE2 := hE.kp hK1 (fun i hi => by rw [hi]; exact hLb)
    have c0 := hE2.eof
    have c1 := hE2.ueof
    obtain ⟨t, ht⟩ := eql_errs hE2 hp
    have hKb : Kp (fun i => i = b ∨ i = mb ∨ i = cb) w w1 := hK1.mono (S' := fun i => i = b ∨ i = mb ∨ i = cb) (fun i h => .inl (.inl h))
    clear hE hE2 hK1
    cases t with
    | true =>
      go_wp2_with fail
      go_ret
      exact ⟨⟨_, rfl⟩, hKb⟩
    | false =>
      go_wp2_with fail
      go_ret
      exact ⟨⟨_, rfl⟩, hKb⟩

set_option maxRecDepth 100000 in
set_option maxHeartbeats 3200000 in
theorem MhUnmarshal_badN (b : Nat) (A : Option Addr) (cap : Nat) (bs : List UInt8) (pos : Nat) (a : Addr) (mb : Nat) (n : Nat) (ss : List (Nat × List (Nat × List UInt8))) (rest : List UInt8)
    (hw : ∀ p ∈ ss, p.1 < 18446744073709551616 ∧ (∀ s ∈ p.2, 8 ≤ s.1 ∧ s.1 ≤ 33554432) ∧ (p.2.map (·.1)).Nodup) (hnd : (ss.map (·.1)).Nodup) (w : World)
    (hsm : bs.length ≤ 16777216) (h : RdAt w b A cap bs pos) (hbs : bs.drop pos = Lib.leBytes 4 n ++ (codsBytes ss ++ rest)) (hltn : ss.length < n) (hn31 : n < 2147483648) (hbad : rest.length < 8 ∨ MwBad (rest.drop 8)) (hM : MhAt w a mb []) (hab : a.block ≠ b) (hmb : mb ≠ b) (ham : a.block ≠ mb)
    (hA : ∀ g' o, A = some ⟨g', o, none⟩ → g' < w.heap.size ∧ g' ≠ a.block ∧ g' ≠ mb) {L : Nat} {pe pu : Addr} (hE : Errs w L pe pu) (hLb : L ≤ b) (hLm : L ≤ mb) :
    Calls Tryz.prog 179 #[.pointer (some a), .iface 40 (.pointer (some ⟨b, 0, none⟩))] w fun e w' => (∃ p, e = .returned (.iface 137 (.pointer (some p)))) ∧ Kp (fun i => i = b ∨ i = mb) w w' := by
  have hms := method_Seek
  have hbl := h.blt
  have hal := World.block_lt_of_cell? w _ hM.cell
  have hmbl := hM.map.lt
  have hlen : pos + 4 + (codsBytes ss).length ≤ bs.length := by
    have := congrArg List.length hbs
    simp only [List.length_drop, List.length_append, le4_len] at this
    omega
  have hsl := codsBytes_len ss
  have hbs2 : bs.drop (pos + 4) = codsBytes ss ++ rest := by rw [← List.drop_drop, hbs]; rfl
  have hend : bs.drop (pos + 4 + (codsBytes (ss.take ss.length)).length) = rest := by rw [List.take_length, ← List.drop_drop, hbs2, List.drop_left' rfl]
  have HEND := Lib.hid hend
  have HBAD := Lib.hid hbad
  have hR1 := zzRead32_ok b A cap bs pos n (by omega) _ ⟨w.heap.size, 0, none⟩ (.int .u32 0) (w.alloc (.cells #[.int .u32 0] 103)) (rd_alloc h _) hbs (by simp [go_sem]) (by simp [go_sem]) (by show w.heap.size ≠ b; omega) (fun g' o e => by have := (hA g' o e).1; simp; omega)
  have HB := Lib.hid hbs2; have HW := Lib.hid hw; have HN := Lib.hid hnd
  have HE := Lib.hid hE
  clear hbs hbs2 hw hnd hbad hend hE
  go_enter Tryz.func179, Tryz.ntmps179
  go_wp2_with fail
  refine (ToByteReadSeeker_ok _ _).mono ?_
  rintro e w0 ⟨rfl, rfl⟩
  go_wp2_with fail
  refine hR1.mono ?_
  rintro e w1 ⟨rfl, hR1, hc1, hK1⟩
  have hz1 : w.heap.size < w1.heap.size := by have := hK1.size; simp at this; omega
  have hKa : Kp (fun i => i = b ∨ i = mb) w w1 := (Kp.refl _ w).box hK1 (fun i hi => hi.elim (fun e => .inl (.inl e)) (fun e => .inr e))
  have hM1 : MhAt w1 a mb [] := (hM.kp (kp_alloc w _) id id (fun c hc => by simp at hc)).kp hK1 (by simp; omega) (by simp; omega) (fun c hc => by simp at hc)
  clear hK1
  go_wp2_with fail
  refine (Seek_ok b A cap bs (pos + 4) w1 hR1).mono ?_
  rintro e w2 ⟨rfl, hR2, hK2⟩
  have hz2 := hK2.size
  have hKb : Kp (fun i => i = b ∨ i = mb) w w2 := hKa.trans hK2 (fun i hi => .inl (.inl hi))
  have hM2 : MhAt w2 a mb [] := hM1.kp hK2 hab hmb (fun c hc => by simp at hc)
  clear hR1 hc1 hKa hM1 hK2 hM
  have hneg : ¬ ((n : Int) < 0) := by omega
  have hwrap : IntKind.i32.wrap (n : Int) = (n : Int) := by rw [IntKind.wrap_i32]; omega
  go_wp2_with fail
  go_loopw [9, 11] (fun vs vi wr => ∃ (k sum : Nat) (cs : List Cod), vi = .int .i64 (k : Int) ∧ vs = .int .i64 (sum : Int) ∧ k ≤ ss.length ∧ sum ≤ (k + 1) * 16777216 ∧ cs.map Cod.two = ss.take k ∧ RdAt wr b A cap bs (pos + 4 + (codsBytes (ss.take k)).length) ∧
      MhAt wr a mb cs ∧ (∀ c ∈ cs, c.Above w.heap.size) ∧ Kp (fun i => i = b ∨ i = mb) w wr ∧ w1.heap.size ≤ wr.heap.size) (fun _ vi _ => n - (intOf vi).toNat)
  case atStart => exact ⟨0, pos + 4, [], rfl, rfl, Nat.zero_le _, by omega, rfl, by simpa [codsBytes] using hR2, hM2, by simp, hKb, hz2⟩
  case round =>
    clear hR2 hM2 hKb
    obtain ⟨k, sum, cs, rfl, rfl, hk, hsum, hsecs, hR, hM, hgs, hK, hzr⟩ := hrel
    by_cases hlt : k < ss.length
    · obtain ⟨p, hp⟩ : ∃ p, ss[k]? = some p := ⟨_, List.getElem?_eq_getElem hlt⟩
      have hat := cods_at hp bs rest (pos + 4) HB.out
      have htk := cods_take hp
      obtain ⟨hp1, hp2, hp3⟩ := HW.out p (List.mem_of_getElem? hp)
      have hnew : ∀ c ∈ cs, c.code ≠ p.1 := by
        intro s hs e
        have h1 : s.two ∈ ss.take k := by rw [← hsecs]; exact List.mem_map.2 ⟨s, hs, rfl⟩
        obtain ⟨j, hj⟩ := List.getElem?_of_mem h1
        have hjk := (List.getElem?_eq_some_iff.1 hj).1
        rw [List.length_take] at hjk
        have hj2 : ss[j]? = some s.two := by rw [List.getElem?_take] at hj; split at hj; exact hj; cases hj
        have e2 : (ss.map (·.1))[j]? = (ss.map (·.1))[k]? := by rw [List.getElem?_map, List.getElem?_map, hj2, hp]; simp [Cod.two, e]
        have := (List.getElem?_inj (i := j) (j := k) (by simp; omega) HN.out).1 e2
        omega
      obtain ⟨code, secs⟩ := p
      simp only at hat hp1 hp2 hp3 hnew
      have hplen := congrArg List.length hat
      simp only [List.length_drop, List.length_append] at hplen
      have hcl := codBytes_len (code, secs)
      have hpl : (codsBytes (ss.take (k + 1))).length = (codsBytes (ss.take k)).length + (codBytes (code, secs)).length := by rw [htk, codsBytes_append, List.length_append]; simp [codsBytes]
      have hbd : pos + 4 + (codsBytes (ss.take k)).length + (codBytes (code, secs)).length ≤ bs.length := by omega
      obtain ⟨pk, hpk⟩ : ∃ pk, pk = pos + 4 + (codsBytes (ss.take k)).length := ⟨_, rfl⟩
      rw [← hpk] at hR hat hbd
      have HPL : Hid (pos + 4 + (codsBytes (ss.take (k + 1))).length = pk + (codBytes (code, secs)).length) := Lib.hid (by omega)
      have HT := Lib.hid htk; have HSS := Lib.hid hsecs; have HNW := Lib.hid hnew; have HAT := Lib.hid hat; have HP2 := Lib.hid hp2; have HP3 := Lib.hid hp3
      clear hpk htk hpl hplen hsecs hnew hp hat hp2 hp3
      have hbr := hR.blt
      go_wp2_with fail
      refine (newMwci_ok _).mono ?_
      rintro e w3 ⟨rfl, hC3, hf3, hz3, hb3⟩
      have hlts : ∀ c ∈ cs, c.cb < wr.heap.size ∧ c.mb < wr.heap.size ∧ ∀ s ∈ c.secs, s.gd < wr.heap.size := fun c hc => Cod.Above.lt (hM.row c hc)
      have hR3 : RdAt w3 b A cap bs pk := hR.keep (S := fun _ => False) (Kp.of_below hb3) id (fun _ _ _ => id)
      have hM3 : MhAt w3 a mb cs := hM.kp (S := fun _ => False) (Kp.of_below hb3) id id (fun _ _ => ⟨id, id, fun _ _ => id⟩)
      have hK3 : Kp (fun i => i = b ∨ i = mb) w w3 := hK.trans (Kp.of_below (S := fun _ => False) hb3) (fun i hi => hi.elim)
      have hCo := CoUnmarshal_ok b A cap bs pk (wr.heap.size + 1) wr.heap.size code hp1 secs _ HP2.out HP3.out w3 hsm hR3 HAT.out hC3 hf3 (by omega) (by omega) (by omega) (fun g o e => by have := (hA g o e).1; omega)
      clear hC3 hf3 hR hR3 hM hK
      go_wp2_with fail
      refine hCo.mono ?_
      clear hCo
      rintro e w4 ⟨rfl, hR4, ⟨secs', hs4, hC4, hgd4⟩, hK4⟩
      have hz4 := hK4.size
      have hM4 : MhAt w4 a mb cs := hM3.kp hK4 (by omega) (by omega) (fun c hc => by
        have h1 := hlts c hc; have h2 := hgs c hc
        refine ⟨by have := h1.1; have := h2.1; omega, by have := h1.2.1; have := h2.2.1; omega, fun s hs => by have := h1.2.2 s hs; have := h2.2.2 s hs; omega⟩)
      have hKd : Kp (fun i => i = b ∨ i = mb) w w4 := hK3.trans hK4 (fun i hi => by rcases hi with e | e | e; exact .inl (.inl e); exact .inr (by omega); exact .inr (by omega))
      clear hM3 hK3 hK4
      go_wp2_with fail
      refine (Seek_ok b A cap bs _ w4 hR4).mono ?_
      rintro e w5 ⟨rfl, hR5, hK5⟩
      have hz5 := hK5.size
      have hKe : Kp (fun i => i = b ∨ i = mb) w w5 := hKd.trans hK5 (fun i hi => .inl (.inl hi))
      have hM5 : MhAt w5 a mb cs := hM4.kp hK5 hab hmb (fun c hc => by
        have h2 := hgs c hc
        exact ⟨by have := h2.1; omega, by have := h2.2.1; omega, fun s hs => by have := h2.2.2 s hs; omega⟩)
      have hC5 : CodAt w5 ⟨code, wr.heap.size + 1, wr.heap.size, secs'⟩ := hC4.kp hK5 (by show wr.heap.size + 1 ≠ b; omega) (by show wr.heap.size ≠ b; omega) (fun s hs => by have := hgd4 s hs; omega)
      clear hR4 hKd hM4 hC4 hK5
      have hsum' : ¬ ((sum : Int) + ((pk + (codBytes (code, secs)).length : Nat) : Int) < (sum : Int)) := by omega
      have hsw : IntKind.i64.wrap ((sum : Int) + ((pk + (codBytes (code, secs)).length : Nat) : Int)) = ((sum + (pk + (codBytes (code, secs)).length) : Nat) : Int) := by rw [IntKind.wrap_i64]; omega
      have hPut := MhPut_ok a mb cs ⟨code, wr.heap.size + 1, wr.heap.size, secs'⟩ w5 hM5 hC5 HNW.out ham ⟨by show mb ≠ wr.heap.size + 1; omega, by show mb ≠ wr.heap.size; omega, fun s hs => by have := hgd4 s hs; omega⟩ (fun x hx => by
        have h2 := hgs x hx
        exact ⟨by have := h2.1; omega, by have := h2.2.1; omega, fun s hs => by have := h2.2.2 s hs; omega⟩)
      go_wp2_with fail
      refine hPut.mono ?_
      clear hPut hM5 hC5
      rintro e w6 ⟨rfl, hM6, hK6⟩
      have hz6 := hK6.size
      have hR6 := hR5.keep hK6 (fun e => hmb e.symm) (fun g o e => (hA g o e).2.2)
      have hKf : Kp (fun i => i = b ∨ i = mb) w w6 := hKe.trans hK6 (fun i hi => .inl (.inr hi))
      have HR6 := Lib.hid hR6
      clear hR5 hKe hK6 hR6
      go_wp2_with fail
      go_roundw
      case rel =>
        refine ⟨k + 1, sum + (pk + (codBytes (code, secs)).length), cs ++ [⟨code, wr.heap.size + 1, wr.heap.size, secs'⟩], by go_num, by first | rfl | go_num, by omega, by omega, ?_, by rw [HPL.out]; exact HR6.out, hM6, ?_, hKf, by omega⟩
        · rw [List.map_append, HSS.out, HT.out]; simp [Cod.two, hs4]
        · intro c hc
          rcases List.mem_append.1 hc with hc | hc
          · exact hgs c hc
          · obtain rfl : c = ⟨code, wr.heap.size + 1, wr.heap.size, secs'⟩ := by simpa using hc
            exact ⟨by show w.heap.size < wr.heap.size + 1; omega, by show w.heap.size < wr.heap.size; omega, fun s hs => by have := hgd4 s hs; omega⟩
      case measure => simp [intOf]; omega
    · obtain rfl : k = ss.length := by omega
      have hkn : ((ss.length : Nat) : Int) < (n : Int) := by omega
      have hbr := hR.blt
      have hEr := HE.out.kp hK (fun i hi => by rcases hi with rfl | rfl; exact hLb; exact hLm)
      have hLw := HE.out.le
      have hzw := hK.size
      clear hM hgs
      go_wp2_with fail
      refine (newMwci_ok _).mono ?_
      rintro e w3 ⟨rfl, hC3, hf3, hz3, hb3⟩
      have hR3 := hR.keep (S := fun _ => False) (Kp.of_below hb3) id (fun _ _ _ => id)
      have hE3 := hEr.kp (S := fun _ => False) (Kp.of_below hb3) (fun i e => e.elim)
      have hK3 : Kp (fun i => i = b ∨ i = mb) w w3 := hK.trans (Kp.of_below (S := fun _ => False) hb3) (fun i hi => hi.elim)
      have hCo := CoUnmarshal_bad b A cap bs _ (wr.heap.size + 1) wr.heap.size w3 hsm hR3 (by rw [HEND.out]; exact HBAD.out) hC3 hf3 (by omega) (by omega) (by omega) (fun g o e => by have := (hA g o e).1; omega) hE3 hLb (by omega) (by omega)
      clear hC3 hf3 hR hR3 hK hEr hE3
      go_wp2_with fail
      refine hCo.mono ?_
      clear hCo
      rintro e w4 ⟨⟨p, rfl⟩, hK4⟩
      have hKd : Kp (fun i => i = b ∨ i = mb) w w4 := hK3.trans hK4 (fun i hi => by rcases hi with e | e | e; exact .inl (.inl e); exact .inr (by omega); exact .inr (by omega))
      clear hK3 hK4
      go_wp2_with fail
      go_ret
      exact ⟨⟨_, rfl⟩, hKd⟩

set_option maxRecDepth 100000 in
set_option maxHeartbeats 1600000 in
theorem MhUnmarshal_bad (b : Nat) (A : Option Addr) (cap : Nat) (bs : List UInt8) (pos : Nat) (a : Addr) (mb : Nat) (w : World)
    (hsm : bs.length ≤ 16777216) (h : RdAt w b A cap bs pos) (hbad : MhBad (bs.drop pos)) (hM : MhAt w a mb []) (hab : a.block ≠ b) (hmb : mb ≠ b) (ham : a.block ≠ mb)
    (hA : ∀ g' o, A = some ⟨g', o, none⟩ → g' < w.heap.size ∧ g' ≠ a.block ∧ g' ≠ mb) {L : Nat} {pe pu : Addr} (hE : Errs w L pe pu) (hLb : L ≤ b) (hLm : L ≤ mb) :
    Calls Tryz.prog 179 #[.pointer (some a), .iface 40 (.pointer (some ⟨b, 0, none⟩))] w fun e w' => (∃ p, e = .returned (.iface 137 (.pointer (some p)))) ∧ Kp (fun i => i = b ∨ i = mb) w w' := by
  rcases hbad with h4 | ⟨n, ss, tail, hbs, hlt, hn31, hb, hok⟩
  · have hms := method_Seek
    have hle := h.le
    have hbl := h.blt
    have hR1 := zzRead32_short b A cap bs pos ⟨w.heap.size, 0, none⟩ (w.alloc (.cells #[.int .u32 0] 103)) (rd_alloc h _) (by rw [List.length_drop] at h4; omega) (fun g' o e => by have := (hA g' o e).1; simp; omega) (hE.box _) hLb
    have hEa := hE.box (.cells #[.int .u32 0] 103)
    clear h h4 hE hM
    go_enter Tryz.func179, Tryz.ntmps179
    go_wp2_with fail
    refine (ToByteReadSeeker_ok _ _).mono ?_
    rintro e w0 ⟨rfl, rfl⟩
    go_wp2_with fail
    refine hR1.mono ?_
    clear hR1
    rintro e w1 ⟨⟨p, rfl, hp⟩, hK1⟩
    have hE2 := hEa.kp hK1 (fun i hi => by rw [hi]; exact hLb)
    have c0 := hE2.eof
    have c1 := hE2.ueof
    obtain ⟨t, ht⟩ := eql_errs hE2 hp
    have hKb : Kp (fun i => i = b ∨ i = mb) w w1 := ((kp_alloc w _).mono (S' := fun i => i = b ∨ i = mb) (fun i hi => hi.elim)).trans hK1 (fun i hi => .inl (.inl hi))
    clear hEa hE2 hK1
    cases t with
    | true =>
      go_wp2_with fail
      go_ret
      exact ⟨⟨_, rfl⟩, hKb⟩
    | false =>
      go_wp2_with fail
      go_ret
      exact ⟨⟨_, rfl⟩, hKb⟩
  · exact MhUnmarshal_badN b A cap bs pos a mb n ss tail (fun c hc => ⟨(hok.1 c hc).1, fun s hs => ⟨((hok.1 c hc).2.1.1 s hs).1, ((hok.1 c hc).2.1.1 s hs).2.1⟩, (hok.1 c hc).2.1.2⟩) hok.2 w hsm h hbs hlt hn31 hb hM hab hmb ham hA hE hLb hLm
end Go.Proofs.YtgdgmegpacmgnaaGreatDoor

/- Rows that stand in order are written as they were read. -/
namespace Go.Proofs.YtgdgmegpacmgnaaGreatDoor
open Go.RowKit
set_option linter.unusedVariables false
set_option linter.unusedSimpArgs false

theorem sortN_inc {l : List Nat} (h : l.Pairwise (· < ·)) : sortN l = l := by
  unfold sortN
  refine List.mergeSort_of_pairwise (h.imp fun h => ?_)
  simp only [decide_eq_true_eq]; omega
theorem inOrder_self {secs : List Sec} (hn : (secs.map Sec.width).Nodup) : ∀ l : List Sec, (∀ s ∈ l, s ∈ secs) → inOrder secs (l.map Sec.width) = l.map Sec.two := by
  intro l
  induction l with
  | nil => intro _; rfl
  | cons s l ih =>
    intro h
    have h1 := ih (fun x hx => h x (.tail _ hx))
    simp only [inOrder] at h1 ⊢
    rw [List.map_cons, List.filterMap_cons, find_width (h s (.head _)) hn]
    simp only [Option.map_some, List.map_cons]
    rw [h1]
theorem two_widths (secs : List Sec) : (secs.map Sec.two).map (·.1) = secs.map Sec.width := by rw [List.map_map]; rfl
theorem sortedSecs_inc {secs : List Sec} (h : ((secs.map Sec.two).map (·.1)).Pairwise (· < ·)) : sortedSecs secs = secs.map Sec.two := by
  rw [two_widths] at h
  rw [sortedSecs, sortN_inc h]
  exact inOrder_self (h.imp fun h => by omega) secs (fun _ h => h)
theorem two_codes (cs : List Cod) : (cs.map Cod.two).map (·.1) = cs.map Cod.code := by rw [List.map_map]; rfl
theorem inCodes_all {cs : List Cod} (hn : (cs.map Cod.code).Nodup) : ∀ l : List Cod, (∀ s ∈ l, s ∈ cs) → inCodes cs (l.map Cod.code) = l.map fun c => (c.code, sortedSecs c.secs) := by
  intro l
  induction l with
  | nil => intro _; rfl
  | cons s l ih =>
    intro h
    have h1 := ih (fun x hx => h x (.tail _ hx))
    simp only [inCodes] at h1 ⊢
    rw [List.map_cons, List.filterMap_cons, find_code (h s (.head _)) hn]
    simp only [Option.map_some, List.map_cons]
    rw [h1]
theorem cods_two {l : List Cod} (h : ∀ c ∈ l, sortedSecs c.secs = c.secs.map Sec.two) : (l.map fun c => (c.code, sortedSecs c.secs)) = l.map Cod.two := by
  refine List.map_congr_left fun c hc => ?_
  show (c.code, sortedSecs c.secs) = (c.code, c.secs.map Sec.two)
  rw [h c hc]
theorem sortedCods_inc {cs : List Cod} (h : ((cs.map Cod.two).map (·.1)).Pairwise (· < ·)) (hi : ∀ c ∈ cs.map Cod.two, (c.2.map (·.1)).Pairwise (· < ·)) : sortedCods cs = cs.map Cod.two := by
  rw [two_codes] at h
  rw [sortedCods, sortN_inc h, inCodes_all (h.imp fun h => by omega) cs (fun _ h => h)]
  exact cods_two fun c hc => sortedSecs_inc (hi c.two (List.mem_map.2 ⟨c, hc, rfl⟩))

theorem secsBytes_perm {a b : List (Nat × List UInt8)} (h : a.Perm b) : (secsBytes a).length = (secsBytes b).length := by
  induction h with
  | nil => rfl
  | cons x _ ih => rw [secsBytes_cons, secsBytes_cons, List.length_append, List.length_append, ih]
  | swap x y l => simp only [secsBytes_cons, List.length_append]; omega
  | trans _ _ h1 h2 => rw [h1, h2]
theorem sortedSecs_bytes {secs : List Sec} (hn : (secs.map Sec.width).Nodup) : (secsBytes (sortedSecs secs)).length = (secsBytes (secs.map Sec.two)).length := by
  refine secsBytes_perm ?_
  have h := (List.mergeSort_perm (secs.map Sec.width) fun a b => decide (a ≤ b)).filterMap (fun x => (secs.find? fun s => decide (s.width = x)).map Sec.two)
  rw [← inOrder_self hn secs (fun _ h => h)]
  exact h
theorem codsBytes_perm {a b : List (Nat × List (Nat × List UInt8))} (h : a.Perm b) : (codsBytes a).length = (codsBytes b).length := by
  induction h with
  | nil => rfl
  | cons x _ ih => simp only [codsBytes, List.map_cons, List.flatten_cons, List.length_append] at ih ⊢; rw [ih]
  | swap x y l => simp only [codsBytes, List.map_cons, List.flatten_cons, List.length_append]; omega
  | trans _ _ h1 h2 => rw [h1, h2]
theorem sortedCods_bytes {cs : List Cod} (hn : (cs.map Cod.code).Nodup) (hi : ∀ c ∈ cs, (c.secs.map Sec.width).Nodup) : (codsBytes (sortedCods cs)).length = (codsBytes (cs.map Cod.two)).length := by
  have h := (List.mergeSort_perm (cs.map Cod.code) fun a b => decide (a ≤ b)).filterMap (fun x => (cs.find? fun c => decide (c.code = x)).map fun c => (c.code, sortedSecs c.secs))
  have h2 : (codsBytes (sortedCods cs)).length = (codsBytes (cs.map fun c => (c.code, sortedSecs c.secs))).length := by
    refine codsBytes_perm ?_
    rw [← inCodes_all hn cs (fun _ h => h)]
    exact h
  rw [h2]
  have : ∀ l : List Cod, (∀ c ∈ l, (c.secs.map Sec.width).Nodup) → (codsBytes (l.map fun c => (c.code, sortedSecs c.secs))).length = (codsBytes (l.map Cod.two)).length := by
    intro l
    induction l with
    | nil => intro _; rfl
    | cons c l ih =>
      intro h
      have h1 := ih (fun x hx => h x (.tail _ hx))
      have h3 := sortedSecs_bytes (h c (.head _))
      simp only [codsBytes] at h1
      simp only [codsBytes, List.map_cons, List.flatten_cons, List.length_append, h1, codBytes, mwBytes, h3, Cod.two, le8_len, le4_len]
  exact this cs hi
end Go.Proofs.YtgdgmegpacmgnaaGreatDoor

/- WriteTo at 0x0401. -/
namespace Go.Proofs.YtgdgmegpacmgnaaGreatDoor
open Go.RowKit
set_option linter.unusedVariables false
set_option linter.unusedSimpArgs false
attribute [local go_sem] setCell_drewN alloc_drewN

theorem method_CodecC (v : Value) (w : World) : (method 463 mhT v "Codec").run Tryz.prog w = .ok (175, v) w := by kernel_rfl
theorem method_MarshalC (v : Value) (w : World) : (method 463 mhT v "Marshal").run Tryz.prog w = .ok (178, v) w := by kernel_rfl
set_option maxRecDepth 100000 in
theorem MhCodec_ok (a : Addr) (w : World) : Calls Tryz.prog 175 #[.pointer (some a)] w fun e w' => e = .returned (.int .u64 1025) ∧ w = w' := by
  go_enter Tryz.func175, Tryz.ntmps175
  go_wp2_with fail
  go_ret
  exact ⟨rfl, rfl⟩

set_option maxRecDepth 100000 in
set_option maxHeartbeats 1600000 in
theorem WriteTo_mh (B b mk most : Nat) (a : Addr) (cs : List Cod) (w : World) (hs32 : SortsTo 214 .u32 103 most) (hs64 : SortsTo 198 .u64 22 most) (hmost : cs.length ≤ most) (h : BufAt w B b []) (hB : B ≤ w.heap.size) (hM : MhAt w a mk cs)
    (hab : a.block < B) (hmk : mk < B) (hu' : ∀ c ∈ cs, c.Under B) (hw : ∀ c ∈ cs, c.code < 18446744073709551616 ∧ c.secs.length ≤ most ∧ c.secs.length ≤ 1000000 ∧ ∀ s ∈ c.secs, s.width < 4294967296) (hlen : cs.length ≤ 1000000) (hlim : (codsBytes (sortedCods cs)).length ≤ 1000000000000) :
    Calls Tryz.prog 13 #[.iface mhT (.pointer (some a)), .iface 55 (.pointer (some ⟨b, 0, none⟩))] w fun e w' =>
      (∃ n, e = .returned (.tuple #[n, .nilIface])) ∧ BufAt w' B b (Lib.uvarint 1025 ++ (Lib.leBytes 4 cs.length ++ codsBytes (sortedCods cs))) ∧ WrK B b w w' := by
  have h1 := method_CodecC
  have h2 := method_MarshalC
  have h3 := method_bufWrite
  have h4 := ahead_bufWrite
  have hBb : B ≤ b := h.1
  have hbl := h.lt
  have hu : Lib.uvarint 1025 = [129, 8] := by rw [Lib.uvarint_big (by omega), Lib.uvarint_small (by omega)]; rfl
  have hmk10 := fun W => make8 10 10 rfl (by omega) W
  have hmf : ∀ (fn : Fn) (first cap : Array Value) (w : World), (Instr.makeFunc fn first cap).run Tryz.prog w = .ok (.func fn first cap) w := fun _ _ _ _ => rfl
  have hP := PutUvarint_ok w.heap.size 0 10 10 1025 (by omega) (zeros8 10) 5 (w.alloc (.cells (zeros8 10).toArray 5)) (heap_alloc_last w _) (by rw [hu]; decide) (by rw [hu, zeros8_length]; decide)
  rw [hu] at hP
  have hcut := fun W => cut_hi w.heap.size 2 10 10 (by omega) (by omega) (by omega) 2 rfl W
  go_enter Tryz.func13, Tryz.ntmps13
  go_wp2_with fail
  refine (MhCodec_ok a _).mono ?_
  rintro e w0 ⟨rfl, rfl⟩
  go_wp2_with fail
  refine hP.mono ?_
  clear hP
  rintro e w1 ⟨rfl, hg1, hb1⟩
  have hb1' := hb1 w.heap.size (Nat.le_refl _)
  have hbw : Below w.heap.size w w1 := (below_boxed w _).trans hb1'
  have hby : BytesAt w1 (some ⟨w.heap.size, 0, none⟩) [129, 8] := by
    refine .inr ⟨_, _, rfl, fun j x hj => ?_⟩
    rw [blk_cell' hg1]
    match j, hj with
    | 0, hj => cases hj; rfl
    | 1, hj => cases hj; rfl
  have hB1 := h.below hbw
  have hK1 : WrK B b w w1 := WrK.of_below hbw hB
  have hz1 := hbw.size
  have hWr := bufWrite_ok B b [] [129, 8] ⟨w.heap.size, 0, none⟩ 2 10 w1.drew (hB1.same rfl) (by show B ≤ w1.heap.size; omega) hby rfl (by show w.heap.size ≠ b; omega) (by decide)
  clear hg1 hb1 hb1' hbw h hby hmk10
  go_wp2_with fail
  refine wp_region_noPanic ?_
  go_region_with (go_at_call 168; refine hWr.mono ?_; rintro e w2 ⟨rfl, hB2, hK2⟩)
  all_goals
    refine NoPanic.normal ?_
    have hK2' : WrK B b w w2 := (hK1.drewN 1 : WrK B b w w1.drew).trans hK2
    have hM2 := hK2'.mh hM hab hmk hu'
    have hz2 := hK2'.bel.size
    have hMar := MhMarshal_ok B b mk most ([] ++ [129, 8]) a cs w2 hs32 hs64 hmost hB2 (by omega) hM2 hab hmk hu' hw hlen (by show 2 + 4 + _ ≤ _; omega)
    clear hB2 hM2
    go_wp2_with fail
    refine hMar.mono ?_
    clear hMar
    rintro e w3 ⟨n3, rfl, hB3, hK3⟩
    go_wp2_with fail
    go_ret2
    exact ⟨⟨_, rfl⟩, by rw [hu]; exact hB3, hK2'.trans hK3⟩

set_option maxRecDepth 100000 in
set_option maxHeartbeats 1600000 in
/-- An index, as it is written. -/
theorem written_mh (mk most : Nat) (a : Addr) (cs : List Cod) (w : World) (hs32 : SortsTo 214 .u32 103 most) (hs64 : SortsTo 198 .u64 22 most) (hmost : cs.length ≤ most) (hM : MhAt w a mk cs)
    (hw : ∀ c ∈ cs, c.code < 18446744073709551616 ∧ c.secs.length ≤ most ∧ c.secs.length ≤ 1000000 ∧ ∀ s ∈ c.secs, s.width < 4294967296) (hlen : cs.length ≤ 1000000) (hlim : (codsBytes (sortedCods cs)).length ≤ 1000000000000) :
    Calls Tryz.prog 45 #[.iface mhT (.pointer (some a)), .nilIface] w fun e w' => e = .returned (.tuple #[.string (sOf (Lib.uvarint 1025 ++ (Lib.leBytes 4 cs.length ++ codsBytes (sortedCods cs)))), .bool true]) ∧ Below w.heap.size w w' := by
  have hal := World.block_lt_of_cell? w _ hM.cell
  have hmkl := hM.map.lt
  have hgl : ∀ c ∈ cs, c.Under w.heap.size := fun c hc => Cod.Above.lt (hM.row c hc)
  have hb0 : Below w.heap.size w (w.alloc (.cells #[.slice none 0 0, .int .i64 0, .int .i8 0] 52)) := below_boxed w _
  have hW := WriteTo_mh w.heap.size w.heap.size mk most a cs (w.alloc (.cells #[.slice none 0 0, .int .i64 0, .int .i8 0] 52)) hs32 hs64 hmost (Lib.fresh_isBuffer 52 5 w) hb0.size (hM.kp (S := fun _ => False) (Kp.of_below hb0) id id (fun _ _ => ⟨id, id, fun _ _ => id⟩)) hal hmkl hgl hw hlen hlim
  clear hM
  go_enter Tryz.func45, Tryz.ntmps45
  go_wp2_with fail
  refine hW.mono ?_
  rintro e w1 ⟨⟨n, rfl⟩, hB1, hK1⟩
  go_wp2_with fail
  refine (Tryz.Buffer_String w.heap.size w.heap.size (Lib.uvarint 1025 ++ (Lib.leBytes 4 cs.length ++ codsBytes (sortedCods cs))) w1 hB1).mono ?_
  rintro e w2 ⟨rfl, m, rfl⟩
  go_wp2_with fail
  go_ret2
  exact ⟨rfl, below_drewn (hb0.trans hK1.bel) m⟩
end Go.Proofs.YtgdgmegpacmgnaaGreatDoor

/- Rows of numbers that are sorted: what lies in the memory. -/
namespace Go.Proofs.YtgdgmegpacmgnaaGreatDoor
open Go.Shelf Go.RowKit Go.Lib Go.Sort
set_option linter.unusedVariables false
set_option linter.unusedSimpArgs false

abbrev ltI (x y : Int) : Bool := decide (x < y)
theorem ltI_swo : SWO ltI where
  irrefl x := by simp [ltI]
  trans x y z h1 h2 := by simp only [ltI, decide_eq_true_eq] at *; omega
  ntrans x y z h1 h2 := by simp only [ltI, decide_eq_false_iff_not] at *; omega
/-- A row of numbers at block g, in a world that came from w0. -/
abbrev RowS (q : IntKind) (w0 : World) (g : Nat) (d : Array Int) (W : World) : Prop := SW (Value.int q) w0 g 0 d W
theorem holdsN_cell {q : IntKind} {W : World} {g : Nat} {d : Array Int} (h : Holds (Value.int q) W g 0 d) {i : Nat} (hi : i < d.size) : W.cell? ⟨g, i, none⟩ = some (.int q d[i]!) ∧ W.frozen? ⟨g, i, none⟩ = false := by
  have := h i hi
  rwa [Nat.zero_add] at this
theorem swp_comm (d : Array Int) (i j : Nat) (hi : i < d.size) (hj : j < d.size) : swp d i j = swp d j i := by
  refine Array.ext (by simp [size_swp]) fun k h1 h2 => ?_
  rw [← getElem!_pos _ k h1, ← getElem!_pos _ k h2, swp_get d hi hj, swp_get d hj hi]
  by_cases e : k = j
  · by_cases e' : k = i
    · subst e; subst e'; simp
    · simp [e, e']
      intro e2; subst e2; rfl
  · by_cases e' : k = i
    · simp [e, e']
      intro e2; subst e2; rfl
    · simp [e, e']
theorem swN {q : IntKind} {w0 W : World} {g : Nat} {d : Array Int} (h : RowS q w0 g d W) (hg : g < w0.heap.size) {i j : Nat} (hi : i < d.size) (hj : j < d.size) :
    RowS q w0 g (swp d i j) ((W.setCell ⟨g, i, none⟩ (.int q d[j]!)).setCell ⟨g, j, none⟩ (.int q d[i]!)) ∧ RowS q w0 g (swp d i j) ((W.setCell ⟨g, j, none⟩ (.int q d[i]!)).setCell ⟨g, i, none⟩ (.int q d[j]!)) := by
  have h1 := SW.swap h hg i j hi hj
  have h2 := SW.swap h hg j i hj hi
  rw [Nat.zero_add, Nat.zero_add] at h1 h2
  exact ⟨h1, by rw [swp_comm d i j hi hj]; exact h2⟩
theorem swN_trans {q : IntKind} {w0 W W' : World} {g : Nat} {d d' : Array Int} (h : RowS q w0 g d W) (h' : RowS q W g d' W') (hg : g < w0.heap.size) (hs : d'.size = d.size) : RowS q w0 g d' W' := by
  obtain ⟨n, os, rfl⟩ := h'
  exact SW.on h hg n d' os hs
theorem sift_stop {lt : Int → Int → Bool} {hi first r : Nat} {d : Array Int} (h : hi ≤ 2 * r + 1) : siftDown lt hi first r d = d := by
  rw [siftDown, dif_pos h]
theorem sift_right {lt : Int → Int → Bool} {hi first r ch c2 : Nat} {d : Array Int} (hch : ch = 2 * r + 1) (hc2 : c2 = ch + 1) (h : c2 < hi) (hl : lt d[first + ch]! d[first + ch + 1]! = true) :
    siftDown lt hi first r d = if lt d[first + r]! d[first + c2]! = true then siftDown lt hi first c2 (swp d (first + r) (first + c2)) else d := by
  subst hc2; subst hch
  have e : first + (2 * r + 2) = first + (2 * r + 1 + 1) := by omega
  rw [siftDown, dif_neg (by omega), if_pos (by simp only [Bool.and_eq_true, decide_eq_true_eq]; exact ⟨by omega, hl⟩)]
  by_cases h1 : lt d[first + r]! d[first + (2 * r + 1 + 1)]! = true
  · rw [if_pos h1, if_neg (by rw [e]; simpa using h1), dif_pos (by omega)]
  · rw [if_neg h1, if_pos (by rw [e]; simpa using h1)]
theorem sift_left {lt : Int → Int → Bool} {hi first r ch : Nat} {d : Array Int} (hch : ch = 2 * r + 1) (h : ch < hi) (hl : ch + 1 < hi → lt d[first + ch]! d[first + ch + 1]! = false) :
    siftDown lt hi first r d = if lt d[first + r]! d[first + ch]! = true then siftDown lt hi first ch (swp d (first + r) (first + ch)) else d := by
  subst hch
  rw [siftDown, dif_neg (by omega), if_neg (by
    simp only [Bool.and_eq_true, decide_eq_true_eq, not_and, Bool.not_eq_true]
    intro h1; exact hl (by omega))]
  by_cases h1 : lt d[first + r]! d[first + (2 * r + 1)]! = true
  · rw [if_pos h1, if_neg (by simpa using h1)]
  · rw [if_neg h1, if_pos (by simpa using h1)]
theorem size_sift (lt : Int → Int → Bool) (hi first : Nat) : ∀ (m r : Nat) (d : Array Int), hi - r ≤ m → (siftDown lt hi first r d).size = d.size := by
  intro m
  induction m with
  | zero => intro r d h; rw [sift_stop (by omega)]
  | succ m ih =>
    intro r d h
    by_cases h0 : hi ≤ 2 * r + 1
    · rw [sift_stop h0]
    · by_cases h1 : 2 * r + 1 + 1 < hi ∧ lt d[first + (2 * r + 1)]! d[first + (2 * r + 1) + 1]! = true
      · rw [sift_right rfl rfl h1.1 h1.2]
        split
        · rw [ih _ _ (by omega), size_swp]
        · rfl
      · rw [sift_left rfl (by omega) (fun h2 => by simpa using fun h3 => h1 ⟨h2, h3⟩)]
        split
        · rw [ih _ _ (by omega), size_swp]
        · rfl
end Go.Proofs.YtgdgmegpacmgnaaGreatDoor
