import Derived.Test.YtgdgmegpacmgnaaGreatDoorG15
import Derived.RegionCalls
import Derived.Test.YtgdgmegpacmgnaaGreatDoorG09
import Derived.Test.YtgdgmegpacmgnaaGreatDoorG00
import Derived.Laws.Bits64
import Derived.Laws.Bits64b
import Derived.Lib.ValidLaws
import Derived.Test.YtgdgmegpacmgnaaGreatDoorG12
/- spec.IndexBytes of any entries, both kinds. -/
namespace Go.Proofs.YtgdgmegpacmgnaaGreatDoor
open Go.RowKit
set_option linter.unusedVariables false
set_option linter.unusedSimpArgs false
attribute [local go_sem] setCell_drewN alloc_drewN

theorem sortedSpec_small {l l' : List (CidOf × Int)} (hP : l'.Perm l) (hlen : l.length ≤ 100) (hd : ∀ x ∈ l, x.1.dig.length ≤ 1000) : (sortedSpec l l').length ≤ 4 + l.length * 100812 := by
  have h1 := widthSecs_le l' (fun x hx => hd x (hP.mem_iff.1 hx)) (sortN (widthsOf l))
  have h2 := widthsOf_le l
  have h3 := sortN_len (widthsOf l)
  have h4 := hP.length_eq
  have h5 : (sortN (widthsOf l)).length * (12 + l'.length * 1008) ≤ l.length * 100812 := Nat.mul_le_mul (by omega) (by omega)
  rw [sortedSpec, List.length_append, le_length]; omega

theorem sortedBytes_all (most : Nat) (hS : StableEnts most) (B : Nat) (v : Value) (ob : List UInt8) (l : List (CidOf × Int)) (A : Option Addr) (cap : Nat) (hA : A = none → cap = 0) (w : World) (hR : RowsAt w A l) (hlen : l.length ≤ 10000) (hle : l.length ≤ most) (hcap : l.length ≤ cap)
    (hd : ∀ x ∈ l, x.1.dig.length ≤ 1000) (ho : ∀ x ∈ l, 0 ≤ x.2 ∧ x.2 < 18446744073709551616) (hob : ob.length ≤ 900000000000) (hB : B ≤ w.heap.size) (hv : RowU w B v ob) (hvA : ∀ g o, A = some ⟨g, o, none⟩ → v.ownBlock ≠ some g) :
    Calls Tryz.prog 48 #[v, .slice A l.length cap] w fun e w' => ∃ l' v', l'.Perm l ∧ SortedD l' ∧ e = .returned v' ∧ RowU w' B v' (ob ++ sortedSpec l l') ∧ AppK w w' v v' := by
  by_cases h0 : l = []
  · subst h0
    refine (sortedBytes_empty B v ob A cap hA w hob hB hv).mono ?_
    rintro e w' ⟨v', rfl, h1, h2⟩
    exact ⟨[], v', List.Perm.refl _, List.Pairwise.nil, rfl, h1, h2⟩
  · exact sortedBytes_ok most hS B v ob l A cap w hR (by cases l with | nil => exact absurd rfl h0 | cons _ _ => simp) hlen hle hcap hd ho hob hB hv hvA

/-- The parts of an index 0x0401. -/
def Parts (l : List (CidOf × Int)) (ss : List (Nat × List (Nat × List UInt8))) : Prop := ∀ p ∈ ss, ∃ l', l'.Perm (codedOf l p.1) ∧ SortedD l' ∧ p.2 = secsOf (codedOf l p.1) l'
theorem codesOf_mem {l : List (CidOf × Int)} {n : Nat} (h : n ∈ codesOf l) : ∃ x ∈ l, x.1.code = n := by
  have : ∀ (l : List (CidOf × Int)) (acc : List Nat) (n : Nat), n ∈ l.foldl codeStep acc → n ∈ acc ∨ ∃ x ∈ l, x.1.code = n := by
    intro l
    induction l with
    | nil => intro acc n h; exact .inl h
    | cons y l ih =>
      intro acc n h
      rcases ih _ n h with h | ⟨x, hx, e⟩
      · unfold codeStep at h
        split at h
        · exact .inl h
        · rcases List.mem_append.1 h with h | h
          · exact .inl h
          · simp only [List.mem_singleton] at h
            exact .inr ⟨y, List.mem_cons_self, h.symm⟩
      · exact .inr ⟨x, List.mem_cons_of_mem _ hx, e⟩
  rcases this l [] n h with h | h
  · simp at h
  · exact h
theorem codesOf_all {l : List (CidOf × Int)} : ∀ x ∈ l, x.1.code ∈ codesOf l := by
  have h1 : ∀ (l : List (CidOf × Int)) (acc : List Nat) (n : Nat), n ∈ acc → n ∈ l.foldl codeStep acc := by
    intro l
    induction l with
    | nil => intro acc n h; exact h
    | cons y l ih => intro acc n h; exact ih _ n (by unfold codeStep; split <;> simp [h])
  have h2 : ∀ (l : List (CidOf × Int)) (acc : List Nat) (x : CidOf × Int), x ∈ l → x.1.code ∈ l.foldl codeStep acc := by
    intro l
    induction l with
    | nil => intro acc x h; simp at h
    | cons y l ih =>
      intro acc x h
      rcases List.mem_cons.1 h with rfl | h
      · exact h1 l _ _ (by unfold codeStep; split <;> simp [*])
      · exact ih _ x h
  exact fun x hx => h2 l [] x hx
theorem codesOf_nodup (l : List (CidOf × Int)) : (codesOf l).Nodup := by
  have : ∀ (l : List (CidOf × Int)) (acc : List Nat), acc.Nodup → (l.foldl codeStep acc).Nodup := by
    intro l
    induction l with
    | nil => intro acc h; exact h
    | cons y l ih =>
      intro acc h
      refine ih _ ?_
      unfold codeStep
      split
      · exact h
      · next hn =>
        refine List.nodup_append.2 ⟨h, by simp, fun a ha b hb => ?_⟩
        simp only [List.mem_singleton] at hb
        subst hb
        exact fun e => hn (e ▸ ha)
  exact this l [] List.nodup_nil
theorem mem_coded {l : List (CidOf × Int)} {code : Nat} {x : CidOf × Int} : x ∈ codedOf l code ↔ x ∈ l ∧ x.1.code = code := by
  rw [codedOf, List.mem_filter]; simp [hasCode]
/-- How many entries some hash functions have. -/
def sumC (l : List (CidOf × Int)) (cs : List Nat) : Nat := (cs.map fun c => (codedOf l c).length).sum
theorem coded_split (c : Nat) (cs : List Nat) (h : c ∉ cs) : ∀ l : List (CidOf × Int), (codedOf l c).length + (l.filter fun x => decide (x.1.code ∈ cs)).length ≤ (l.filter fun x => decide (x.1.code ∈ c :: cs)).length
  | [] => by simp [codedOf]
  | x :: l => by
    have ih := coded_split c cs h l
    unfold codedOf at ih ⊢
    by_cases h1 : x.1.code = c
    · have h2 : x.1.code ∉ cs := by rw [h1]; exact h
      have h3 : x.1.code ∈ c :: cs := by rw [h1]; exact List.mem_cons_self
      rw [List.filter_cons_of_pos (by simpa [hasCode] using h1), List.filter_cons_of_neg (by simpa using h2), List.filter_cons_of_pos (by simpa using h3)]
      simp only [List.length_cons]; omega
    · rw [List.filter_cons_of_neg (by simpa [hasCode] using h1)]
      by_cases h2 : x.1.code ∈ cs
      · have h3 : x.1.code ∈ c :: cs := List.mem_cons_of_mem _ h2
        rw [List.filter_cons_of_pos (by simpa using h2), List.filter_cons_of_pos (by simpa using h3)]
        simp only [List.length_cons]; omega
      · have h3 : x.1.code ∉ c :: cs := by simp [h1, h2]
        rw [List.filter_cons_of_neg (by simpa using h2), List.filter_cons_of_neg (by simpa using h3)]
        exact ih
theorem sumC_le (l : List (CidOf × Int)) : ∀ cs : List Nat, cs.Nodup → sumC l cs ≤ l.length := by
  have : ∀ cs : List Nat, cs.Nodup → sumC l cs ≤ (l.filter fun x => decide (x.1.code ∈ cs)).length := by
    intro cs
    induction cs with
    | nil => intro _; simp [sumC]
    | cons c cs ih =>
      intro h
      obtain ⟨h1, h2⟩ := List.nodup_cons.1 h
      have h3 := coded_split c cs h1 l
      have h4 := ih h2
      simp only [sumC, List.map_cons, List.sum_cons] at h4 ⊢
      omega
  exact fun cs h => Nat.le_trans (this cs h) (List.length_filter_le _ _)
theorem codesBytes_snoc (ss : List (Nat × List (Nat × List UInt8))) (p : Nat × List (Nat × List UInt8)) : codsBytes (ss ++ [p]) = codsBytes ss ++ codBytes p := by simp [codsBytes]

set_option maxRecDepth 100000 in
set_option maxHeartbeats 3200000 in
theorem IndexBody_mh (most : Nat) (hS : StableEnts most) (l : List (CidOf × Int)) (A : Option Addr) (cap : Nat) (w : World) (hR : RowsAt w A l) (hlen : l.length ≤ 100) (hle : l.length ≤ most) (hcap : l.length ≤ cap)
    (hd : ∀ x ∈ l, x.1.dig.length ≤ 1000) (ho : ∀ x ∈ l, 0 ≤ x.2 ∧ x.2 < 18446744073709551616) (hc : ∀ x ∈ l, x.1.code < 18446744073709551616) :
    Calls Tryz.prog 28 #[.slice A l.length cap, .int .u64 1025] w fun e w' => ∃ ss, ss.map (·.1) = sortN (codesOf l) ∧ Parts l ss ∧ (mhBytes ss).length ≤ 10090000 ∧ e = .returned (.string (sOf (mhBytes ss))) ∧ Below w.heap.size w w' := by
  have hAlt : ∀ g o, A = some ⟨g, o, none⟩ → l = [] ∨ g < w.heap.size := fun g o e => by
    rcases hR with h | ⟨g', o', e', hcell⟩
    · exact .inl h
    · rw [e] at e'; cases e'
      by_cases h0 : l = []
      · exact .inl h0
      · obtain ⟨x, hx⟩ : ∃ x, l[0]? = some x := ⟨_, List.getElem?_eq_getElem (by cases l with | nil => exact absurd rfl h0 | cons _ _ => simp)⟩
        exact .inr (World.block_lt_of_cell? w _ (hcell 0 x hx 0 _ rfl))
  have hCo := Codes_ok l A cap w hR (by omega) hcap
  have hnc := codesOf_le l
  have hslen := sortN_len (codesOf l)
  have hmemC : ∀ c ∈ sortN (codesOf l), ∃ x ∈ l, x.1.code = c := fun c hc => codesOf_mem (sortN_mem.1 hc)
  obtain ⟨cs, hcs⟩ : ∃ cs, cs = sortN (codesOf l) := ⟨_, rfl⟩
  rw [← hcs] at hCo hslen hmemC
  have HCS := Lib.hid hcs; have HM := Lib.hid hmemC; have HAL := Lib.hid hAlt
  have HD := Lib.hid hd; have HO := Lib.hid ho; have HC := Lib.hid hc
  have hclen : cs.length ≤ 100 := by omega
  have hnd : cs.Nodup := by rw [hcs]; exact (List.mergeSort_perm _ _).nodup_iff.2 (codesOf_nodup l)
  have HND := Lib.hid hnd
  rw [← hcs]
  clear hcs hmemC hAlt hd ho hc hslen hnc hnd
  go_enter Tryz.func28, Tryz.ntmps28
  go_wp2_with fail
  refine hCo.mono ?_
  clear hCo
  rintro e w1 ⟨vC, rfl, hOC, hB1⟩
  obtain ⟨pC, capC, rfl⟩ : ∃ p c, vC = .slice p cs.length c := by
    rcases hOC.2 with ⟨h, h'⟩ | ⟨g, c, _, h, _⟩
    · exact ⟨none, 0, by rw [h, h']⟩
    · exact ⟨_, c, h⟩
  have hz1 := hB1.size
  have hl1 := low_ok w.heap.size cs.length 4 (.slice none 0 0) [] (by omega) (by omega) (by simp) w1 hz1 ⟨rfl, .inl ⟨rfl, rfl⟩⟩
  have hR1 := hR.below hB1
  have hClo : ∀ i, (Value.slice pC cs.length capC).ownBlock = some i → w.heap.size ≤ i ∧ i < w1.heap.size := fun i e => World.ownsRow.lt hOC i e
  go_wp2_with fail
  refine hl1.mono ?_
  clear hl1
  rintro e w2 ⟨v2, rfl, hV2, hA2⟩
  have hz2 := hA2.kp.size
  have hno : ∀ i, ¬ (some i = (Value.slice none 0 0).ownBlock) := fun i h => absurd h (by show ¬ some i = none; simp)
  have hv2lo : ∀ i, v2.ownBlock = some i → w1.heap.size ≤ i := fun i e => by
    rcases hA2.loc with h | ⟨n, h, hn⟩
    · exact absurd (e.symm.trans h) (hno i)
    · rw [h] at e; exact (Option.some.inj e) ▸ hn
  have hOC2 : OutOf w2 w.heap.size (.slice pC cs.length capC) cs := own_kp hOC hA2.kp (fun g e h => hno g h)
  have hR2 : RowsAt w2 A l := hR1.kp hA2.kp (fun g o e h => hno g h)
  have hB2 : Below w.heap.size w w2 := hB1.trans ⟨hA2.kp.os, hA2.kp.tape, hA2.kp.output, hA2.kp.size, fun i hi => hA2.kp.block i (by omega) (hno i)⟩
  clear hA2 hOC hR1 hB1 hR
  go_wp2_with fail
  go_loopw [6, 22] (fun vo vi wr => ∃ (k : Nat) (ss : List (Nat × List (Nat × List UInt8))), k ≤ cs.length ∧ vi = .int .i64 (k : Int) ∧ ss.map (·.1) = cs.take k ∧ Parts l ss ∧ (codsBytes ss).length ≤ 12 * k + 100812 * sumC l (cs.take k) ∧ RowU wr w.heap.size vo (Lib.leBytes 4 cs.length ++ codsBytes ss) ∧
    (∀ i, vo.ownBlock = some i → w1.heap.size ≤ i) ∧ OutOf wr w.heap.size (.slice pC cs.length capC) cs ∧ RowsAt wr A l ∧ Below w.heap.size w wr ∧ w1.heap.size ≤ wr.heap.size) (fun _ vi _ => cs.length - (intOf vi).toNat)
  case atStart => exact ⟨0, [], Nat.zero_le _, rfl, rfl, (fun p hp => by simp at hp), by simp [codsBytes, sumC], by simpa [codsBytes] using hV2, hv2lo, hOC2, hR2, hB2, hz2⟩
  case round =>
    clear hV2 hv2lo hOC2 hR2 hB2
    obtain ⟨k, ss, hk, rfl, hss, hPa, hsz, hV, hvlo, hOC, hR, hB, hz⟩ := hrel
    by_cases hlt : k < cs.length
    · obtain ⟨c, hcx⟩ : ∃ c, cs[k]? = some c := ⟨_, List.getElem?_eq_getElem hlt⟩
      obtain ⟨x0, hx0, hx0c⟩ := HM.out c (List.mem_of_getElem? hcx)
      have hc64 : c < 18446744073709551616 := by rw [← hx0c]; exact HC.out x0 hx0
      obtain ⟨bC, rfl⟩ : ∃ b, pC = some ⟨b, 0, none⟩ := by
        rcases hOC.2 with ⟨h, h'⟩ | ⟨b, _, _, h, _⟩
        · omega
        · cases h; exact ⟨b, rfl⟩
      have hcell : wr.cell? ⟨bC, k, none⟩ = some (.int .u64 (c : Int)) := by
        have h1 := World.ownsRow.cells hOC (g := bC) rfl k (offVal c) (by rw [List.getElem?_map, hcx]; rfl)
        by_cases h0 : k = 0
        · subst h0; simpa [Addr.add, offVal] using h1
        · simpa [Addr.add, h0, offVal] using h1
      have hsk := sumC_le l (cs.take k) (HND.out.sublist (List.take_sublist _ _))
      have hob : (Lib.leBytes 4 cs.length ++ codsBytes ss).length ≤ 10090000 := by
        rw [List.length_append, le_length]
        omega
      have HSK := Lib.hid hsk
      clear hsk
      have hl2 := low_ok w.heap.size c 8 u6 (Lib.leBytes 4 cs.length ++ codsBytes ss) hc64 (by omega) (by omega) wr hB.size hV
      have htk : cs.take (k + 1) = cs.take k ++ [c] := by rw [List.take_succ_eq_append_getElem hlt, (List.getElem?_eq_some_iff.1 hcx).2]
      have HTK := Lib.hid htk; have HPA := Lib.hid hPa; have HSS := Lib.hid hss; have HX0 := Lib.hid (And.intro hx0 hx0c)
      have HV := Lib.hid hV
      generalize hobx : Lib.leBytes 4 cs.length ++ codsBytes ss = obx at hl2 hob
      have HOB := Lib.hid hobx
      have hAb : ∀ g o, A = some ⟨g, o, none⟩ → g < w.heap.size := fun g o e => by
        rcases HAL.out g o e with h | h
        · rw [h] at hx0; simp at hx0
        · exact h
      have HAB := Lib.hid hAb
      clear hcx hx0 hx0c htk hPa hss hobx hAb hV
      go_wp2_with fail
      refine hl2.mono ?_
      clear hl2
      rintro e w3 ⟨v3, rfl, hV3, hA3⟩
      have hz3 := hA3.kp.size
      have hv3lo : ∀ i, v3.ownBlock = some i → w1.heap.size ≤ i := fun i e => by
        rcases hA3.loc with h | ⟨n, h, hn⟩
        · exact hvlo i (h.symm.trans e)
        · have := Option.some.inj (h.symm.trans e); omega
      have hOC3 : OutOf w3 w.heap.size (.slice (some ⟨bC, 0, none⟩) cs.length capC) cs := own_kp hOC hA3.kp (fun g e h => by have h1 := (hClo g e).2; have h2 := hvlo g h.symm; omega)
      have hR3 : RowsAt w3 A l := hR.kp hA3.kp (fun g o e h => by have h1 := HAB.out g o e; have h2 := hvlo g h.symm; omega)
      have hB3 : Below w.heap.size w w3 := hB.trans (hA3.below hB.size (fun i e => by have := hvlo i e; omega))
      have hCd := Coded_ok l A cap c w3 hR3 (by omega) hcap
      clear hA3 hOC hR hB hcell hvlo
      go_wp2_with fail
      refine hCd.mono ?_
      clear hCd
      rintro e w4 ⟨vD, rfl, hE4, hB4⟩
      obtain ⟨A4, cap4, rfl, hcap4, hR4, hA4lo⟩ := hE4.rows
      have hV4 := hV3.keep hB4
      have hz4 := hB4.size
      have hcl : (codedOf l c).length ≤ l.length := by unfold codedOf; exact List.length_filter_le _ _
      have hpos : 0 < (codedOf l c).length := by
        have := mem_coded.2 ⟨HX0.out.1, HX0.out.2⟩
        exact List.length_pos_of_mem this
      have hd4 : ∀ x ∈ codedOf l c, x.1.dig.length ≤ 1000 := fun x hx => HD.out x (mem_coded.1 hx).1
      have ho4 : ∀ x ∈ codedOf l c, 0 ≤ x.2 ∧ x.2 < 18446744073709551616 := fun x hx => HO.out x (mem_coded.1 hx).1
      have hSb := sortedBytes_ok most hS w.heap.size v3 (obx ++ Lib.leBytes 8 c) (codedOf l c) A4 cap4 w4 hR4 hpos (by omega) (by omega) hcap4 hd4 ho4 (by rw [List.length_append, le_length]; omega) (by have := hB3.size; omega) hV4 (fun g o e h => by have h1 := (hA4lo g o e).1; have h2 := hV3.hi g h; omega)
      have hOC4 : OutOf w4 w.heap.size (.slice (some ⟨bC, 0, none⟩) cs.length capC) cs := own_kp hOC3 (Kp.of_below (S := fun _ => False) hB4) (fun _ _ => id)
      have hR4' : RowsAt w4 A l := hR3.below hB4
      have hB4' : Below w.heap.size w w4 := hB3.trans (hB4.mono hB3.size)
      have HD4 := Lib.hid hd4
      clear hd4 ho4 hE4 hV3 hV4 hOC3 hR3 hB3 hB4 hR4 hA4lo
      go_wp2_with fail
      refine hSb.mono ?_
      clear hSb
      rintro e w5 ⟨l', v5, hP, hSD, rfl, hV5, hA5⟩
      have hz5 := hA5.kp.size
      have hss5 := sortedSpec_small hP (by omega) HD4.out
      have hv5lo : ∀ i, v5.ownBlock = some i → w1.heap.size ≤ i := fun i e => by
        rcases hA5.loc with h | ⟨n, h, hn⟩
        · exact hv3lo i (h.symm.trans e)
        · have := Option.some.inj (h.symm.trans e); omega
      have hOC5 : OutOf w5 w.heap.size (.slice (some ⟨bC, 0, none⟩) cs.length capC) cs := own_kp hOC4 hA5.kp (fun g e h => by have h1 := (hClo g e).2; have h2 := hv3lo g h.symm; omega)
      have hR5 : RowsAt w5 A l := hR4'.kp hA5.kp (fun g o e h => by have h1 := HAB.out g o e; have h2 := hv3lo g h.symm; omega)
      have hB5 : Below w.heap.size w w5 := hB4'.trans (hA5.below hB4'.size (fun i e => by have := hv3lo i e; omega))
      have HP := Lib.hid (And.intro hP hSD)
      clear hP hSD hA5 hOC4 hR4' hB4'
      go_wp2_with fail
      go_roundw
      case rel =>
        have hbytes : obx ++ Lib.leBytes 8 c ++ sortedSpec (codedOf l c) l' = Lib.leBytes 4 cs.length ++ codsBytes (ss ++ [(c, secsOf (codedOf l c) l')]) := by
          rw [codesBytes_snoc, codBytes, sortedSpec_eq, ← HOB.out]; simp
        refine ⟨k + 1, ss ++ [(c, secsOf (codedOf l c) l')], by omega, by go_num, by rw [List.map_append, HSS.out, HTK.out]; rfl, ?_, ?_, by rw [← hbytes]; exact hV5, hv5lo, hOC5, hR5, hB5, by omega⟩
        · intro p hp
          rcases List.mem_append.1 hp with h | h
          · exact HPA.out p h
          · simp only [List.mem_singleton] at h
            subst h
            exact ⟨l', HP.out.1, HP.out.2, rfl⟩
        · have hsum : sumC l (cs.take (k + 1)) = sumC l (cs.take k) + (codedOf l c).length := by rw [HTK.out]; simp [sumC]
          rw [codesBytes_snoc, codBytes, ← sortedSpec_eq, List.length_append, List.length_append, le_length, hsum]
          omega
      case measure => simp [intOf]; omega
    · obtain rfl : k = cs.length := by omega
      rw [List.take_length] at hss
      have hsl : ss.length = cs.length := by rw [← hss, List.length_map]
      have hmh : Lib.leBytes 4 cs.length ++ codsBytes ss = mhBytes ss := by rw [mhBytes, hsl]
      have hml : (mhBytes ss).length ≤ 10090000 := by
        rw [← hmh, List.length_append, le_length]
        have := sumC_le l cs HND.out
        rw [List.take_length] at hsz
        omega
      have hmp : 0 < (mhBytes ss).length := by rw [← hmh, List.length_append, le_length]; omega
      rw [hmh] at hV
      obtain ⟨g, c, rfl, hby⟩ := own_bytes (bs := mhBytes ss) hV hmp rfl
      have hcv := bytes_string (P := Tryz.prog) Tryz.underlying42 Tryz.underlying5 Tryz.underlying9 wr _ (mhBytes ss) c hby
      have HX := Lib.hid (And.intro hss (And.intro hPa hml))
      clear hss hsl hmh hV hPa hby hOC hR hvlo
      go_wp2_with fail
      go_ret
      exact ⟨ss, HX.out.1, HX.out.2.1, HX.out.2.2, rfl, hB⟩
end Go.Proofs.YtgdgmegpacmgnaaGreatDoor

/- spec.indexReader: ReadLittle, number. -/
namespace Go.Proofs.YtgdgmegpacmgnaaGreatDoor
open Go.RowKit
set_option linter.unusedVariables false
set_option linter.unusedSimpArgs false
attribute [local go_sem] setCell_drewN alloc_drewN

set_option maxRecDepth 100000 in
theorem or_byte (x b : Nat) (hb : b < 256) (hx : x * 256 + b < 18446744073709551616) : bits .or .u64 ((x : Int) * 256) (b : Int) = ((b + 256 * x : Nat) : Int) := by
  have h := Nat.shiftLeft_add_eq_or_of_lt (i := 8) (b := b) (by omega) x
  rw [Nat.shiftLeft_eq, show (2 : Nat) ^ 8 = 256 from by decide] at h
  rw [show (x : Int) * 256 = ((x * 256 : Nat) : Int) by omega, bits_or_u64_nat _ _ (by omega) (by omega), ← h]
  congr 1
  omega
theorem leNat_drop (bs : List UInt8) (j : Nat) (hj : j < bs.length) : Lib.leNat (bs.drop j) = bs[j].toNat + 256 * Lib.leNat (bs.drop (j + 1)) := by
  rw [List.drop_eq_getElem_cons hj]; rfl
theorem leNat_small (bs : List UInt8) (h : bs.length ≤ 8) (j : Nat) : Lib.leNat (bs.drop j) < 18446744073709551616 ∧ (1 ≤ j → Lib.leNat (bs.drop j) < 72057594037927936) := by
  have h1 := Lib.leNat_lt (bs.drop j)
  rw [List.length_drop] at h1
  refine ⟨Nat.lt_of_lt_of_le h1 ?_, fun hj => Nat.lt_of_lt_of_le h1 ?_⟩
  · exact Nat.pow_le_pow_right (by omega) (show bs.length - j ≤ 8 by omega)
  · exact Nat.pow_le_pow_right (by omega) (show bs.length - j ≤ 7 by omega)

set_option maxRecDepth 100000 in
set_option maxHeartbeats 1600000 in
theorem ReadLittle_ok (bs : List UInt8) (hl : bs.length ≤ 8) (w : World) :
    Calls Tryz.prog 20 #[.string (sOf bs)] w fun e w' => e = .returned (.int .u64 (Lib.leNat bs : Nat)) ∧ w = w' := by
  have hs : (sOf bs).size = bs.length := rfl
  go_enter Tryz.func20, Tryz.ntmps20
  go_wp2_with fail
  go_loopw [3, 4] (fun vn vi wr => ∃ i : Nat, i ≤ bs.length ∧ vn = .int .u64 (Lib.leNat (bs.drop i) : Nat) ∧ vi = .int .i64 ((i : Int) - 1) ∧ wr = w) (fun _ vi _ => (intOf vi + 1).toNat)
  case atStart => exact ⟨bs.length, Nat.le_refl _, by rw [List.drop_length]; rfl, by go_num, rfl⟩
  case round =>
    obtain ⟨i, hi, rfl, rfl, rfl⟩ := hrel
    cases i with
    | zero =>
      rw [List.drop_zero]
      go_wp2_with fail
      go_ret
      exact ⟨rfl, rfl⟩
    | succ j =>
      have hjl : j < bs.length := by omega
      have e : ((j + 1 : Nat) : Int) - 1 = (j : Int) := by omega
      have hcell : ((sOf bs)[j]'(by rw [hs]; exact hjl)).toNat = bs[j].toNat := rfl
      obtain ⟨b, hb⟩ : ∃ b, b = bs[j].toNat := ⟨_, rfl⟩
      have hb256 : b < 256 := by rw [hb]; exact bs[j].toNat_lt
      obtain ⟨x, hx⟩ : ∃ x, x = Lib.leNat (bs.drop (j + 1)) := ⟨_, rfl⟩
      have hxs := (leNat_small bs hl (j + 1)).2 (by omega)
      rw [← hx] at hxs ⊢
      have hd := leNat_drop bs j hjl
      rw [← hx, ← hb] at hd
      rw [← hb] at hcell
      have HD := Lib.hid hd
      have hor := or_byte x b hb256 (by omega)
      rw [e]
      clear hb hx hd e
      go_wp2_with fail
      go_roundw
      case rel => exact ⟨j, by omega, by (rw [HD.out]; exact congrArg (Value.int .u64) (by omega)), by go_num, by first | rfl | trivial⟩
      case measure => simp [intOf]

theorem sOf_take (bs : List UInt8) (k : Nat) : (sOf bs).extract 0 k = sOf (bs.take k) := by
  apply ByteArray.ext
  apply Array.ext'
  rw [Lib.extract_data]
  simp [sOf]
theorem sOf_drop (bs : List UInt8) (k : Nat) : (sOf bs).extract k bs.length = sOf (bs.drop k) := by
  apply ByteArray.ext
  apply Array.ext'
  rw [Lib.extract_data]
  simp only [sOf]
  rw [List.take_of_length_le (by rw [List.length_drop]; exact Nat.le_refl _)]
theorem str_to (bs : List UInt8) (k : Nat) (hk : k ≤ bs.length) (q : IntKind) (W : World) : (Instr.slice 9 (.string (sOf bs)) none (some (.int q (k : Int))) none).run Tryz.prog W = .ok (.string (sOf (bs.take k))) W := by
  have hs : (sOf bs).size = bs.length := rfl
  rw [run_slice_string_h W 9 (sOf bs) Tryz.underlying9 q (k : Int) (Int.natCast_nonneg _) (by omega), Int.toNat_natCast, sOf_take]
theorem str_from (bs : List UInt8) (k : Nat) (hk : k ≤ bs.length) (q : IntKind) (W : World) : (Instr.slice 9 (.string (sOf bs)) (some (.int q (k : Int))) none none).run Tryz.prog W = .ok (.string (sOf (bs.drop k))) W := by
  have hs : (sOf bs).size = bs.length := rfl
  rw [run_slice_string_l W 9 (sOf bs) Tryz.underlying9 q (k : Int) (Int.natCast_nonneg _) (by omega), Int.toNat_natCast, hs, sOf_drop]

/-- What a reader of numbers holds. -/
structure RSt where
  s : List UInt8
  ok : Bool
  ord : Bool
  left : Bool
def RdrAt (w : World) (b : Nat) (st : RSt) : Prop := w.heap[b]? = some (.cells #[.string (sOf st.s), .bool st.ok, .bool st.ord, .bool st.left] 34 (0, 0))
/-- A number is read. -/
def RSt.num (st : RSt) (k : Nat) : Nat × RSt := if st.ok = true ∧ st.left = false ∧ k ≤ st.s.length then (Lib.leNat (st.s.take k), { st with s := st.s.drop k }) else (0, { st with ok := false })
theorem row4_set {w : World} {g : Nat} {a b c d : Value} {t : TypeId} (h : w.heap[g]? = some (.cells #[a, b, c, d] t (0, 0))) (v : Value) :
    (w.setCell ⟨g, 0, none⟩ v).heap[g]? = some (.cells #[v, b, c, d] t (0, 0)) ∧ (w.setCell ⟨g, 1, none⟩ v).heap[g]? = some (.cells #[a, v, c, d] t (0, 0)) ∧ (w.setCell ⟨g, 2, none⟩ v).heap[g]? = some (.cells #[a, b, v, d] t (0, 0)) ∧ (w.setCell ⟨g, 3, none⟩ v).heap[g]? = some (.cells #[a, b, c, v] t (0, 0)) := by
  refine ⟨?_, ?_, ?_, ?_⟩
  all_goals
    rw [setCell_eq_setRow w g _ _ _ _ _ h, setRow_heap w g _ _ _ _ h]; rfl

set_option maxRecDepth 100000 in
set_option maxHeartbeats 3200000 in
theorem number_ok (b : Nat) (st : RSt) (k : Nat) (hk : k ≤ 8) (w : World) (h : RdrAt w b st) (hbig : st.s.length ≤ 1000000) :
    Calls Tryz.prog 9 #[.pointer (some ⟨b, 0, none⟩), .int .i64 (k : Int)] w fun e w' => e = .returned (.int .u64 ((st.num k).1 : Nat)) ∧ RdrAt w' b (st.num k).2 ∧ Kp (fun i => i = b) w w' := by
  obtain ⟨s, ok, ord, left⟩ := st
  have hr : w.heap[b]? = some (.cells #[.string (sOf s), .bool ok, .bool ord, .bool left] 34 (0, 0)) := h
  simp only at hbig
  have c0 := (blk_cell' hr 0).trans (show _ = some (Value.string (sOf s)) from rfl)
  have c1 := (blk_cell' hr 1).trans (show _ = some (Value.bool ok) from rfl)
  have c3 := (blk_cell' hr 3).trans (show _ = some (Value.bool left) from rfl)
  have f0 := blk_free' hr 0
  have f1 := blk_free' hr 1
  have hss : (sOf s).size = s.length := rfl
  have hK := fun i v => kp_set w ⟨b, i, none⟩ v
  have H4 := Lib.hid (fun v => row4_set hr v)
  have HK := Lib.hid hK
  clear h hr hK
  have bad : ¬ (ok = true ∧ left = false ∧ k ≤ s.length) → ((⟨s, ok, ord, left⟩ : RSt).num k) = (0, ⟨s, false, ord, left⟩) := fun hn => by simp only [RSt.num]; rw [if_neg hn]
  have HBAD := Lib.hid bad
  clear bad
  cases ok with
  | false =>
    rw [HBAD.out (by simp)]
    go_enter Tryz.func9, Tryz.ntmps9
    go_wp2_with fail
    go_ret
    exact ⟨rfl, (H4.out _).2.1, HK.out _ _⟩
  | true =>
    cases left with
    | true =>
      rw [HBAD.out (by simp)]
      go_enter Tryz.func9, Tryz.ntmps9
      go_wp2_with fail
      go_ret
      exact ⟨rfl, (H4.out _).2.1, HK.out _ _⟩
    | false =>
      by_cases hks : k ≤ s.length
      · have hlt : ¬ (s.length : Int) < (k : Int) := by omega
        have good : ((⟨s, true, ord, false⟩ : RSt).num k) = (Lib.leNat (s.take k), ⟨s.drop k, true, ord, false⟩) := by simp only [RSt.num]; rw [if_pos (by simp [hks])]
        rw [good]
        have hL := ReadLittle_ok (s.take k) (by rw [List.length_take]; omega) w
        have t1 := fun W => str_to s k hks .i64 W
        have t2 := fun W => str_from s k hks .i64 W
        go_enter Tryz.func9, Tryz.ntmps9
        go_wp2_with fail
        refine hL.mono ?_
        rintro e w1 ⟨rfl, rfl⟩
        go_wp2_with fail
        go_ret
        exact ⟨rfl, (H4.out _).1, HK.out _ _⟩
      · have hlt : (s.length : Int) < (k : Int) := by omega
        rw [HBAD.out (fun h => hks h.2.2)]
        go_enter Tryz.func9, Tryz.ntmps9
        go_wp2_with fail
        go_ret
        exact ⟨rfl, (H4.out _).2.1, HK.out _ _⟩
end Go.Proofs.YtgdgmegpacmgnaaGreatDoor

/- spec.indexReader: next. -/
namespace Go.Proofs.YtgdgmegpacmgnaaGreatDoor
open Go.RowKit
set_option linter.unusedVariables false
set_option linter.unusedSimpArgs false
attribute [local go_sem] setCell_drewN alloc_drewN

def seenP (S : List Nat) : List (Int × Value) := S.map fun n : Nat => ((n : Int), Value.bool true)
/-- A number of a group is noted. -/
def RSt.next (st : RSt) (S : List Nat) (last n : Nat) : RSt := { st with left := st.left || decide (n ∈ S), ord := st.ord && (decide (S = []) || decide (last < n)) }
def addN (S : List Nat) (n : Nat) : List Nat := if n ∈ S then S else S ++ [n]
theorem seen_put (S : List Nat) (n : Nat) : iput (seenP S) (n : Int) (.bool true) = seenP (addN S n) := by
  induction S with
  | nil => rfl
  | cons k S ih =>
    by_cases h : k = n
    · subst h; simp [seenP, addN, iput]
    · have h2 : ¬ ((k : Int) = (n : Int)) := by omega
      have h3 : ¬ n = k := fun e => h e.symm
      simp only [seenP, List.map_cons, iput, h2, if_false]
      have e : iput (List.map (fun n : Nat => ((n : Int), Value.bool true)) S) (n : Int) (Value.bool true) = seenP (addN S n) := ih
      rw [e]
      by_cases hm : n ∈ S
      · simp [addN, hm, h3, seenP]
      · simp [addN, hm, h3, seenP]
theorem seen_look {w : World} {sb : Nat} {S : List Nat} (h : ImAt w sb .u64 (seenP S)) (n : Nat) : (Instr.lookup 36 (.map (some sb)) (.int .u64 (n : Int)) false).run Tryz.prog w = .ok (.bool (decide (n ∈ S))) w := by
  by_cases hm : n ∈ S
  · have hl : ilook (seenP S) (n : Int) = some (.bool true) := ilook_of_mem h.nodup (List.mem_map.2 ⟨n, hm, rfl⟩)
    have := h.look (P := Tryz.prog) Tryz.underlying36 Tryz.underlying22 hl false
    simpa [hm] using this
  · have hl : ilook (seenP S) (n : Int) = none := by
      rw [ilook_none]
      intro p hp e
      obtain ⟨k, hk, rfl⟩ := List.mem_map.1 hp
      have : k = n := by have : (k : Int) = (n : Int) := e; omega
      subst this; exact hm hk
    have := h.look_no (P := Tryz.prog) Tryz.underlying36 Tryz.underlying22 hl false _ boolZero
    simpa [hm] using this

set_option maxRecDepth 100000 in
set_option maxHeartbeats 3200000 in
theorem next_ok (b sb lb : Nat) (st : RSt) (S : List Nat) (last n : Nat) (w : World) (h : RdrAt w b st) (hS : ImAt w sb .u64 (seenP S)) (hL : w.heap[lb]? = some (.cells #[.int .u64 (last : Int)] 22 (0, 0))) (hbs : b ≠ sb) (hbl : b ≠ lb) (hsl : sb ≠ lb) :
    Calls Tryz.prog 10 #[.pointer (some ⟨b, 0, none⟩), .map (some sb), .pointer (some ⟨lb, 0, none⟩), .int .u64 (n : Int)] w fun e w' => e = .returned (.tuple #[]) ∧ RdrAt w' b (st.next S last n) ∧ ImAt w' sb .u64 (seenP (addN S n)) ∧
      w'.heap[lb]? = some (.cells #[.int .u64 (n : Int)] 22 (0, 0)) ∧ Kp (fun i => i = b ∨ i = sb ∨ i = lb) w w' := by
  obtain ⟨s, ok, ord, left⟩ := st
  have hr : w.heap[b]? = some (.cells #[.string (sOf s), .bool ok, .bool ord, .bool left] 34 (0, 0)) := h
  have hlk := seen_look hS n
  obtain ⟨v, hv⟩ : ∃ v, v = (left || decide (n ∈ S)) := ⟨_, rfl⟩
  obtain ⟨u, hu⟩ : ∃ u, u = (ord && (decide (S = []) || decide (last < n))) := ⟨_, rfl⟩
  have hr1 := (row4_set hr (.bool v)).2.2.2
  have hr2 := (row4_set hr1 (.bool u)).2.2.1
  have hS1 : ImAt (w.setCell ⟨b, 3, none⟩ (.bool v)) sb .u64 (seenP S) := hS.kp (kp_set w ⟨b, 3, none⟩ _) (fun e => hbs e.symm)
  have hS2 : ImAt ((w.setCell ⟨b, 3, none⟩ (.bool v)).setCell ⟨b, 2, none⟩ (.bool u)) sb .u64 (seenP S) := hS1.kp (kp_set _ ⟨b, 2, none⟩ _) (fun e => hbs e.symm)
  have hln := hS1.len (P := Tryz.prog) Tryz.underlying36 3
  rw [show (seenP S).length = S.length by simp [seenP]] at hln
  have c3 := (blk_cell' hr 3).trans (show _ = some (Value.bool left) from rfl)
  have f3 := blk_free' hr 3
  have c2 := (blk_cell' hr 2).trans (show _ = some (Value.bool ord) from rfl)
  have f2 := blk_free' hr 2
  have cl := (blk_cell' hL 0).trans (show _ = some (Value.int .u64 (last : Int)) from rfl)
  have hk2 : Kp (fun i => i = b) w ((w.setCell ⟨b, 3, none⟩ (.bool v)).setCell ⟨b, 2, none⟩ (.bool u)) := (kp_set w ⟨b, 3, none⟩ _).trans (kp_set _ ⟨b, 2, none⟩ _) (fun _ h => .inl h)
  have hbl' := (Array.getElem?_eq_some_iff.1 hL).1
  have hbb := (Array.getElem?_eq_some_iff.1 hr).1
  have hfin : ∀ w3, ImAt w3 sb .u64 (iput (seenP S) (n : Int) (.bool true)) → Kp (fun i => i = sb) ((w.setCell ⟨b, 3, none⟩ (.bool v)).setCell ⟨b, 2, none⟩ (.bool u)) w3 → w3.heap[lb]? = some (.cells #[.int .u64 (last : Int)] 22 (0, 0)) ∧
      (RdrAt (w3.setCell ⟨lb, 0, none⟩ (.int .u64 (n : Int))) b ⟨s, ok, u, v⟩ ∧ ImAt (w3.setCell ⟨lb, 0, none⟩ (.int .u64 (n : Int))) sb .u64 (seenP (addN S n)) ∧ (w3.setCell ⟨lb, 0, none⟩ (.int .u64 (n : Int))).heap[lb]? = some (.cells #[.int .u64 (n : Int)] 22 (0, 0)) ∧ Kp (fun i => i = b ∨ i = sb ∨ i = lb) w (w3.setCell ⟨lb, 0, none⟩ (.int .u64 (n : Int)))) := by
    intro w3 hI hK
    have hL3 : w3.heap[lb]? = some (.cells #[.int .u64 (last : Int)] 22 (0, 0)) := (hK.block lb (by have := hk2.size; omega) (fun e => hsl e.symm)).trans ((hk2.block lb hbl' (fun e => hbl e.symm)).trans hL)
    have hr3 := (hK.block b (by have := hk2.size; omega) hbs).trans hr2
    have hks := kp_set w3 ⟨lb, 0, none⟩ (.int .u64 (n : Int))
    have hz3 : w.heap.size ≤ w3.heap.size := Nat.le_trans hk2.size hK.size
    refine ⟨hL3, (hks.block b (by omega) (fun e => hbl e)).trans hr3, ?_, ?_, ?_⟩
    · rw [seen_put] at hI
      exact hI.kp hks (fun e => hsl e)
    · rw [setCell_eq_setRow w3 lb 0 _ _ _ _ hL3, setRow_heap w3 lb _ _ _ _ hL3]; rfl
    · exact ((hk2.mono (S' := fun i => i = b ∨ i = sb ∨ i = lb) (fun i h => .inl (.inl h))).trans hK (fun i h => .inl (.inr (.inl h)))).trans hks (fun i h => .inl (.inr (.inr h)))
  have hnext : (⟨s, ok, ord, left⟩ : RSt).next S last n = ⟨s, ok, u, v⟩ := by rw [hv, hu]; rfl
  rw [hnext]
  have HFIN := Lib.hid hfin
  have HS2 := Lib.hid hS2
  have hlt : sb < w.heap.size := hS.lt
  clear hfin hS2 hr hr1 hr2 hS hS1 hL h hk2 hnext
  go_enter Tryz.func10, Tryz.ntmps10
  cases left with
  | true =>
    obtain rfl : v = true := by rw [hv]; rfl
    clear hlk
    cases ord with
    | false =>
      obtain rfl : u = false := by rw [hu]; rfl
      clear hv hu hln
      go_wp2_with (at_mapUpdate; refine step_put_im rfl _ _ _ 36 rfl Tryz.underlying36 Tryz.underlying22 rfl HS2.out (k := (n : Int)) (val := .bool true) rfl rfl ?_; intro w3 hI3 hK3 hs3; refine later ?_)
      obtain ⟨hL3, hF⟩ := HFIN.out w3 hI3 hK3
      have c4 := (blk_cell' hL3 0).trans (show _ = some (Value.int .u64 (last : Int)) from rfl)
      have f4 := blk_free' hL3 0
      have HF := Lib.hid hF
      clear hL3 hF hI3 hK3
      refine now ?_
      go_wp2_with fail
      go_end0
      exact ⟨rfl, HF.out⟩
    | true =>
      by_cases hS0 : S = []
      · have hl0 : ((S.length : Int) == 0) = true := by subst hS0; rfl
        obtain rfl : u = true := by rw [hu]; simp [hS0]
        clear hv hu hS0
        go_wp2_with (at_mapUpdate; refine step_put_im rfl _ _ _ 36 rfl Tryz.underlying36 Tryz.underlying22 rfl HS2.out (k := (n : Int)) (val := .bool true) rfl rfl ?_; intro w3 hI3 hK3 hs3; refine later ?_)
        obtain ⟨hL3, hF⟩ := HFIN.out w3 hI3 hK3
        have c4 := (blk_cell' hL3 0).trans (show _ = some (Value.int .u64 (last : Int)) from rfl)
        have f4 := blk_free' hL3 0
        have HF := Lib.hid hF
        clear hL3 hF hI3 hK3
        refine now ?_
        go_wp2_with fail
        go_end0
        exact ⟨rfl, HF.out⟩
      · have hl0 : ((S.length : Int) == 0) = false := beq_eq_false_iff_ne.2 (fun e => hS0 (List.eq_nil_of_length_eq_zero (by omega)))
        by_cases hll : last < n
        · have hli : (last : Int) < (n : Int) := by omega
          obtain rfl : u = true := by rw [hu]; simp [hll]
          clear hv hu hS0 hll
          go_wp2_with (at_mapUpdate; refine step_put_im rfl _ _ _ 36 rfl Tryz.underlying36 Tryz.underlying22 rfl HS2.out (k := (n : Int)) (val := .bool true) rfl rfl ?_; intro w3 hI3 hK3 hs3; refine later ?_)
          obtain ⟨hL3, hF⟩ := HFIN.out w3 hI3 hK3
          have c4 := (blk_cell' hL3 0).trans (show _ = some (Value.int .u64 (last : Int)) from rfl)
          have f4 := blk_free' hL3 0
          have HF := Lib.hid hF
          clear hL3 hF hI3 hK3
          refine now ?_
          go_wp2_with fail
          go_end0
          exact ⟨rfl, HF.out⟩
        · have hli : ¬ (last : Int) < (n : Int) := by omega
          obtain rfl : u = false := by rw [hu]; simp [hS0, hll]
          clear hv hu hS0 hll
          go_wp2_with (at_mapUpdate; refine step_put_im rfl _ _ _ 36 rfl Tryz.underlying36 Tryz.underlying22 rfl HS2.out (k := (n : Int)) (val := .bool true) rfl rfl ?_; intro w3 hI3 hK3 hs3; refine later ?_)
          obtain ⟨hL3, hF⟩ := HFIN.out w3 hI3 hK3
          have c4 := (blk_cell' hL3 0).trans (show _ = some (Value.int .u64 (last : Int)) from rfl)
          have f4 := blk_free' hL3 0
          have HF := Lib.hid hF
          clear hL3 hF hI3 hK3
          refine now ?_
          go_wp2_with fail
          go_end0
          exact ⟨rfl, HF.out⟩
  | false =>
    obtain ⟨q, hq⟩ : ∃ q, q = decide (n ∈ S) := ⟨_, rfl⟩
    rw [← hq] at hlk hv
    obtain rfl : v = q := by rw [hv]; rfl
    clear hq
    cases ord with
    | false =>
      obtain rfl : u = false := by rw [hu]; rfl
      clear hv hu hln
      go_wp2_with (at_mapUpdate; refine step_put_im rfl _ _ _ 36 rfl Tryz.underlying36 Tryz.underlying22 rfl HS2.out (k := (n : Int)) (val := .bool true) rfl rfl ?_; intro w3 hI3 hK3 hs3; refine later ?_)
      obtain ⟨hL3, hF⟩ := HFIN.out w3 hI3 hK3
      have c4 := (blk_cell' hL3 0).trans (show _ = some (Value.int .u64 (last : Int)) from rfl)
      have f4 := blk_free' hL3 0
      have HF := Lib.hid hF
      clear hL3 hF hI3 hK3
      refine now ?_
      go_wp2_with fail
      go_end0
      exact ⟨rfl, HF.out⟩
    | true =>
      by_cases hS0 : S = []
      · have hl0 : ((S.length : Int) == 0) = true := by subst hS0; rfl
        obtain rfl : u = true := by rw [hu]; simp [hS0]
        clear hv hu hS0
        go_wp2_with (at_mapUpdate; refine step_put_im rfl _ _ _ 36 rfl Tryz.underlying36 Tryz.underlying22 rfl HS2.out (k := (n : Int)) (val := .bool true) rfl rfl ?_; intro w3 hI3 hK3 hs3; refine later ?_)
        obtain ⟨hL3, hF⟩ := HFIN.out w3 hI3 hK3
        have c4 := (blk_cell' hL3 0).trans (show _ = some (Value.int .u64 (last : Int)) from rfl)
        have f4 := blk_free' hL3 0
        have HF := Lib.hid hF
        clear hL3 hF hI3 hK3
        refine now ?_
        go_wp2_with fail
        go_end0
        exact ⟨rfl, HF.out⟩
      · have hl0 : ((S.length : Int) == 0) = false := beq_eq_false_iff_ne.2 (fun e => hS0 (List.eq_nil_of_length_eq_zero (by omega)))
        by_cases hll : last < n
        · have hli : (last : Int) < (n : Int) := by omega
          obtain rfl : u = true := by rw [hu]; simp [hll]
          clear hv hu hS0 hll
          go_wp2_with (at_mapUpdate; refine step_put_im rfl _ _ _ 36 rfl Tryz.underlying36 Tryz.underlying22 rfl HS2.out (k := (n : Int)) (val := .bool true) rfl rfl ?_; intro w3 hI3 hK3 hs3; refine later ?_)
          obtain ⟨hL3, hF⟩ := HFIN.out w3 hI3 hK3
          have c4 := (blk_cell' hL3 0).trans (show _ = some (Value.int .u64 (last : Int)) from rfl)
          have f4 := blk_free' hL3 0
          have HF := Lib.hid hF
          clear hL3 hF hI3 hK3
          refine now ?_
          go_wp2_with fail
          go_end0
          exact ⟨rfl, HF.out⟩
        · have hli : ¬ (last : Int) < (n : Int) := by omega
          obtain rfl : u = false := by rw [hu]; simp [hS0, hll]
          clear hv hu hS0 hll
          go_wp2_with (at_mapUpdate; refine step_put_im rfl _ _ _ 36 rfl Tryz.underlying36 Tryz.underlying22 rfl HS2.out (k := (n : Int)) (val := .bool true) rfl rfl ?_; intro w3 hI3 hK3 hs3; refine later ?_)
          obtain ⟨hL3, hF⟩ := HFIN.out w3 hI3 hK3
          have c4 := (blk_cell' hL3 0).trans (show _ = some (Value.int .u64 (last : Int)) from rfl)
          have f4 := blk_free' hL3 0
          have HF := Lib.hid hF
          clear hL3 hF hI3 hK3
          refine now ?_
          go_wp2_with fail
          go_end0
          exact ⟨rfl, HF.out⟩
end Go.Proofs.YtgdgmegpacmgnaaGreatDoor
