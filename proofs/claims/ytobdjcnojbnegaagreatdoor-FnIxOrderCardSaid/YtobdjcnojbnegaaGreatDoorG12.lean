import Derived.Test.YtobdjcnojbnegaaGreatDoorG04
import Derived.Test.YtobdjcnojbnegaaGreatDoorG11
import Derived.Test.YtobdjcnojbnegaaGreatDoorG06
/- The index 0x0401 is read. -/
namespace Go.Proofs.YtobdjcnojbnegaaGreatDoor
open Go.RowKit
set_option linter.unusedVariables false
set_option linter.unusedSimpArgs false
attribute [local go_sem] setCell_drewN alloc_drewN

/-- An index of one hash function: its code, its block, its map's block, its sections. -/
structure Cod where
  code : Nat
  cb : Nat
  mb : Nat
  secs : List Sec
def Cod.pair (c : Cod) : Int × Value := ((c.code : Int), .pointer (some ⟨c.cb, 0, none⟩))
def Cod.two (c : Cod) : Nat × List (Nat × List UInt8) := (c.code, c.secs.map Sec.two)
def codBytes (p : Nat × List (Nat × List UInt8)) : List UInt8 := Lib.leBytes 8 p.1 ++ mwBytes p.2
def codsBytes (l : List (Nat × List (Nat × List UInt8))) : List UInt8 := (l.map codBytes).flatten
def mhBytes (l : List (Nat × List (Nat × List UInt8))) : List UInt8 := Lib.leBytes 4 l.length ++ codsBytes l
def mhT : TypeId := 127
structure CodAt (w : World) (c : Cod) : Prop where
  mw : MwAt w ⟨c.cb, 0, none⟩ c.mb c.secs
  code : w.cell? ⟨c.cb, 1, none⟩ = some (.int .u64 (c.code : Int))
structure MhAt (w : World) (a : Addr) (mb : Nat) (cs : List Cod) : Prop where
  cell : w.cell? a = some (.map (some mb))
  map : ImAt w mb .u64 (cs.map Cod.pair)
  row : ∀ c ∈ cs, CodAt w c
theorem CodAt.kp {S : Nat → Prop} {w w' : World} {c : Cod} (h : CodAt w c) (k : Kp S w w') (h1 : ¬ S c.cb) (h2 : ¬ S c.mb) (h3 : ∀ s ∈ c.secs, ¬ S s.gd) : CodAt w' c :=
  ⟨h.mw.kp k h1 h2 h3, (k.cell (World.block_lt_of_cell? w _ h.code) h1).trans h.code⟩
theorem MhAt.kp {S : Nat → Prop} {w w' : World} {a : Addr} {mb : Nat} {cs : List Cod} (h : MhAt w a mb cs) (k : Kp S w w') (h1 : ¬ S a.block) (h2 : ¬ S mb) (h3 : ∀ c ∈ cs, ¬ S c.cb ∧ ¬ S c.mb ∧ ∀ s ∈ c.secs, ¬ S s.gd) : MhAt w' a mb cs :=
  ⟨(k.cell (World.block_lt_of_cell? w _ h.cell) h1).trans h.cell, h.map.kp k h2, fun c hc => (h.row c hc).kp k (h3 c hc).1 (h3 c hc).2.1 (h3 c hc).2.2⟩

set_option maxRecDepth 100000 in
theorem newMwci_ok (w : World) : Calls Tryz.prog 196 #[] w fun e w' => e = .returned (.pointer (some ⟨w.heap.size + 1, 0, none⟩)) ∧ CodAt w' ⟨0, w.heap.size + 1, w.heap.size, []⟩ ∧
    w'.frozen? ⟨w.heap.size + 1, 1, none⟩ = false ∧ w'.heap.size = w.heap.size + 2 ∧ Below w.heap.size w w' := by
  have hmm := @run_makeMap Tryz.prog
  go_enter Tryz.func196, Tryz.ntmps196
  go_wp2_with fail
  go_ret
  refine ⟨rfl, ⟨⟨?_, ?_, by simp⟩, ?_⟩, ?_, by simp, by (repeat (first | (with_reducible exact Below.refl _ _) | (with_reducible exact below_boxed _ _) | (with_reducible refine below_box ?_ _) | (with_reducible refine below_drew1 ?_) | (with_reducible refine below_drewn ?_ _) | (with_reducible refine below_bytes ?_ _ _) | (with_reducible refine below_next ?_ (by assumption)) | (with_reducible refine below_set ?_ (by first | (simp; done) | (simp; omega) | omega) _)))⟩
  · simp [go_sem]
  · exact (ImAt.made w .u32).upd (heap_alloc_old _ _ (by simp))
  · simp [go_sem]
  · simp [go_sem]

set_option maxRecDepth 100000 in
set_option maxHeartbeats 1600000 in
theorem CoUnmarshal_ok (b : Nat) (A : Option Addr) (cap : Nat) (bs : List UInt8) (pos : Nat) (cb mb code : Nat) (hcode : code < 18446744073709551616) (ss : List (Nat × List UInt8)) (rest : List UInt8) (hw : ∀ s ∈ ss, 8 ≤ s.1 ∧ s.1 ≤ 33554432) (hnd : (ss.map (·.1)).Nodup) (w : World)
    (hsm : bs.length ≤ 16777216) (h : RdAt w b A cap bs pos) (hbs : bs.drop pos = codBytes (code, ss) ++ rest) (hM : CodAt w ⟨0, cb, mb, []⟩) (hf : w.frozen? ⟨cb, 1, none⟩ = false) (hab : cb ≠ b) (hmb : mb ≠ b) (ham : cb ≠ mb)
    (hA : ∀ g' o, A = some ⟨g', o, none⟩ → g' < w.heap.size ∧ g' ≠ cb ∧ g' ≠ mb) :
    Calls Tryz.prog 204 #[.pointer (some ⟨cb, 0, none⟩), .iface 63 (.pointer (some ⟨b, 0, none⟩))] w fun e w' => e = .returned .nilIface ∧ RdAt w' b A cap bs (pos + (codBytes (code, ss)).length) ∧
      (∃ secs, secs.map Sec.two = ss ∧ CodAt w' ⟨code, cb, mb, secs⟩ ∧ ∀ s ∈ secs, w.heap.size ≤ s.gd) ∧ Kp (fun i => i = b ∨ i = mb ∨ i = cb) w w' := by
  have hbs1 : bs.drop pos = Lib.leBytes 8 code ++ (mwBytes ss ++ rest) := by rw [hbs, codBytes, List.append_assoc]
  have hbs2 : bs.drop (pos + 8) = mwBytes ss ++ rest := by rw [← List.drop_drop, hbs1]; rfl
  have hlen : (codBytes (code, ss)).length = 8 + (mwBytes ss).length := by rw [codBytes, List.length_append, le8_len]
  have hR := zzRead64_more b A cap bs pos code hcode _ ⟨cb, 1, none⟩ _ w h hbs1 hM.code hf hab (fun g o e => ⟨(hA g o e).1, (hA g o e).2.1⟩)
  have hmbl := hM.mw.map.lt
  clear hbs hbs1 h
  go_enter Tryz.func204, Tryz.ntmps204
  go_wp2_with fail
  refine hR.mono ?_
  rintro e w1 ⟨rfl, hR1, ⟨hc1, ho1⟩, hK1⟩
  have hz1 := hK1.size
  have hM1 : MwAt w1 ⟨cb, 0, none⟩ mb [] := ⟨((ho1 ⟨cb, 0, none⟩ rfl (by simp)).1).trans hM.mw.cell, hM.mw.map.kp hK1 (fun h => h.elim hmb (fun e => ham e.symm)), by simp⟩
  have hU := MwUnmarshal_ok b A cap bs (pos + 8) ⟨cb, 0, none⟩ mb ss rest hw hnd w1 hsm hR1 hbs2 hM1 hab hmb ham (fun g o e => ⟨Nat.lt_of_lt_of_le (hA g o e).1 hz1, (hA g o e).2.1, (hA g o e).2.2⟩)
  have hcbl := World.block_lt_of_cell? w1 _ hc1
  clear hR hw hnd hR1 hbs2 hM1
  go_wp2_with fail
  refine hU.mono ?_
  rintro e w2 ⟨rfl, hR2, ⟨secs, hs, hM2, hgd⟩, hK2⟩
  go_wp2_with fail
  go_ret
  refine ⟨rfl, by rw [hlen, ← Nat.add_assoc]; exact hR2, ⟨secs, hs, ⟨hM2, (hK2.cell (p := ⟨cb, 1, none⟩) hcbl (fun h => h.elim hab ham)).trans hc1⟩, fun s h => Nat.le_trans hz1 (hgd s h)⟩, ?_⟩
  exact (hK1.mono (S' := fun i => i = b ∨ i = mb ∨ i = cb) (fun i h => .inl (h.elim .inl (fun e => .inr (.inr e))))).trans hK2 (fun i h => .inl (h.elim .inl (fun e => .inr (.inl e))))

set_option maxRecDepth 100000 in
set_option maxHeartbeats 1600000 in
theorem MhPut_ok (a : Addr) (mb : Nat) (cs : List Cod) (c : Cod) (w : World) (hM : MhAt w a mb cs) (hc : CodAt w c) (hnew : ∀ x ∈ cs, x.code ≠ c.code) (ham : a.block ≠ mb) (hmc : mb ≠ c.cb ∧ mb ≠ c.mb ∧ ∀ s ∈ c.secs, mb ≠ s.gd) (hmx : ∀ x ∈ cs, mb ≠ x.cb ∧ mb ≠ x.mb ∧ ∀ s ∈ x.secs, mb ≠ s.gd) :
    Calls Tryz.prog 198 #[.pointer (some a), .pointer (some ⟨c.cb, 0, none⟩)] w fun e w' => e = .returned (.tuple #[]) ∧ MhAt w' a mb (cs ++ [c]) ∧ Kp (fun i => i = mb) w w' := by
  obtain ⟨om, hmu, him⟩ := hM.map.put (P := Tryz.prog) Tryz.underlying167 Tryz.underlying23 (c.code : Int) (.pointer (some ⟨c.cb, 0, none⟩))
  have hmu1 := hmu w.drew rfl
  have him1 := him w.drew rfl
  have hml := hM.map.lt
  have ca := hM.cell
  have cc := hc.code
  have hput : iput (cs.map Cod.pair) (c.code : Int) (.pointer (some ⟨c.cb, 0, none⟩)) = (cs ++ [c]).map Cod.pair := by
    rw [iput_new, List.map_append, List.map_cons, List.map_nil]; rfl
    intro q hq e
    obtain ⟨s, hs, rfl⟩ := List.mem_map.1 hq
    simp only [Cod.pair] at e
    exact hnew s hs (by omega)
  rw [hput] at him1
  have HIM := Lib.hid him1; have HMM := Lib.hid hM; have HC := Lib.hid hc
  clear hmu him him1 hM hc hput hnew
  go_enter Tryz.func198, Tryz.ntmps198
  go_wp2_with fail
  go_region
  have hkk : Kp (fun i => i = mb) w (ChangeMaps.setBlock w.drew mb om) := (Kp.refl _ w).drew.trans (kp_setBlk (w := w.drew) om) (fun i hi => .inl hi)
  go_end0
  refine ⟨rfl, ⟨(hkk.cell (World.block_lt_of_cell? w _ ca) ham).trans ca, HIM.out, fun x hx => ?_⟩, hkk⟩
  rcases List.mem_append.1 hx with hx | hx
  · exact (HMM.out.row x hx).kp hkk (fun e => (hmx x hx).1 e.symm) (fun e => (hmx x hx).2.1 e.symm) (fun s hs e => (hmx x hx).2.2 s hs e.symm)
  · obtain rfl : x = c := by simpa using hx
    exact HC.out.kp hkk (fun e => hmc.1 e.symm) (fun e => hmc.2.1 e.symm) (fun s hs e => hmc.2.2 s hs e.symm)

theorem codBytes_len (p : Nat × List (Nat × List UInt8)) : 12 ≤ (codBytes p).length := by simp only [codBytes, mwBytes, List.length_append, le4_len, le8_len]; omega
theorem codsBytes_cons (p : Nat × List (Nat × List UInt8)) (l : List (Nat × List (Nat × List UInt8))) : codsBytes (p :: l) = codBytes p ++ codsBytes l := by simp [codsBytes]
theorem codsBytes_append (k l : List (Nat × List (Nat × List UInt8))) : codsBytes (k ++ l) = codsBytes k ++ codsBytes l := by simp [codsBytes]
theorem codsBytes_len (l : List (Nat × List (Nat × List UInt8))) : 12 * l.length ≤ (codsBytes l).length := by
  induction l with
  | nil => simp [codsBytes]
  | cons p l ih => have := codBytes_len p; rw [codsBytes_cons, List.length_append, List.length_cons]; omega
theorem cods_split {ss : List (Nat × List (Nat × List UInt8))} {k : Nat} {p : Nat × List (Nat × List UInt8)} (h : ss[k]? = some p) : ss = ss.take k ++ p :: ss.drop (k + 1) := by
  have hlt := (List.getElem?_eq_some_iff.1 h).1
  have he := (List.getElem?_eq_some_iff.1 h).2
  rw [← he, List.getElem_cons_drop hlt, List.take_append_drop]
theorem cods_at {ss : List (Nat × List (Nat × List UInt8))} {k : Nat} {p : Nat × List (Nat × List UInt8)} (h : ss[k]? = some p) (bs rest : List UInt8) (q : Nat) (hbs : bs.drop q = codsBytes ss ++ rest) :
    bs.drop (q + (codsBytes (ss.take k)).length) = codBytes p ++ (codsBytes (ss.drop (k + 1)) ++ rest) := by
  rw [← List.drop_drop, hbs]
  conv => lhs; rw [cods_split h, codsBytes_append, codsBytes_cons]
  rw [← cods_split h, List.append_assoc, List.drop_left' rfl, List.append_assoc]
theorem cods_take {ss : List (Nat × List (Nat × List UInt8))} {k : Nat} {p : Nat × List (Nat × List UInt8)} (h : ss[k]? = some p) : ss.take (k + 1) = ss.take k ++ [p] := by
  have hlt := (List.getElem?_eq_some_iff.1 h).1
  have he := (List.getElem?_eq_some_iff.1 h).2
  rw [List.take_succ_eq_append_getElem hlt, he]
/-- The blocks of a coded index lie above. -/
def Cod.Above (n : Nat) (c : Cod) : Prop := n < c.cb ∧ n < c.mb ∧ ∀ s ∈ c.secs, n < s.gd
theorem Cod.Above.lt {w : World} {c : Cod} (h : CodAt w c) : c.cb < w.heap.size ∧ c.mb < w.heap.size ∧ ∀ s ∈ c.secs, s.gd < w.heap.size :=
  ⟨World.block_lt_of_cell? w _ h.code, h.mw.map.lt, fun s hs => (Array.getElem?_eq_some_iff.1 (h.mw.row s hs)).1⟩

set_option maxRecDepth 100000 in
set_option maxHeartbeats 3200000 in
theorem MhUnmarshal_ok (b : Nat) (A : Option Addr) (cap : Nat) (bs : List UInt8) (pos : Nat) (a : Addr) (mb : Nat) (ss : List (Nat × List (Nat × List UInt8))) (rest : List UInt8)
    (hw : ∀ p ∈ ss, p.1 < 18446744073709551616 ∧ (∀ s ∈ p.2, 8 ≤ s.1 ∧ s.1 ≤ 33554432) ∧ (p.2.map (·.1)).Nodup) (hnd : (ss.map (·.1)).Nodup) (w : World)
    (hsm : bs.length ≤ 16777216) (h : RdAt w b A cap bs pos) (hbs : bs.drop pos = mhBytes ss ++ rest) (hM : MhAt w a mb []) (hab : a.block ≠ b) (hmb : mb ≠ b) (ham : a.block ≠ mb)
    (hA : ∀ g' o, A = some ⟨g', o, none⟩ → g' < w.heap.size ∧ g' ≠ a.block ∧ g' ≠ mb) :
    Calls Tryz.prog 192 #[.pointer (some a), .iface 63 (.pointer (some ⟨b, 0, none⟩))] w fun e w' => e = .returned .nilIface ∧ RdAt w' b A cap bs (pos + (mhBytes ss).length) ∧
      (∃ cs, cs.map Cod.two = ss ∧ MhAt w' a mb cs ∧ ∀ c ∈ cs, c.Above w.heap.size) ∧ Kp (fun i => i = b ∨ i = mb) w w' := by
  have hms := method_Seek
  have hbl := h.blt
  have hal := World.block_lt_of_cell? w _ hM.cell
  have hmbl := hM.map.lt
  have hlen : pos + 4 + (codsBytes ss).length ≤ bs.length := by
    have := congrArg List.length hbs
    simp only [mhBytes, List.length_drop, List.length_append, le4_len] at this
    omega
  have hsl := codsBytes_len ss
  have hbs1 : bs.drop pos = Lib.leBytes 4 ss.length ++ (codsBytes ss ++ rest) := by rw [hbs, mhBytes, List.append_assoc]
  have hbs2 : bs.drop (pos + 4) = codsBytes ss ++ rest := by rw [← List.drop_drop, hbs1]; rfl
  have hml : pos + (mhBytes ss).length = pos + 4 + (codsBytes (ss.take ss.length)).length := by rw [List.take_length]; simp only [mhBytes, List.length_append, le4_len]; omega
  have hR1 := zzRead32_ok b A cap bs pos ss.length (by omega) _ ⟨w.heap.size, 0, none⟩ (.int .u32 0) (w.alloc (.cells #[.int .u32 0] 138)) (rd_alloc h _) hbs1 (by simp [go_sem]) (by simp [go_sem]) (by show w.heap.size ≠ b; omega) (fun g' o e => by have := (hA g' o e).1; simp; omega)
  have HB := Lib.hid hbs2; have HL := Lib.hid hml; have HW := Lib.hid hw; have HN := Lib.hid hnd
  clear hbs hbs1 hbs2 hml hw hnd
  go_enter Tryz.func192, Tryz.ntmps192
  go_wp2_with fail
  refine (ToByteReadSeeker_ok _ _).mono ?_
  rintro e w0 ⟨rfl, rfl⟩
  go_wp2_with fail
  refine hR1.mono ?_
  rintro e w1 ⟨rfl, hR1, hc1, hK1⟩
  have hz1 : w.heap.size < w1.heap.size := by have := hK1.size; simp at this; omega
  have hKa : Kp (fun i => i = b ∨ i = mb) w w1 := (Kp.refl _ w).box hK1 (fun i hi => hi.elim (fun e => .inl (.inl e)) (fun e => .inr e))
  have hM1 : MhAt w1 a mb [] := (hM.kp (kp_alloc w _) id id (fun c hc => by simp at hc)).kp hK1 (by simp; omega) (by simp; omega) (fun c hc => by simp at hc)
  clear hK1
  go_wp2_with fail
  refine (Seek_ok b A cap bs (pos + 4) w1 hR1).mono ?_
  rintro e w2 ⟨rfl, hR2, hK2⟩
  have hz2 := hK2.size
  have hKb : Kp (fun i => i = b ∨ i = mb) w w2 := hKa.trans hK2 (fun i hi => .inl (.inl hi))
  have hM2 : MhAt w2 a mb [] := hM1.kp hK2 hab hmb (fun c hc => by simp at hc)
  clear hR1 hc1 hKa hM1 hK2 hM
  have hneg : ¬ ((ss.length : Int) < 0) := by omega
  have hwrap : IntKind.i32.wrap (ss.length : Int) = (ss.length : Int) := by rw [IntKind.wrap_i32]; omega
  go_wp2_with fail
  go_loopw [9, 11] (fun vs vi wr => ∃ (k sum : Nat) (cs : List Cod), vi = .int .i64 (k : Int) ∧ vs = .int .i64 (sum : Int) ∧ k ≤ ss.length ∧ sum ≤ (k + 1) * 16777216 ∧ cs.map Cod.two = ss.take k ∧ RdAt wr b A cap bs (pos + 4 + (codsBytes (ss.take k)).length) ∧
      MhAt wr a mb cs ∧ (∀ c ∈ cs, c.Above w.heap.size) ∧ Kp (fun i => i = b ∨ i = mb) w wr ∧ w1.heap.size ≤ wr.heap.size) (fun _ vi _ => ss.length - (intOf vi).toNat)
  case atStart => exact ⟨0, pos + 4, [], rfl, rfl, Nat.zero_le _, by omega, rfl, by simpa [codsBytes] using hR2, hM2, by simp, hKb, hz2⟩
  case round =>
    clear hR2 hM2 hKb
    obtain ⟨k, sum, cs, rfl, rfl, hk, hsum, hsecs, hR, hM, hgs, hK, hzr⟩ := hrel
    by_cases hlt : k < ss.length
    · obtain ⟨p, hp⟩ : ∃ p, ss[k]? = some p := ⟨_, List.getElem?_eq_getElem hlt⟩
      have hat := cods_at hp bs rest (pos + 4) HB.out
      have htk := cods_take hp
      obtain ⟨hp1, hp2, hp3⟩ := HW.out p (List.mem_of_getElem? hp)
      have hnew : ∀ c ∈ cs, c.code ≠ p.1 := by
        intro s hs e
        have h1 : s.two ∈ ss.take k := by rw [← hsecs]; exact List.mem_map.2 ⟨s, hs, rfl⟩
        obtain ⟨j, hj⟩ := List.getElem?_of_mem h1
        have hjk := (List.getElem?_eq_some_iff.1 hj).1
        rw [List.length_take] at hjk
        have hj2 : ss[j]? = some s.two := by rw [List.getElem?_take] at hj; split at hj; exact hj; cases hj
        have e2 : (ss.map (·.1))[j]? = (ss.map (·.1))[k]? := by rw [List.getElem?_map, List.getElem?_map, hj2, hp]; simp [Cod.two, e]
        have := (List.getElem?_inj (i := j) (j := k) (by simp; omega) HN.out).1 e2
        omega
      obtain ⟨code, secs⟩ := p
      simp only at hat hp1 hp2 hp3 hnew
      have hplen := congrArg List.length hat
      simp only [List.length_drop, List.length_append] at hplen
      have hcl := codBytes_len (code, secs)
      have hpl : (codsBytes (ss.take (k + 1))).length = (codsBytes (ss.take k)).length + (codBytes (code, secs)).length := by rw [htk, codsBytes_append, List.length_append]; simp [codsBytes]
      have hbd : pos + 4 + (codsBytes (ss.take k)).length + (codBytes (code, secs)).length ≤ bs.length := by omega
      obtain ⟨pk, hpk⟩ : ∃ pk, pk = pos + 4 + (codsBytes (ss.take k)).length := ⟨_, rfl⟩
      rw [← hpk] at hR hat hbd
      have HPL : Hid (pos + 4 + (codsBytes (ss.take (k + 1))).length = pk + (codBytes (code, secs)).length) := Lib.hid (by omega)
      have HT := Lib.hid htk; have HSS := Lib.hid hsecs; have HNW := Lib.hid hnew; have HAT := Lib.hid hat; have HP2 := Lib.hid hp2; have HP3 := Lib.hid hp3
      clear hpk htk hpl hplen hsecs hnew hp hat hp2 hp3
      have hbr := hR.blt
      go_wp2_with fail
      refine (newMwci_ok _).mono ?_
      rintro e w3 ⟨rfl, hC3, hf3, hz3, hb3⟩
      have hlts : ∀ c ∈ cs, c.cb < wr.heap.size ∧ c.mb < wr.heap.size ∧ ∀ s ∈ c.secs, s.gd < wr.heap.size := fun c hc => Cod.Above.lt (hM.row c hc)
      have hR3 : RdAt w3 b A cap bs pk := hR.keep (S := fun _ => False) (Kp.of_below hb3) id (fun _ _ _ => id)
      have hM3 : MhAt w3 a mb cs := hM.kp (S := fun _ => False) (Kp.of_below hb3) id id (fun _ _ => ⟨id, id, fun _ _ => id⟩)
      have hK3 : Kp (fun i => i = b ∨ i = mb) w w3 := hK.trans (Kp.of_below (S := fun _ => False) hb3) (fun i hi => hi.elim)
      have hCo := CoUnmarshal_ok b A cap bs pk (wr.heap.size + 1) wr.heap.size code hp1 secs _ HP2.out HP3.out w3 hsm hR3 HAT.out hC3 hf3 (by omega) (by omega) (by omega) (fun g o e => by have := (hA g o e).1; omega)
      clear hC3 hf3 hR hR3 hM hK
      go_wp2_with fail
      refine hCo.mono ?_
      clear hCo
      rintro e w4 ⟨rfl, hR4, ⟨secs', hs4, hC4, hgd4⟩, hK4⟩
      have hz4 := hK4.size
      have hM4 : MhAt w4 a mb cs := hM3.kp hK4 (by omega) (by omega) (fun c hc => by
        have h1 := hlts c hc; have h2 := hgs c hc
        refine ⟨by have := h1.1; have := h2.1; omega, by have := h1.2.1; have := h2.2.1; omega, fun s hs => by have := h1.2.2 s hs; have := h2.2.2 s hs; omega⟩)
      have hKd : Kp (fun i => i = b ∨ i = mb) w w4 := hK3.trans hK4 (fun i hi => by rcases hi with e | e | e; exact .inl (.inl e); exact .inr (by omega); exact .inr (by omega))
      clear hM3 hK3 hK4
      go_wp2_with fail
      refine (Seek_ok b A cap bs _ w4 hR4).mono ?_
      rintro e w5 ⟨rfl, hR5, hK5⟩
      have hz5 := hK5.size
      have hKe : Kp (fun i => i = b ∨ i = mb) w w5 := hKd.trans hK5 (fun i hi => .inl (.inl hi))
      have hM5 : MhAt w5 a mb cs := hM4.kp hK5 hab hmb (fun c hc => by
        have h2 := hgs c hc
        exact ⟨by have := h2.1; omega, by have := h2.2.1; omega, fun s hs => by have := h2.2.2 s hs; omega⟩)
      have hC5 : CodAt w5 ⟨code, wr.heap.size + 1, wr.heap.size, secs'⟩ := hC4.kp hK5 (by show wr.heap.size + 1 ≠ b; omega) (by show wr.heap.size ≠ b; omega) (fun s hs => by have := hgd4 s hs; omega)
      clear hR4 hKd hM4 hC4 hK5
      have hsum' : ¬ ((sum : Int) + ((pk + (codBytes (code, secs)).length : Nat) : Int) < (sum : Int)) := by omega
      have hsw : IntKind.i64.wrap ((sum : Int) + ((pk + (codBytes (code, secs)).length : Nat) : Int)) = ((sum + (pk + (codBytes (code, secs)).length) : Nat) : Int) := by rw [IntKind.wrap_i64]; omega
      have hPut := MhPut_ok a mb cs ⟨code, wr.heap.size + 1, wr.heap.size, secs'⟩ w5 hM5 hC5 HNW.out ham ⟨by show mb ≠ wr.heap.size + 1; omega, by show mb ≠ wr.heap.size; omega, fun s hs => by have := hgd4 s hs; omega⟩ (fun x hx => by
        have h2 := hgs x hx
        exact ⟨by have := h2.1; omega, by have := h2.2.1; omega, fun s hs => by have := h2.2.2 s hs; omega⟩)
      go_wp2_with fail
      refine hPut.mono ?_
      clear hPut hM5 hC5
      rintro e w6 ⟨rfl, hM6, hK6⟩
      have hz6 := hK6.size
      have hR6 := hR5.keep hK6 (fun e => hmb e.symm) (fun g o e => (hA g o e).2.2)
      have hKf : Kp (fun i => i = b ∨ i = mb) w w6 := hKe.trans hK6 (fun i hi => .inl (.inr hi))
      have HR6 := Lib.hid hR6
      clear hR5 hKe hK6 hR6
      go_wp2_with fail
      go_roundw
      case rel =>
        refine ⟨k + 1, sum + (pk + (codBytes (code, secs)).length), cs ++ [⟨code, wr.heap.size + 1, wr.heap.size, secs'⟩], by go_num, by first | rfl | go_num, by omega, by omega, ?_, by rw [HPL.out]; exact HR6.out, hM6, ?_, hKf, by omega⟩
        · rw [List.map_append, HSS.out, HT.out]; simp [Cod.two, hs4]
        · intro c hc
          rcases List.mem_append.1 hc with hc | hc
          · exact hgs c hc
          · obtain rfl : c = ⟨code, wr.heap.size + 1, wr.heap.size, secs'⟩ := by simpa using hc
            exact ⟨by show w.heap.size < wr.heap.size + 1; omega, by show w.heap.size < wr.heap.size; omega, fun s hs => by have := hgd4 s hs; omega⟩
      case measure => simp [intOf]; omega
    · obtain rfl : k = ss.length := by omega
      go_wp2_with fail
      go_ret
      rw [List.take_length] at hsecs
      exact ⟨rfl, by rw [HL.out]; exact hR, ⟨cs, hsecs, hM, hgs⟩, hK⟩
end Go.Proofs.YtobdjcnojbnegaaGreatDoor

/- What an index, as the specification writes it, tells of a digest. Plain. -/
namespace Go.Proofs.YtobdjcnojbnegaaGreatDoor
open Go.RowKit
set_option linter.unusedVariables false

abbrev Ents := List (CidOf × Int)
/-- The widths of an index, and their rows. -/
def secsOf (l l' : Ents) : List (Nat × List UInt8) := (sortN (widthsOf l)).map fun n => (n + 8, rowsOf l' n)
theorem sortedSpec_eq (l l' : Ents) : sortedSpec l l' = mwBytes (secsOf l l') := by
  have h : ∀ ws : List Nat, ws.flatMap (widthSec l') = secsBytes (ws.map fun n => (n + 8, rowsOf l' n)) := by
    intro ws
    induction ws with
    | nil => rfl
    | cons n ws ih =>
      rw [List.flatMap_cons, ih]
      simp [secsBytes, secBytes, widthSec]
  rw [sortedSpec, mwBytes, secsOf, h, List.length_map]
def rowB (x : CidOf × Int) : List UInt8 := x.1.dig ++ Lib.leBytes 8 x.2.toNat
theorem rowB_len (x : CidOf × Int) : (rowB x).length = x.1.dig.length + 8 := by rw [rowB, List.length_append, le_length]
theorem rows_at (n : Nat) : ∀ F : Ents, (∀ x ∈ F, x.1.dig.length = n) → (F.flatMap rowB).length = F.length * (n + 8) ∧ ∀ i x, F[i]? = some x → rowDig (n + 8) (F.flatMap rowB) i = x.1.dig ∧ rowOff (n + 8) (F.flatMap rowB) i = Lib.leBytes 8 x.2.toNat
  | [], _ => ⟨by simp, fun i x h => by simp at h⟩
  | y :: F, h => by
    have hy := h y List.mem_cons_self
    obtain ⟨ih1, ih2⟩ := rows_at n F (fun x hx => h x (List.mem_cons_of_mem _ hx))
    have hl : (rowB y).length = n + 8 := by rw [rowB_len, hy]
    refine ⟨by rw [List.flatMap_cons, List.length_append, hl, ih1, List.length_cons, Nat.add_mul]; omega, fun i x hx => ?_⟩
    cases i with
    | zero =>
      simp only [List.getElem?_cons_zero, Option.some.injEq] at hx
      subst hx
      refine ⟨?_, ?_⟩
      · simp only [rowDig, Nat.zero_mul, List.drop_zero, Nat.add_sub_cancel, List.flatMap_cons, rowB, List.append_assoc]
        rw [← hy, List.take_left]
      · simp only [rowOff, Nat.zero_add, Nat.one_mul, Nat.add_sub_cancel, List.flatMap_cons, rowB, List.append_assoc]
        rw [← hy, List.drop_left, List.take_append_of_le_length (by rw [le_length]; omega), List.take_of_length_le (by rw [le_length]; omega)]
    | succ i =>
      have := ih2 i x (by simpa using hx)
      rw [← this.1, ← this.2]
      refine ⟨?_, ?_⟩
      · simp only [rowDig, List.flatMap_cons]
        rw [show (i + 1) * (n + 8) = (rowB y).length + i * (n + 8) by rw [hl, Nat.add_mul]; omega, ← List.drop_drop, List.drop_left]
      · simp only [rowOff, List.flatMap_cons]
        rw [show (i + 1 + 1) * (n + 8) - 8 = (rowB y).length + ((i + 1) * (n + 8) - 8) by rw [hl, Nat.add_mul (i + 1), Nat.add_mul i]; omega, ← List.drop_drop, List.drop_left]
theorem run_spec (n : Nat) (d : List UInt8) (F : Ents) (hF : ∀ x ∈ F, x.1.dig.length = n) (hoff : ∀ x ∈ F, 0 ≤ x.2 ∧ x.2 < 18446744073709551616) : ∀ k r, r + k = F.length →
    ((∀ x, F[r]? = some x → x.1.dig ≠ d) → runFrom (n + 8) (F.flatMap rowB) d k r = []) ∧ ∀ x, F[r]? = some x → x.1.dig = d → ∃ M, runFrom (n + 8) (F.flatMap rowB) d k r = x.2.toNat :: M := by
  intro k r hk
  have hR := (rows_at n F hF).2
  cases k with
  | zero => exact ⟨fun _ => rfl, fun x hx => by have := (List.getElem?_eq_some_iff.1 hx).1; omega⟩
  | succ k =>
    obtain ⟨y, hy⟩ : ∃ y, F[r]? = some y := ⟨_, List.getElem?_eq_getElem (by omega)⟩
    obtain ⟨h1, h2⟩ := hR r y hy
    refine ⟨fun h => ?_, fun x hx e => ?_⟩
    · rw [runFrom, h1, if_neg (fun e => h y hy e.symm)]
    · rw [hy] at hx; cases hx
      have ho := hoff y (List.mem_of_getElem? hy)
      rw [runFrom, h1, if_pos e.symm, h2, Lib.leNat_leBytes 8 _ (by omega)]
      exact ⟨_, rfl⟩
theorem rowsOf_eq (l : Ents) (n : Nat) : rowsOf l n = (l.filter (hasLen n)).flatMap rowB := rfl
theorem mem_hasLen {l : Ents} {n : Nat} {x : CidOf × Int} : x ∈ l.filter (hasLen n) ↔ x ∈ l ∧ x.1.dig.length = n := by
  rw [List.mem_filter]; simp [hasLen]
theorem widthsOf_all {l : Ents} : ∀ x ∈ l, x.1.dig.length ∈ widthsOf l := by
  have h1 : ∀ (l : Ents) (acc : List Nat) (n : Nat), n ∈ acc → n ∈ l.foldl widthStep acc := by
    intro l
    induction l with
    | nil => intro acc n h; exact h
    | cons y l ih => intro acc n h; exact ih _ n (by unfold widthStep; split <;> simp [h])
  have h2 : ∀ (l : Ents) (acc : List Nat) (x : CidOf × Int), x ∈ l → x.1.dig.length ∈ l.foldl widthStep acc := by
    intro l
    induction l with
    | nil => intro acc x h; simp at h
    | cons y l ih =>
      intro acc x h
      rcases List.mem_cons.1 h with rfl | h
      · exact h1 l _ _ (by unfold widthStep; split <;> simp [*])
      · exact ih _ x h
  exact fun x hx => h2 l [] x hx
theorem widthsOf_nodup (l : Ents) : (widthsOf l).Nodup := by
  have : ∀ (l : Ents) (acc : List Nat), acc.Nodup → (l.foldl widthStep acc).Nodup := by
    intro l
    induction l with
    | nil => intro acc h; exact h
    | cons y l ih =>
      intro acc h
      refine ih _ ?_
      unfold widthStep
      split
      · exact h
      · next hn =>
        refine List.nodup_append.2 ⟨h, by simp, fun a ha b hb => ?_⟩
        simp only [List.mem_singleton] at hb
        subst hb
        exact fun e => hn (e ▸ ha)
  exact this l [] List.nodup_nil

/-- THE LAW: of a digest an index tells nothing just if no entry has it; the first that it tells is the offset of an entry that has it. -/
theorem tells_sorted {l l' : Ents} (hP : l'.Perm l) (hS : SortedD l') (hoff : ∀ x ∈ l, 0 ≤ x.2 ∧ x.2 < 18446744073709551616) {d : List UInt8} {M : List Nat} (hT : Tells (secsOf l l') d M) :
    (M = [] ∧ ∀ x ∈ l, x.1.dig ≠ d) ∨ ∃ x ∈ l, x.1.dig = d ∧ ∃ M', M = x.2.toNat :: M' := by
  rcases hT with ⟨h, rfl⟩ | ⟨s, hs, hw, n, r, hn, ⟨h1, h2, h3⟩, hM⟩
  · refine .inl ⟨rfl, fun x hx e => ?_⟩
    refine h (x.1.dig.length + 8, rowsOf l' x.1.dig.length) (List.mem_map.2 ⟨x.1.dig.length, ?_, rfl⟩) (by rw [e])
    exact sortN_mem.2 (widthsOf_all x hx)
  · obtain ⟨m, hm, rfl⟩ := List.mem_map.1 hs
    simp only at hw hn hM h1 h2 h3
    obtain rfl : m = d.length := by omega
    rw [rowsOf_eq] at hn hM h2 h3
    generalize hF : l'.filter (hasLen d.length) = F at *
    have hFl : ∀ x ∈ F, x ∈ l ∧ x.1.dig.length = d.length := fun x hx => by rw [← hF] at hx; obtain ⟨a, b⟩ := mem_hasLen.1 hx; exact ⟨hP.mem_iff.1 a, b⟩
    have hFS : F.Pairwise fun x y => Lib.compareBytes x.1.dig y.1.dig ≤ 0 := by rw [← hF]; exact hS.filter _
    have hlF : ∀ x ∈ l, x.1.dig = d → x ∈ F := fun x hx e => by rw [← hF]; exact mem_hasLen.2 ⟨hP.mem_iff.2 hx, by rw [e]⟩
    obtain ⟨r1, r2⟩ := rows_at d.length F (fun x hx => (hFl x hx).2)
    obtain rfl : n = F.length := by
      rw [r1] at hn
      exact (Nat.eq_of_mul_eq_mul_right (by omega) hn).symm
    obtain ⟨g1, g2⟩ := run_spec d.length d F (fun x hx => (hFl x hx).2) (fun x hx => hoff x (hFl x hx).1) (F.length - r) r (by omega)
    have hp : ∀ i x, F[i]? = some x → decide (Lib.compareBytes d (rowDig (d.length + 8) (F.flatMap rowB) i) ≤ 0) = decide (Lib.compareBytes d x.1.dig ≤ 0) := fun i x hx => by rw [(r2 i x hx).1]
    by_cases hex : ∃ x, F[r]? = some x ∧ x.1.dig = d
    · obtain ⟨x, hx, e⟩ := hex
      obtain ⟨M', h⟩ := g2 x hx e
      exact .inr ⟨x, (hFl x (List.mem_of_getElem? hx)).1, e, M', by rw [hM, h]⟩
    · refine .inl ⟨by rw [hM]; exact g1 (fun x hx e => hex ⟨x, hx, e⟩), fun x hx e => ?_⟩
      obtain ⟨i, hi⟩ := List.getElem?_of_mem (hlF x hx e)
      have hil := (List.getElem?_eq_some_iff.1 hi).1
      rcases Nat.lt_or_ge i r with hlt | hge
      · rcases h2 with h2 | h2
        · omega
        · obtain ⟨y, hy⟩ : ∃ y, F[r - 1]? = some y := ⟨_, List.getElem?_eq_getElem (by omega)⟩
          rw [hp _ y hy] at h2
          simp only [decide_eq_false_iff_not] at h2
          have hxy : Lib.compareBytes x.1.dig y.1.dig ≤ 0 := by
            rcases Nat.lt_or_eq_of_le (show i ≤ r - 1 by omega) with h | h
            · have hxe := (List.getElem?_eq_some_iff.1 hi).2
              have hye := (List.getElem?_eq_some_iff.1 hy).2
              rw [← hxe, ← hye]
              exact List.pairwise_iff_getElem.1 hFS i (r - 1) _ _ h
            · subst h; rw [hi] at hy; cases hy; rw [co_self]; omega
          rw [e] at hxy
          exact h2 hxy
      · rcases h3 with h3 | h3
        · omega
        · obtain ⟨y, hy⟩ : ∃ y, F[r]? = some y := ⟨_, List.getElem?_eq_getElem (by omega)⟩
          rw [hp _ y hy] at h3
          simp only [decide_eq_true_eq] at h3
          have hyx : Lib.compareBytes y.1.dig x.1.dig ≤ 0 := by
            rcases Nat.lt_or_eq_of_le hge with h | h
            · have hxe := (List.getElem?_eq_some_iff.1 hi).2
              have hye := (List.getElem?_eq_some_iff.1 hy).2
              rw [← hxe, ← hye]
              exact List.pairwise_iff_getElem.1 hFS r i _ _ h
            · subst h; rw [hi] at hy; cases hy; rw [co_self]; omega
          rw [e] at hyx
          have := co_neg d y.1.dig
          exact hex ⟨y, hy, co_eq _ _ (by omega)⟩

/-- What stands in the parts of an index. -/
theorem secsOf_ok {l l' : Ents} (hP : l'.Perm l) (hd : ∀ x ∈ l, x.1.dig.length ≤ 1000) (hl : l.length ≤ 10000) : (∀ x ∈ secsOf l l', 8 ≤ x.1 ∧ x.1 ≤ 33554432 ∧ ∃ n, x.2.length = n * x.1 ∧ n ≤ 1000000) ∧ ((secsOf l l').map (·.1)).Nodup := by
  refine ⟨fun s hs => ?_, ?_⟩
  · obtain ⟨m, hm, rfl⟩ := List.mem_map.1 hs
    obtain ⟨x, hx, rfl⟩ := widthsOf_mem (sortN_mem.1 hm)
    have := hd x hx
    refine ⟨by show 8 ≤ x.1.dig.length + 8; omega, by show x.1.dig.length + 8 ≤ _; omega, (l'.filter (hasLen x.1.dig.length)).length, ?_, ?_⟩
    · show (rowsOf l' _).length = _
      rw [rowsOf_eq]
      exact (rows_at _ _ (fun y hy => (mem_hasLen.1 hy).2)).1
    · have h1 := List.length_filter_le (hasLen x.1.dig.length) l'
      have h2 := hP.length_eq
      omega
  · rw [secsOf, List.map_map]
    have h : ((sortN (widthsOf l)).map ((fun x => x.1) ∘ fun n => (n + 8, rowsOf l' n))) = (sortN (widthsOf l)).map (· + 8) := rfl
    rw [h]
    refine (List.pairwise_map).2 ?_
    have hn : (sortN (widthsOf l)).Nodup := (List.mergeSort_perm _ _).nodup_iff.2 (widthsOf_nodup l)
    exact hn.imp fun h e => h (by omega)
end Go.Proofs.YtobdjcnojbnegaaGreatDoor

/- What an index that was loaded holds, against what the specification writes. Plain. -/
namespace Go.Proofs.YtobdjcnojbnegaaGreatDoor
open Go.RowKit
set_option linter.unusedVariables false

/-- The sections of an index of entries l: one for each length of digests, its rows sorted. -/
structure SecsFor (l : Ents) (secs : List Sec) : Prop where
  sec : ∀ s ∈ secs, ∃ L k, s.width = L + 8 ∧ k.Perm (l.filter (hasLen L)) ∧ (∃ x ∈ l, x.1.dig.length = L) ∧ SortedD k ∧ s.data = k.flatMap rowB
  all : ∀ x ∈ l, ∃ s ∈ secs, s.width = x.1.dig.length + 8
  nodup : (secs.map Sec.width).Nodup

def dLe (x y : CidOf × Int) : Bool := decide (Lib.compareBytes x.1.dig y.1.dig ≤ 0)
theorem dLe_trans (a b c : CidOf × Int) (h1 : dLe a b = true) (h2 : dLe b c = true) : dLe a c = true := by
  simp only [dLe, decide_eq_true_eq] at *
  exact co_trans _ _ _ h1 h2
theorem dLe_total (a b : CidOf × Int) : (dLe a b || dLe b a) = true := by
  simp only [dLe, Bool.or_eq_true, decide_eq_true_eq]
  rw [co_neg a.1.dig b.1.dig]
  omega

theorem SecsFor.widths {l : Ents} {secs : List Sec} (h : SecsFor l secs) : (secs.map Sec.width).Perm ((widthsOf l).map (· + 8)) := by
  refine perm_of_same h.nodup ?_ fun x => ⟨fun hx => ?_, fun hx => ?_⟩
  · exact (List.pairwise_map.2 ((widthsOf_nodup l).imp (fun h e => h (by omega))))
  · obtain ⟨s, hs, rfl⟩ := List.mem_map.1 hx
    obtain ⟨L, k, e, _, ⟨y, hy, e2⟩, _⟩ := h.sec s hs
    exact List.mem_map.2 ⟨L, e2 ▸ widthsOf_all y hy, e.symm⟩
  · obtain ⟨n, hn, rfl⟩ := List.mem_map.1 hx
    obtain ⟨y, hy, e⟩ := widthsOf_mem hn
    obtain ⟨s, hs, e2⟩ := h.all y hy
    exact List.mem_map.2 ⟨s, hs, by rw [e2, e]⟩

theorem sortN_add (l : List Nat) : sortN (l.map (· + 8)) = (sortN l).map (· + 8) := by
  unfold sortN
  rw [List.map_mergeSort (r := fun a b => decide (a ≤ b))]
  intro a _ b _
  simp

/-- One list of all entries whose rows are those of the sections. -/
theorem SecsFor.one {l : Ents} {secs : List Sec} (h : SecsFor l secs) : ∃ l', l'.Perm l ∧ SortedD l' ∧ sortedSecs secs = secsOf l l' := by
  have hk : ∀ n, ∃ k : Ents, k.Perm (l.filter (hasLen n)) ∧ SortedD k ∧ ∀ s ∈ secs, s.width = n + 8 → s.data = k.flatMap rowB := by
    intro n
    by_cases hs : ∃ s ∈ secs, s.width = n + 8
    · obtain ⟨s, hs, hw⟩ := hs
      obtain ⟨L, k, e, hp, _, hS, hd⟩ := h.sec s hs
      obtain rfl : L = n := by omega
      refine ⟨k, hp, hS, fun s' hs' hw' => ?_⟩
      have e1 := find_width hs h.nodup
      have e2 := find_width hs' h.nodup
      rw [hw', ← hw, e1] at e2
      injection e2 with e2
      rw [← e2]; exact hd
    · refine ⟨(l.filter (hasLen n)).mergeSort dLe, List.mergeSort_perm _ _, ?_, fun s hs' hw => absurd ⟨s, hs', hw⟩ hs⟩
      have := List.pairwise_mergeSort dLe_trans dLe_total (l.filter (hasLen n))
      exact this.imp (fun h => by simpa [dLe] using h)
  let K : Nat → Ents := fun n => (hk n).choose
  have hKp : ∀ n, (K n).Perm (l.filter (hasLen n)) := fun n => (hk n).choose_spec.1
  have hKs : ∀ n, SortedD (K n) := fun n => (hk n).choose_spec.2.1
  have hKd : ∀ n, ∀ s ∈ secs, s.width = n + 8 → s.data = (K n).flatMap rowB := fun n => (hk n).choose_spec.2.2
  have hKl : ∀ n, ∀ x ∈ K n, x.1.dig.length = n := fun n x hx => (mem_hasLen.1 ((hKp n).mem_iff.1 hx)).2
  have hcat : ∀ (ws : List Nat), ws.Nodup → ∀ m : Ents, (∀ x ∈ m, x.1.dig.length ∈ ws) → (∀ n ∈ ws, (K n).Perm (m.filter (hasLen n))) → (ws.flatMap K).Perm m := by
    intro ws
    induction ws with
    | nil =>
      intro _ m hm _
      cases m with
      | nil => exact .refl _
      | cons x m => exact absurd (hm x List.mem_cons_self) (by simp)
    | cons n ws ih =>
      intro hn m hm hK
      have hn' := List.nodup_cons.1 hn
      have h1 : ((m.filter (hasLen n)) ++ (m.filter fun x => !hasLen n x)).Perm m := List.filter_append_perm _ m
      have h2 := ih hn'.2 (m.filter fun x => !hasLen n x) (fun x hx => by
        obtain ⟨hx1, hx2⟩ := List.mem_filter.1 hx
        rcases List.mem_cons.1 (hm x hx1) with e | e
        · simp [hasLen, e] at hx2
        · exact e) (fun k hk => by
        have hkn : k ≠ n := fun e => hn'.1 (e ▸ hk)
        have e : (m.filter fun x => !hasLen n x).filter (hasLen k) = m.filter (hasLen k) := by
          rw [List.filter_filter]
          refine List.filter_congr fun x _ => ?_
          simp only [hasLen]
          by_cases hx : x.1.dig.length = k
          · simp [hx, hkn]
          · simp [hx]
        rw [e]
        exact hK k (List.mem_cons_of_mem _ hk))
      rw [List.flatMap_cons]
      exact ((hK n List.mem_cons_self).append h2).trans h1
  have hC : ((widthsOf l).flatMap K).Perm l := hcat _ (widthsOf_nodup l) l (fun x hx => widthsOf_all x hx) (fun n _ => hKp n)
  refine ⟨((widthsOf l).flatMap K).mergeSort dLe, (List.mergeSort_perm _ _).trans hC, ?_, ?_⟩
  · have := List.pairwise_mergeSort dLe_trans dLe_total ((widthsOf l).flatMap K)
    exact this.imp (fun h => by simpa [dLe] using h)
  · have hrow : ∀ n ∈ widthsOf l, rowsOf (((widthsOf l).flatMap K).mergeSort dLe) n = (K n).flatMap rowB := by
      intro n hn
      have hsub1 : (K n).Sublist ((widthsOf l).flatMap K) := by
        obtain ⟨a, b, e⟩ := List.append_of_mem hn
        rw [e, List.flatMap_append, List.flatMap_cons]
        exact (List.sublist_append_left _ _).trans (List.sublist_append_right _ _)
      have hsub2 : (K n).Sublist (((widthsOf l).flatMap K).mergeSort dLe) := List.sublist_mergeSort dLe_trans dLe_total ((hKs n).imp (fun h => by simpa [dLe] using h)) hsub1
      have hsub3 : (K n).Sublist ((((widthsOf l).flatMap K).mergeSort dLe).filter (hasLen n)) := by
        have := hsub2.filter (hasLen n)
        rwa [List.filter_eq_self.2 (fun x hx => by simp [hasLen, hKl n x hx])] at this
      have hlen : ((((widthsOf l).flatMap K).mergeSort dLe).filter (hasLen n)).length = (K n).length := by
        rw [(((List.mergeSort_perm ((widthsOf l).flatMap K) dLe).trans hC).filter (hasLen n)).length_eq, (hKp n).length_eq]
      rw [rowsOf_eq, ← hsub3.eq_of_length hlen.symm]
    unfold sortedSecs
    rw [sortN_perm h.widths, sortN_add, inOrder, List.filterMap_map, secsOf]
    have hmem : ∀ n ∈ sortN (widthsOf l), n ∈ widthsOf l := fun n hn => sortN_mem.1 hn
    generalize sortN (widthsOf l) = ws at hmem ⊢
    induction ws with
    | nil => rfl
    | cons n ws ih =>
      have hn := hmem n List.mem_cons_self
      obtain ⟨y, hy, e⟩ := widthsOf_mem hn
      obtain ⟨s, hs, e2⟩ := h.all y hy
      have hf := find_width hs h.nodup
      rw [e2, e] at hf
      rw [List.filterMap_cons, List.map_cons, ← ih (fun m hm => hmem m (List.mem_cons_of_mem _ hm))]
      simp only [Function.comp_apply, hf, Option.map_some, Sec.two]
      rw [hrow n hn, e2, e, hKd n s hs (by rw [e2, e])]

/-! ### Once -/
/-- No two entries of one digest. -/
def OnceD (l : Ents) : Prop := l.Pairwise fun x y => x.1.dig ≠ y.1.dig
theorem OnceD.perm {l l' : Ents} (h : OnceD l) (hp : l.Perm l') : OnceD l' := hp.pairwise h (fun h e => h e.symm)
theorem sorted_once : ∀ {a b : Ents}, a.Perm b → OnceD a → SortedD a → SortedD b → a = b := by
  intro a
  induction a with
  | nil => intro b hp _ _ _; exact (List.nil_perm.1 hp).symm ▸ rfl
  | cons x a ih =>
    intro b hp ho ha hb
    cases b with
    | nil => exact absurd hp.length_eq (by simp)
    | cons y b =>
      have hxy : x = y := by
        rcases List.mem_cons.1 (hp.mem_iff.1 (List.mem_cons_self (a := x))) with e | hx
        · exact e
        · rcases List.mem_cons.1 (hp.mem_iff.2 (List.mem_cons_self (a := y))) with e | hy
          · exact e.symm
          · have h1 := (List.pairwise_cons.1 ha).1 y hy
            have h2 := (List.pairwise_cons.1 hb).1 x hx
            have h3 : Lib.compareBytes x.1.dig y.1.dig = 0 := by
              have := co_neg x.1.dig y.1.dig
              omega
            exact absurd (co_eq _ _ h3) ((List.pairwise_cons.1 ho).1 y hy)
      subst hxy
      rw [ih (List.Perm.cons_inv hp) (List.pairwise_cons.1 ho).2 (List.pairwise_cons.1 ha).2 (List.pairwise_cons.1 hb).2]
theorem widthsOf_perm {l m : Ents} (h : l.Perm m) : (widthsOf l).Perm (widthsOf m) := by
  refine perm_of_same (widthsOf_nodup l) (widthsOf_nodup m) fun x => ⟨fun hx => ?_, fun hx => ?_⟩
  · obtain ⟨y, hy, e⟩ := widthsOf_mem hx
    exact e ▸ widthsOf_all y (h.mem_iff.1 hy)
  · obtain ⟨y, hy, e⟩ := widthsOf_mem hx
    exact e ▸ widthsOf_all y (h.mem_iff.2 hy)
/-- THE LAW: an index of entries in another order is the same. -/
theorem SecsFor.same {l m : Ents} {sl sm : List Sec} (hp : l.Perm m) (ho : OnceD l) (h1 : SecsFor l sl) (h2 : SecsFor m sm) : sortedSecs sl = sortedSecs sm := by
  obtain ⟨a, ha, hsa, ea⟩ := h1.one
  obtain ⟨b, hb, hsb, eb⟩ := h2.one
  have : a = b := sorted_once ((ha.trans hp).trans hb.symm) (ho.perm ha.symm) hsa hsb
  rw [ea, eb, this, secsOf, secsOf, sortN_perm (widthsOf_perm hp)]
end Go.Proofs.YtobdjcnojbnegaaGreatDoor
