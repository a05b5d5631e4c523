import Derived.Test.YtnhhhjnhmbhdgaaGreatDoorG04
import Derived.Test.YtnhhhjnhmbhdgaaGreatDoorG06
import Derived.Test.YtnhhhjnhmbhdgaaGreatDoorG08
/- The index 0x0401 is read. -/
namespace Go.Proofs.YtnhhhjnhmbhdgaaGreatDoor
open Go.RowKit
set_option linter.unusedVariables false
set_option linter.unusedSimpArgs false
attribute [local go_sem] setCell_drewN alloc_drewN

/-- An index of one hash function: its code, its block, its map's block, its sections. -/
structure Cod where
  code : Nat
  cb : Nat
  mb : Nat
  secs : List Sec
def Cod.pair (c : Cod) : Int × Value := ((c.code : Int), .pointer (some ⟨c.cb, 0, none⟩))
def Cod.two (c : Cod) : Nat × List (Nat × List UInt8) := (c.code, c.secs.map Sec.two)
def codBytes (p : Nat × List (Nat × List UInt8)) : List UInt8 := Lib.leBytes 8 p.1 ++ mwBytes p.2
def codsBytes (l : List (Nat × List (Nat × List UInt8))) : List UInt8 := (l.map codBytes).flatten
def mhBytes (l : List (Nat × List (Nat × List UInt8))) : List UInt8 := Lib.leBytes 4 l.length ++ codsBytes l
def mhT : TypeId := 114
structure CodAt (w : World) (c : Cod) : Prop where
  mw : MwAt w ⟨c.cb, 0, none⟩ c.mb c.secs
  code : w.cell? ⟨c.cb, 1, none⟩ = some (.int .u64 (c.code : Int))
structure MhAt (w : World) (a : Addr) (mb : Nat) (cs : List Cod) : Prop where
  cell : w.cell? a = some (.map (some mb))
  map : ImAt w mb .u64 (cs.map Cod.pair)
  row : ∀ c ∈ cs, CodAt w c
theorem CodAt.kp {S : Nat → Prop} {w w' : World} {c : Cod} (h : CodAt w c) (k : Kp S w w') (h1 : ¬ S c.cb) (h2 : ¬ S c.mb) (h3 : ∀ s ∈ c.secs, ¬ S s.gd) : CodAt w' c :=
  ⟨h.mw.kp k h1 h2 h3, (k.cell (World.block_lt_of_cell? w _ h.code) h1).trans h.code⟩
theorem MhAt.kp {S : Nat → Prop} {w w' : World} {a : Addr} {mb : Nat} {cs : List Cod} (h : MhAt w a mb cs) (k : Kp S w w') (h1 : ¬ S a.block) (h2 : ¬ S mb) (h3 : ∀ c ∈ cs, ¬ S c.cb ∧ ¬ S c.mb ∧ ∀ s ∈ c.secs, ¬ S s.gd) : MhAt w' a mb cs :=
  ⟨(k.cell (World.block_lt_of_cell? w _ h.cell) h1).trans h.cell, h.map.kp k h2, fun c hc => (h.row c hc).kp k (h3 c hc).1 (h3 c hc).2.1 (h3 c hc).2.2⟩

set_option maxRecDepth 100000 in
theorem newMwci_ok (w : World) : Calls Tryz.prog 181 #[] w fun e w' => e = .returned (.pointer (some ⟨w.heap.size + 1, 0, none⟩)) ∧ CodAt w' ⟨0, w.heap.size + 1, w.heap.size, []⟩ ∧
    w'.frozen? ⟨w.heap.size + 1, 1, none⟩ = false ∧ w'.heap.size = w.heap.size + 2 ∧ Below w.heap.size w w' := by
  have hmm := @run_makeMap Tryz.prog
  go_enter Tryz.func181, Tryz.ntmps181
  go_wp2_with fail
  go_ret
  refine ⟨rfl, ⟨⟨?_, ?_, by simp⟩, ?_⟩, ?_, by simp, by (repeat (first | (with_reducible exact Below.refl _ _) | (with_reducible exact below_boxed _ _) | (with_reducible refine below_box ?_ _) | (with_reducible refine below_drew1 ?_) | (with_reducible refine below_drewn ?_ _) | (with_reducible refine below_bytes ?_ _ _) | (with_reducible refine below_next ?_ (by assumption)) | (with_reducible refine below_set ?_ (by first | (simp; done) | (simp; omega) | omega) _)))⟩
  · simp [go_sem]
  · exact (ImAt.made w .u32).upd (heap_alloc_old _ _ (by simp))
  · simp [go_sem]
  · simp [go_sem]

set_option maxRecDepth 100000 in
set_option maxHeartbeats 1600000 in
theorem CoUnmarshal_ok (b : Nat) (A : Option Addr) (cap : Nat) (bs : List UInt8) (pos : Nat) (cb mb code : Nat) (hcode : code < 18446744073709551616) (ss : List (Nat × List UInt8)) (rest : List UInt8) (hw : ∀ s ∈ ss, 8 ≤ s.1 ∧ s.1 ≤ 33554432) (hnd : (ss.map (·.1)).Nodup) (w : World)
    (hsm : bs.length ≤ 16777216) (h : RdAt w b A cap bs pos) (hbs : bs.drop pos = codBytes (code, ss) ++ rest) (hM : CodAt w ⟨0, cb, mb, []⟩) (hf : w.frozen? ⟨cb, 1, none⟩ = false) (hab : cb ≠ b) (hmb : mb ≠ b) (ham : cb ≠ mb)
    (hA : ∀ g' o, A = some ⟨g', o, none⟩ → g' < w.heap.size ∧ g' ≠ cb ∧ g' ≠ mb) :
    Calls Tryz.prog 189 #[.pointer (some ⟨cb, 0, none⟩), .iface 47 (.pointer (some ⟨b, 0, none⟩))] w fun e w' => e = .returned .nilIface ∧ RdAt w' b A cap bs (pos + (codBytes (code, ss)).length) ∧
      (∃ secs, secs.map Sec.two = ss ∧ CodAt w' ⟨code, cb, mb, secs⟩ ∧ ∀ s ∈ secs, w.heap.size ≤ s.gd) ∧ Kp (fun i => i = b ∨ i = mb ∨ i = cb) w w' := by
  have hbs1 : bs.drop pos = Lib.leBytes 8 code ++ (mwBytes ss ++ rest) := by rw [hbs, codBytes, List.append_assoc]
  have hbs2 : bs.drop (pos + 8) = mwBytes ss ++ rest := by rw [← List.drop_drop, hbs1]; rfl
  have hlen : (codBytes (code, ss)).length = 8 + (mwBytes ss).length := by rw [codBytes, List.length_append, le8_len]
  have hR := zzRead64_more b A cap bs pos code hcode _ ⟨cb, 1, none⟩ _ w h hbs1 hM.code hf hab (fun g o e => ⟨(hA g o e).1, (hA g o e).2.1⟩)
  have hmbl := hM.mw.map.lt
  clear hbs hbs1 h
  go_enter Tryz.func189, Tryz.ntmps189
  go_wp2_with fail
  refine hR.mono ?_
  rintro e w1 ⟨rfl, hR1, ⟨hc1, ho1⟩, hK1⟩
  have hz1 := hK1.size
  have hM1 : MwAt w1 ⟨cb, 0, none⟩ mb [] := ⟨((ho1 ⟨cb, 0, none⟩ rfl (by simp)).1).trans hM.mw.cell, hM.mw.map.kp hK1 (fun h => h.elim hmb (fun e => ham e.symm)), by simp⟩
  have hU := MwUnmarshal_ok b A cap bs (pos + 8) ⟨cb, 0, none⟩ mb ss rest hw hnd w1 hsm hR1 hbs2 hM1 hab hmb ham (fun g o e => ⟨Nat.lt_of_lt_of_le (hA g o e).1 hz1, (hA g o e).2.1, (hA g o e).2.2⟩)
  have hcbl := World.block_lt_of_cell? w1 _ hc1
  clear hR hw hnd hR1 hbs2 hM1
  go_wp2_with fail
  refine hU.mono ?_
  rintro e w2 ⟨rfl, hR2, ⟨secs, hs, hM2, hgd⟩, hK2⟩
  go_wp2_with fail
  go_ret
  refine ⟨rfl, by rw [hlen, ← Nat.add_assoc]; exact hR2, ⟨secs, hs, ⟨hM2, (hK2.cell (p := ⟨cb, 1, none⟩) hcbl (fun h => h.elim hab ham)).trans hc1⟩, fun s h => Nat.le_trans hz1 (hgd s h)⟩, ?_⟩
  exact (hK1.mono (S' := fun i => i = b ∨ i = mb ∨ i = cb) (fun i h => .inl (h.elim .inl (fun e => .inr (.inr e))))).trans hK2 (fun i h => .inl (h.elim .inl (fun e => .inr (.inl e))))

set_option maxRecDepth 100000 in
set_option maxHeartbeats 1600000 in
theorem MhPut_ok (a : Addr) (mb : Nat) (cs : List Cod) (c : Cod) (w : World) (hM : MhAt w a mb cs) (hc : CodAt w c) (hnew : ∀ x ∈ cs, x.code ≠ c.code) (ham : a.block ≠ mb) (hmc : mb ≠ c.cb ∧ mb ≠ c.mb ∧ ∀ s ∈ c.secs, mb ≠ s.gd) (hmx : ∀ x ∈ cs, mb ≠ x.cb ∧ mb ≠ x.mb ∧ ∀ s ∈ x.secs, mb ≠ s.gd) :
    Calls Tryz.prog 183 #[.pointer (some a), .pointer (some ⟨c.cb, 0, none⟩)] w fun e w' => e = .returned (.tuple #[]) ∧ MhAt w' a mb (cs ++ [c]) ∧ Kp (fun i => i = mb) w w' := by
  obtain ⟨om, hmu, him⟩ := hM.map.put (P := Tryz.prog) Tryz.underlying164 Tryz.underlying23 (c.code : Int) (.pointer (some ⟨c.cb, 0, none⟩))
  have hmu1 := hmu w.drew rfl
  have him1 := him w.drew rfl
  have hml := hM.map.lt
  have ca := hM.cell
  have cc := hc.code
  have hput : iput (cs.map Cod.pair) (c.code : Int) (.pointer (some ⟨c.cb, 0, none⟩)) = (cs ++ [c]).map Cod.pair := by
    rw [iput_new, List.map_append, List.map_cons, List.map_nil]; rfl
    intro q hq e
    obtain ⟨s, hs, rfl⟩ := List.mem_map.1 hq
    simp only [Cod.pair] at e
    exact hnew s hs (by omega)
  rw [hput] at him1
  have HIM := Lib.hid him1; have HMM := Lib.hid hM; have HC := Lib.hid hc
  clear hmu him him1 hM hc hput hnew
  go_enter Tryz.func183, Tryz.ntmps183
  go_wp2_with fail
  go_region
  have hkk : Kp (fun i => i = mb) w (ChangeMaps.setBlock w.drew mb om) := (Kp.refl _ w).drew.trans (kp_setBlk (w := w.drew) om) (fun i hi => .inl hi)
  go_end0
  refine ⟨rfl, ⟨(hkk.cell (World.block_lt_of_cell? w _ ca) ham).trans ca, HIM.out, fun x hx => ?_⟩, hkk⟩
  rcases List.mem_append.1 hx with hx | hx
  · exact (HMM.out.row x hx).kp hkk (fun e => (hmx x hx).1 e.symm) (fun e => (hmx x hx).2.1 e.symm) (fun s hs e => (hmx x hx).2.2 s hs e.symm)
  · obtain rfl : x = c := by simpa using hx
    exact HC.out.kp hkk (fun e => hmc.1 e.symm) (fun e => hmc.2.1 e.symm) (fun s hs e => hmc.2.2 s hs e.symm)

theorem codBytes_len (p : Nat × List (Nat × List UInt8)) : 12 ≤ (codBytes p).length := by simp only [codBytes, mwBytes, List.length_append, le4_len, le8_len]; omega
theorem codsBytes_cons (p : Nat × List (Nat × List UInt8)) (l : List (Nat × List (Nat × List UInt8))) : codsBytes (p :: l) = codBytes p ++ codsBytes l := by simp [codsBytes]
theorem codsBytes_append (k l : List (Nat × List (Nat × List UInt8))) : codsBytes (k ++ l) = codsBytes k ++ codsBytes l := by simp [codsBytes]
theorem codsBytes_len (l : List (Nat × List (Nat × List UInt8))) : 12 * l.length ≤ (codsBytes l).length := by
  induction l with
  | nil => simp [codsBytes]
  | cons p l ih => have := codBytes_len p; rw [codsBytes_cons, List.length_append, List.length_cons]; omega
theorem cods_split {ss : List (Nat × List (Nat × List UInt8))} {k : Nat} {p : Nat × List (Nat × List UInt8)} (h : ss[k]? = some p) : ss = ss.take k ++ p :: ss.drop (k + 1) := by
  have hlt := (List.getElem?_eq_some_iff.1 h).1
  have he := (List.getElem?_eq_some_iff.1 h).2
  rw [← he, List.getElem_cons_drop hlt, List.take_append_drop]
theorem cods_at {ss : List (Nat × List (Nat × List UInt8))} {k : Nat} {p : Nat × List (Nat × List UInt8)} (h : ss[k]? = some p) (bs rest : List UInt8) (q : Nat) (hbs : bs.drop q = codsBytes ss ++ rest) :
    bs.drop (q + (codsBytes (ss.take k)).length) = codBytes p ++ (codsBytes (ss.drop (k + 1)) ++ rest) := by
  rw [← List.drop_drop, hbs]
  conv => lhs; rw [cods_split h, codsBytes_append, codsBytes_cons]
  rw [← cods_split h, List.append_assoc, List.drop_left' rfl, List.append_assoc]
theorem cods_take {ss : List (Nat × List (Nat × List UInt8))} {k : Nat} {p : Nat × List (Nat × List UInt8)} (h : ss[k]? = some p) : ss.take (k + 1) = ss.take k ++ [p] := by
  have hlt := (List.getElem?_eq_some_iff.1 h).1
  have he := (List.getElem?_eq_some_iff.1 h).2
  rw [List.take_succ_eq_append_getElem hlt, he]
/-- The blocks of a coded index lie above. -/
def Cod.Above (n : Nat) (c : Cod) : Prop := n < c.cb ∧ n < c.mb ∧ ∀ s ∈ c.secs, n < s.gd
theorem Cod.Above.lt {w : World} {c : Cod} (h : CodAt w c) : c.cb < w.heap.size ∧ c.mb < w.heap.size ∧ ∀ s ∈ c.secs, s.gd < w.heap.size :=
  ⟨World.block_lt_of_cell? w _ h.code, h.mw.map.lt, fun s hs => (Array.getElem?_eq_some_iff.1 (h.mw.row s hs)).1⟩

set_option maxRecDepth 100000 in
set_option maxHeartbeats 3200000 in
theorem MhUnmarshal_ok (b : Nat) (A : Option Addr) (cap : Nat) (bs : List UInt8) (pos : Nat) (a : Addr) (mb : Nat) (ss : List (Nat × List (Nat × List UInt8))) (rest : List UInt8)
    (hw : ∀ p ∈ ss, p.1 < 18446744073709551616 ∧ (∀ s ∈ p.2, 8 ≤ s.1 ∧ s.1 ≤ 33554432) ∧ (p.2.map (·.1)).Nodup) (hnd : (ss.map (·.1)).Nodup) (w : World)
    (hsm : bs.length ≤ 16777216) (h : RdAt w b A cap bs pos) (hbs : bs.drop pos = mhBytes ss ++ rest) (hM : MhAt w a mb []) (hab : a.block ≠ b) (hmb : mb ≠ b) (ham : a.block ≠ mb)
    (hA : ∀ g' o, A = some ⟨g', o, none⟩ → g' < w.heap.size ∧ g' ≠ a.block ∧ g' ≠ mb) :
    Calls Tryz.prog 177 #[.pointer (some a), .iface 47 (.pointer (some ⟨b, 0, none⟩))] w fun e w' => e = .returned .nilIface ∧ RdAt w' b A cap bs (pos + (mhBytes ss).length) ∧
      (∃ cs, cs.map Cod.two = ss ∧ MhAt w' a mb cs ∧ ∀ c ∈ cs, c.Above w.heap.size) ∧ Kp (fun i => i = b ∨ i = mb) w w' := by
  have hms := method_Seek
  have hbl := h.blt
  have hal := World.block_lt_of_cell? w _ hM.cell
  have hmbl := hM.map.lt
  have hlen : pos + 4 + (codsBytes ss).length ≤ bs.length := by
    have := congrArg List.length hbs
    simp only [mhBytes, List.length_drop, List.length_append, le4_len] at this
    omega
  have hsl := codsBytes_len ss
  have hbs1 : bs.drop pos = Lib.leBytes 4 ss.length ++ (codsBytes ss ++ rest) := by rw [hbs, mhBytes, List.append_assoc]
  have hbs2 : bs.drop (pos + 4) = codsBytes ss ++ rest := by rw [← List.drop_drop, hbs1]; rfl
  have hml : pos + (mhBytes ss).length = pos + 4 + (codsBytes (ss.take ss.length)).length := by rw [List.take_length]; simp only [mhBytes, List.length_append, le4_len]; omega
  have hR1 := zzRead32_ok b A cap bs pos ss.length (by omega) _ ⟨w.heap.size, 0, none⟩ (.int .u32 0) (w.alloc (.cells #[.int .u32 0] 99)) (rd_alloc h _) hbs1 (by simp [go_sem]) (by simp [go_sem]) (by show w.heap.size ≠ b; omega) (fun g' o e => by have := (hA g' o e).1; simp; omega)
  have HB := Lib.hid hbs2; have HL := Lib.hid hml; have HW := Lib.hid hw; have HN := Lib.hid hnd
  clear hbs hbs1 hbs2 hml hw hnd
  go_enter Tryz.func177, Tryz.ntmps177
  go_wp2_with fail
  refine (ToByteReadSeeker_ok _ _).mono ?_
  rintro e w0 ⟨rfl, rfl⟩
  go_wp2_with fail
  refine hR1.mono ?_
  rintro e w1 ⟨rfl, hR1, hc1, hK1⟩
  have hz1 : w.heap.size < w1.heap.size := by have := hK1.size; simp at this; omega
  have hKa : Kp (fun i => i = b ∨ i = mb) w w1 := (Kp.refl _ w).box hK1 (fun i hi => hi.elim (fun e => .inl (.inl e)) (fun e => .inr e))
  have hM1 : MhAt w1 a mb [] := (hM.kp (kp_alloc w _) id id (fun c hc => by simp at hc)).kp hK1 (by simp; omega) (by simp; omega) (fun c hc => by simp at hc)
  clear hK1
  go_wp2_with fail
  refine (Seek_ok b A cap bs (pos + 4) w1 hR1).mono ?_
  rintro e w2 ⟨rfl, hR2, hK2⟩
  have hz2 := hK2.size
  have hKb : Kp (fun i => i = b ∨ i = mb) w w2 := hKa.trans hK2 (fun i hi => .inl (.inl hi))
  have hM2 : MhAt w2 a mb [] := hM1.kp hK2 hab hmb (fun c hc => by simp at hc)
  clear hR1 hc1 hKa hM1 hK2 hM
  have hneg : ¬ ((ss.length : Int) < 0) := by omega
  have hwrap : IntKind.i32.wrap (ss.length : Int) = (ss.length : Int) := by rw [IntKind.wrap_i32]; omega
  go_wp2_with fail
  go_loopw [9, 11] (fun vs vi wr => ∃ (k sum : Nat) (cs : List Cod), vi = .int .i64 (k : Int) ∧ vs = .int .i64 (sum : Int) ∧ k ≤ ss.length ∧ sum ≤ (k + 1) * 16777216 ∧ cs.map Cod.two = ss.take k ∧ RdAt wr b A cap bs (pos + 4 + (codsBytes (ss.take k)).length) ∧
      MhAt wr a mb cs ∧ (∀ c ∈ cs, c.Above w.heap.size) ∧ Kp (fun i => i = b ∨ i = mb) w wr ∧ w1.heap.size ≤ wr.heap.size) (fun _ vi _ => ss.length - (intOf vi).toNat)
  case atStart => exact ⟨0, pos + 4, [], rfl, rfl, Nat.zero_le _, by omega, rfl, by simpa [codsBytes] using hR2, hM2, by simp, hKb, hz2⟩
  case round =>
    clear hR2 hM2 hKb
    obtain ⟨k, sum, cs, rfl, rfl, hk, hsum, hsecs, hR, hM, hgs, hK, hzr⟩ := hrel
    by_cases hlt : k < ss.length
    · obtain ⟨p, hp⟩ : ∃ p, ss[k]? = some p := ⟨_, List.getElem?_eq_getElem hlt⟩
      have hat := cods_at hp bs rest (pos + 4) HB.out
      have htk := cods_take hp
      obtain ⟨hp1, hp2, hp3⟩ := HW.out p (List.mem_of_getElem? hp)
      have hnew : ∀ c ∈ cs, c.code ≠ p.1 := by
        intro s hs e
        have h1 : s.two ∈ ss.take k := by rw [← hsecs]; exact List.mem_map.2 ⟨s, hs, rfl⟩
        obtain ⟨j, hj⟩ := List.getElem?_of_mem h1
        have hjk := (List.getElem?_eq_some_iff.1 hj).1
        rw [List.length_take] at hjk
        have hj2 : ss[j]? = some s.two := by rw [List.getElem?_take] at hj; split at hj; exact hj; cases hj
        have e2 : (ss.map (·.1))[j]? = (ss.map (·.1))[k]? := by rw [List.getElem?_map, List.getElem?_map, hj2, hp]; simp [Cod.two, e]
        have := (List.getElem?_inj (i := j) (j := k) (by simp; omega) HN.out).1 e2
        omega
      obtain ⟨code, secs⟩ := p
      simp only at hat hp1 hp2 hp3 hnew
      have hplen := congrArg List.length hat
      simp only [List.length_drop, List.length_append] at hplen
      have hcl := codBytes_len (code, secs)
      have hpl : (codsBytes (ss.take (k + 1))).length = (codsBytes (ss.take k)).length + (codBytes (code, secs)).length := by rw [htk, codsBytes_append, List.length_append]; simp [codsBytes]
      have hbd : pos + 4 + (codsBytes (ss.take k)).length + (codBytes (code, secs)).length ≤ bs.length := by omega
      obtain ⟨pk, hpk⟩ : ∃ pk, pk = pos + 4 + (codsBytes (ss.take k)).length := ⟨_, rfl⟩
      rw [← hpk] at hR hat hbd
      have HPL : Hid (pos + 4 + (codsBytes (ss.take (k + 1))).length = pk + (codBytes (code, secs)).length) := Lib.hid (by omega)
      have HT := Lib.hid htk; have HSS := Lib.hid hsecs; have HNW := Lib.hid hnew; have HAT := Lib.hid hat; have HP2 := Lib.hid hp2; have HP3 := Lib.hid hp3
      clear hpk htk hpl hplen hsecs hnew hp hat hp2 hp3
      have hbr := hR.blt
      go_wp2_with fail
      refine (newMwci_ok _).mono ?_
      rintro e w3 ⟨rfl, hC3, hf3, hz3, hb3⟩
      have hlts : ∀ c ∈ cs, c.cb < wr.heap.size ∧ c.mb < wr.heap.size ∧ ∀ s ∈ c.secs, s.gd < wr.heap.size := fun c hc => Cod.Above.lt (hM.row c hc)
      have hR3 : RdAt w3 b A cap bs pk := hR.keep (S := fun _ => False) (Kp.of_below hb3) id (fun _ _ _ => id)
      have hM3 : MhAt w3 a mb cs := hM.kp (S := fun _ => False) (Kp.of_below hb3) id id (fun _ _ => ⟨id, id, fun _ _ => id⟩)
      have hK3 : Kp (fun i => i = b ∨ i = mb) w w3 := hK.trans (Kp.of_below (S := fun _ => False) hb3) (fun i hi => hi.elim)
      have hCo := CoUnmarshal_ok b A cap bs pk (wr.heap.size + 1) wr.heap.size code hp1 secs _ HP2.out HP3.out w3 hsm hR3 HAT.out hC3 hf3 (by omega) (by omega) (by omega) (fun g o e => by have := (hA g o e).1; omega)
      clear hC3 hf3 hR hR3 hM hK
      go_wp2_with fail
      refine hCo.mono ?_
      clear hCo
      rintro e w4 ⟨rfl, hR4, ⟨secs', hs4, hC4, hgd4⟩, hK4⟩
      have hz4 := hK4.size
      have hM4 : MhAt w4 a mb cs := hM3.kp hK4 (by omega) (by omega) (fun c hc => by
        have h1 := hlts c hc; have h2 := hgs c hc
        refine ⟨by have := h1.1; have := h2.1; omega, by have := h1.2.1; have := h2.2.1; omega, fun s hs => by have := h1.2.2 s hs; have := h2.2.2 s hs; omega⟩)
      have hKd : Kp (fun i => i = b ∨ i = mb) w w4 := hK3.trans hK4 (fun i hi => by rcases hi with e | e | e; exact .inl (.inl e); exact .inr (by omega); exact .inr (by omega))
      clear hM3 hK3 hK4
      go_wp2_with fail
      refine (Seek_ok b A cap bs _ w4 hR4).mono ?_
      rintro e w5 ⟨rfl, hR5, hK5⟩
      have hz5 := hK5.size
      have hKe : Kp (fun i => i = b ∨ i = mb) w w5 := hKd.trans hK5 (fun i hi => .inl (.inl hi))
      have hM5 : MhAt w5 a mb cs := hM4.kp hK5 hab hmb (fun c hc => by
        have h2 := hgs c hc
        exact ⟨by have := h2.1; omega, by have := h2.2.1; omega, fun s hs => by have := h2.2.2 s hs; omega⟩)
      have hC5 : CodAt w5 ⟨code, wr.heap.size + 1, wr.heap.size, secs'⟩ := hC4.kp hK5 (by show wr.heap.size + 1 ≠ b; omega) (by show wr.heap.size ≠ b; omega) (fun s hs => by have := hgd4 s hs; omega)
      clear hR4 hKd hM4 hC4 hK5
      have hsum' : ¬ ((sum : Int) + ((pk + (codBytes (code, secs)).length : Nat) : Int) < (sum : Int)) := by omega
      have hsw : IntKind.i64.wrap ((sum : Int) + ((pk + (codBytes (code, secs)).length : Nat) : Int)) = ((sum + (pk + (codBytes (code, secs)).length) : Nat) : Int) := by rw [IntKind.wrap_i64]; omega
      have hPut := MhPut_ok a mb cs ⟨code, wr.heap.size + 1, wr.heap.size, secs'⟩ w5 hM5 hC5 HNW.out ham ⟨by show mb ≠ wr.heap.size + 1; omega, by show mb ≠ wr.heap.size; omega, fun s hs => by have := hgd4 s hs; omega⟩ (fun x hx => by
        have h2 := hgs x hx
        exact ⟨by have := h2.1; omega, by have := h2.2.1; omega, fun s hs => by have := h2.2.2 s hs; omega⟩)
      go_wp2_with fail
      refine hPut.mono ?_
      clear hPut hM5 hC5
      rintro e w6 ⟨rfl, hM6, hK6⟩
      have hz6 := hK6.size
      have hR6 := hR5.keep hK6 (fun e => hmb e.symm) (fun g o e => (hA g o e).2.2)
      have hKf : Kp (fun i => i = b ∨ i = mb) w w6 := hKe.trans hK6 (fun i hi => .inl (.inr hi))
      have HR6 := Lib.hid hR6
      clear hR5 hKe hK6 hR6
      go_wp2_with fail
      go_roundw
      case rel =>
        refine ⟨k + 1, sum + (pk + (codBytes (code, secs)).length), cs ++ [⟨code, wr.heap.size + 1, wr.heap.size, secs'⟩], by go_num, by first | rfl | go_num, by omega, by omega, ?_, by rw [HPL.out]; exact HR6.out, hM6, ?_, hKf, by omega⟩
        · rw [List.map_append, HSS.out, HT.out]; simp [Cod.two, hs4]
        · intro c hc
          rcases List.mem_append.1 hc with hc | hc
          · exact hgs c hc
          · obtain rfl : c = ⟨code, wr.heap.size + 1, wr.heap.size, secs'⟩ := by simpa using hc
            exact ⟨by show w.heap.size < wr.heap.size + 1; omega, by show w.heap.size < wr.heap.size; omega, fun s hs => by have := hgd4 s hs; omega⟩
      case measure => simp [intOf]; omega
    · obtain rfl : k = ss.length := by omega
      go_wp2_with fail
      go_ret
      rw [List.take_length] at hsecs
      exact ⟨rfl, by rw [HL.out]; exact hR, ⟨cs, hsecs, hM, hgs⟩, hK⟩
end Go.Proofs.YtnhhhjnhmbhdgaaGreatDoor

/- The index 0x0401 is written. -/
namespace Go.Proofs.YtnhhhjnhmbhdgaaGreatDoor
open Go.RowKit
set_option linter.unusedVariables false
set_option linter.unusedSimpArgs false
attribute [local go_sem] setCell_drewN alloc_drewN

set_option maxRecDepth 100000 in
set_option maxHeartbeats 1600000 in
theorem CoMarshal_ok (B b most : Nat) (bs : List UInt8) (c : Cod) (w : World) (hsort : SortsTo 212 .u32 99 most) (hmost : c.secs.length ≤ most) (h : BufAt w B b bs) (hB : B ≤ w.heap.size) (hC : CodAt w c) (hcode : c.code < 18446744073709551616)
    (hab : c.cb < B) (hmk : c.mb < B) (hgd : ∀ s ∈ c.secs, s.gd < B) (hw : ∀ s ∈ c.secs, s.width < 4294967296) (hlen : c.secs.length ≤ 1000000) (hlim : bs.length + 12 + (secsBytes (sortedSecs c.secs)).length ≤ 1099511627776) :
    Calls Tryz.prog 186 #[.pointer (some ⟨c.cb, 0, none⟩), .iface 197 (.pointer (some ⟨b, 0, none⟩))] w fun e w' =>
      e = .returned (.tuple #[.int .u64 ((12 + (secsBytes (sortedSecs c.secs)).length : Nat) : Int), .nilIface]) ∧ BufAt w' B b (bs ++ codBytes (c.code, sortedSecs c.secs)) ∧ WrK B b w w' := by
  have hBb : B ≤ b := h.1
  have cc := hC.code
  have hW := zzWrite64_ok B b bs c.code hcode w h hB (by omega)
  go_enter Tryz.func186, Tryz.ntmps186
  go_wp2_with fail
  refine hW.mono ?_
  clear hW
  rintro e w1 ⟨rfl, hb1, hK1⟩
  have hM1 : MwAt w1 ⟨c.cb, 0, none⟩ c.mb c.secs := hK1.mw hC.mw hab hmk hgd
  have hM := MwMarshal_ok B b c.mb most (bs ++ Lib.leBytes 8 c.code) ⟨c.cb, 0, none⟩ c.secs w1 hsort hmost hb1 (by have := hK1.bel.size; omega) hM1 hab hmk hgd hw hlen (by rw [List.length_append, le8_len]; omega)
  clear hM1 hC h cc
  go_wp2_with fail
  refine hM.mono ?_
  clear hM
  rintro e w2 ⟨rfl, hb2, hK2⟩
  generalize hS : (secsBytes (sortedSecs c.secs)).length = sl at *
  have hs2 : IntKind.u64.wrap (8 + ((4 + sl : Nat) : Int)) = ((12 + sl : Nat) : Int) := by rw [IntKind.wrap_u64]; omega
  go_wp2_with fail
  go_ret2
  exact ⟨tuple2 (int_eq (by rw [hS]; show (8 : Int) + (4 + (sl : Int)) = ((12 + sl : Nat) : Int); omega)), by rw [codBytes, ← List.append_assoc]; exact hb2, hK1.trans hK2⟩

theorem infoC64 : (Tryz.prog.info? 23).map (fun i => (i.zero, i.size, i.bytes)) = some (some (.int .u64 0), 1, 8) := by kernel_rfl
theorem make64 (n : Nat) (hn : n ≤ 1000000) (W : World) : (Instr.makeSlice 29 (.int .i64 0) (.int .i64 (n : Int))).run Tryz.prog W = .ok (.slice (some ⟨W.heap.size, 0, none⟩) 0 n) (W.alloc (.cells (Array.replicate n (Value.int .u64 0)) 23)) := by
  obtain ⟨i0, hi, hz0, hz1, hz2⟩ := info_parts infoC64
  have h := run_make (P := Tryz.prog) W 29 23 i0 (.int .u64 0) Tryz.underlying29 hi hz0 .i64 .i64 0 (n : Int) (by omega) (by omega) (by rw [hz2]; omega) (by omega)
  rw [hz1] at h
  simp only [Int.toNat_natCast, Nat.mul_one, Int.toNat_zero] at h
  rw [h, show (Value.int .u64 0).cells = #[Value.int .u64 0] from rfl, madeCells_one, List.toArray_replicate]

set_option maxRecDepth 100000 in
set_option maxHeartbeats 3200000 in
theorem MhCodes_ok (most : Nat) (a : Addr) (mk : Nat) (cs : List Cod) (w : World) (hsort : SortsTo 196 .u64 23 most) (hmost : cs.length ≤ most) (hM : MhAt w a mk cs) (hlen : cs.length ≤ 1000000) :
    Calls Tryz.prog 185 #[.pointer (some a)] w fun e w' => ∃ g cap tail, e = .returned (.slice (some ⟨g, 0, none⟩) cs.length cap) ∧
      w'.heap[g]? = some (.cells ((sortN (cs.map Cod.code)).map (numV .u64) ++ tail).toArray 23 (0, 0)) ∧ w.heap.size ≤ g ∧ Below w.heap.size w w' := by
  obtain ⟨i0, hi, hz0, hz1, hz2⟩ := info_parts infoC64
  have ca := hM.cell
  have hln := hM.map.len (P := Tryz.prog) Tryz.underlying164 3
  rw [List.length_map] at hln
  have hmk1 := make64 cs.length hlen
  have hal := World.block_lt_of_cell? w _ ca
  have hmkl := hM.map.lt
  have hown0 : (w.alloc (.cells (Array.replicate cs.length (Value.int .u64 0)) 23)).ownsRow w.heap.size 23 1 (.slice (some ⟨w.heap.size, 0, none⟩) 0 cs.length) 0 [] :=
    World.ownsRow_made w _ cs.length (Nat.le_refl _) (by unfold maxLen; omega) (by simp)
  have hIm1 : ImAt (w.alloc (.cells (Array.replicate cs.length (Value.int .u64 0)) 23)) mk .u64 (cs.map Cod.pair) := hM.map.upd (heap_alloc_old _ _ hM.map.lt)
  have hb1 : Below w.heap.size w (w.alloc (.cells (Array.replicate cs.length (Value.int .u64 0)) 23)) := below_boxed w _
  go_enter Tryz.func185, Tryz.ntmps185
  go_wp2_with (at_range; refine step_range_im rfl _ 164 rfl Tryz.underlying164 rfl hIm1 ?_; intro w2 hIt2 hb2 hs2)
  have er : (w.alloc (.cells (Array.replicate cs.length (Value.int .u64 0)) 23)).heap.size = w.heap.size + 1 := by simp
  have hown2 := own_kp hown0 (Kp.of_below (S := fun _ => False) hb2) (fun _ _ => id)
  have hB2 : Below w.heap.size w w2 := hb1.trans (hb2.mono (by omega))
  clear hb2 hown0 hIm1 hmk1 hb1
  generalize (w.alloc (.cells (Array.replicate cs.length (Value.int .u64 0)) 23)).heap.size = r at *
  have hr1 : w.heap.size < r := by omega
  have hr2 : r < w2.heap.size := by omega
  clear er hs2
  go_frame
  go_loopw [3] (fun v3 wr => ∃ (done : List (Int × Value)) (ws : List Nat), ItAt wr r mk .u64 (cs.map Cod.pair) done ∧ done.map (·.1) = ws.map (fun x : Nat => (x : Int)) ∧ wr.ownsRow w.heap.size 23 1 v3 ws.length (ws.map (numV .u64)) ∧ v3 ≠ .slice none 0 0 ∧ Below w.heap.size w wr ∧ r < wr.heap.size) (fun _ wr => cs.length - (wr.iterSeen r).size)
  case atStart => exact ⟨[], [], hIt2, rfl, hown2, by simp, hB2, hr2⟩
  case round =>
    clear hIt2 hown2 hB2
    obtain ⟨done, ws, hIt, hdw, hown, hnn, hB, hzr⟩ := hrel
    have hseen := hIt.seen
    have HSN := Lib.hid hseen; have HDW := Lib.hid hdw
    clear hseen hdw
    go_wp2_with (at_next; refine step_next_im rfl _ rfl rfl hIt (fun hperm => later ?_) (fun p w3 hpm hdl hIt3 hK3 hs3 hen => later ?_))
    · have hwp : ws.Perm (cs.map Cod.code) := by
        have h1 := hperm.map (·.1)
        rw [HDW.out, List.map_map] at h1
        have h2 : (cs.map ((fun p : Int × Value => p.1) ∘ Cod.pair)) = (cs.map Cod.code).map (fun x : Nat => (x : Int)) := by rw [List.map_map]; rfl
        rw [h2] at h1
        exact perm_map_inj (fun a b h => by have h' : (a : Int) = (b : Int) := h; omega) h1
      have hwl : ws.length = cs.length := by have := hwp.length_eq; simpa using this
      obtain ⟨g, cap, cur, rfl, hge, hgc, hgle, hgcm, hgs, htk⟩ : ∃ g cap cur, u3 = .slice (some ⟨g, 0, none⟩) ws.length cap ∧ w.heap.size ≤ g ∧ wr.heap[g]? = some (.cells cur 23 (0, 0)) ∧ ws.length ≤ cap ∧ cap ≤ maxLen ∧ cur.size = cap * 1 ∧ cur.toList.take (ws.length * 1) = ws.map (numV .u64) := by
        rcases hown.2 with ⟨h, _⟩ | h
        · exact absurd h hnn
        · exact h
      rw [Nat.mul_one] at htk
      have hcur : cur = (ws.map (numV .u64) ++ cur.toList.drop ws.length).toArray := by rw [← htk, List.take_append_drop]
      rw [hcur] at hgc
      generalize cur.toList.drop ws.length = tail at hgc
      have hS := hsort g cap ws tail wr (by omega) hgc
      have HWL := Lib.hid hwl
      clear hcur htk hgs hown hnn hwl
      refine now ?_
      go_wp2_with fail
      refine hS.mono ?_
      clear hS
      rintro e w5 ⟨rfl, hg5, hK5⟩
      have hsw : sortN ws = sortN (cs.map Cod.code) := sortN_perm hwp
      rw [hsw] at hg5
      have hB5 : Below w.heap.size w w5 := hK5.to_below hB (fun i e => by omega)
      clear hsw hwp hperm hgc hK5 hB
      go_wp2_with fail
      go_ret
      exact ⟨g, cap, tail, by rw [HWL.out]; rfl, hg5, hge, hB5⟩
    · obtain ⟨c, hcm, rfl⟩ := List.mem_map.1 hpm
      have hrit : ∃ o, wr.heap[r]? = some o ∧ ∀ c t fz, o ≠ .cells c t fz := by
        obtain ⟨es, clock, since, seen, c0, g1, g2, g3⟩ := hIt
        exact ⟨_, g2, fun c t fz e => by cases e⟩
      have hor : u3.ownBlock ≠ some r := by
        intro e
        obtain ⟨_, cur, hc⟩ := own_cells hown e
        obtain ⟨o, ho, hno⟩ := hrit
        rw [ho] at hc; cases hc; exact hno _ _ _ rfl
      have hom : u3.ownBlock ≠ some mk := by
        intro e
        obtain ⟨hle, cur, hc⟩ := own_cells hown e
        omega
      have hown3 := own_kp hown hK3 (fun g e h => by subst h; exact hor e)
      have hwl : ws.length < cs.length := by
        have := congrArg List.length HDW.out
        simp only [List.length_map] at this hdl
        omega
      have hB3 : Below w.heap.size w w3 := hK3.to_below hB (fun i e => by omega)
      have hsz3 : r < w3.heap.size := by omega
      have hpr : c.pair = ((c.code : Int), .pointer (some ⟨c.cb, 0, none⟩)) := rfl
      rw [hpr] at hIt3 hen
      simp only [hpr] at *
      clear hIt hown hrit hs3 hB hpm hpr
      refine now ?_
      go_wp2_with (at_builtin; refine wpList_append_own _ rfl _ _ 29 rfl w.heap.size 23 i0 (.int .u64 0) 1 8 Tryz.underlying29 hi hz0 hz1 hz2 rfl (by decide) _ _ _ rfl (hown3.alloc _) ⟨w3.heap.size, 0, none⟩ 1 1 [.int .u64 (c.code : Int)] rfl rfl (one_cell _ _ _) (ints_oneCell .u64 [(c.code : Int)]) ?c3 ?c4 ?c5 ?_)
      case c3 => unfold maxLen; omega
      case c4 => omega
      case c5 => simp; omega
      intro v' w4 hown4 hgrow hn4
      have hobk : ∀ g, u3.ownBlock = some g → w.heap.size ≤ g := fun g e => (own_cells hown3 e).1
      have hkg := kp_grown hgrow
      have hz4 : w3.heap.size < w4.heap.size := by have := hgrow.size; simp at this; omega
      have hIt4 : ItAt w4 r mk .u64 (cs.map Cod.pair) (done ++ [((c.code : Int), .pointer (some ⟨c.cb, 0, none⟩))]) := (hIt3.kp (kp_alloc w3 _) id id).kp hkg (fun e => hom e.symm) (fun e => hor e.symm)
      have hB4 : Below w.heap.size w w4 := hkg.to_below (below_box hB3 _) (fun i e => hobk i e.symm)
      have hd4 : (done ++ [((c.code : Int), Value.pointer (some ⟨c.cb, 0, none⟩))]).map (·.1) = (ws ++ [c.code]).map (fun x : Nat => (x : Int)) := by rw [List.map_append, List.map_append, HDW.out]; rfl
      have ho4 : w4.ownsRow w.heap.size 23 1 v' (ws ++ [c.code]).length ((ws ++ [c.code]).map (numV .u64)) := by
        rw [List.length_append, List.map_append]; exact hown4
      have hm4 : cs.length - (w4.iterSeen r).size < cs.length - (wr.iterSeen r).size := by
        simp only [List.length_map] at hdl
        rw [hIt4.seen, HSN.out]; simp only [List.length_append, List.length_cons, List.length_nil]; omega
      have HM4 := Lib.hid hm4; have HD4 := Lib.hid hd4
      clear hobk hkg hgrow hIt3 hown3 hown4 hd4 hm4 hen
      go_wp2_with fail
      go_roundw
      case rel => exact ⟨_, _, hIt4, HD4.out, ho4, by simpa using hn4, hB4, by omega⟩
      case measure => exact HM4.out
end Go.Proofs.YtnhhhjnhmbhdgaaGreatDoor

/- index.New and ReadFrom at 0x0401. -/
namespace Go.Proofs.YtnhhhjnhmbhdgaaGreatDoor
open Go.RowKit
set_option linter.unusedVariables false
set_option linter.unusedSimpArgs false
attribute [local go_sem] setCell_drewN alloc_drewN

theorem method_UnmarshalC (v : Value) (w : World) : (method 454 mhT v "Unmarshal").run Tryz.prog w = .ok (177, v) w := by kernel_rfl
theorem uv1025 : Lib.uvarint 1025 = [129, 8] := by rw [Lib.uvarint_big (by omega), Lib.uvarint_small (by omega)]; rfl

set_option maxRecDepth 100000 in
theorem newMh_ok (w : World) : Calls Tryz.prog 66 #[] w fun e w' => ∃ a mb, e = .returned (.pointer (some ⟨a, 0, none⟩)) ∧ MhAt w' ⟨a, 0, none⟩ mb [] ∧ w.heap.size ≤ a ∧ w.heap.size ≤ mb ∧ a ≠ mb ∧ Below w.heap.size w w' := by
  have hmm := @run_makeMap Tryz.prog
  go_enter Tryz.func66, Tryz.ntmps66
  go_wp2_with fail
  go_ret
  refine ⟨_, w.heap.size, rfl, ⟨?_, ?_, by simp⟩, ?_, Nat.le_refl _, ?_, by (repeat (first | (with_reducible exact Below.refl _ _) | (with_reducible exact below_boxed _ _) | (with_reducible refine below_box ?_ _) | (with_reducible refine below_drew1 ?_) | (with_reducible refine below_drewn ?_ _) | (with_reducible refine below_bytes ?_ _ _) | (with_reducible refine below_next ?_ (by assumption)) | (with_reducible refine below_set ?_ (by first | (simp; done) | (simp; omega) | omega) _)))⟩
  · simp [go_sem]
  · exact (ImAt.made w .u64).upd (heap_alloc_old _ _ (by simp))
  · simp
  · simp

set_option maxRecDepth 100000 in
theorem New_mh (w : World) : Calls Tryz.prog 31 #[.int .u64 1025] w fun e w' => ∃ a mb, e = .returned (.tuple #[.iface mhT (.pointer (some ⟨a, 0, none⟩)), .nilIface]) ∧ MhAt w' ⟨a, 0, none⟩ mb [] ∧ w.heap.size ≤ a ∧ w.heap.size ≤ mb ∧ a ≠ mb ∧ Below w.heap.size w w' := by
  go_enter Tryz.func31, Tryz.ntmps31
  go_wp2_with fail
  refine (newMh_ok _).mono ?_
  rintro e w1 ⟨a, mb, rfl, hM, ha, hb, hne, hB⟩
  go_wp2_with fail
  go_ret2
  exact ⟨a, mb, rfl, hM, ha, hb, hne, hB⟩

set_option maxRecDepth 100000 in
set_option maxHeartbeats 1600000 in
theorem ReadFrom_mh (b : Nat) (A : Option Addr) (cap : Nat) (bs : List UInt8) (ss : List (Nat × List (Nat × List UInt8))) (rest : List UInt8)
    (hw : ∀ p ∈ ss, p.1 < 18446744073709551616 ∧ (∀ s ∈ p.2, 8 ≤ s.1 ∧ s.1 ≤ 33554432) ∧ (p.2.map (·.1)).Nodup) (hnd : (ss.map (·.1)).Nodup) (w : World) (hsm : bs.length ≤ 16777216) (h : RdAt w b A cap bs 0)
    (hbs : bs = Lib.uvarint 1025 ++ (mhBytes ss ++ rest)) (hA : ∀ g' o, A = some ⟨g', o, none⟩ → g' < w.heap.size) :
    Calls Tryz.prog 15 #[.iface 47 (.pointer (some ⟨b, 0, none⟩))] w fun e w' => ∃ a mb cs, e = .returned (.tuple #[.iface mhT (.pointer (some ⟨a, 0, none⟩)), .nilIface]) ∧ RdAt w' b A cap bs (2 + (mhBytes ss).length) ∧
      cs.map Cod.two = ss ∧ MhAt w' ⟨a, 0, none⟩ mb cs ∧ (∀ c ∈ cs, c.Above w.heap.size) ∧ w.heap.size ≤ a ∧ w.heap.size ≤ mb ∧ Kp (fun i => i = b) w w' := by
  have hme := method_UnmarshalC
  have hbl := h.blt
  have hRC := ReadCodec_ok b A cap bs 0 1025 (by omega) (mhBytes ss ++ rest) w h (by rw [List.drop_zero]; exact hbs)
  rw [uv1025] at hRC
  have hd2 : bs.drop 2 = mhBytes ss ++ rest := by rw [hbs, uv1025]; rfl
  have HD := Lib.hid hd2
  clear hbs hd2 h
  go_enter Tryz.func15, Tryz.ntmps15
  go_wp2_with fail
  refine hRC.mono ?_
  clear hRC
  rintro e w1 ⟨rfl, hR1, hK1⟩
  have hz1 := hK1.size
  go_wp2_with fail
  refine (New_mh _).mono ?_
  rintro e w2 ⟨a, mb, rfl, hM2, ha, hm, hne, hb2⟩
  have hz2 := hb2.size
  have hR2 : RdAt w2 b A cap bs 2 := hR1.keep (S := fun _ => False) (Kp.of_below hb2) id (fun _ _ _ => id)
  have hU := MhUnmarshal_ok b A cap bs 2 ⟨a, 0, none⟩ mb ss rest hw hnd w2 hsm hR2 HD.out hM2 (by show a ≠ b; omega) (by omega) hne (fun g' o e => by have := hA g' o e; refine ⟨by omega, ?_, by omega⟩; show g' ≠ a; omega)
  clear hR1 hM2 hR2 hw hnd
  go_wp2_with fail
  refine hU.mono ?_
  clear hU
  rintro e w3 ⟨rfl, hR3, ⟨cs, hs, hM3, hg⟩, hK3⟩
  go_wp2_with fail
  go_ret2
  refine ⟨a, mb, cs, rfl, hR3, hs, hM3, fun c hc => ?_, by omega, by omega, ?_⟩
  · have h := hg c hc
    exact ⟨by have := h.1; omega, by have := h.2.1; omega, fun s hs => by have := h.2.2 s hs; omega⟩
  · exact (hK1.trans (S' := fun _ => False) (Kp.of_below hb2) (fun _ h => h.elim)).trans hK3 (fun i h => h.elim .inl (fun e => .inr (by omega)))
end Go.Proofs.YtnhhhjnhmbhdgaaGreatDoor

/- The index 0x0401 is asked. -/
namespace Go.Proofs.YtnhhhjnhmbhdgaaGreatDoor
open Go.RowKit
set_option linter.unusedVariables false
set_option linter.unusedSimpArgs false
attribute [local go_sem] setCell_drewN alloc_drewN

theorem find_cod {cs : List Cod} {k : Int} : ilook (cs.map Cod.pair) k = (cs.find? (fun c => decide ((c.code : Int) = k))).map (fun c => .pointer (some ⟨c.cb, 0, none⟩)) := by
  induction cs with
  | nil => rfl
  | cons s l ih =>
    by_cases h : (s.code : Int) = k
    · simp [ilook, Cod.pair, h]
    · have := ih
      simp only [ilook] at this ⊢
      rw [List.map_cons, List.find?_cons, List.find?_cons]
      simp only [Cod.pair, h, decide_false]
      exact this
theorem coZero (W : World) : (zeroValue 254).run Tryz.prog W = .ok (.pointer none) W := by kernel_rfl

set_option maxRecDepth 100000 in
set_option maxHeartbeats 1600000 in
theorem MhGet_some (a : Addr) (mb d : Nat) (cs : List Cod) (c : Cod) (w : World) (hM : MhAt w a mb cs) (code : Nat) (hf : cs.find? (fun x => decide ((x.code : Int) = (code : Int))) = some c) (hd : w.cell? ⟨d, 0, none⟩ = some (.int .u64 (code : Int))) :
    Calls Tryz.prog 179 #[.pointer (some a), .pointer (some ⟨d, 0, none⟩)] w fun e w' => e = .returned (.tuple #[.pointer (some ⟨c.cb, 0, none⟩), .nilIface]) ∧ Below w.heap.size w w' := by
  have ca := hM.cell
  have hl := (hM.map.upd (w' := w.drew) rfl).look (P := Tryz.prog) Tryz.underlying164 Tryz.underlying23 (k := (code : Int)) (v := .pointer (some ⟨c.cb, 0, none⟩)) (by rw [find_cod, hf]; rfl) true
  simp only [if_true] at hl
  have HF := Lib.hid hf
  clear hM hf
  go_enter Tryz.func179, Tryz.ntmps179
  go_wp2_with fail
  go_region
  go_wp2_with fail
  go_ret2
  exact ⟨rfl, by (repeat (first | (with_reducible exact Below.refl _ _) | (with_reducible exact below_boxed _ _) | (with_reducible refine below_box ?_ _) | (with_reducible refine below_drew1 ?_) | (with_reducible refine below_drewn ?_ _) | (with_reducible refine below_bytes ?_ _ _) | (with_reducible refine below_next ?_ (by assumption)) | (with_reducible refine below_set ?_ (by first | (simp; done) | (simp; omega) | omega) _)))⟩

set_option maxRecDepth 100000 in
set_option maxHeartbeats 1600000 in
theorem MhGet_none (a : Addr) (mb d : Nat) (cs : List Cod) (ty : TypeId) (ev : Value) (w : World) (hM : MhAt w a mb cs) (code : Nat) (hf : cs.find? (fun x => decide ((x.code : Int) = (code : Int))) = none) (hd : w.cell? ⟨d, 0, none⟩ = some (.int .u64 (code : Int)))
    (he : w.cell? ⟨0, 0, none⟩ = some (.iface ty ev)) :
    Calls Tryz.prog 179 #[.pointer (some a), .pointer (some ⟨d, 0, none⟩)] w fun e w' => e = .returned (.tuple #[.pointer none, .iface ty ev]) ∧ Below w.heap.size w w' := by
  have ca := hM.cell
  have hl := (hM.map.upd (w' := w.drew) rfl).look_no (P := Tryz.prog) Tryz.underlying164 Tryz.underlying23 (k := (code : Int)) (by rw [find_cod, hf]; rfl) true _ coZero
  simp only [if_true] at hl
  have HF := Lib.hid hf
  clear hM hf
  go_enter Tryz.func179, Tryz.ntmps179
  go_wp2_with fail
  go_region
  go_wp2_with fail
  go_region
  go_wp2_with fail
  go_ret2
  exact ⟨rfl, by (repeat (first | (with_reducible exact Below.refl _ _) | (with_reducible exact below_boxed _ _) | (with_reducible refine below_box ?_ _) | (with_reducible refine below_drew1 ?_) | (with_reducible refine below_drewn ?_ _) | (with_reducible refine below_bytes ?_ _ _) | (with_reducible refine below_next ?_ (by assumption)) | (with_reducible refine below_set ?_ (by first | (simp; done) | (simp; omega) | omega) _)))⟩

/-- The offsets that an index 0x0401 tells for a hash function and a digest. -/
def TellsC (cs : List (Nat × List (Nat × List UInt8))) (code : Nat) (d : List UInt8) (M : List Nat) : Prop :=
  (∀ x ∈ cs, x.1 ≠ code) ∧ M = [] ∨ ∃ x ∈ cs, x.1 = code ∧ Tells x.2 d M

set_option maxRecDepth 100000 in
set_option maxHeartbeats 3200000 in
theorem MhGetAll_ok (a : Addr) (mk ob mb most : Nat) (cs : List Cod) (c : CidOf) (hc : c.Ok) (ty : TypeId) (ev : Value) (w : World) (hM : MhAt w a mk cs) (hW : ∀ x ∈ cs, Whole x.secs) (hO : OutAt w ob mb most []) (hm : 1 ≤ most)
    (hne : ∀ x ∈ cs, ∀ s ∈ x.secs, s.gd ≠ ob) (hg5 : 0 < ob) (he : w.cell? ⟨0, 0, none⟩ = some (.iface ty ev)) :
    Calls Tryz.prog 174 #[.pointer (some a), .agg #[.string c.str], .func (.func 88) #[] #[.pointer (some ⟨ob, 0, none⟩), .pointer (some ⟨mb, 0, none⟩)]] w fun e w' =>
      ∃ M, GotAll (.iface ty ev) M e ∧ TellsC (cs.map Cod.two) c.code c.dig M ∧ OutAt w' ob mb most (M.take most) ∧ Told ob w w' := by
  have hobl : ob < w.heap.size := by obtain ⟨⟨v, h, _⟩, _⟩ := hO; exact (Array.getElem?_eq_some_iff.1 h).1
  have hdl := hc.dig
  have hal := World.block_lt_of_cell? w _ hM.cell
  go_enter Tryz.func174, Tryz.ntmps174
  go_wp2_with fail
  refine (Hash_ok c hc _).mono ?_
  rintro e w1 ⟨A1, c1, rfl, hc1, hA1, hB1, hF1, hb1⟩
  obtain ⟨hcc, hff⟩ := bcell hb1
  have hz : w.heap.size < w1.heap.size := by have := hb1.size; simp at this; omega
  go_wp2_with fail
  refine (Decode_ok c.code hc.code c.dig (by omega) A1 _ c1 _ hA1 rfl hc1).mono ?_
  rintro e w2 ⟨g, A2, c2, rfl, hc2, hS2, hb2, hg2, hblk⟩
  have hcc1 : w1.cell? ⟨w.heap.size, 0, none⟩ = some (.string c.str) := (hcc _ 0 (by simp)).trans (blk_cell' (heap_alloc_new w _) 0)
  have hcc2 := (hb2.cell (p := ⟨w.heap.size, 0, none⟩) hz).trans hcc1
  clear hff hcc
  have hbw : Below w.heap.size w w2 := by (repeat (first | (with_reducible exact Below.refl _ _) | (with_reducible exact below_boxed _ _) | (with_reducible refine below_box ?_ _) | (with_reducible refine below_drew1 ?_) | (with_reducible refine below_drewn ?_ _) | (with_reducible refine below_bytes ?_ _ _) | (with_reducible refine below_next ?_ (by assumption)) | (with_reducible refine below_set ?_ (by first | (simp; done) | (simp; omega) | omega) _)))
  have k0 : w2.cell? ⟨g, 0, none⟩ = some (.int .u64 (c.code : Int)) := by simp [World.cell?, hblk]
  have hM2 : MhAt w2 a mk cs := hM.kp (S := fun _ => False) (Kp.of_below hbw) id id (fun _ _ => ⟨id, id, fun _ _ => id⟩)
  have hO2 : OutAt w2 ob mb most [] := hO.below hbw
  have hz2 : w1.heap.size ≤ w2.heap.size := hb2.size
  have he2 : w2.cell? ⟨0, 0, none⟩ = some (.iface ty ev) := (hbw.cell (p := ⟨0, 0, none⟩) (by show 0 < _; omega)).trans he
  clear hb1 hb2 hblk hA1 hB1 hF1 hM hO hS2
  cases hf : cs.find? (fun x => decide ((x.code : Int) = (c.code : Int))) with
  | none =>
    have hG := MhGet_none a mk g cs ty ev w2 hM2 c.code hf k0 he2
    have HF := Lib.hid hf
    clear hf
    go_wp2_with fail
    refine hG.mono ?_
    clear hG
    rintro e w3 ⟨rfl, hb3⟩
    go_wp2_with fail
    go_ret
    refine ⟨[], rfl, .inl ⟨?_, rfl⟩, by rw [List.take_nil]; exact hO2.below hb3, (Told.of_below hbw (Nat.le_of_lt hobl)).trans (Told.of_below hb3 (by omega))⟩
    intro x hx
    obtain ⟨y, hy, rfl⟩ := List.mem_map.1 hx
    have := List.find?_eq_none.1 HF.out y hy
    simp only [decide_eq_true_eq] at this
    show y.code ≠ _
    omega
  | some x =>
    have hxm : x ∈ cs := List.mem_of_find?_eq_some hf
    have hxw : (x.code : Int) = (c.code : Int) := by have := List.find?_some hf; simpa using this
    have hG := MhGet_some a mk g cs x w2 hM2 c.code hf k0
    have HX := Lib.hid hxw
    clear hf hxw
    go_wp2_with fail
    refine hG.mono ?_
    clear hG
    rintro e w3 ⟨rfl, hb3⟩
    have hz3 := hb3.size
    have hcc3 := (hb3.cell (p := ⟨w.heap.size, 0, none⟩) (by show w.heap.size < _; omega)).trans hcc2
    have hb3d : Below w2.heap.size w2 w3.drew := below_drew1 hb3
    have hMx : MwAt w3.drew ⟨x.cb, 0, none⟩ x.mb x.secs := ((hM2.row x hxm).kp (S := fun _ => False) (Kp.of_below hb3d) id id (fun _ _ => id)).mw
    have hGA := MwGetAll_ok ⟨x.cb, 0, none⟩ x.mb ob mb most x.secs c hc ty ev w3.drew hMx (hW x hxm) (hO2.below hb3d) hm (hne x hxm) hg5 ((hb3d.cell (p := ⟨0, 0, none⟩) (by show 0 < _; omega)).trans he2)
    have hT3 : Told ob w w3.drew := (Told.of_below hbw (Nat.le_of_lt hobl)).trans (Told.of_below hb3d (by omega))
    clear hMx hb3d
    go_wp2_with fail
    go_region_with (go_at_call 180; (refine hGA.mono ?_; clear hGA; rintro e w4 ⟨M, hGM, hO4, hT4⟩; obtain ⟨hGot, hTe⟩ : GotAll _ M e ∧ Tells (x.secs.map Sec.two) c.dig M := hGM; have he4 : ∃ v, e = .returned v := (by unfold GotAll at hGot; exact ⟨_, hGot⟩); obtain ⟨v, rfl⟩ := he4))
    all_goals
      go_wp2_with fail
      go_ret
      refine ⟨M, hGot, .inr ⟨x.two, List.mem_map.2 ⟨x, hxm, rfl⟩, ?_, hTe⟩, hO4, hT3.trans hT4⟩
      have := HX.out
      show x.code = _
      omega
end Go.Proofs.YtnhhhjnhmbhdgaaGreatDoor
