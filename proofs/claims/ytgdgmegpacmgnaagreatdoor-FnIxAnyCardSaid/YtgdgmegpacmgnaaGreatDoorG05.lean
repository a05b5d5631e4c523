import Derived.Test.YtgdgmegpacmgnaaGreatDoorG04
import Derived.Test.YtgdgmegpacmgnaaGreatDoorG01
import Derived.Lib.Bytealg
import Derived.Laws.Externs
import Derived.Deep.QuietTactic
import Derived.BigQuiet
import Derived.Test.YtgdgmegpacmgnaaGreatDoorG03
import Derived.Lib.OthersKept
import Derived.Lib.Buffer
/- The index 0x0401 is read. -/
namespace Go.Proofs.YtgdgmegpacmgnaaGreatDoor
open Go.RowKit
set_option linter.unusedVariables false
set_option linter.unusedSimpArgs false
attribute [local go_sem] setCell_drewN alloc_drewN

/-- An index of one hash function: its code, its block, its map's block, its sections. -/
structure Cod where
  code : Nat
  cb : Nat
  mb : Nat
  secs : List Sec
def Cod.pair (c : Cod) : Int × Value := ((c.code : Int), .pointer (some ⟨c.cb, 0, none⟩))
def Cod.two (c : Cod) : Nat × List (Nat × List UInt8) := (c.code, c.secs.map Sec.two)
def codBytes (p : Nat × List (Nat × List UInt8)) : List UInt8 := Lib.leBytes 8 p.1 ++ mwBytes p.2
def codsBytes (l : List (Nat × List (Nat × List UInt8))) : List UInt8 := (l.map codBytes).flatten
def mhBytes (l : List (Nat × List (Nat × List UInt8))) : List UInt8 := Lib.leBytes 4 l.length ++ codsBytes l
def mhT : TypeId := 98
structure CodAt (w : World) (c : Cod) : Prop where
  mw : MwAt w ⟨c.cb, 0, none⟩ c.mb c.secs
  code : w.cell? ⟨c.cb, 1, none⟩ = some (.int .u64 (c.code : Int))
structure MhAt (w : World) (a : Addr) (mb : Nat) (cs : List Cod) : Prop where
  cell : w.cell? a = some (.map (some mb))
  map : ImAt w mb .u64 (cs.map Cod.pair)
  row : ∀ c ∈ cs, CodAt w c
theorem CodAt.kp {S : Nat → Prop} {w w' : World} {c : Cod} (h : CodAt w c) (k : Kp S w w') (h1 : ¬ S c.cb) (h2 : ¬ S c.mb) (h3 : ∀ s ∈ c.secs, ¬ S s.gd) : CodAt w' c :=
  ⟨h.mw.kp k h1 h2 h3, (k.cell (World.block_lt_of_cell? w _ h.code) h1).trans h.code⟩
theorem MhAt.kp {S : Nat → Prop} {w w' : World} {a : Addr} {mb : Nat} {cs : List Cod} (h : MhAt w a mb cs) (k : Kp S w w') (h1 : ¬ S a.block) (h2 : ¬ S mb) (h3 : ∀ c ∈ cs, ¬ S c.cb ∧ ¬ S c.mb ∧ ∀ s ∈ c.secs, ¬ S s.gd) : MhAt w' a mb cs :=
  ⟨(k.cell (World.block_lt_of_cell? w _ h.cell) h1).trans h.cell, h.map.kp k h2, fun c hc => (h.row c hc).kp k (h3 c hc).1 (h3 c hc).2.1 (h3 c hc).2.2⟩

set_option maxRecDepth 100000 in
theorem newMwci_ok (w : World) : Calls Tryz.prog 183 #[] w fun e w' => e = .returned (.pointer (some ⟨w.heap.size + 1, 0, none⟩)) ∧ CodAt w' ⟨0, w.heap.size + 1, w.heap.size, []⟩ ∧
    w'.frozen? ⟨w.heap.size + 1, 1, none⟩ = false ∧ w'.heap.size = w.heap.size + 2 ∧ Below w.heap.size w w' := by
  have hmm := @run_makeMap Tryz.prog
  go_enter Tryz.func183, Tryz.ntmps183
  go_wp2_with fail
  go_ret
  refine ⟨rfl, ⟨⟨?_, ?_, by simp⟩, ?_⟩, ?_, by simp, by (repeat (first | (with_reducible exact Below.refl _ _) | (with_reducible exact below_boxed _ _) | (with_reducible refine below_box ?_ _) | (with_reducible refine below_drew1 ?_) | (with_reducible refine below_drewn ?_ _) | (with_reducible refine below_bytes ?_ _ _) | (with_reducible refine below_next ?_ (by assumption)) | (with_reducible refine below_set ?_ (by first | (simp; done) | (simp; omega) | omega) _)))⟩
  · simp [go_sem]
  · exact (ImAt.made w .u32).upd (heap_alloc_old _ _ (by simp))
  · simp [go_sem]
  · simp [go_sem]

set_option maxRecDepth 100000 in
set_option maxHeartbeats 1600000 in
theorem CoUnmarshal_ok (b : Nat) (A : Option Addr) (cap : Nat) (bs : List UInt8) (pos : Nat) (cb mb code : Nat) (hcode : code < 18446744073709551616) (ss : List (Nat × List UInt8)) (rest : List UInt8) (hw : ∀ s ∈ ss, 8 ≤ s.1 ∧ s.1 ≤ 33554432) (hnd : (ss.map (·.1)).Nodup) (w : World)
    (hsm : bs.length ≤ 16777216) (h : RdAt w b A cap bs pos) (hbs : bs.drop pos = codBytes (code, ss) ++ rest) (hM : CodAt w ⟨0, cb, mb, []⟩) (hf : w.frozen? ⟨cb, 1, none⟩ = false) (hab : cb ≠ b) (hmb : mb ≠ b) (ham : cb ≠ mb)
    (hA : ∀ g' o, A = some ⟨g', o, none⟩ → g' < w.heap.size ∧ g' ≠ cb ∧ g' ≠ mb) :
    Calls Tryz.prog 191 #[.pointer (some ⟨cb, 0, none⟩), .iface 40 (.pointer (some ⟨b, 0, none⟩))] w fun e w' => e = .returned .nilIface ∧ RdAt w' b A cap bs (pos + (codBytes (code, ss)).length) ∧
      (∃ secs, secs.map Sec.two = ss ∧ CodAt w' ⟨code, cb, mb, secs⟩ ∧ ∀ s ∈ secs, w.heap.size ≤ s.gd) ∧ Kp (fun i => i = b ∨ i = mb ∨ i = cb) w w' := by
  have hbs1 : bs.drop pos = Lib.leBytes 8 code ++ (mwBytes ss ++ rest) := by rw [hbs, codBytes, List.append_assoc]
  have hbs2 : bs.drop (pos + 8) = mwBytes ss ++ rest := by rw [← List.drop_drop, hbs1]; rfl
  have hlen : (codBytes (code, ss)).length = 8 + (mwBytes ss).length := by rw [codBytes, List.length_append, le8_len]
  have hR := zzRead64_more b A cap bs pos code hcode _ ⟨cb, 1, none⟩ _ w h hbs1 hM.code hf hab (fun g o e => ⟨(hA g o e).1, (hA g o e).2.1⟩)
  have hmbl := hM.mw.map.lt
  clear hbs hbs1 h
  go_enter Tryz.func191, Tryz.ntmps191
  go_wp2_with fail
  refine hR.mono ?_
  rintro e w1 ⟨rfl, hR1, ⟨hc1, ho1⟩, hK1⟩
  have hz1 := hK1.size
  have hM1 : MwAt w1 ⟨cb, 0, none⟩ mb [] := ⟨((ho1 ⟨cb, 0, none⟩ rfl (by simp)).1).trans hM.mw.cell, hM.mw.map.kp hK1 (fun h => h.elim hmb (fun e => ham e.symm)), by simp⟩
  have hU := MwUnmarshal_ok b A cap bs (pos + 8) ⟨cb, 0, none⟩ mb ss rest hw hnd w1 hsm hR1 hbs2 hM1 hab hmb ham (fun g o e => ⟨Nat.lt_of_lt_of_le (hA g o e).1 hz1, (hA g o e).2.1, (hA g o e).2.2⟩)
  have hcbl := World.block_lt_of_cell? w1 _ hc1
  clear hR hw hnd hR1 hbs2 hM1
  go_wp2_with fail
  refine hU.mono ?_
  rintro e w2 ⟨rfl, hR2, ⟨secs, hs, hM2, hgd⟩, hK2⟩
  go_wp2_with fail
  go_ret
  refine ⟨rfl, by rw [hlen, ← Nat.add_assoc]; exact hR2, ⟨secs, hs, ⟨hM2, (hK2.cell (p := ⟨cb, 1, none⟩) hcbl (fun h => h.elim hab ham)).trans hc1⟩, fun s h => Nat.le_trans hz1 (hgd s h)⟩, ?_⟩
  exact (hK1.mono (S' := fun i => i = b ∨ i = mb ∨ i = cb) (fun i h => .inl (h.elim .inl (fun e => .inr (.inr e))))).trans hK2 (fun i h => .inl (h.elim .inl (fun e => .inr (.inl e))))

set_option maxRecDepth 100000 in
set_option maxHeartbeats 1600000 in
theorem MhPut_ok (a : Addr) (mb : Nat) (cs : List Cod) (c : Cod) (w : World) (hM : MhAt w a mb cs) (hc : CodAt w c) (hnew : ∀ x ∈ cs, x.code ≠ c.code) (ham : a.block ≠ mb) (hmc : mb ≠ c.cb ∧ mb ≠ c.mb ∧ ∀ s ∈ c.secs, mb ≠ s.gd) (hmx : ∀ x ∈ cs, mb ≠ x.cb ∧ mb ≠ x.mb ∧ ∀ s ∈ x.secs, mb ≠ s.gd) :
    Calls Tryz.prog 185 #[.pointer (some a), .pointer (some ⟨c.cb, 0, none⟩)] w fun e w' => e = .returned (.tuple #[]) ∧ MhAt w' a mb (cs ++ [c]) ∧ Kp (fun i => i = mb) w w' := by
  obtain ⟨om, hmu, him⟩ := hM.map.put (P := Tryz.prog) Tryz.underlying136 Tryz.underlying22 (c.code : Int) (.pointer (some ⟨c.cb, 0, none⟩))
  have hmu1 := hmu w.drew rfl
  have him1 := him w.drew rfl
  have hml := hM.map.lt
  have ca := hM.cell
  have cc := hc.code
  have hput : iput (cs.map Cod.pair) (c.code : Int) (.pointer (some ⟨c.cb, 0, none⟩)) = (cs ++ [c]).map Cod.pair := by
    rw [iput_new, List.map_append, List.map_cons, List.map_nil]; rfl
    intro q hq e
    obtain ⟨s, hs, rfl⟩ := List.mem_map.1 hq
    simp only [Cod.pair] at e
    exact hnew s hs (by omega)
  rw [hput] at him1
  have HIM := Lib.hid him1; have HMM := Lib.hid hM; have HC := Lib.hid hc
  clear hmu him him1 hM hc hput hnew
  go_enter Tryz.func185, Tryz.ntmps185
  go_wp2_with fail
  go_region
  have hkk : Kp (fun i => i = mb) w (ChangeMaps.setBlock w.drew mb om) := (Kp.refl _ w).drew.trans (kp_setBlk (w := w.drew) om) (fun i hi => .inl hi)
  go_end0
  refine ⟨rfl, ⟨(hkk.cell (World.block_lt_of_cell? w _ ca) ham).trans ca, HIM.out, fun x hx => ?_⟩, hkk⟩
  rcases List.mem_append.1 hx with hx | hx
  · exact (HMM.out.row x hx).kp hkk (fun e => (hmx x hx).1 e.symm) (fun e => (hmx x hx).2.1 e.symm) (fun s hs e => (hmx x hx).2.2 s hs e.symm)
  · obtain rfl : x = c := by simpa using hx
    exact HC.out.kp hkk (fun e => hmc.1 e.symm) (fun e => hmc.2.1 e.symm) (fun s hs e => hmc.2.2 s hs e.symm)

theorem codBytes_len (p : Nat × List (Nat × List UInt8)) : 12 ≤ (codBytes p).length := by simp only [codBytes, mwBytes, List.length_append, le4_len, le8_len]; omega
theorem codsBytes_cons (p : Nat × List (Nat × List UInt8)) (l : List (Nat × List (Nat × List UInt8))) : codsBytes (p :: l) = codBytes p ++ codsBytes l := by simp [codsBytes]
theorem codsBytes_append (k l : List (Nat × List (Nat × List UInt8))) : codsBytes (k ++ l) = codsBytes k ++ codsBytes l := by simp [codsBytes]
theorem codsBytes_len (l : List (Nat × List (Nat × List UInt8))) : 12 * l.length ≤ (codsBytes l).length := by
  induction l with
  | nil => simp [codsBytes]
  | cons p l ih => have := codBytes_len p; rw [codsBytes_cons, List.length_append, List.length_cons]; omega
theorem cods_split {ss : List (Nat × List (Nat × List UInt8))} {k : Nat} {p : Nat × List (Nat × List UInt8)} (h : ss[k]? = some p) : ss = ss.take k ++ p :: ss.drop (k + 1) := by
  have hlt := (List.getElem?_eq_some_iff.1 h).1
  have he := (List.getElem?_eq_some_iff.1 h).2
  rw [← he, List.getElem_cons_drop hlt, List.take_append_drop]
theorem cods_at {ss : List (Nat × List (Nat × List UInt8))} {k : Nat} {p : Nat × List (Nat × List UInt8)} (h : ss[k]? = some p) (bs rest : List UInt8) (q : Nat) (hbs : bs.drop q = codsBytes ss ++ rest) :
    bs.drop (q + (codsBytes (ss.take k)).length) = codBytes p ++ (codsBytes (ss.drop (k + 1)) ++ rest) := by
  rw [← List.drop_drop, hbs]
  conv => lhs; rw [cods_split h, codsBytes_append, codsBytes_cons]
  rw [← cods_split h, List.append_assoc, List.drop_left' rfl, List.append_assoc]
theorem cods_take {ss : List (Nat × List (Nat × List UInt8))} {k : Nat} {p : Nat × List (Nat × List UInt8)} (h : ss[k]? = some p) : ss.take (k + 1) = ss.take k ++ [p] := by
  have hlt := (List.getElem?_eq_some_iff.1 h).1
  have he := (List.getElem?_eq_some_iff.1 h).2
  rw [List.take_succ_eq_append_getElem hlt, he]
/-- The blocks of a coded index lie above. -/
def Cod.Above (n : Nat) (c : Cod) : Prop := n < c.cb ∧ n < c.mb ∧ ∀ s ∈ c.secs, n < s.gd
theorem Cod.Above.lt {w : World} {c : Cod} (h : CodAt w c) : c.cb < w.heap.size ∧ c.mb < w.heap.size ∧ ∀ s ∈ c.secs, s.gd < w.heap.size :=
  ⟨World.block_lt_of_cell? w _ h.code, h.mw.map.lt, fun s hs => (Array.getElem?_eq_some_iff.1 (h.mw.row s hs)).1⟩

set_option maxRecDepth 100000 in
set_option maxHeartbeats 3200000 in
theorem MhUnmarshal_ok (b : Nat) (A : Option Addr) (cap : Nat) (bs : List UInt8) (pos : Nat) (a : Addr) (mb : Nat) (ss : List (Nat × List (Nat × List UInt8))) (rest : List UInt8)
    (hw : ∀ p ∈ ss, p.1 < 18446744073709551616 ∧ (∀ s ∈ p.2, 8 ≤ s.1 ∧ s.1 ≤ 33554432) ∧ (p.2.map (·.1)).Nodup) (hnd : (ss.map (·.1)).Nodup) (w : World)
    (hsm : bs.length ≤ 16777216) (h : RdAt w b A cap bs pos) (hbs : bs.drop pos = mhBytes ss ++ rest) (hM : MhAt w a mb []) (hab : a.block ≠ b) (hmb : mb ≠ b) (ham : a.block ≠ mb)
    (hA : ∀ g' o, A = some ⟨g', o, none⟩ → g' < w.heap.size ∧ g' ≠ a.block ∧ g' ≠ mb) :
    Calls Tryz.prog 179 #[.pointer (some a), .iface 40 (.pointer (some ⟨b, 0, none⟩))] w fun e w' => e = .returned .nilIface ∧ RdAt w' b A cap bs (pos + (mhBytes ss).length) ∧
      (∃ cs, cs.map Cod.two = ss ∧ MhAt w' a mb cs ∧ ∀ c ∈ cs, c.Above w.heap.size) ∧ Kp (fun i => i = b ∨ i = mb) w w' := by
  have hms := method_Seek
  have hbl := h.blt
  have hal := World.block_lt_of_cell? w _ hM.cell
  have hmbl := hM.map.lt
  have hlen : pos + 4 + (codsBytes ss).length ≤ bs.length := by
    have := congrArg List.length hbs
    simp only [mhBytes, List.length_drop, List.length_append, le4_len] at this
    omega
  have hsl := codsBytes_len ss
  have hbs1 : bs.drop pos = Lib.leBytes 4 ss.length ++ (codsBytes ss ++ rest) := by rw [hbs, mhBytes, List.append_assoc]
  have hbs2 : bs.drop (pos + 4) = codsBytes ss ++ rest := by rw [← List.drop_drop, hbs1]; rfl
  have hml : pos + (mhBytes ss).length = pos + 4 + (codsBytes (ss.take ss.length)).length := by rw [List.take_length]; simp only [mhBytes, List.length_append, le4_len]; omega
  have hR1 := zzRead32_ok b A cap bs pos ss.length (by omega) _ ⟨w.heap.size, 0, none⟩ (.int .u32 0) (w.alloc (.cells #[.int .u32 0] 103)) (rd_alloc h _) hbs1 (by simp [go_sem]) (by simp [go_sem]) (by show w.heap.size ≠ b; omega) (fun g' o e => by have := (hA g' o e).1; simp; omega)
  have HB := Lib.hid hbs2; have HL := Lib.hid hml; have HW := Lib.hid hw; have HN := Lib.hid hnd
  clear hbs hbs1 hbs2 hml hw hnd
  go_enter Tryz.func179, Tryz.ntmps179
  go_wp2_with fail
  refine (ToByteReadSeeker_ok _ _).mono ?_
  rintro e w0 ⟨rfl, rfl⟩
  go_wp2_with fail
  refine hR1.mono ?_
  rintro e w1 ⟨rfl, hR1, hc1, hK1⟩
  have hz1 : w.heap.size < w1.heap.size := by have := hK1.size; simp at this; omega
  have hKa : Kp (fun i => i = b ∨ i = mb) w w1 := (Kp.refl _ w).box hK1 (fun i hi => hi.elim (fun e => .inl (.inl e)) (fun e => .inr e))
  have hM1 : MhAt w1 a mb [] := (hM.kp (kp_alloc w _) id id (fun c hc => by simp at hc)).kp hK1 (by simp; omega) (by simp; omega) (fun c hc => by simp at hc)
  clear hK1
  go_wp2_with fail
  refine (Seek_ok b A cap bs (pos + 4) w1 hR1).mono ?_
  rintro e w2 ⟨rfl, hR2, hK2⟩
  have hz2 := hK2.size
  have hKb : Kp (fun i => i = b ∨ i = mb) w w2 := hKa.trans hK2 (fun i hi => .inl (.inl hi))
  have hM2 : MhAt w2 a mb [] := hM1.kp hK2 hab hmb (fun c hc => by simp at hc)
  clear hR1 hc1 hKa hM1 hK2 hM
  have hneg : ¬ ((ss.length : Int) < 0) := by omega
  have hwrap : IntKind.i32.wrap (ss.length : Int) = (ss.length : Int) := by rw [IntKind.wrap_i32]; omega
  go_wp2_with fail
  go_loopw [9, 11] (fun vs vi wr => ∃ (k sum : Nat) (cs : List Cod), vi = .int .i64 (k : Int) ∧ vs = .int .i64 (sum : Int) ∧ k ≤ ss.length ∧ sum ≤ (k + 1) * 16777216 ∧ cs.map Cod.two = ss.take k ∧ RdAt wr b A cap bs (pos + 4 + (codsBytes (ss.take k)).length) ∧
      MhAt wr a mb cs ∧ (∀ c ∈ cs, c.Above w.heap.size) ∧ Kp (fun i => i = b ∨ i = mb) w wr ∧ w1.heap.size ≤ wr.heap.size) (fun _ vi _ => ss.length - (intOf vi).toNat)
  case atStart => exact ⟨0, pos + 4, [], rfl, rfl, Nat.zero_le _, by omega, rfl, by simpa [codsBytes] using hR2, hM2, by simp, hKb, hz2⟩
  case round =>
    clear hR2 hM2 hKb
    obtain ⟨k, sum, cs, rfl, rfl, hk, hsum, hsecs, hR, hM, hgs, hK, hzr⟩ := hrel
    by_cases hlt : k < ss.length
    · obtain ⟨p, hp⟩ : ∃ p, ss[k]? = some p := ⟨_, List.getElem?_eq_getElem hlt⟩
      have hat := cods_at hp bs rest (pos + 4) HB.out
      have htk := cods_take hp
      obtain ⟨hp1, hp2, hp3⟩ := HW.out p (List.mem_of_getElem? hp)
      have hnew : ∀ c ∈ cs, c.code ≠ p.1 := by
        intro s hs e
        have h1 : s.two ∈ ss.take k := by rw [← hsecs]; exact List.mem_map.2 ⟨s, hs, rfl⟩
        obtain ⟨j, hj⟩ := List.getElem?_of_mem h1
        have hjk := (List.getElem?_eq_some_iff.1 hj).1
        rw [List.length_take] at hjk
        have hj2 : ss[j]? = some s.two := by rw [List.getElem?_take] at hj; split at hj; exact hj; cases hj
        have e2 : (ss.map (·.1))[j]? = (ss.map (·.1))[k]? := by rw [List.getElem?_map, List.getElem?_map, hj2, hp]; simp [Cod.two, e]
        have := (List.getElem?_inj (i := j) (j := k) (by simp; omega) HN.out).1 e2
        omega
      obtain ⟨code, secs⟩ := p
      simp only at hat hp1 hp2 hp3 hnew
      have hplen := congrArg List.length hat
      simp only [List.length_drop, List.length_append] at hplen
      have hcl := codBytes_len (code, secs)
      have hpl : (codsBytes (ss.take (k + 1))).length = (codsBytes (ss.take k)).length + (codBytes (code, secs)).length := by rw [htk, codsBytes_append, List.length_append]; simp [codsBytes]
      have hbd : pos + 4 + (codsBytes (ss.take k)).length + (codBytes (code, secs)).length ≤ bs.length := by omega
      obtain ⟨pk, hpk⟩ : ∃ pk, pk = pos + 4 + (codsBytes (ss.take k)).length := ⟨_, rfl⟩
      rw [← hpk] at hR hat hbd
      have HPL : Hid (pos + 4 + (codsBytes (ss.take (k + 1))).length = pk + (codBytes (code, secs)).length) := Lib.hid (by omega)
      have HT := Lib.hid htk; have HSS := Lib.hid hsecs; have HNW := Lib.hid hnew; have HAT := Lib.hid hat; have HP2 := Lib.hid hp2; have HP3 := Lib.hid hp3
      clear hpk htk hpl hplen hsecs hnew hp hat hp2 hp3
      have hbr := hR.blt
      go_wp2_with fail
      refine (newMwci_ok _).mono ?_
      rintro e w3 ⟨rfl, hC3, hf3, hz3, hb3⟩
      have hlts : ∀ c ∈ cs, c.cb < wr.heap.size ∧ c.mb < wr.heap.size ∧ ∀ s ∈ c.secs, s.gd < wr.heap.size := fun c hc => Cod.Above.lt (hM.row c hc)
      have hR3 : RdAt w3 b A cap bs pk := hR.keep (S := fun _ => False) (Kp.of_below hb3) id (fun _ _ _ => id)
      have hM3 : MhAt w3 a mb cs := hM.kp (S := fun _ => False) (Kp.of_below hb3) id id (fun _ _ => ⟨id, id, fun _ _ => id⟩)
      have hK3 : Kp (fun i => i = b ∨ i = mb) w w3 := hK.trans (Kp.of_below (S := fun _ => False) hb3) (fun i hi => hi.elim)
      have hCo := CoUnmarshal_ok b A cap bs pk (wr.heap.size + 1) wr.heap.size code hp1 secs _ HP2.out HP3.out w3 hsm hR3 HAT.out hC3 hf3 (by omega) (by omega) (by omega) (fun g o e => by have := (hA g o e).1; omega)
      clear hC3 hf3 hR hR3 hM hK
      go_wp2_with fail
      refine hCo.mono ?_
      clear hCo
      rintro e w4 ⟨rfl, hR4, ⟨secs', hs4, hC4, hgd4⟩, hK4⟩
      have hz4 := hK4.size
      have hM4 : MhAt w4 a mb cs := hM3.kp hK4 (by omega) (by omega) (fun c hc => by
        have h1 := hlts c hc; have h2 := hgs c hc
        refine ⟨by have := h1.1; have := h2.1; omega, by have := h1.2.1; have := h2.2.1; omega, fun s hs => by have := h1.2.2 s hs; have := h2.2.2 s hs; omega⟩)
      have hKd : Kp (fun i => i = b ∨ i = mb) w w4 := hK3.trans hK4 (fun i hi => by rcases hi with e | e | e; exact .inl (.inl e); exact .inr (by omega); exact .inr (by omega))
      clear hM3 hK3 hK4
      go_wp2_with fail
      refine (Seek_ok b A cap bs _ w4 hR4).mono ?_
      rintro e w5 ⟨rfl, hR5, hK5⟩
      have hz5 := hK5.size
      have hKe : Kp (fun i => i = b ∨ i = mb) w w5 := hKd.trans hK5 (fun i hi => .inl (.inl hi))
      have hM5 : MhAt w5 a mb cs := hM4.kp hK5 hab hmb (fun c hc => by
        have h2 := hgs c hc
        exact ⟨by have := h2.1; omega, by have := h2.2.1; omega, fun s hs => by have := h2.2.2 s hs; omega⟩)
      have hC5 : CodAt w5 ⟨code, wr.heap.size + 1, wr.heap.size, secs'⟩ := hC4.kp hK5 (by show wr.heap.size + 1 ≠ b; omega) (by show wr.heap.size ≠ b; omega) (fun s hs => by have := hgd4 s hs; omega)
      clear hR4 hKd hM4 hC4 hK5
      have hsum' : ¬ ((sum : Int) + ((pk + (codBytes (code, secs)).length : Nat) : Int) < (sum : Int)) := by omega
      have hsw : IntKind.i64.wrap ((sum : Int) + ((pk + (codBytes (code, secs)).length : Nat) : Int)) = ((sum + (pk + (codBytes (code, secs)).length) : Nat) : Int) := by rw [IntKind.wrap_i64]; omega
      have hPut := MhPut_ok a mb cs ⟨code, wr.heap.size + 1, wr.heap.size, secs'⟩ w5 hM5 hC5 HNW.out ham ⟨by show mb ≠ wr.heap.size + 1; omega, by show mb ≠ wr.heap.size; omega, fun s hs => by have := hgd4 s hs; omega⟩ (fun x hx => by
        have h2 := hgs x hx
        exact ⟨by have := h2.1; omega, by have := h2.2.1; omega, fun s hs => by have := h2.2.2 s hs; omega⟩)
      go_wp2_with fail
      refine hPut.mono ?_
      clear hPut hM5 hC5
      rintro e w6 ⟨rfl, hM6, hK6⟩
      have hz6 := hK6.size
      have hR6 := hR5.keep hK6 (fun e => hmb e.symm) (fun g o e => (hA g o e).2.2)
      have hKf : Kp (fun i => i = b ∨ i = mb) w w6 := hKe.trans hK6 (fun i hi => .inl (.inr hi))
      have HR6 := Lib.hid hR6
      clear hR5 hKe hK6 hR6
      go_wp2_with fail
      go_roundw
      case rel =>
        refine ⟨k + 1, sum + (pk + (codBytes (code, secs)).length), cs ++ [⟨code, wr.heap.size + 1, wr.heap.size, secs'⟩], by go_num, by first | rfl | go_num, by omega, by omega, ?_, by rw [HPL.out]; exact HR6.out, hM6, ?_, hKf, by omega⟩
        · rw [List.map_append, HSS.out, HT.out]; simp [Cod.two, hs4]
        · intro c hc
          rcases List.mem_append.1 hc with hc | hc
          · exact hgs c hc
          · obtain rfl : c = ⟨code, wr.heap.size + 1, wr.heap.size, secs'⟩ := by simpa using hc
            exact ⟨by show w.heap.size < wr.heap.size + 1; omega, by show w.heap.size < wr.heap.size; omega, fun s hs => by have := hgd4 s hs; omega⟩
      case measure => simp [intOf]; omega
    · obtain rfl : k = ss.length := by omega
      go_wp2_with fail
      go_ret
      rw [List.take_length] at hsecs
      exact ⟨rfl, by rw [HL.out]; exact hR, ⟨cs, hsecs, hM, hgs⟩, hK⟩
end Go.Proofs.YtgdgmegpacmgnaaGreatDoor

/- bytes.Compare, bytes.Equal. -/
namespace Go.Proofs.YtgdgmegpacmgnaaGreatDoor
open Go.RowKit
set_option linter.unusedVariables false
set_option linter.unusedSimpArgs false
attribute [local go_sem] setCell_drewN alloc_drewN

theorem run_bytesOf {P : Program} {w : World} : ∀ (bs : List UInt8) (g o : Nat) (acc : ByteArray), (∀ j x, bs[j]? = some x → w.cell? ⟨g, o + j, none⟩ = some (.int .u8 (x.toNat : Int))) →
    (Extern.Bytes.loadBytes ⟨g, o, none⟩ bs.length acc).run P w = .ok ⟨acc.data ++ bs.toArray⟩ w
  | [], g, o, acc, _ => by simp [Extern.Bytes.loadBytes, Sem.run_pure]
  | b :: r, g, o, acc, h => by
    have h0 : w.cell? ⟨g, o, none⟩ = some (.int .u8 (b.toNat : Int)) := h 0 b rfl
    have ih := run_bytesOf (P := P) r g (o + 1) (acc.push b) (fun j x hj => by
      have := h (j + 1) x (by simpa using hj)
      rw [show o + 1 + j = o + (j + 1) from by omega]; exact this)
    have hadd : (⟨g, o, none⟩ : Addr).add 1 = ⟨g, o + 1, none⟩ := rfl
    simp only [List.length_cons, Extern.Bytes.loadBytes]
    simp [h0, hadd, ih]

theorem run_compare {P : Program} (w : World) (A B : Option Addr) (a b : List UInt8) (ca cb : Nat) (ha : BytesAt w A a) (hb : BytesAt w B b) :
    (Extern.BytealgCompare.compare #[.slice A a.length ca, .slice B b.length cb]).run P w = .ok (.int .i64 (Lib.compareBytes a b)) w := by
  have key : ∀ (X : Option Addr) (x : List UInt8) (c : Nat), BytesAt w X x → (Extern.Bytes.bytesOf (.slice X x.length c)).run P w = .ok ⟨x.toArray⟩ w := by
    intro X x c hx
    rcases hx with hx | ⟨g, o, rfl, hc⟩
    · subst hx
      cases X with
      | none => simp [Extern.Bytes.bytesOf, Sem.run_pure, ByteArray.empty, ByteArray.emptyWithCapacity]; rfl
      | some ad => simp [Extern.Bytes.bytesOf, Extern.Bytes.loadBytes, Sem.run_pure, ByteArray.empty, ByteArray.emptyWithCapacity]; rfl
    · have := run_bytesOf (P := P) x g o .empty hc
      simp only [Extern.Bytes.bytesOf]
      rw [this]
      simp [ByteArray.empty, ByteArray.emptyWithCapacity]; rfl
  change Sem.run P (do pure (goInt (Extern.BytealgCompare.cmp (← Extern.Bytes.bytesOf (.slice A a.length ca)) (← Extern.Bytes.bytesOf (.slice B b.length cb))))) w = _
  simp only [Sem.run_bind, key A a ca ha, key B b cb hb, Result.andThen, Sem.run_pure, Lib.cmp_eq]
  rfl

theorem call_compare (args : Array Value) (w : World) : (callFunc 238 args).run Tryz.prog w = ((Extern.BytealgCompare.compare args).run Tryz.prog w).andThen fun v w' => .ok (.value v) w' :=
  run_callFunc_extern Tryz.func238 (by kernel_rfl) (by kernel_rfl) (by kernel_rfl) (e := Extern.BytealgCompare.compare) (by kernel_rfl) args w

set_option maxRecDepth 100000 in
set_option maxHeartbeats 800000 in
theorem Compare_ok (A B : Option Addr) (a b : List UInt8) (n m ca cb : Nat) (w : World) (ha : BytesAt w A a) (hb : BytesAt w B b) (hn : a.length = n) (hm : b.length = m) :
    Calls Tryz.prog 218 #[.slice A n ca, .slice B m cb] w fun e w' => e = .returned (.int .i64 (Lib.compareBytes a b)) ∧ w = w' := by
  subst hn; subst hm
  have h1 := call_compare #[.slice A a.length ca, .slice B b.length cb] w
  rw [run_compare w A B a b ca cb ha hb] at h1
  simp only [Result.andThen] at h1
  go_enter Tryz.func218, Tryz.ntmps218
  go_wp2_with fail
  go_ret
  exact ⟨rfl, rfl⟩

theorem Equal_ok (a b : List UInt8) (A B : Option Addr) (ca cb : Nat) (w : World) (ha : BytesAt w A a) (hb : BytesAt w B b) :
    Calls Tryz.prog 209 #[.slice A a.length ca, .slice B b.length cb] w fun e w' => e = .returned (.bool (a == b)) ∧ w = w' := by
  have h1 := bytes_string (P := Tryz.prog) Tryz.underlying42 Tryz.underlying5 Tryz.underlying9 w A a ca ha
  have h2 := bytes_string (P := Tryz.prog) Tryz.underlying42 Tryz.underlying5 Tryz.underlying9 w B b cb hb
  go_enter Tryz.func209, Tryz.ntmps209
  go_wp2_with fail
  go_ret
  exact ⟨by simp, rfl⟩

end Go.Proofs.YtgdgmegpacmgnaaGreatDoor

/- A width's rows, searched by their digests. -/
namespace Go.Proofs.YtgdgmegpacmgnaaGreatDoor
open Go.RowKit
set_option linter.unusedVariables false
set_option linter.unusedSimpArgs false
attribute [local go_sem] setCell_drewN alloc_drewN

theorem row_bytes {w : World} {gd : Nat} {data : List UInt8} {t : TypeId} {fz : Nat × Nat} (h : w.heap[gd]? = some (.cells (bcells data).toArray t fz)) (lo m : Nat) : BytesAt w (some ⟨gd, lo, none⟩) ((data.drop lo).take m) := by
  refine .inr ⟨gd, lo, rfl, fun j x hj => ?_⟩
  rw [List.getElem?_take] at hj
  split at hj
  · rw [List.getElem?_drop] at hj
    exact (blk_cell' h (lo + j)).trans (bcells_get hj)
  · cases hj

/-- The digest of the row numbered i, its offset's bytes. -/
def rowDig (width : Nat) (data : List UInt8) (i : Nat) : List UInt8 := (data.drop (i * width)).take (width - 8)
def rowOff (width : Nat) (data : List UInt8) (i : Nat) : List UInt8 := (data.drop ((i + 1) * width - 8)).take 8
theorem row_bounds {width n i : Nat} {data : List UInt8} (h8 : 8 ≤ width) (hn : data.length = n * width) (hi : i < n) : i * width + width ≤ data.length ∧ (i + 1) * width = i * width + width := by
  have h1 : (i + 1) * width = i * width + width := Nat.succ_mul i width
  have h2 : (i + 1) * width ≤ n * width := Nat.mul_le_mul_right _ hi
  omega
theorem rowDig_len {width n i : Nat} {data : List UInt8} (h8 : 8 ≤ width) (hn : data.length = n * width) (hi : i < n) : (rowDig width data i).length = width - 8 := by
  have := row_bounds h8 hn hi
  simp only [rowDig, List.length_take, List.length_drop]; omega

theorem u8_size (W : World) : (sizeOf 5).run Tryz.prog W = .ok 1 W := by simp [sizeOf, typeInfo]; kernel_rfl
/-- 'xs[lo:hi]' of a whole row of bytes. -/
theorem cut_lh (gd lo hi L : Nat) (h1 : lo ≤ hi) (h2 : hi ≤ L) (hne : lo < L) (x y : Int) (hx : x = lo) (hy : y = hi) (W : World) :
    (Instr.slice 42 (.slice (some ⟨gd, 0, none⟩) L L) (some (.int .i64 x)) (some (.int .i64 y)) none).run Tryz.prog W = .ok (.slice (some ⟨gd, lo, none⟩) (hi - lo) (L - lo)) W := by
  subst hx; subst hy
  have hel : Tryz.prog.elem 42 = 5 := by kernel_rfl
  rw [run_slice_lh W 42 (some ⟨gd, 0, none⟩) L L (by rw [hel]; exact Tryz.underlying42) .i64 .i64 (lo : Int) (hi : Int) (Int.natCast_nonneg _) (by omega) (by omega), hel, u8_size]
  have hne' : ¬ L = lo := by omega
  simp only [Result.andThen, sliced, Int.toNat_natCast, Nat.mul_one, Option.map_some]
  simp only [hne', if_false]
  simp only [show (⟨gd, 0, none⟩ : Addr).add lo = ⟨gd, lo, none⟩ from by rw [Addr.add_mid]; simp]
theorem cut_all (A : Option Addr) (n c : Nat) (W : World) :
    (Instr.slice 42 (.slice A n c) none none none).run Tryz.prog W = .ok (.slice A n c) W := by
  have hel : Tryz.prog.elem 42 = 5 := by kernel_rfl
  rw [run_slice_all W 42 A n c (by rw [hel]; exact Tryz.underlying42), hel, u8_size]
  simp only [Result.andThen, sliced]
  cases A with
  | none => simp
  | some a =>
    have : a.add 0 = a := by unfold Addr.add; split <;> simp_all
    simp [this]

/-- A width, at block g, its rows at block gd. -/
structure SecAt (w : World) (g gd width n : Nat) (data : List UInt8) : Prop where
  blk : SwAt w g width n (.slice (some ⟨gd, 0, none⟩) data.length data.length)
  row : w.heap[gd]? = some (.cells (bcells data).toArray 5 (0, 0))
  w8 : 8 ≤ width
  wle : width ≤ 33554432
  len : data.length = n * width
  big : data.length ≤ 1099511627776

theorem mul_wrap {a b p : Nat} (hp : p = a * b) (h : p ≤ 1099511627776) : IntKind.i64.wrap ((a : Int) * (b : Int)) = (p : Int) := by
  have : ((a : Int) * (b : Int)) = (p : Int) := by rw [hp]; simp
  rw [this, IntKind.wrap_i64]; omega

set_option maxRecDepth 100000 in
set_option maxHeartbeats 1600000 in
theorem swLess_ok (g gd width n i : Nat) (data d : List UInt8) (A : Option Addr) (c : Nat) (w : World) (h : SecAt w g gd width n data) (hi : i < n) (hd : BytesAt w A d) :
    Calls Tryz.prog 208 #[.pointer (some ⟨g, 0, none⟩), .int .i64 (i : Int), .slice A d.length c] w fun e w' => e = .returned (.bool (decide (Lib.compareBytes d (rowDig width data i) ≤ 0))) ∧ ∃ m, w' = w.drewN m := by
  obtain ⟨hb, hr, h8, hwl, hn, hbig⟩ := h
  obtain ⟨b1, b2⟩ := row_bounds h8 hn hi
  have hrd := rowDig_len h8 hn hi
  have c0 := (blk_cell' hb 0).trans (show _ = some (Value.int .u32 (width : Int)) from rfl)
  have c2 := (blk_cell' hb 2).trans (show _ = some (Value.slice (some ⟨gd, 0, none⟩) data.length data.length) from rfl)
  have hin : i * 8 ≤ i * width := Nat.mul_le_mul_left _ h8
  obtain ⟨p, hp⟩ : ∃ p, p = i * width := ⟨_, rfl⟩
  rw [← hp] at b1 b2 hin
  have hm1 := mul_wrap hp (by omega)
  have hm2 : IntKind.i64.wrap (((i : Int) + 1) * (width : Int)) = ((p + width : Nat) : Int) := by
    have := mul_wrap (a := i + 1) (b := width) (p := p + width) b2.symm (by omega)
    simpa using this
  have hs1 := fun W => cut_lh gd p (p + width - 8) data.length (by omega) (by omega) (by omega) (p : Int) (((p + width : Nat) : Int) - 8) rfl (by omega) W
  have hs2 := fun W => cut_all A d.length c W
  have hrow := row_bytes hr p (width - 8)
  have hC := fun n' => Compare_ok A (some ⟨gd, p, none⟩) d (rowDig width data i) d.length (p + width - 8 - p) c (data.length - p) (w.drewN n') hd (by unfold rowDig; rw [← hp]; exact hrow) rfl (by rw [hrd]; omega)
  have hib : (i : Int) < 1099511627776 := by omega
  have hpw : IntKind.i64.wrap (((p + width : Nat) : Int) - 8) = ((p + width : Nat) : Int) - 8 := by rw [IntKind.wrap_i64]; omega
  have hiw : IntKind.i64.wrap ((i : Int) + 1) = (i : Int) + 1 := by rw [IntKind.wrap_i64]; omega
  have hww : IntKind.i64.wrap (width : Int) = (width : Int) := by rw [IntKind.wrap_i64]; omega
  generalize p + width = pw at *
  have HB := Lib.hid b1; have HB2 := Lib.hid b2; have HP := Lib.hid hp
  clear b1 b2 hp hn hr hb hrow hrd
  generalize rowDig width data i = rd at *
  go_enter Tryz.func208, Tryz.ntmps208
  go_wp2_with fail
  go_quiet ((go_at_call 218; exact Calls.quiet_of_same ((hC _).mono fun e w1 h => ⟨h.1, h.2.symm⟩)))
  go_wp2_with fail
  go_ret
  exact ⟨rfl, _, rfl⟩
set_option maxRecDepth 100000 in
set_option maxHeartbeats 800000 in
theorem lessAt_ok (sb db g gd width n i : Nat) (data d : List UInt8) (A : Option Addr) (c : Nat) (w : World) (h : SecAt w g gd width n data) (hi : i < n) (hd : BytesAt w A d)
    (hs : w.cell? ⟨sb, 0, none⟩ = some (.pointer (some ⟨g, 0, none⟩))) (hdc : w.cell? ⟨db, 0, none⟩ = some (.slice A d.length c)) :
    Calls Tryz.prog 207 #[.int .i64 (i : Int), .pointer (some ⟨sb, 0, none⟩), .pointer (some ⟨db, 0, none⟩)] w fun e w' => e = .returned (.bool (decide (Lib.compareBytes d (rowDig width data i) ≤ 0))) ∧ ∃ m, w' = w.drewN m := by
  have hL := swLess_ok g gd width n i data d A c w h hi hd
  clear h hd
  generalize decide (Lib.compareBytes d (rowDig width data i) ≤ 0) = b at *
  go_enter Tryz.func207, Tryz.ntmps207
  go_wp2_with fail
  refine hL.mono ?_
  rintro e w1 ⟨rfl, m, rfl⟩
  go_wp2_with fail
  go_ret
  exact ⟨rfl, m, rfl⟩

/-- What a search in halves says: where p holds first, if p stays once it holds. -/
def Halves (p : Nat → Bool) (n r : Nat) : Prop := r ≤ n ∧ (r = 0 ∨ p (r - 1) = false) ∧ (r = n ∨ p r = true)

set_option maxRecDepth 100000 in
set_option maxHeartbeats 800000 in
theorem Search_ok (sb db n : Nat) (p : Nat → Bool) (w : World) (hn : n ≤ 1099511627776)
    (hp : ∀ i q, i < n → Calls Tryz.prog 207 #[.int .i64 (i : Int), .pointer (some ⟨sb, 0, none⟩), .pointer (some ⟨db, 0, none⟩)] (w.drewN q) fun e w' => e = .returned (.bool (p i)) ∧ ∃ m, w' = (w.drewN q).drewN m) :
    Calls Tryz.prog 206 #[.int .i64 (n : Int), .func (.func 207) #[] #[.pointer (some ⟨sb, 0, none⟩), .pointer (some ⟨db, 0, none⟩)]] w fun e w' => (∃ r : Nat, e = .returned (.int .i64 (r : Int)) ∧ Halves p n r) ∧ ∃ m, w' = w.drewN m := by
  go_enter Tryz.func206, Tryz.ntmps206
  go_wp2_with fail
  go_loopw [5, 6] (fun vi vj wr => ∃ i j q : Nat, vi = .int .i64 (i : Int) ∧ vj = .int .i64 (j : Int) ∧ i ≤ j ∧ j ≤ n ∧ (i = 0 ∨ p (i - 1) = false) ∧ (j = n ∨ p j = true) ∧ wr = w.drewN q) (fun vi vj _ => (intOf vj).toNat - (intOf vi).toNat)
  case atStart => exact ⟨0, n, 0, rfl, rfl, Nat.zero_le _, Nat.le_refl _, .inl rfl, .inl rfl, rfl⟩
  case round =>
    obtain ⟨i, j, q, rfl, rfl, hij, hjn, h1, h2, rfl⟩ := hrel
    by_cases hlt : i < j
    · obtain ⟨k, hk⟩ : ∃ k, k = (i + j) / 2 := ⟨_, rfl⟩
      have hki : i ≤ k ∧ k < j := by omega
      have hsum : IntKind.i64.wrap ((i : Int) + (j : Int)) = (i : Int) + (j : Int) := by rw [IntKind.wrap_i64]; omega
      have hsh : ((i : Int) + (j : Int)) / 2 = (k : Int) := by omega
      have hP := hp k q (by omega)
      have H1 := Lib.hid h1; have H2 := Lib.hid h2; have HK := Lib.hid hk
      clear h1 h2 hk
      cases hb : p k with
      | true =>
        rw [hb] at hP
        have HBB := Lib.hid hb; clear hb
        go_wp2_with fail
        refine hP.mono ?_
        rintro e w1 ⟨rfl, m, rfl⟩
        go_wp2_with fail
        go_roundw
        case rel => exact ⟨i, k, q + m, rfl, rfl, by omega, by omega, H1.out, .inr HBB.out, rfl⟩
        case measure => simp [intOf]; omega
      | false =>
        rw [hb] at hP
        have HBB := Lib.hid hb; clear hb
        go_wp2_with fail
        refine hP.mono ?_
        rintro e w1 ⟨rfl, m, rfl⟩
        go_wp2_with fail
        go_roundw
        case rel => exact ⟨k + 1, j, q + m, by go_num, rfl, by omega, by omega, .inr (by simpa using HBB.out), H2.out, rfl⟩
        case measure => simp [intOf]; omega
    · obtain rfl : i = j := by omega
      have HH : Hid (Halves p n i) := Lib.hid ⟨hjn, h1, h2⟩
      clear h1 h2
      go_wp2_with fail
      go_ret
      exact ⟨⟨i, rfl, HH.out⟩, q, rfl⟩
end Go.Proofs.YtgdgmegpacmgnaaGreatDoor

/- A bytes.Buffer that is written. -/
namespace Go.Proofs.YtgdgmegpacmgnaaGreatDoor
open Go.RowKit
set_option linter.unusedVariables false
set_option linter.unusedSimpArgs false
attribute [local go_sem] setCell_drewN alloc_drewN

/-- A buffer at block b, its row from block B on, that holds bs. -/
def BufAt (w : World) (B b : Nat) (bs : List UInt8) : Prop := Lib.IsBuffer 52 5 B b (bcells bs) w
/-- What a write keeps. -/
structure WrK (B b : Nat) (w w' : World) : Prop where
  bel : Below B w w'
  oth : Lib.OthersKept 5 (some b) w w'
theorem WrK.refl (B b : Nat) (w : World) : WrK B b w w := ⟨Below.refl _ _, Lib.OthersKept.refl _ _ _⟩
theorem WrK.trans {B b : Nat} {x y z : World} (h : WrK B b x y) (k : WrK B b y z) : WrK B b x z := ⟨h.bel.trans k.bel, h.oth.trans k.oth⟩
theorem WrK.of_below {B b : Nat} {w w' : World} (h : Below w.heap.size w w') (hl : B ≤ w.heap.size) : WrK B b w w' :=
  ⟨h.mono hl, fun k o hk _ _ => (h.block k (Array.getElem?_eq_some_iff.1 hk).1).trans hk⟩
theorem WrK.drewN {B b : Nat} {x y : World} (h : WrK B b x y) (n : Nat) : WrK B b x (y.drewN n) := ⟨⟨h.bel.os, h.bel.tape, h.bel.output, h.bel.size, h.bel.block⟩, h.oth⟩
theorem WrK.cells {B b : Nat} {w w' : World} (h : WrK B b w w') {g : Nat} {o : Obj} (hg : w.heap[g]? = some o) (hn : g ≠ b) (ht : ∀ c fz, o ≠ .cells c 5 fz) : w'.heap[g]? = some o :=
  h.oth g _ hg (fun e => hn (by simpa using e)) ht
theorem BufAt.lt {w : World} {B b : Nat} {bs : List UInt8} (h : BufAt w B b bs) : b < w.heap.size := Lib.IsBuffer.lt h
theorem BufAt.below {w w' : World} {B b : Nat} {bs : List UInt8} (h : BufAt w B b bs) (hb : Below w.heap.size w w') : BufAt w' B b bs := by
  have hl := h.lt
  obtain ⟨h1, v, lr, h2, h3, h4⟩ := h
  refine ⟨h1, v, lr, (hb.block _ hl).trans h2, ⟨h3.1, ?_⟩, h4⟩
  rcases h3.2 with h | ⟨g, cap, cur, e1, e2, e3, e4⟩
  · exact .inl h
  · exact .inr ⟨g, cap, cur, e1, e2, (hb.block _ (Array.getElem?_eq_some_iff.1 e3).1).trans e3, e4⟩
theorem BufAt.same {w w' : World} {B b : Nat} {bs : List UInt8} (h : BufAt w B b bs) (hw : w'.heap = w.heap) : BufAt w' B b bs := by
  obtain ⟨h1, v, lr, h2, h3, h4⟩ := h
  refine ⟨h1, v, lr, by rw [hw]; exact h2, ⟨h3.1, ?_⟩, h4⟩
  rcases h3.2 with h | ⟨g, cap, cur, e1, e2, e3, e4⟩
  · exact .inl h
  · exact .inr ⟨g, cap, cur, e1, e2, by rw [hw]; exact e3, e4⟩
theorem BufAt.kp {S : Nat → Prop} {w w' : World} {B b : Nat} {bs : List UInt8} (h : BufAt w B b bs) (hk : Kp S w w') (h1 : ¬ S b) (h2 : ∀ g cs fz, S g → w.heap[g]? ≠ some (.cells cs 5 fz)) : BufAt w' B b bs := by
  have hl := h.lt
  obtain ⟨h3, v, lr, h4, h5, h6⟩ := h
  refine ⟨h3, v, lr, (hk.block _ hl h1).trans h4, ⟨h5.1, ?_⟩, h6⟩
  rcases h5.2 with h | ⟨g, cap, cur, e1, e2, e3, e4⟩
  · exact .inl h
  · exact .inr ⟨g, cap, cur, e1, e2, (hk.block _ (Array.getElem?_eq_some_iff.1 e3).1 (fun hs => h2 g _ _ hs e3)).trans e3, e4⟩
theorem bcells_one (l : List UInt8) : ∀ v ∈ bcells l, v.oneCell' = true := by
  intro v hv
  unfold bcells at hv
  obtain ⟨x, _, rfl⟩ := List.mem_map.1 hv
  rfl
theorem bcells_append (a b : List UInt8) : bcells a ++ bcells b = bcells (a ++ b) := by simp [bcells]

theorem bufWrite_ok (B b : Nat) (bs cs : List UInt8) (A : Addr) (n c : Nat) (w : World) (h : BufAt w B b bs) (hB : B ≤ w.heap.size) (hA : BytesAt w (some A) cs) (hn : cs.length = n) (hab : A.block ≠ b) (hlim : bs.length + n ≤ 1099511627776) :
    Calls Tryz.prog 168 #[.pointer (some ⟨b, 0, none⟩), .slice (some A) n c] w fun e w' => e = .returned (.tuple #[.int .i64 n, .nilIface]) ∧ BufAt w' B b (bs ++ cs) ∧ WrK B b w w' := by
  have hsrc : ∀ j v, (bcells cs)[j]? = some v → w.cell? (A.add j) = some v := by
    intro j v hj
    rcases hA with hA | ⟨g, o, e, hc⟩
    · subst hA; simp [bcells] at hj
    · cases e
      rw [Addr.add_mid]
      simp only [bcells, List.getElem?_map] at hj
      cases hq : cs[j]? with
      | none => rw [hq] at hj; cases hj
      | some x => rw [hq] at hj; cases hj; exact hc j x hq
  refine (Tryz.Buffer_Write_any B b (bcells bs) (bcells cs) A n c w h hB (bcells_one _) (by rw [bcells_len]; exact hn) hab hsrc (bcells_one _) (by rw [bcells_len]; omega)).mono ?_
  rintro e w' ⟨rfl, h1, h2, h3⟩
  rw [bcells_append] at h1
  exact ⟨rfl, h1, h2, h3⟩

theorem method_bufWrite (v : Value) (w : World) : (method 463 55 v "Write").run Tryz.prog w = .ok (168, v) w := by kernel_rfl
theorem ahead_bufWrite (p : Addr) (w : World) : (nilAhead 463 55 (.pointer (some p)) "Write").run Tryz.prog w = .ok (some false) w := by kernel_rfl

set_option maxRecDepth 100000 in
set_option maxHeartbeats 1600000 in
theorem zzWrite32_ok (B b : Nat) (bs : List UInt8) (v : Nat) (hv : v < 4294967296) (w : World) (h : BufAt w B b bs) (hB : B ≤ w.heap.size) (hlim : bs.length + 4 ≤ 1099511627776) :
    Calls Tryz.prog 186 #[.iface 55 (.pointer (some ⟨b, 0, none⟩)), .int .u32 (v : Int)] w fun e w' => e = .returned .nilIface ∧ BufAt w' B b (bs ++ Lib.leBytes 4 v) ∧ WrK B b w w' := by
  have hme := method_bufWrite
  have hmk : ∀ W : World, (Instr.makeSlice 42 (.int .i64 4) (.int .i64 4)).run Tryz.prog W = .ok (.slice (some ⟨W.heap.size, 0, none⟩) 4 4) (W.alloc (.cells (zeros8 4).toArray 5)) := fun W => make8 4 4 rfl (by omega) W
  have hbl := h.lt
  have hg : (w.alloc (.cells (zeros8 4).toArray 5)).heap[w.heap.size]? = some (.cells (zeros8 4).toArray 5 (0, 0)) := heap_alloc_last _ _
  have z0 := (blk_cell' hg 0).trans (show _ = some (Value.int .u8 0) from rfl)
  have z1 := (blk_cell' hg (0 + 1)).trans (show _ = some (Value.int .u8 0) from rfl)
  have z2 := (blk_cell' hg (0 + 2)).trans (show _ = some (Value.int .u8 0) from rfl)
  have z3 := (blk_cell' hg (0 + 3)).trans (show _ = some (Value.int .u8 0) from rfl)
  have f0 := blk_free' hg 0
  have f1 := blk_free' hg (0 + 1)
  have f2 := blk_free' hg (0 + 2)
  have f3 := blk_free' hg (0 + 3)
  have hP := Tryz.binary_LE_PutUint32 w.heap.size 0 4 4 v hv _ _ _ _ (w.alloc (.cells (zeros8 4).toArray 5)) (by omega) z0 z1 z2 z3 f0 f1 f2 f3
  have hb0 : Below w.heap.size w (((w.alloc (.cells (zeros8 4).toArray 5)).alloc (.cells #[] 299)).setCells w.heap.size 0 (Lib.byteCells (Lib.leBytes 4 v))) :=
    (by (repeat (first | (with_reducible exact Below.refl _ _) | (with_reducible exact below_boxed _ _) | (with_reducible refine below_box ?_ _) | (with_reducible refine below_drew1 ?_) | (with_reducible refine below_drewn ?_ _) | (with_reducible refine below_bytes ?_ _ _) | (with_reducible refine below_next ?_ (by assumption)) | (with_reducible refine below_set ?_ (by first | (simp; done) | (simp; omega) | omega) _))) : Below w.heap.size w ((w.alloc (.cells (zeros8 4).toArray 5)).alloc (.cells #[] 299))).trans (below_setCells _ _ (Nat.le_refl _) _ _ _)
  have hrow := heap_setCells w.heap.size 5 (Lib.byteCells (Lib.leBytes 4 v)) 0 (zeros8 4) ((w.alloc (.cells (zeros8 4).toArray 5)).alloc (.cells #[] 299)) ((heap_alloc_old _ _ (by simp)).trans hg) (by simp [zeros8_length, Lib.byteCells, le4_len])
  clear z0 z1 z2 z3 f0 f1 f2 f3 hg
  obtain ⟨W, hW⟩ : ∃ W, W = (((w.alloc (.cells (zeros8 4).toArray 5)).alloc (.cells #[] 299)).setCells w.heap.size 0 (Lib.byteCells (Lib.leBytes 4 v))) := ⟨_, rfl⟩
  rw [← hW] at hb0 hrow hP
  have HW := Lib.hid hW; clear hW
  have hrow' : W.heap[w.heap.size]? = some (.cells (bcells (Lib.leBytes 4 v)).toArray 5 (0, 0)) := hrow
  have hWr := bufWrite_ok B b bs (Lib.leBytes 4 v) ⟨w.heap.size, 0, none⟩ 4 4 W (h.below hb0) (Nat.le_trans hB hb0.size) (by have := row_bytes hrow' 0 4; rwa [List.drop_zero, List.take_of_length_le (Nat.le_of_eq (le4_len v))] at this) (le4_len v) (by show w.heap.size ≠ b; omega) hlim
  clear hrow hrow'
  go_enter Tryz.func186, Tryz.ntmps186
  go_wp2_with fail
  refine hP.mono ?_
  clear hP
  rintro e w1 ⟨rfl, rfl⟩
  go_wp2_with fail
  refine hWr.mono ?_
  clear hWr
  rintro e w1 ⟨rfl, hB1, hK1⟩
  go_wp2_with fail
  go_ret
  exact ⟨rfl, hB1, (WrK.of_below hb0 hB).trans hK1⟩
set_option maxRecDepth 100000 in
set_option maxHeartbeats 1600000 in
theorem zzWrite64_ok (B b : Nat) (bs : List UInt8) (v : Nat) (hv : v < 18446744073709551616) (w : World) (h : BufAt w B b bs) (hB : B ≤ w.heap.size) (hlim : bs.length + 8 ≤ 1099511627776) :
    Calls Tryz.prog 199 #[.iface 55 (.pointer (some ⟨b, 0, none⟩)), .int .u64 (v : Int)] w fun e w' => e = .returned .nilIface ∧ BufAt w' B b (bs ++ Lib.leBytes 8 v) ∧ WrK B b w w' := by
  have hme := method_bufWrite
  have hmk : ∀ W : World, (Instr.makeSlice 42 (.int .i64 8) (.int .i64 8)).run Tryz.prog W = .ok (.slice (some ⟨W.heap.size, 0, none⟩) 8 8) (W.alloc (.cells (zeros8 8).toArray 5)) := fun W => make8 8 8 rfl (by omega) W
  have hbl := h.lt
  have hg : (w.alloc (.cells (zeros8 8).toArray 5)).heap[w.heap.size]? = some (.cells (zeros8 8).toArray 5 (0, 0)) := heap_alloc_last _ _
  have z0 := (blk_cell' hg 0).trans (show _ = some (Value.int .u8 0) from rfl)
  have z1 := (blk_cell' hg (0 + 1)).trans (show _ = some (Value.int .u8 0) from rfl)
  have z2 := (blk_cell' hg (0 + 2)).trans (show _ = some (Value.int .u8 0) from rfl)
  have z3 := (blk_cell' hg (0 + 3)).trans (show _ = some (Value.int .u8 0) from rfl)
  have z4 := (blk_cell' hg (0 + 4)).trans (show _ = some (Value.int .u8 0) from rfl)
  have z5 := (blk_cell' hg (0 + 5)).trans (show _ = some (Value.int .u8 0) from rfl)
  have z6 := (blk_cell' hg (0 + 6)).trans (show _ = some (Value.int .u8 0) from rfl)
  have z7 := (blk_cell' hg (0 + 7)).trans (show _ = some (Value.int .u8 0) from rfl)
  have f0 := blk_free' hg 0
  have f1 := blk_free' hg (0 + 1)
  have f2 := blk_free' hg (0 + 2)
  have f3 := blk_free' hg (0 + 3)
  have f4 := blk_free' hg (0 + 4)
  have f5 := blk_free' hg (0 + 5)
  have f6 := blk_free' hg (0 + 6)
  have f7 := blk_free' hg (0 + 7)
  have hP := Tryz.binary_LE_PutUint64 w.heap.size 0 8 8 v hv _ _ _ _ _ _ _ _ (w.alloc (.cells (zeros8 8).toArray 5)) (by omega) z0 z1 z2 z3 z4 z5 z6 z7 f0 f1 f2 f3 f4 f5 f6 f7
  have hb0 : Below w.heap.size w (((w.alloc (.cells (zeros8 8).toArray 5)).alloc (.cells #[] 299)).setCells w.heap.size 0 (Lib.byteCells (Lib.leBytes 8 v))) :=
    (by (repeat (first | (with_reducible exact Below.refl _ _) | (with_reducible exact below_boxed _ _) | (with_reducible refine below_box ?_ _) | (with_reducible refine below_drew1 ?_) | (with_reducible refine below_drewn ?_ _) | (with_reducible refine below_bytes ?_ _ _) | (with_reducible refine below_next ?_ (by assumption)) | (with_reducible refine below_set ?_ (by first | (simp; done) | (simp; omega) | omega) _))) : Below w.heap.size w ((w.alloc (.cells (zeros8 8).toArray 5)).alloc (.cells #[] 299))).trans (below_setCells _ _ (Nat.le_refl _) _ _ _)
  have hrow := heap_setCells w.heap.size 5 (Lib.byteCells (Lib.leBytes 8 v)) 0 (zeros8 8) ((w.alloc (.cells (zeros8 8).toArray 5)).alloc (.cells #[] 299)) ((heap_alloc_old _ _ (by simp)).trans hg) (by simp [zeros8_length, Lib.byteCells, le8_len])
  clear z0 z1 z2 z3 z4 z5 z6 z7 f0 f1 f2 f3 f4 f5 f6 f7 hg
  obtain ⟨W, hW⟩ : ∃ W, W = (((w.alloc (.cells (zeros8 8).toArray 5)).alloc (.cells #[] 299)).setCells w.heap.size 0 (Lib.byteCells (Lib.leBytes 8 v))) := ⟨_, rfl⟩
  rw [← hW] at hb0 hrow hP
  have HW := Lib.hid hW; clear hW
  have hrow' : W.heap[w.heap.size]? = some (.cells (bcells (Lib.leBytes 8 v)).toArray 5 (0, 0)) := hrow
  have hWr := bufWrite_ok B b bs (Lib.leBytes 8 v) ⟨w.heap.size, 0, none⟩ 8 8 W (h.below hb0) (Nat.le_trans hB hb0.size) (by have := row_bytes hrow' 0 8; rwa [List.drop_zero, List.take_of_length_le (Nat.le_of_eq (le8_len v))] at this) (le8_len v) (by show w.heap.size ≠ b; omega) hlim
  clear hrow hrow'
  go_enter Tryz.func199, Tryz.ntmps199
  go_wp2_with fail
  refine hP.mono ?_
  clear hP
  rintro e w1 ⟨rfl, rfl⟩
  go_wp2_with fail
  refine hWr.mono ?_
  clear hWr
  rintro e w1 ⟨rfl, hB1, hK1⟩
  go_wp2_with fail
  go_ret
  exact ⟨rfl, hB1, (WrK.of_below hb0 hB).trans hK1⟩
end Go.Proofs.YtgdgmegpacmgnaaGreatDoor
