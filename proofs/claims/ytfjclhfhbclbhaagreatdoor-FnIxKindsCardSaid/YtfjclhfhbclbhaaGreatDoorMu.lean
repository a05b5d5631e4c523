/- An index sorted by digests, in memory; read from its bytes. -/
import Derived.Test.YtfjclhfhbclbhaaGreatDoorSw
import Derived.Test.YtfjclhfhbclbhaaGreatDoorIm
import Derived.LoopTactic
namespace Go.Proofs.YtfjclhfhbclbhaaGreatDoor
open Go.RowKit
open Go.ChangeMaps (setBlock)
set_option linter.unusedVariables false
set_option linter.unusedSimpArgs false
attribute [local go_sem] setCell_drewN alloc_drewN

/-- A part of an index: rows of one width, and the block in which their bytes lie. -/
structure Sec where
  width : Nat
  data : List UInt8
  gd : Nat
def Sec.val (s : Sec) : Value := .agg #[.int .u32 (s.width : Int), .int .u64 ((s.data.length / s.width : Nat) : Int), .slice (some ⟨s.gd, 0, none⟩) s.data.length s.data.length]
def Sec.pair (s : Sec) : Int × Value := ((s.width : Int), s.val)
def Sec.two (s : Sec) : Nat × List UInt8 := (s.width, s.data)
def secBytes (p : Nat × List UInt8) : List UInt8 := Lib.leBytes 4 p.1 ++ (Lib.leBytes 8 p.2.length ++ p.2)
def secsBytes (l : List (Nat × List UInt8)) : List UInt8 := (l.map secBytes).flatten
def mwBytes (l : List (Nat × List UInt8)) : List UInt8 := Lib.leBytes 4 l.length ++ secsBytes l
def mwT : TypeId := 114

/-- An index at address a, its map at block mb. -/
structure MwAt (w : World) (a : Addr) (mb : Nat) (secs : List Sec) : Prop where
  cell : w.cell? a = some (.map (some mb))
  map : ImAt w mb .u32 (secs.map Sec.pair)
  row : ∀ s ∈ secs, w.heap[s.gd]? = some (.cells (bcells s.data).toArray 5 (0, 0))
theorem MwAt.kp {S : Nat → Prop} {w w' : World} {a : Addr} {mb : Nat} {secs : List Sec} (h : MwAt w a mb secs) (k : Kp S w w') (h1 : ¬ S a.block) (h2 : ¬ S mb) (h3 : ∀ s ∈ secs, ¬ S s.gd) : MwAt w' a mb secs :=
  ⟨(k.cell (World.block_lt_of_cell? w _ h.cell) h1).trans h.cell, h.map.kp k h2, fun s hs => (k.block _ (Array.getElem?_eq_some_iff.1 (h.row s hs)).1 (h3 s hs)).trans (h.row s hs)⟩
theorem find_sec {secs : List Sec} {k : Int} : ilook (secs.map Sec.pair) k = (secs.find? (fun s => decide ((s.width : Int) = k))).map Sec.val := by
  induction secs with
  | nil => rfl
  | cons s l ih =>
    by_cases h : (s.width : Int) = k
    · simp [ilook, Sec.pair, h]
    · have := ih
      simp only [ilook] at this ⊢
      rw [List.map_cons, List.find?_cons, List.find?_cons]
      simp only [Sec.pair, h, decide_false]
      exact this
theorem Kp.box {S S' : Nat → Prop} {a b c : World} {o : Obj} (h : Kp S a b) (k : Kp S' (b.alloc o) c) (hs : ∀ i, S' i → S i ∨ i = b.heap.size) : Kp S a c :=
  h.trans (((kp_alloc b o).mono (S' := fun i => S' i ∨ i = b.heap.size) (fun i hi => hi.elim)).trans (k.mono (S' := fun i => S' i ∨ i = b.heap.size) (fun i hi => .inl (.inl hi))) (fun i hi => .inl hi))
    (fun i hi => hi.elim (fun h1 => (hs i h1).elim .inl (fun e => .inr (by have := h.size; omega))) (fun e => .inr (by have := h.size; omega)))
theorem RdAt.blt {w : World} {b : Nat} {A : Option Addr} {cap : Nat} {bs : List UInt8} {pos : Nat} (h : RdAt w b A cap bs pos) : b < w.heap.size := by
  obtain ⟨pr, hp⟩ := h.blk; exact (Array.getElem?_eq_some_iff.1 hp).1

theorem le4_len (v : Nat) : (Lib.leBytes 4 v).length = 4 := rfl
theorem le8_len (v : Nat) : (Lib.leBytes 8 v).length = 8 := rfl
theorem secBytes_len (p : Nat × List UInt8) : (secBytes p).length = 12 + p.2.length := by simp only [secBytes, List.length_append, le4_len, le8_len]; omega
theorem secsBytes_cons (p : Nat × List UInt8) (l : List (Nat × List UInt8)) : secsBytes (p :: l) = secBytes p ++ secsBytes l := by simp [secsBytes]
theorem secsBytes_append (k l : List (Nat × List UInt8)) : secsBytes (k ++ l) = secsBytes k ++ secsBytes l := by simp [secsBytes]
theorem secsBytes_len (l : List (Nat × List UInt8)) : 12 * l.length ≤ (secsBytes l).length := by
  induction l with
  | nil => simp [secsBytes]
  | cons p l ih => rw [secsBytes_cons, List.length_append, secBytes_len, List.length_cons]; omega
theorem secs_split {ss : List (Nat × List UInt8)} {k : Nat} {p : Nat × List UInt8} (h : ss[k]? = some p) : ss = ss.take k ++ p :: ss.drop (k + 1) := by
  have hlt := (List.getElem?_eq_some_iff.1 h).1
  have he := (List.getElem?_eq_some_iff.1 h).2
  rw [← he, List.getElem_cons_drop hlt, List.take_append_drop]
theorem secs_at {ss : List (Nat × List UInt8)} {k : Nat} {p : Nat × List UInt8} (h : ss[k]? = some p) (bs rest : List UInt8) (q : Nat) (hbs : bs.drop q = secsBytes ss ++ rest) :
    bs.drop (q + (secsBytes (ss.take k)).length) = Lib.leBytes 4 p.1 ++ (Lib.leBytes 8 p.2.length ++ (p.2 ++ (secsBytes (ss.drop (k + 1)) ++ rest))) := by
  rw [← List.drop_drop, hbs]
  conv => lhs; rw [secs_split h, secsBytes_append, secsBytes_cons]
  rw [← secs_split h, List.append_assoc, List.drop_left' rfl]
  simp only [secBytes, List.append_assoc]
theorem secs_take {ss : List (Nat × List UInt8)} {k : Nat} {p : Nat × List UInt8} (h : ss[k]? = some p) : ss.take (k + 1) = ss.take k ++ [p] := by
  have hlt := (List.getElem?_eq_some_iff.1 h).1
  have he := (List.getElem?_eq_some_iff.1 h).2
  rw [List.take_succ_eq_append_getElem hlt, he]

set_option maxRecDepth 100000 in
theorem newSorted_ok (w : World) : Calls Tryz.prog 25 #[] w fun e w' => e = .returned (.iface mwT (.pointer (some ⟨w.heap.size + 1, 0, none⟩))) ∧ MwAt w' ⟨w.heap.size + 1, 0, none⟩ w.heap.size [] ∧ Below w.heap.size w w' := by
  have hmm := @run_makeMap Tryz.prog
  go_enter Tryz.func25, Tryz.ntmps25
  go_wp2_with fail
  go_ret
  refine ⟨rfl, ⟨?_, ?_, by simp⟩, by (repeat (first | (with_reducible exact Below.refl _ _) | (with_reducible exact below_boxed _ _) | (with_reducible refine below_box ?_ _) | (with_reducible refine below_drew1 ?_) | (with_reducible refine below_drewn ?_ _) | (with_reducible refine below_bytes ?_ _ _) | (with_reducible refine below_next ?_ (by assumption)) | (with_reducible refine below_set ?_ (by first | (simp; done) | (simp; omega) | omega) _)))⟩
  · simp [go_sem]
  · exact (ImAt.made w .u32).upd (heap_alloc_old _ _ (by simp))

set_option maxRecDepth 100000 in
set_option maxHeartbeats 3200000 in
theorem MwUnmarshal_ok (b : Nat) (A : Option Addr) (cap : Nat) (bs : List UInt8) (pos : Nat) (a : Addr) (mb : Nat) (ss : List (Nat × List UInt8)) (rest : List UInt8) (hw : ∀ s ∈ ss, 8 ≤ s.1 ∧ s.1 ≤ 33554432) (hnd : (ss.map (·.1)).Nodup) (w : World)
    (hsm : bs.length ≤ 16777216) (h : RdAt w b A cap bs pos) (hbs : bs.drop pos = mwBytes ss ++ rest) (hM : MwAt w a mb []) (hab : a.block ≠ b) (hmb : mb ≠ b) (ham : a.block ≠ mb)
    (hA : ∀ g' o, A = some ⟨g', o, none⟩ → g' < w.heap.size ∧ g' ≠ a.block ∧ g' ≠ mb) :
    Calls Tryz.prog 199 #[.pointer (some a), .iface 32 (.pointer (some ⟨b, 0, none⟩))] w fun e w' => e = .returned .nilIface ∧ RdAt w' b A cap bs (pos + (mwBytes ss).length) ∧
      (∃ secs, secs.map Sec.two = ss ∧ MwAt w' a mb secs ∧ ∀ s ∈ secs, w.heap.size ≤ s.gd) ∧ Kp (fun i => i = b ∨ i = mb) w w' := by
  have hms := method_Seek
  have hbl := h.blt
  have hal := World.block_lt_of_cell? w _ hM.cell
  have hmbl := hM.map.lt
  have hlen : pos + 4 + (secsBytes ss).length ≤ bs.length := by
    have := congrArg List.length hbs
    simp only [mwBytes, List.length_drop, List.length_append, le4_len] at this
    omega
  have hsl := secsBytes_len ss
  have hbs1 : bs.drop pos = Lib.leBytes 4 ss.length ++ (secsBytes ss ++ rest) := by rw [hbs, mwBytes, List.append_assoc]
  have hbs2 : bs.drop (pos + 4) = secsBytes ss ++ rest := by rw [← List.drop_drop, hbs1]; rfl
  have hml : pos + (mwBytes ss).length = pos + 4 + (secsBytes (ss.take ss.length)).length := by rw [List.take_length]; simp only [mwBytes, List.length_append, le4_len]; omega
  have hR1 := zzRead32_ok b A cap bs pos ss.length (by omega) _ ⟨w.heap.size, 0, none⟩ (.int .u32 0) (w.alloc (.cells #[.int .u32 0] 99)) (rd_alloc h _) hbs1 (by simp [go_sem]) (by simp [go_sem]) (by show w.heap.size ≠ b; omega) (fun g' o e => by have := (hA g' o e).1; simp; omega)
  have HB := Lib.hid hbs2; have HL := Lib.hid hml; have HW := Lib.hid hw; have HN := Lib.hid hnd
  clear hbs hbs1 hbs2 hml hw hnd
  go_enter Tryz.func199, Tryz.ntmps199
  go_wp2_with fail
  refine (ToByteReadSeeker_ok _ _).mono ?_
  rintro e w0 ⟨rfl, rfl⟩
  go_wp2_with fail
  refine hR1.mono ?_
  rintro e w1 ⟨rfl, hR1, hc1, hK1⟩
  have hz1 : w.heap.size < w1.heap.size := by have := hK1.size; simp at this; omega
  have hKa : Kp (fun i => i = b ∨ i = mb) w w1 := (Kp.refl _ w).box hK1 (fun i hi => hi.elim (fun e => .inl (.inl e)) (fun e => .inr e))
  have hM1 : MwAt w1 a mb [] := (hM.kp (kp_alloc w _) id id (fun _ _ => id)).kp hK1 (by simp; omega) (by simp; omega) (by simp)
  clear hK1
  go_wp2_with fail
  refine (Seek_ok b A cap bs (pos + 4) w1 hR1).mono ?_
  rintro e w2 ⟨rfl, hR2, hK2⟩
  have hz2 := hK2.size
  have hKb : Kp (fun i => i = b ∨ i = mb) w w2 := hKa.trans hK2 (fun i hi => .inl (.inl hi))
  have hM2 : MwAt w2 a mb [] := hM1.kp hK2 hab hmb (by simp)
  clear hR1 hc1 hKa hM1 hK2 hM
  have hneg : ¬ ((ss.length : Int) < 0) := by omega
  have hwrap : IntKind.i32.wrap (ss.length : Int) = (ss.length : Int) := by rw [IntKind.wrap_i32]; omega
  go_wp2_with fail
  go_loopw [9, 11] (fun vs vi wr => ∃ (k sum : Nat) (secs : List Sec), vi = .int .i64 (k : Int) ∧ vs = .int .i64 (sum : Int) ∧ k ≤ ss.length ∧ sum ≤ (k + 1) * 16777216 ∧ secs.map Sec.two = ss.take k ∧ RdAt wr b A cap bs (pos + 4 + (secsBytes (ss.take k)).length) ∧
      MwAt wr a mb secs ∧ (∀ s ∈ secs, w.heap.size < s.gd) ∧ Kp (fun i => i = b ∨ i = mb) w wr ∧ w1.heap.size ≤ wr.heap.size) (fun _ vi _ => ss.length - (intOf vi).toNat)
  case atStart => exact ⟨0, pos + 4, [], rfl, rfl, Nat.zero_le _, by omega, rfl, by simpa [secsBytes] using hR2, hM2, by simp, hKb, hz2⟩
  case round =>
    clear hR2 hM2 hKb
    obtain ⟨k, sum, secs, rfl, rfl, hk, hsum, hsecs, hR, hM, hgs, hK, hzr⟩ := hrel
    by_cases hlt : k < ss.length
    · obtain ⟨p, hp⟩ : ∃ p, ss[k]? = some p := ⟨_, List.getElem?_eq_getElem hlt⟩
      have hat := secs_at hp bs rest (pos + 4) HB.out
      have htk := secs_take hp
      have hpw := HW.out p (List.mem_of_getElem? hp)
      have hnew : ∀ s ∈ secs, s.width ≠ p.1 := by
        intro s hs e
        have h1 : s.two ∈ ss.take k := by rw [← hsecs]; exact List.mem_map.2 ⟨s, hs, rfl⟩
        obtain ⟨j, hj⟩ := List.getElem?_of_mem h1
        have hjk := (List.getElem?_eq_some_iff.1 hj).1
        rw [List.length_take] at hjk
        have hj2 : ss[j]? = some s.two := by rw [List.getElem?_take] at hj; split at hj; exact hj; cases hj
        have e2 : (ss.map (·.1))[j]? = (ss.map (·.1))[k]? := by rw [List.getElem?_map, List.getElem?_map, hj2, hp]; simp [Sec.two, e]
        have := (List.getElem?_inj (i := j) (j := k) (by simp; omega) HN.out).1 e2
        omega
      obtain ⟨width, data⟩ := p
      simp only at hat hpw hnew
      have hplen := congrArg List.length hat
      simp only [List.length_drop, List.length_append, le4_len, le8_len] at hplen
      have hpl : (secsBytes (ss.take (k + 1))).length = (secsBytes (ss.take k)).length + (12 + data.length) := by rw [htk, secsBytes_append, List.length_append]; simp [secsBytes, secBytes_len]
      have hbd : pos + 4 + (secsBytes (ss.take k)).length + 12 + data.length ≤ bs.length := by omega
      obtain ⟨pk, hpk⟩ : ∃ pk, pk = pos + 4 + (secsBytes (ss.take k)).length := ⟨_, rfl⟩
      rw [← hpk] at hR hat hbd
      have HPL : Hid (pos + 4 + (secsBytes (ss.take (k + 1))).length = pk + 12 + data.length) := Lib.hid (by omega)
      have HT := Lib.hid htk; have HSS := Lib.hid hsecs; have HNW := Lib.hid hnew
      clear hpk htk hpl hplen hsecs hnew hp
      obtain ⟨h8, hw⟩ := hpw
      have hbr := hR.blt
      have hSw := SwUnmarshal_ok b A cap bs pk wr.heap.size width data _ h8 hw (.int .u32 0) (.int .u64 0) (.slice none 0 0) (wr.alloc (.cells #[.int .u32 0, .int .u64 0, .slice none 0 0] 271)) (rd_alloc hR _) hat (heap_alloc_last _ _) (by omega) (fun g' o e => by have := (hA g' o e).1; simp; omega)
      clear hat hR
      go_wp2_with fail
      refine hSw.mono ?_
      clear hSw
      rintro e w3 ⟨rfl, hR3, ⟨gd, hgd, hs3, hd3⟩, hK3⟩
      have hz3 : wr.heap.size < w3.heap.size := by have := hK3.size; simp at this; omega
      have hKc : Kp (fun i => i = b ∨ i = mb) w w3 := hK.box hK3 (fun i hi => hi.elim (fun e => .inl (.inl e)) (fun e => .inr e))
      have hal2 := World.block_lt_of_cell? wr _ hM.cell
      have hml2 := hM.map.lt
      have hM3 : MwAt w3 a mb secs := (hM.kp (kp_alloc wr _) id id (fun _ _ => id)).kp hK3 (by simp; omega) (by simp; omega) (fun s hs => by have := hgs s hs; have := (Array.getElem?_eq_some_iff.1 (hM.row s hs)).1; simp; omega)
      have hgd' : wr.heap.size + 1 ≤ gd := by simpa using hgd
      clear hgd hK hM hK3
      go_wp2_with fail
      refine (Seek_ok b A cap bs _ w3 hR3).mono ?_
      rintro e w4 ⟨rfl, hR4, hK4⟩
      have hz4 := hK4.size
      have hKd : Kp (fun i => i = b ∨ i = mb) w w4 := hKc.trans hK4 (fun i hi => .inl (.inl hi))
      have hM4 : MwAt w4 a mb secs := hM3.kp hK4 hab hmb (fun s hs => by have := hgs s hs; omega)
      have hs4 : SwAt w4 wr.heap.size width (data.length / width) (.slice (some ⟨gd, 0, none⟩) data.length data.length) := (hK4.block _ hz3 (by omega)).trans hs3
      have hd4 := (hK4.block gd (Array.getElem?_eq_some_iff.1 hd3).1 (by omega)).trans hd3
      have hgd4 : gd < w4.heap.size := (Array.getElem?_eq_some_iff.1 hd4).1
      clear hR3 hKc hM3 hK4 hs3 hd3
      obtain ⟨ln, hln⟩ : ∃ ln, ln = data.length / width := ⟨_, rfl⟩
      rw [← hln] at hs4
      have HLN := Lib.hid hln; clear hln
      have ci := hM4.cell
      have s0 := (blk_cell' hs4 0).trans (show _ = some (Value.int .u32 (width : Int)) from rfl)
      have s1 := (blk_cell' hs4 1).trans (show _ = some (Value.int .u64 (ln : Int)) from rfl)
      have s2 := (blk_cell' hs4 2).trans (show _ = some (Value.slice (some ⟨gd, 0, none⟩) data.length data.length) from rfl)
      obtain ⟨om, hmu, him⟩ := hM4.map.put (P := Tryz.prog) Tryz.underlying113 Tryz.underlying99 (width : Int) (.agg #[.int .u32 (width : Int), .int .u64 (ln : Int), .slice (some ⟨gd, 0, none⟩) data.length data.length])
      have hmu1 := hmu w4.drew rfl
      have him1 := him w4.drew rfl
      have hm4 := hM4.map.lt
      have HIM := Lib.hid him1; have HMM := Lib.hid hM4
      clear hmu him him1 hM4
      have hsum' : ¬ ((sum : Int) + ((pk + 12 + data.length : Nat) : Int) < (sum : Int)) := by omega
      have hsw : IntKind.i64.wrap ((sum : Int) + ((pk + 12 + data.length : Nat) : Int)) = ((sum + (pk + 12 + data.length) : Nat) : Int) := by rw [IntKind.wrap_i64]; omega
      go_wp2_with fail
      go_region
      go_wp2_with fail
      go_roundw
      case rel =>
        have hval : (Sec.mk width data gd).val = .agg #[.int .u32 (width : Int), .int .u64 (ln : Int), .slice (some ⟨gd, 0, none⟩) data.length data.length] := by unfold Sec.val; rw [HLN.out]
        have hput : iput (secs.map Sec.pair) (width : Int) (.agg #[.int .u32 (width : Int), .int .u64 (ln : Int), .slice (some ⟨gd, 0, none⟩) data.length data.length]) = (secs ++ [Sec.mk width data gd]).map Sec.pair := by
          rw [iput_new, List.map_append, List.map_cons, List.map_nil, Sec.pair, hval]
          intro q hq e
          obtain ⟨s, hs, rfl⟩ := List.mem_map.1 hq
          simp only [Sec.pair] at e
          exact HNW.out s hs (by omega)
        have hi := HIM.out
        rw [hput] at hi
        have hkk : Kp (fun i => i = mb) w4 (setBlock w4.drew mb om) := (Kp.refl _ w4).drew.trans (kp_setBlk (w := w4.drew) om) (fun i hi => .inl hi)
        refine ⟨k + 1, sum + (pk + 12 + data.length), secs ++ [Sec.mk width data gd], by go_num, by first | rfl | go_num, by omega, by omega, by rw [List.map_append, HSS.out, HT.out]; rfl, ?_, ⟨?_, hi, ?_⟩, ?_, hKd.trans hkk (fun i hi => .inl (.inr hi)), by rw [setBlk_size]; show w1.heap.size ≤ w4.heap.size; omega⟩
        · rw [HPL.out]; exact hR4.keep hkk (fun e => hmb e.symm) (fun g' o e => (hA g' o e).2.2)
        · exact (hkk.cell (World.block_lt_of_cell? w4 _ ci) ham).trans ci
        · intro s hs
          rcases List.mem_append.1 hs with hs | hs
          · have hr := HMM.out.row s hs
            refine (hkk.block _ (Array.getElem?_eq_some_iff.1 hr).1 ?_).trans hr
            have := hgs s hs; omega
          · rw [List.mem_singleton] at hs; subst hs
            exact (hkk.block _ hgd4 (by show gd ≠ mb; omega)).trans hd4
        · intro s hs
          rcases List.mem_append.1 hs with hs | hs
          · exact hgs s hs
          · rw [List.mem_singleton] at hs; subst hs; show w.heap.size < gd; omega
      case measure => simp [intOf]; omega
    · obtain rfl : k = ss.length := by omega
      go_wp2_with fail
      go_ret
      rw [List.take_length] at hsecs
      exact ⟨rfl, by rw [HL.out]; exact hR, ⟨secs, hsecs, hM, fun s hs => Nat.le_of_lt (hgs s hs)⟩, hK⟩
end Go.Proofs.YtfjclhfhbclbhaaGreatDoor
