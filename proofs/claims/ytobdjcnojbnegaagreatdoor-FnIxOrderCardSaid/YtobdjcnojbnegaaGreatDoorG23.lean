import Derived.Test.YtobdjcnojbnegaaGreatDoorG13
import Derived.Test.YtobdjcnojbnegaaGreatDoorG07
import Derived.Test.YtobdjcnojbnegaaGreatDoorG22
import Derived.Test.YtobdjcnojbnegaaGreatDoorG16
import Derived.Deep.CutBlock
import Derived.Deep.DeepCutAuto
/- MultihashIndexSorted.Load of one record. -/
namespace Go.Proofs.YtobdjcnojbnegaaGreatDoor
open Go.RowKit
set_option linter.unusedVariables false
set_option linter.unusedSimpArgs false
attribute [local go_sem] setCell_drewN alloc_drewN

theorem info_recC : (Tryz.prog.info? 89).map (fun i => (i.zero, i.size, i.bytes)) = some (some (.agg #[.string ⟨#[]⟩, .int .u64 0]), 2, 24) := by kernel_rfl
theorem byCodeZero (W : World) : (zeroValue 83).run Tryz.prog W = .ok (.slice none 0 0) W := by kernel_rfl
theorem makeRecsC (W : World) : (Instr.makeSlice 83 (.int .i64 0) (.int .i64 0)).run Tryz.prog W = .ok (.slice (some ⟨W.heap.size, 0, none⟩) 0 0) (W.alloc (.cells #[] 89)) := by
  obtain ⟨i0, hi, hz0, hz1, hz2⟩ := info_parts info_recC
  have h := run_make (P := Tryz.prog) W 83 89 i0 _ Tryz.underlying83 hi hz0 .i64 .i64 0 0 (by omega) (by omega) (by omega) (by omega)
  rw [hz1] at h
  simp only [Int.toNat_zero, Nat.zero_mul] at h
  rw [h, show madeCells (Value.agg #[.string ⟨#[]⟩, .int .u64 0]).cells 0 = #[] from Array.eq_empty_of_size_eq_zero (size_madeCells _ _)]

set_option maxRecDepth 100000 in
set_option maxHeartbeats 6400000 in
theorem MhLoad_one (a : Addr) (mk gr cap off : Nat) (c : CidOf) (hc : c.Ok) (hd : 0 < c.dig.length) (hoff : off < 18446744073709551616) (w : World) (hM : MhAt w a mk []) (ham : a.block ≠ mk) (r0 : w.cell? ⟨gr, 0, none⟩ = some (.string c.str)) (r1 : w.cell? ⟨gr, 1, none⟩ = some (.int .u64 (off : Int))) :
    Calls Tryz.prog 190 #[.pointer (some a), .slice (some ⟨gr, 0, none⟩) 1 cap] w fun e w' =>
      e = .returned .nilIface ∧ (∃ cb mb gd, w.heap.size ≤ cb ∧ w.heap.size ≤ mb ∧ w.heap.size ≤ gd ∧ MhAt w' a mk [⟨c.code, cb, mb, [⟨c.dig.length + 8, c.dig ++ Lib.leBytes 8 off, gd⟩]⟩]) ∧ Kp (fun i => i = mk) w w' := by
  have hmm := @run_makeMap Tryz.prog
  obtain ⟨i0, ti, tz0, tz1, tz2⟩ := info_parts info_recC
  have hdl := hc.dig
  have hgr : gr < w.heap.size := World.block_lt_of_cell? w _ r0
  have hal := World.block_lt_of_cell? w _ hM.cell
  have hmkl := hM.map.lt
  go_enter Tryz.func190, Tryz.ntmps190
  go_wp2_with fail
  refine wp_loop_rounds 2 ?_
  rw [rounds_succ]
  go_wp2_with fail
  refine (Hash_ok c hc _).mono ?_
  rintro e w1 ⟨A1, c1, rfl, hc1, hA1, hB1, hF1, hb1⟩
  go_wp2_with fail
  refine (Decode_ok c.code hc.code c.dig (by omega) A1 _ c1 _ hA1 rfl hc1).mono ?_
  rintro e w2 ⟨g, A2, c2, rfl, hc2, hS2, hb2, hg2, hblk⟩
  have hb12 := below_next hb1 hb2
  have hbw : Below w.heap.size w w2 := by (repeat (first | (with_reducible exact Below.refl _ _) | (with_reducible exact below_boxed _ _) | (with_reducible refine below_box ?_ _) | (with_reducible refine below_drew1 ?_) | (with_reducible refine below_drewn ?_ _) | (with_reducible refine below_bytes ?_ _ _) | (with_reducible refine below_next ?_ (by assumption)) | (with_reducible refine below_set ?_ (by first | (simp; done) | (simp; omega) | omega) _)))
  have hmi : ((w.alloc (.map #[] 0)).alloc (.cells #[.string c.str, .int .u64 (off : Int)] 89)).heap[w.heap.size]? = some (.map #[] 0) := by rw [heap_alloc_old _ _ (by simp), heap_alloc_last]
  have hIm2 : ImAt w2 w.heap.size .u64 [] := (ImAt.made w .u64).upd ((hb12.block _ (by simp; omega)).trans (hmi.trans (heap_alloc_new w _).symm))
  have hbox : w2.heap[w.heap.size + 1]? = some (.cells #[.string c.str, .int .u64 (off : Int)] 89 (0, 0)) := by
    refine (hb12.block _ (by simp)).trans ?_
    have h2 := heap_alloc_last (w.alloc (.map #[] 0)) (.cells #[.string c.str, .int .u64 (off : Int)] 89)
    have h3 : (w.alloc (.map #[] 0)).heap.size = w.heap.size + 1 := by simp
    rw [h3] at h2
    exact h2
  have k0 : w2.cell? ⟨g, 0, none⟩ = some (.int .u64 (c.code : Int)) := by simp [World.cell?, hblk]
  have hM2 : MhAt w2 a mk [] := hM.kp (S := fun _ => False) (Kp.of_below hbw) id id (fun _ _ => ⟨id, id, fun _ _ => id⟩)
  have hz2 : w.heap.size + 1 < w2.heap.size := (Array.getElem?_eq_some_iff.1 hbox).1
  have hlk2 := hIm2.look_no (P := Tryz.prog) Tryz.underlying279 Tryz.underlying23 (k := (c.code : Int)) rfl true _ byCodeZero
  simp only [if_true] at hlk2
  have hmr := makeRecsC
  have hown2 : (w2.alloc (.cells #[] 89)).ownsRow w2.heap.size 89 2 (.slice (some ⟨w2.heap.size, 0, none⟩) 0 0) 0 [] := World.ownsRow_made w2 #[] 0 (Nat.le_refl _) (Nat.zero_le _) rfl
  have HB := Lib.hid hbw; have HM2 := Lib.hid hM2
  clear hb1 hb2 hb12 hmi hblk hA1 hB1 hF1 hS2 hM hbw hM2
  go_wp2_with (at_mapUpdate; refine step_put_im rfl _ _ _ 279 rfl Tryz.underlying279 Tryz.underlying23 rfl (hIm2.upd (heap_alloc_old w2 _ hIm2.lt)) (k := (c.code : Int)) (val := .slice (some ⟨w2.heap.size, 0, none⟩) 0 0) rfl rfl ?_; intro w3 hIm3 hK3 hs3; refine later ?_)
  have hs3' : w3.heap.size = w2.heap.size + 1 := by simpa using hs3
  have hbox3 : w3.heap[w.heap.size + 1]? = some (.cells #[.string c.str, .int .u64 (off : Int)] 89 (0, 0)) := (hK3.block _ (by simp; omega) (by omega)).trans ((heap_alloc_old w2 _ hz2).trans hbox)
  have kb0 := (blk_cell' hbox3 0).trans (show _ = some (Value.string c.str) from rfl)
  have kb1 := (blk_cell' hbox3 1).trans (show _ = some (Value.int .u64 (off : Int)) from rfl)
  have hown3 := own_kp hown2 hK3 (fun g' e h => by cases e; exact absurd h (by show ¬ w2.heap.size = w.heap.size; omega))
  have HB3 : Hid (Kp (fun i => i = w.heap.size) w2 w3) := Lib.hid ((kp_alloc w2 _).mono (S' := fun i => i = w.heap.size) (fun _ h => h.elim) |>.trans hK3 (fun i h => .inl h))
  have hz3 : w2.heap.size < w3.heap.size := by omega
  clear hs3 hs3' hlk2 hIm2 hown2 hK3 hmr hmm hbox hbox3 k0
  refine now ?_
  go_wp2_with (at_builtin; refine wpList_append_own _ rfl _ _ 83 rfl w2.heap.size 89 i0 (.agg #[.string ⟨#[]⟩, .int .u64 0]) 2 24 Tryz.underlying83 ti tz0 tz1 tz2 rfl (by decide) _ _ _ rfl (hown3.alloc _) ⟨w3.heap.size, 0, none⟩ 1 1 [.string c.str, .int .u64 (off : Int)] rfl rfl ?c1 ?c2 ?c3 ?c4 ?c5 ?_)
  case c1 =>
    intro j u hj
    match j, hj with
    | 0, hj => simp at hj; subst hj; simp [Addr.add]
    | 1, hj => simp at hj; subst hj; simp [Addr.add]
  case c2 =>
    intro u hu
    simp only [List.mem_cons, List.not_mem_nil, or_false] at hu
    rcases hu with rfl | rfl <;> rfl
  case c3 => unfold maxLen; omega
  case c4 => omega
  case c5 => simp; omega
  intro v4 w4 hown4 hgrow hn4
  refine later ?_
  have hk34 : Kp (fun i => i = w2.heap.size) w3 w4 := (kp_alloc w3 _).mono (S' := fun i => i = w2.heap.size) (fun _ h => h.elim) |>.trans (kp_grown hgrow) (fun i h => .inl (by simpa [Value.ownBlock] using h))
  have hIm4 := hIm3.kp hk34 (by omega)
  obtain ⟨g4, cap4, cur4, rfl, hge4, hg4, hle4, hcm4, hcs4, htk4⟩ : ∃ g cap cur, v4 = .slice (some ⟨g, 0, none⟩) 1 cap ∧ w2.heap.size ≤ g ∧ w4.heap[g]? = some (.cells cur 89 (0, 0)) ∧ 1 ≤ cap ∧ cap ≤ maxLen ∧ cur.size = cap * 2 ∧ cur.toList.take (1 * 2) = [.string c.str, .int .u64 (off : Int)] := by
    rcases hown4.2 with ⟨_, h⟩ | h
    · cases h
    · exact h
  have hz4 : w3.heap.size < w4.heap.size := by have := hgrow.size; simp at this; omega
  clear hIm3 hown3 hown4 hgrow hn4 kb0 kb1
  refine now ?_
  go_wp2_with (at_mapUpdate; refine step_put_im rfl _ _ _ 279 rfl Tryz.underlying279 Tryz.underlying23 rfl hIm4 (k := (c.code : Int)) (val := .slice (some ⟨g4, 0, none⟩) 1 cap4) rfl rfl ?_; intro w5 hIm5 hK5 hs5; refine later ?_)
  have hIm5' : ImAt w5 w.heap.size .u64 [((c.code : Int), .slice (some ⟨g4, 0, none⟩) 1 cap4)] := by simpa [iput] using hIm5
  have hg5 : w5.heap[g4]? = some (.cells cur4 89 (0, 0)) := (hK5.block g4 (Array.getElem?_eq_some_iff.1 hg4).1 (by omega)).trans hg4
  have HB5 : Hid (Kp (fun i => i = w.heap.size ∨ i = w2.heap.size) w2 w5) := Lib.hid ((HB3.out.mono (S' := fun i => i = w.heap.size ∨ i = w2.heap.size) (fun i h => .inl (.inl h))).trans (S' := fun i => i = w.heap.size ∨ i = w2.heap.size) ((hk34.mono (S' := fun i => i = w.heap.size ∨ i = w2.heap.size) (fun i h => .inl (.inr h))).trans hK5 (fun i h => .inl (.inl h))) (fun i h => .inl h))
  have hz5 : w5.heap.size = w4.heap.size := hs5
  have hzz : w2.heap.size < w5.heap.size := by omega
  clear hIm4 hIm5 hK5 hs5 hk34 hg4 HB3 hz5 hz4 hz3
  refine now ?_
  go_wp2_with fail
  rw [rounds_succ]
  go_wp2_with (at_range; refine step_range_im rfl _ 279 rfl Tryz.underlying279 rfl hIm5' ?_; intro w6 hIt6 hb6 hs6; refine later ?_)
  have hg6 : w6.heap[g4]? = some (.cells cur4 89 (0, 0)) := (hb6.block g4 (Array.getElem?_eq_some_iff.1 hg5).1).trans hg5
  have HB6 : Hid (Kp (fun i => i = w.heap.size ∨ i = w2.heap.size) w2 w6) := Lib.hid (HB5.out.trans (S' := fun _ => False) (Kp.of_below hb6) (fun _ h => h.elim))
  have hr6 : w2.heap.size < w5.heap.size := hzz
  generalize w5.heap.size = r at *
  have hrw : r < w6.heap.size := by omega
  clear hIm5' hg5 hb6 HB5 hzz hs6
  refine now ?_
  go_wp2_with fail
  refine wp_loop_rounds 2 ?_
  rw [rounds_succ]
  go_wp2_with (at_next; refine step_next_im rfl _ rfl rfl hIt6 (fun hp => later ?_) (fun p w7 hpm hdl hIt7 hK7 hs7 hen => later ?_))
  · exact absurd hp.length_eq (by simp)
  · obtain rfl : p = ((c.code : Int), .slice (some ⟨g4, 0, none⟩) 1 cap4) := by simpa using hpm
    have hg4r : g4 ≠ r := by
      intro e
      obtain ⟨es, clock, since, seen, c0, h1, h2, h3⟩ := hIt6
      rw [e, h2] at hg6; cases hg6
    have hg7 : w7.heap[g4]? = some (.cells cur4 89 (0, 0)) := (hK7.block g4 (Array.getElem?_eq_some_iff.1 hg6).1 hg4r).trans hg6
    have HB7 : Hid (Kp (fun i => i = w.heap.size ∨ i = w2.heap.size) w2 w7) := Lib.hid (HB6.out.trans hK7 (fun i h => .inr (by omega)))
    have hrw7 : r < w7.heap.size := by omega
    have hIt7' : ItAt w7 r w.heap.size .u64 [((c.code : Int), .slice (some ⟨g4, 0, none⟩) 1 cap4)] [((c.code : Int), .slice (some ⟨g4, 0, none⟩) 1 cap4)] := hIt7
    clear hg6 hIt6 hpm hdl hIt7 hK7 hs7 hrw HB6
    refine now ?_
    go_wp2_with fail
    refine (newMwci_ok _).mono ?_
    rintro e w8 ⟨rfl, hC8, hf8, hz8, hb8⟩
    have cc8 := hC8.code
    have hg47 : g4 < w7.heap.size := (Array.getElem?_eq_some_iff.1 hg7).1
    have hw7 : w2.heap.size ≤ w7.heap.size := HB7.out.size
    have hg8 : w8.heap[g4]? = some (.cells cur4 89 (0, 0)) := (hb8.block _ hg47).trans hg7
    go_wp2_with fail
    have hks : Kp (fun i => i = w7.heap.size + 1) w8 (w8.setCell ⟨w7.heap.size + 1, 1, none⟩ (.int .u64 (c.code : Int))) := kp_set w8 ⟨w7.heap.size + 1, 1, none⟩ _
    have hM9 : MwAt (w8.setCell ⟨w7.heap.size + 1, 1, none⟩ (.int .u64 (c.code : Int))) ⟨w7.heap.size + 1, 0, none⟩ w7.heap.size [] := ⟨(World.cell?_setCell_other w8 _ _ _ (by simp)).trans hC8.mw.cell, hC8.mw.map.kp hks (fun e => by have e' : w7.heap.size = w7.heap.size + 1 := e; omega), by simp⟩
    have hc9 : (w8.setCell ⟨w7.heap.size + 1, 1, none⟩ (.int .u64 (c.code : Int))).cell? ⟨w7.heap.size + 1, 1, none⟩ = some (.int .u64 (c.code : Int)) := World.cell?_setCell_same' w8 _ _ (by rw [cc8]; rfl)
    have hg9 : (w8.setCell ⟨w7.heap.size + 1, 1, none⟩ (.int .u64 (c.code : Int))).heap[g4]? = some (.cells cur4 89 (0, 0)) := (hks.block _ (by have := hb8.size; omega) (fun e => by have e' : g4 = w7.heap.size + 1 := e; omega)).trans hg8
    have hB9 : Below w7.heap.size w7 (w8.setCell ⟨w7.heap.size + 1, 1, none⟩ (.int .u64 (c.code : Int))) := hks.to_below hb8 (fun i e => by have e' : i = w7.heap.size + 1 := e; omega)
    generalize w8.setCell ⟨w7.heap.size + 1, 1, none⟩ (.int .u64 (c.code : Int)) = w9 at *
    have q0 : w9.cell? ⟨g4, 0, none⟩ = some (.string c.str) := by
      rw [blk_cell' hg9 0]
      have : cur4.toList[0]? = some (.string c.str) := by
        have h := congrArg (fun l => l[0]?) htk4
        simpa using h
      simpa using this
    have q1 : w9.cell? ⟨g4, 1, none⟩ = some (.int .u64 (off : Int)) := by
      rw [blk_cell' hg9 1]
      have : cur4.toList[1]? = some (.int .u64 (off : Int)) := by
        have h := congrArg (fun l => l[1]?) htk4
        simpa using h
      simpa using this
    refine (MwLoad_one ⟨w7.heap.size + 1, 0, none⟩ w7.heap.size g4 cap4 off c hc hd hoff w9 hM9 (by show w7.heap.size + 1 ≠ w7.heap.size; omega) q0 q1).mono ?_
    rintro e w10 ⟨rfl, ⟨gd, hgd, hM10⟩, hK10⟩
    go_wp2_with fail
    have hz9 := hB9.size
    have hz10 := hK10.size
    have hM210 : MhAt w10 a mk [] := ((HM2.out.kp HB7.out (by omega) (by omega) (by simp)).kp (S := fun _ => False) (Kp.of_below hB9) id id (by simp)).kp hK10 (by omega) (by omega) (by simp)
    have hcbl := World.block_lt_of_cell? w9 _ hc9
    have hC10 : CodAt w10 ⟨c.code, w7.heap.size + 1, w7.heap.size, [⟨c.dig.length + 8, c.dig ++ Lib.leBytes 8 off, gd⟩]⟩ := ⟨hM10, (hK10.cell (p := ⟨w7.heap.size + 1, 1, none⟩) hcbl (by show ¬ (w7.heap.size + 1 = w7.heap.size); omega)).trans hc9⟩
    have hP := MhPut_ok a mk [] _ w10 hM210 hC10 (by simp) ham ⟨by show mk ≠ w7.heap.size + 1; omega, by show mk ≠ w7.heap.size; omega, by simp; omega⟩ (by simp)
    refine hP.mono ?_
    rintro e w11 ⟨rfl, hM11, hK11⟩
    go_wp2_with fail
    have hIt11 := ((hIt7'.kp (S := fun _ => False) (Kp.of_below hB9) id id).kp hK10 (by omega) (by omega)).kp hK11 (by omega) (by omega)
    have hBB := HB.out
    rw [rounds_succ]
    go_wp2_with (at_next; refine step_next_im rfl _ rfl rfl hIt11 (fun hp => later ?_) (fun p w12 hpm hdl hIt12 hK12 hs12 hen => later ?_))
    · refine now ?_
      go_wp2_with fail
      go_ret
      refine ⟨rfl, ⟨w7.heap.size + 1, w7.heap.size, gd, by omega, by omega, by omega, hM11⟩, ?_⟩
      have h7 : Kp (fun i => i = mk) w w7 := (Kp.of_below (S := fun i => i = mk) hBB).trans HB7.out (fun i h => .inr (by omega))
      have h9 := h7.trans (S' := fun _ => False) (Kp.of_below hB9) (fun _ h => h.elim)
      exact (h9.trans hK10 (fun i h => .inr (by omega))).trans hK11 (fun i h => .inl h)
    · exact absurd hdl (by simp)
end Go.Proofs.YtobdjcnojbnegaaGreatDoor

/- MultihashIndexSorted.Load of any records. -/
namespace Go.Proofs.YtobdjcnojbnegaaGreatDoor
open Go.RowKit
set_option linter.unusedVariables false
set_option linter.unusedSimpArgs false
attribute [local go_sem] setCell_drewN alloc_drewN

def recC (x : CidOf × Int) : List Value := [.string x.1.str, .int .u64 x.2]
def codeKey (x : CidOf × Int) : Int := (x.1.code : Int)
def recCT : TypeId := 89

theorem recC_get : ∀ (l : Ents) (i : Nat) (x : CidOf × Int), l[i]? = some x → (l.flatMap recC)[i * 2]? = some (.string x.1.str) ∧ (l.flatMap recC)[i * 2 + 1]? = some (.int .u64 x.2)
  | [], i, x, h => by simp at h
  | y :: l, 0, x, h => by simp at h; subst h; simp [recC]
  | y :: l, i + 1, x, h => by
    have ih := recC_get l i x (by simpa using h)
    have hl : (recC y).length = 2 := rfl
    rw [List.flatMap_cons, List.getElem?_append_right (by omega), List.getElem?_append_right (by omega), hl, show (i + 1) * 2 - 2 = i * 2 by omega, show (i + 1) * 2 + 1 - 2 = i * 2 + 1 by omega]
    exact ih
theorem own_recs {w : World} {z g n cap : Nat} {e : TypeId} {l : Ents} (h : w.ownsRow z e 2 (.slice (some ⟨g, 0, none⟩) n cap) n (l.flatMap recC)) : RecsAt w (some ⟨g, 0, none⟩) l := by
  refine .inr ⟨g, rfl, fun i x hx => ?_⟩
  have hc := h.cells (g := g) rfl
  obtain ⟨h1, h2⟩ := recC_get l i x hx
  have e1 := hc _ _ h1
  have e2 := hc _ _ h2
  rw [Addr.add_mid] at e1 e2
  simpa using And.intro e1 e2

/-- What stands behind some codes while an index is loaded. -/
structure LmI (w : World) (a : Addr) (mk rI : Nat) (Gs : List (Grp (CidOf × Int))) (wx : World) (dg : List (Grp (CidOf × Int))) (cs : List Cod) : Prop where
  it : ItAt wx rI w.heap.size .u64 (Gs.map Grp.pair) (dg.map Grp.pair)
  sub : ∀ G ∈ dg, G ∈ Gs
  mw : MhAt wx a mk cs
  gd : ∀ c ∈ cs, rI < c.cb ∧ rI < c.mb ∧ ∀ s ∈ c.secs, rI < s.gd
  wid : cs.map Cod.code = dg.map (fun G => G.key.toNat)
  sec : ∀ c ∈ cs, ∃ G ∈ dg, c.code = G.key.toNat ∧ SecsFor G.items c.secs
  rows : ∀ G ∈ Gs, wx.ownsRow w.heap.size recCT 2 G.val G.items.length (G.items.flatMap recC)
  kp : Kp (fun i => i = mk) w wx
  lt : rI < wx.heap.size
theorem LmI.fin {w wx : World} {a : Addr} {mk rI : Nat} {Gs dg : List (Grp (CidOf × Int))} {cs : List Cod} {l : Ents} (h : LmI w a mk rI Gs wx dg cs) (hp : (dg.map Grp.pair).Perm (Gs.map Grp.pair)) (hG : Grouped codeKey Gs l) : CodsFor l cs := by
  refine ⟨fun c hc => ?_, fun x hx => ?_, h.mw.nodup⟩
  · obtain ⟨G, hGd, h1, h2⟩ := h.sec c hc
    have hGs := h.sub G hGd
    obtain ⟨x, hx, hk⟩ := hG.ne G hGs
    have hkey : c.code = x.1.code := by rw [h1, ← hk]; simp [codeKey]
    refine ⟨?_, x, hx, hkey.symm⟩
    have e : G.items = codedOf l c.code := by
      rw [hG.eq G hGs, codedOf]
      refine List.filter_congr fun y _ => ?_
      rw [hkey]
      simp only [hasCode, ← hk, codeKey, Int.natCast_inj]
    rw [← e]; exact h2
  · obtain ⟨G, hGs, hk⟩ := hG.all x hx
    obtain ⟨G', hG', e⟩ := List.mem_map.1 (hp.mem_iff.2 (List.mem_map_of_mem (f := Grp.pair) hGs))
    have e2 : G'.key = G.key := congrArg Prod.fst e
    have hm : G'.key.toNat ∈ cs.map Cod.code := by rw [h.wid]; exact List.mem_map.2 ⟨G', hG', rfl⟩
    obtain ⟨c, hc, e3⟩ := List.mem_map.1 hm
    refine ⟨c, hc, ?_⟩
    rw [e3, e2, hk]; simp [codeKey]

set_option maxRecDepth 100000 in
set_option maxHeartbeats 12800000 in
theorem MhLoad_ok (a : Addr) (mk cap : Nat) (A : Option Addr) (l : Ents) (hl : ∀ x ∈ l, x.1.Ok) (ho : ∀ x ∈ l, 0 ≤ x.2 ∧ x.2 < 18446744073709551616) (hlen : l.length ≤ 100000) (w : World) (hM : MhAt w a mk []) (ham : a.block ≠ mk) (hR : RecsAt w A l) :
    Calls Tryz.prog 190 #[.pointer (some a), .slice A l.length cap] w fun e w' =>
      e = .returned .nilIface ∧ (∃ cs, CodsFor l cs ∧ (∀ c ∈ cs, w.heap.size ≤ c.cb ∧ w.heap.size ≤ c.mb ∧ ∀ s ∈ c.secs, w.heap.size ≤ s.gd) ∧ MhAt w' a mk cs) ∧ Kp (fun i => i = mk) w w' := by
  have hmm := @run_makeMap Tryz.prog
  obtain ⟨i0, ti, tz0, tz1, tz2⟩ := info_parts info_recC
  have hal := World.block_lt_of_cell? w _ hM.cell
  have hmkl := hM.map.lt
  have HM := Lib.hid hM; have HL := Lib.hid hl; have HO := Lib.hid ho
  have HG0 : Hid (GrpsAt recC (w.alloc (.map #[] 0)) w.heap.size .u64 recCT w.heap.size []) := Lib.hid (GrpsAt.none w _)
  have HB0 : Hid (Below w.heap.size w (w.alloc (.map #[] 0))) := Lib.hid (below_boxed w _)
  clear hM hl ho
  go_enter Tryz.func190, Tryz.ntmps190
  go_wp2_with fail
  go_loopw [20] (fun vi wr => ∃ (k : Nat) (Gs : List (Grp (CidOf × Int))), k ≤ l.length ∧ vi = .int .i64 (k : Int) ∧ GrpsAt recC wr w.heap.size .u64 recCT w.heap.size Gs ∧ Grouped codeKey Gs (l.take k) ∧ Below w.heap.size w wr) (fun vi _ => l.length - (intOf vi).toNat)
  case atStart => exact ⟨0, [], Nat.zero_le _, rfl, HG0.out, Grouped.none, HB0.out⟩
  case round =>
    obtain ⟨k, Gs, hk, rfl, hG, hGr, hB⟩ := hrel
    have hmi := hG.im.lt
    by_cases hlt : k < l.length
    · obtain ⟨x, hx⟩ : ∃ x, l[k]? = some x := ⟨_, List.getElem?_eq_getElem hlt⟩
      have hxl := List.mem_of_getElem? hx
      obtain ⟨gr, rfl, r0, r1⟩ : ∃ gr, A = some ⟨gr, 0, none⟩ ∧ wr.cell? ⟨gr, k * 2, none⟩ = some (.string x.1.str) ∧ wr.cell? ⟨gr, k * 2 + 1, none⟩ = some (.int .u64 x.2) := by
        rcases hR.below hB with h | ⟨gr, e, hc⟩
        · subst h; simp at hlt
        · exact ⟨gr, e, (hc k x hx).1, (hc k x hx).2⟩
      have hgr : gr < wr.heap.size := World.block_lt_of_cell? wr _ r0
      have hc := HL.out x hxl
      have hdl := hc.dig
      have HG := Lib.hid hG; have HGr := Lib.hid hGr; have HB := Lib.hid hB
      obtain ⟨wo, rfl⟩ : ∃ wo, wo = wr := ⟨_, rfl⟩
      clear hG hGr hB HG0 HB0 hR
      go_wp2_with fail
      refine (Hash_ok x.1 hc _).mono ?_
      rintro e w1 ⟨A1, c1, rfl, hc1, hA1, hB1, hF1, hb1⟩
      go_wp2_with fail
      refine (Decode_ok x.1.code hc.code x.1.dig (by omega) A1 _ c1 _ hA1 rfl hc1).mono ?_
      rintro e w2 ⟨g, A2, c2, rfl, hc2, hS2, hb2, hg2, hblk⟩
      have hb12 := below_next hb1 hb2
      have hbw : Below wo.heap.size wo w2 := by (repeat (first | (with_reducible exact Below.refl _ _) | (with_reducible exact below_boxed _ _) | (with_reducible refine below_box ?_ _) | (with_reducible refine below_drew1 ?_) | (with_reducible refine below_drewn ?_ _) | (with_reducible refine below_bytes ?_ _ _) | (with_reducible refine below_next ?_ (by assumption)) | (with_reducible refine below_set ?_ (by first | (simp; done) | (simp; omega) | omega) _)))
      have krec0 : w2.cell? ⟨wo.heap.size, 0, none⟩ = some (.string x.1.str) := by
        rw [hb12.cell (p := ⟨wo.heap.size, 0, none⟩) (by simp)]
        exact blk_cell' (heap_alloc_last wo _) 0
      have krec : w2.cell? ⟨wo.heap.size, 1, none⟩ = some (.int .u64 x.2) := by
        rw [hb12.cell (p := ⟨wo.heap.size, 1, none⟩) (by simp)]
        exact blk_cell' (heap_alloc_last wo _) 1
      have k0 : w2.cell? ⟨g, 0, none⟩ = some (.int .u64 (x.1.code : Int)) := by simp [World.cell?, hblk]
      have hwo : w.heap.size ≤ wo.heap.size := HB.out.size
      have hG2 := HG.out.below hbw
      have hB2 := below_next HB.out hbw
      have hz2 : wo.heap.size < w2.heap.size := by have := hb12.size; simp at this; omega
      have hgl2 : g < w2.heap.size := (Array.getElem?_eq_some_iff.1 hblk).1
      obtain ⟨v, ok, hlk, hP⟩ : ∃ v ok, (Instr.lookup 279 (.map (some w.heap.size)) (.int .u64 (x.1.code : Int)) true).run Tryz.prog w2 = .ok (.tuple #[v, .bool ok]) w2 ∧
          ((ok = true ∧ ∃ (j : Nat) (G : Grp (CidOf × Int)), Gs[j]? = some G ∧ G.key = (x.1.code : Int) ∧ v = G.val) ∨ (ok = false ∧ ∀ G ∈ Gs, G.key ≠ (x.1.code : Int))) := by
        by_cases hex : ∃ G ∈ Gs, G.key = (x.1.code : Int)
        · obtain ⟨G, hGm, hkey⟩ := hex
          obtain ⟨j, hj⟩ := List.getElem?_of_mem hGm
          have h := hG2.im.look (P := Tryz.prog) Tryz.underlying279 Tryz.underlying23 (k := (x.1.code : Int)) (v := G.val) (by rw [← hkey]; exact grp_look hG2.keys hGm) true
          exact ⟨_, _, h, .inl ⟨rfl, j, G, hj, hkey, rfl⟩⟩
        · have hno : ∀ G ∈ Gs, G.key ≠ (x.1.code : Int) := fun G hG e => hex ⟨G, hG, e⟩
          have h := hG2.im.look_no (P := Tryz.prog) Tryz.underlying279 Tryz.underlying23 (k := (x.1.code : Int)) (grp_no hno) true _ byCodeZero
          exact ⟨_, _, h, .inr ⟨rfl, hno⟩⟩
      have HX := Lib.hid (And.intro hG2 hB2)
      clear hb1 hb2 hb12 hbw hA1 hB1 hF1 hS2 hblk hG2 hB2 r0 r1 hmm
      go_upto_if 45 with fail
      go_cut [11] (fun s11 wx => ∃ (Gs1 : List (Grp (CidOf × Int))) (j : Nat) (G : Grp (CidOf × Int)), s11 = G.val ∧ Gs1[j]? = some G ∧ G.key = (x.1.code : Int) ∧ GrpsAt recC wx w.heap.size .u64 recCT w.heap.size Gs1 ∧ GMid codeKey Gs1 (l.take k) (x.1.code : Int) ∧ wx.cell? ⟨wo.heap.size, 0, none⟩ = some (.string x.1.str) ∧ wx.cell? ⟨wo.heap.size, 1, none⟩ = some (.int .u64 x.2) ∧ Below w.heap.size w wx)
      case first =>
        rcases hP with ⟨rfl, j, G, hj, hkey, rfl⟩ | ⟨rfl, hno⟩
        · go_wp2_with fail
          go_meet
          exact ⟨Gs, j, G, rfl, hj, hkey, HX.out.1, HGr.out.old _, krec0, krec, HX.out.2⟩
        · have hG2 := HX.out.1
          have hmr := makeRecsC
          go_wp2_with (at_mapUpdate; refine step_put_im rfl _ _ _ 279 rfl Tryz.underlying279 Tryz.underlying23 rfl (hG2.im.upd (heap_alloc_old w2 _ hG2.im.lt)) (k := (x.1.code : Int)) (val := .slice (some ⟨w2.heap.size, 0, none⟩) 0 0) rfl rfl ?_; intro w3 hIm3 hK3 hs3; refine later ?_)
          have hG3 := hG2.new hno rfl (by omega) hIm3 hK3
          have hB3 : Below w.heap.size w w3 := hK3.to_below (below_box HX.out.2 _) (fun i e => by omega)
          have krec03 := (hK3.cell (p := ⟨wo.heap.size, 0, none⟩) (by simp; omega) (by show ¬ wo.heap.size = w.heap.size; have := hG2.im.lt; omega)).trans ((World.cell?_of_block (w := w2) (heap_alloc_old w2 _ hz2)).trans krec0)
          have krec3 := (hK3.cell (p := ⟨wo.heap.size, 1, none⟩) (by simp; omega) (by show ¬ wo.heap.size = w.heap.size; have := hG2.im.lt; omega)).trans ((World.cell?_of_block (w := w2) (heap_alloc_old w2 _ hz2)).trans krec)
          have HY := Lib.hid (And.intro hG3 (And.intro hB3 (And.intro krec03 krec3)))
          clear hIm3 hK3 hs3 hG3 hB3 krec03 krec3 hG2
          refine now ?_
          go_wp2_with fail
          go_meet
          exact ⟨Gs ++ [⟨(x.1.code : Int), w2.heap.size, 0, []⟩], Gs.length, ⟨(x.1.code : Int), w2.heap.size, 0, []⟩, rfl, by simp, rfl, HY.out.1, HGr.out.new hno _ _, HY.out.2.2.1, HY.out.2.2.2, HY.out.2.1⟩
      case rest =>
        clear hP hlk krec krec0 HX k0 HGr HB HG
        obtain ⟨Gs1, j, G, rfl, hj, hkey, hG1, hMid, krec0, krec1, hB1⟩ := hcut
        have hGm := List.mem_of_getElem? hj
        have hlow := hG1.lt hGm
        have hgi : G.items.length ≤ l.length := by
          rw [hMid.eq G hGm]
          have h1 := List.length_filter_le (fun x => decide (codeKey x = G.key)) (l.take k)
          rw [List.length_take] at h1
          omega
        have hwc : w.heap.size < wc.heap.size := hG1.im.lt
        have hwk : wo.heap.size < wc.heap.size := World.block_lt_of_cell? wc _ krec1
        have hown := (hG1.own G hGm).alloc (Obj.cells #[.string x.1.str, .int .u64 x.2] 89)
        have hImb : ImAt (wc.alloc (Obj.cells #[.string x.1.str, .int .u64 x.2] 89)) w.heap.size .u64 (Gs1.map Grp.pair) := hG1.im.upd (heap_alloc_old wc _ hG1.im.lt)
        have HC := Lib.hid (And.intro hG1 (And.intro hMid hB1))
        have hneG := hG1.ne hGm
        clear hMid hB1
        go_wp2_with (at_builtin; refine wpList_append_lies _ rfl _ _ 83 rfl w.heap.size 89 i0 (.agg #[.string ⟨#[]⟩, .int .u64 0]) 2 24 Tryz.underlying83 ti tz0 tz1 tz2 rfl (by decide) _ _ _ rfl hown ⟨wc.heap.size, 0, none⟩ 1 1 [.string x.1.str, .int .u64 x.2] rfl rfl ?c1 ?c2 (by decide) ?c3 ?c4 ?c5 _ rfl ?_)
        case c1 => exact two_cells wc _ _ _
        case c2 =>
          intro u hu
          simp only [List.mem_cons, List.not_mem_nil, or_false] at hu
          rcases hu with rfl | rfl <;> rfl
        case c3 => unfold maxLen; omega
        case c4 => omega
        case c5 => simp; omega
        intro g4 cap4 w4 hown4 hgrow hloc hlt4
        refine later ?_
        have hk4 := kp_grown hgrow
        have hIm4 := hImb.kp hk4 (by rw [G.own]; simpa using fun e => hneG e.symm)
        refine now ?_
        go_wp2_with (at_mapUpdate; refine step_put_im rfl _ _ _ 279 rfl Tryz.underlying279 Tryz.underlying23 rfl hIm4 (k := (x.1.code : Int)) (val := .slice (some ⟨g4, 0, none⟩) (G.items.length + 1) cap4) rfl rfl ?_; intro w5 hIm5 hK5 hs5; refine later ?_)
        have hG5 := (HC.out.1.below (below_boxed wc (Obj.cells #[.string x.1.str, .int .u64 x.2] 89))).append hj x hown4 hgrow (by rw [show (wc.alloc (Obj.cells #[.string x.1.str, .int .u64 x.2] 89)).heap.size = wc.heap.size + 1 by simp]; exact hloc) (by rw [hkey]; exact hIm5) hK5
        have hB5 : Below w.heap.size w w5 := hK5.to_below (hk4.to_below (below_box HC.out.2.2 _) (fun i e => by rw [G.own] at e; injection e with e; omega)) (fun i e => by omega)
        have hGr5 := GMid.append (x := x) HC.out.1.keys HC.out.2.1 hj hkey g4 cap4
        rw [show l.take k ++ [x] = l.take (k + 1) by rw [List.take_succ_eq_append_getElem hlt, (List.getElem?_eq_some_iff.1 hx).2]] at hGr5
        have HY := Lib.hid (And.intro hG5 (And.intro hGr5 hB5))
        clear hG5 hB5 hGr5 hIm5 hK5 hs5 hIm4 hk4 hown4 hgrow hloc hlt4 hown hImb
        refine now ?_
        go_wp2_with fail
        go_roundw
        case rel => exact ⟨k + 1, _, by omega, by go_num, HY.out.1, HY.out.2.1, HY.out.2.2⟩
        case measure => simp [intOf]; omega
    · obtain rfl : k = l.length := by omega
      rw [List.take_length] at hGr
      have HX := Lib.hid (And.intro hG (And.intro hGr hB))
      clear hGr hB HG0 HB0 hmm
      obtain ⟨wo, rfl⟩ : ∃ wo, wo = wr := ⟨_, rfl⟩
      go_wp2_with (at_range; refine step_range_im rfl _ 279 rfl Tryz.underlying279 rfl hG.im ?_; intro w6 hIt6 hb6 hs6; refine later ?_)
      have hwo : w.heap.size < wo.heap.size := hG.im.lt
      have hgs : ∀ G ∈ Gs, w.heap.size < G.g ∧ G.g < wo.heap.size := fun G hGm => by have h1 := hG.lt hGm; have h2 := hG.ne hGm; omega
      have hB6 := below_next HX.out.2.2 hb6
      have hM6 : MhAt w6 a mk [] := HM.out.kp (S := fun _ => False) (Kp.of_below hB6) id id (by simp)
      have hLd : LmI w a mk wo.heap.size Gs w6 [] [] := ⟨hIt6, by simp, hM6, by simp, rfl, by simp, fun G hGm => (hG.below hb6).own G hGm, Kp.of_below hB6, by omega⟩
      have HLd := Lib.hid hLd
      have HGS := Lib.hid (And.intro hgs hG.gs)
      have HGR := Lib.hid HX.out.2.1
      clear hIt6 hb6 hs6 hB6 hM6 hLd hG HX hgs
      obtain ⟨rI, hrI⟩ : ∃ rI, rI = wo.heap.size := ⟨_, rfl⟩
      rw [← hrI] at HLd HGS hwo
      rw [← hrI]
      clear hrI
      refine now ?_
      go_wp2_with fail
      go_loopw [13] (fun _ wx => ∃ (dg : List (Grp (CidOf × Int))) (cs : List Cod), LmI w a mk rI Gs wx dg cs) (fun _ wx => Gs.length - (wx.iterSeen rI).size)
      case atStart => exact ⟨[], [], HLd.out⟩
      case round =>
        obtain ⟨dg, cs, hI⟩ := hrel
        have HI := Lib.hid hI
        have hIt := hI.it
        clear hI HLd
        go_wp2_with (at_next; refine step_next_im rfl _ rfl rfl hIt (fun hp => later ?_) (fun p w7 hpm hdl7 hIt7 hK7 hs7 hen => later ?_))
        · refine now ?_
          go_wp2_with fail
          go_ret
          exact ⟨rfl, ⟨cs, HI.out.fin hp HGR.out, fun c hc => by obtain ⟨h1, h2, h3⟩ := HI.out.gd c hc; exact ⟨by omega, by omega, fun s hs => by have := h3 s hs; omega⟩, HI.out.mw⟩, HI.out.kp⟩
        · obtain ⟨G, hGm, hGp⟩ := List.mem_map.1 hpm
          have hD7 : (dg ++ [G]).map Grp.pair = dg.map Grp.pair ++ [p] := by rw [List.map_append, ← hGp]; rfl
          obtain ⟨hg1, hg2⟩ := HGS.out.1 G hGm
          obtain ⟨x0, hx0, hk0⟩ := HGR.out.ne G hGm
          have hitl : ∀ x ∈ G.items, x ∈ l := fun x hx => by rw [HGR.out.eq G hGm] at hx; exact (List.mem_filter.1 hx).1
          have hin : G.items.length ≤ l.length := by rw [HGR.out.eq G hGm]; exact List.length_filter_le _ _
          have hnew : G.key.toNat ∉ cs.map Cod.code := by
            rw [HI.out.wid]
            intro hm
            obtain ⟨G', hG', e⟩ := List.mem_map.1 hm
            have hnd := hIt7.nd
            rw [← hD7, grp_keys, List.map_append, List.nodup_append] at hnd
            refine hnd.2.2 G'.key (List.mem_map_of_mem hG') G.key (by simp) ?_
            obtain ⟨r1, _, hk1⟩ := HGR.out.ne G' (HI.out.sub G' hG')
            rw [← hk0, ← hk1] at e ⊢
            simp only [codeKey, Int.toNat_natCast, Int.natCast_inj] at e ⊢
            omega
          have hM7 : MhAt w7 a mk cs := HI.out.mw.kp hK7 (by omega) (by omega) (fun c hc => by obtain ⟨h1, h2, h3⟩ := HI.out.gd c hc; exact ⟨by omega, by omega, fun s hs => by have := h3 s hs; omega⟩)
          have hrows7 : ∀ G ∈ Gs, w7.ownsRow w.heap.size recCT 2 G.val G.items.length (G.items.flatMap recC) := fun G' hG' => own_kp (HI.out.rows G' hG') hK7 (fun g e => by cases e; show ¬ G'.g = rI; have := (HGS.out.1 G' hG').2; omega)
          have hkp7 : Kp (fun i => i = mk) w w7 := HI.out.kp.trans hK7 (fun i e => by subst e; exact .inr (by omega))
          have hlt7 : rI < w7.heap.size := by have := hK7.size; have := HI.out.lt; omega
          have hGk : G.key = (x0.1.code : Int) := hk0.symm
          have hcode := (HL.out x0 hx0).code
          have hown7 := hrows7 G hGm
          have hDG := Lib.hid hD7
          have hGS := Lib.hid hGm
          obtain ⟨L, hL⟩ : ∃ L, L = x0.1.code := ⟨_, rfl⟩
          rw [← hL] at hcode hGk
          clear hL
          obtain ⟨key, g, gcap, items⟩ := G
          simp only at hg1 hg2 hitl hin hnew hGk
          subst hGk
          obtain rfl : p = ((L : Int), .slice (some ⟨g, 0, none⟩) items.length gcap) := hGp.symm
          have hown : w7.ownsRow w.heap.size recCT 2 (.slice (some ⟨g, 0, none⟩) items.length gcap) items.length (items.flatMap recC) := hown7
          obtain ⟨hcp, hg7⟩ := own_cap hown
          have H7 := Lib.hid (And.intro hM7 (And.intro hrows7 (And.intro hkp7 hIt7)))
          have HOWN := Lib.hid hown
          have HNEW := Lib.hid hnew
          have HDL := Lib.hid hdl7
          have HIS := Lib.hid HI.out.it.seen
          have HITL := Lib.hid hitl
          clear hpm hGp hD7 hx0 hk0 hM7 hrows7 hkp7 hIt7 hK7 hs7 hown7 hown hIt hdl7 hnew hitl
          refine now ?_
          go_wp2_with fail
          refine (newMwci_ok _).mono ?_
          rintro e w8 ⟨rfl, hC8, hf8, hz8, hb8⟩
          have cc8 := hC8.code
          go_wp2_with fail
          have hks : Kp (fun i => i = w7.heap.size + 1) w8 (w8.setCell ⟨w7.heap.size + 1, 1, none⟩ (.int .u64 (L : Int))) := kp_set w8 ⟨w7.heap.size + 1, 1, none⟩ _
          have hM9 : MwAt (w8.setCell ⟨w7.heap.size + 1, 1, none⟩ (.int .u64 (L : Int))) ⟨w7.heap.size + 1, 0, none⟩ w7.heap.size [] := ⟨(World.cell?_setCell_other w8 _ _ _ (by simp)).trans hC8.mw.cell, hC8.mw.map.kp hks (fun e => by have e' : w7.heap.size = w7.heap.size + 1 := e; omega), by simp⟩
          have hc9 : (w8.setCell ⟨w7.heap.size + 1, 1, none⟩ (.int .u64 (L : Int))).cell? ⟨w7.heap.size + 1, 1, none⟩ = some (.int .u64 (L : Int)) := World.cell?_setCell_same' w8 _ _ (by rw [cc8]; rfl)
          have hB9 : Below w7.heap.size w7 (w8.setCell ⟨w7.heap.size + 1, 1, none⟩ (.int .u64 (L : Int))) := hks.to_below hb8 (fun i e => by have e' : i = w7.heap.size + 1 := e; omega)
          generalize w8.setCell ⟨w7.heap.size + 1, 1, none⟩ (.int .u64 (L : Int)) = w9 at *
          have hown9 : w9.ownsRow w.heap.size recCT 2 (.slice (some ⟨g, 0, none⟩) items.length gcap) items.length (items.flatMap recC) := own_kp HOWN.out (Kp.of_below (S := fun _ => False) hB9) (fun _ _ => id)
          have hMw := MwLoad_ok ⟨w7.heap.size + 1, 0, none⟩ w7.heap.size gcap (some ⟨g, 0, none⟩) items (fun x hx => HL.out x (HITL.out x hx)) (fun x hx => HO.out x (HITL.out x hx)) (by omega) w9 hM9 (by show w7.heap.size + 1 ≠ w7.heap.size; omega) (own_recs hown9)
          have HB9 := Lib.hid hB9
          clear hM9 hown9 hks hC8 hf8 hb8 cc8
          refine hMw.mono ?_
          clear hMw
          rintro e w10 ⟨rfl, ⟨secs, hSF, hgd10, hM10⟩, hK10⟩
          have hz9 := HB9.out.size
          have hz10 := hK10.size
          obtain ⟨hM7, hrows7, hkp7, hIt7⟩ := H7.out
          have hlt7c : ∀ c ∈ cs, c.cb < w7.heap.size ∧ c.mb < w7.heap.size ∧ ∀ s ∈ c.secs, s.gd < w7.heap.size := fun c hc => Cod.Above.lt (hM7.row c hc)
          have hMm : MhAt w10 a mk cs := (hM7.kp (S := fun _ => False) (Kp.of_below HB9.out) id id (fun _ _ => ⟨id, id, fun _ _ => id⟩)).kp hK10 (by omega) (by omega) (fun c hc => by obtain ⟨h1, h2, h3⟩ := hlt7c c hc; exact ⟨by omega, by omega, fun s hs => by have := h3 s hs; omega⟩)
          have hcbl := World.block_lt_of_cell? w9 _ hc9
          have hC10 : CodAt w10 ⟨L, w7.heap.size + 1, w7.heap.size, secs⟩ := ⟨hM10, (hK10.cell (p := ⟨w7.heap.size + 1, 1, none⟩) hcbl (by show ¬ (w7.heap.size + 1 = w7.heap.size); omega)).trans hc9⟩
          have hPut := MhPut_ok a mk cs ⟨L, w7.heap.size + 1, w7.heap.size, secs⟩ w10 hMm hC10 (fun c hc e => HNEW.out (by rw [Int.toNat_natCast]; exact List.mem_map.2 ⟨c, hc, e⟩)) ham ⟨by show mk ≠ w7.heap.size + 1; omega, by show mk ≠ w7.heap.size; omega, fun s hs => by have := hgd10 s hs; omega⟩
            (fun c hc => by obtain ⟨h1, h2, h3⟩ := HI.out.gd c hc; exact ⟨by omega, by omega, fun s hs => by have := h3 s hs; omega⟩)
          have hk710 : Kp (fun i => i = w7.heap.size) w7 w10 := (Kp.of_below (S := fun i => i = w7.heap.size) HB9.out).trans hK10 (fun i h => .inl h)
          have HSF := Lib.hid (And.intro hSF hgd10)
          clear hMm hM10 hC10 hc9 hSF hgd10 hM7 hlt7c
          go_wp2_with fail
          refine hPut.mono ?_
          clear hPut
          rintro e w11 ⟨rfl, hM11, hK11⟩
          have hItF := (hIt7.kp hk710 (by omega) (by omega)).kp hK11 (by omega) (by omega)
          have hrowsF : ∀ G ∈ Gs, w11.ownsRow w.heap.size recCT 2 G.val G.items.length (G.items.flatMap recC) := fun G' hG' => own_kp (own_kp (hrows7 G' hG') hk710 (fun g e => by cases e; show ¬ G'.g = w7.heap.size; have := (HGS.out.1 G' hG').2; omega)) hK11 (fun g e => by cases e; show ¬ G'.g = mk; have := (HGS.out.1 G' hG').1; omega)
          have hFin : LmI w a mk rI Gs w11 (dg ++ [⟨(L : Int), g, gcap, items⟩]) (cs ++ [⟨L, w7.heap.size + 1, w7.heap.size, secs⟩]) := by
            refine ⟨by rw [hDG.out]; exact hItF, fun G' hG' => ?_, hM11, fun c hc => ?_, ?_, fun c hc => ?_, hrowsF, (hkp7.trans hk710 (fun i e => by subst e; exact .inr (by omega))).trans hK11 (fun i h => .inl h), by have := hK11.size; omega⟩
            · rcases List.mem_append.1 hG' with h | h
              · exact HI.out.sub G' h
              · rw [List.mem_singleton] at h; subst h; exact hGS.out
            · rcases List.mem_append.1 hc with h | h
              · exact HI.out.gd c h
              · rw [List.mem_singleton] at h; subst h
                exact ⟨by show rI < w7.heap.size + 1; omega, hlt7, fun s hs => by have := HSF.out.2 s hs; omega⟩
            · rw [List.map_append, List.map_append, HI.out.wid]
              simp only [List.map_cons, List.map_nil, Int.toNat_natCast]
            · rcases List.mem_append.1 hc with h | h
              · obtain ⟨G', h1, h2⟩ := HI.out.sec c h
                exact ⟨G', List.mem_append_left _ h1, h2⟩
              · rw [List.mem_singleton] at h; subst h
                exact ⟨⟨(L : Int), g, gcap, items⟩, by simp, by simp, HSF.out.1⟩
          have hm : Gs.length - (w11.iterSeen rI).size < Gs.length - (dg.map Grp.pair).length := by
            rw [hFin.it.seen]
            have := HDL.out
            simp only [List.length_map, List.length_append, List.length_cons, List.length_nil] at this ⊢
            omega
          have HM2 := Lib.hid hm
          have HFin := Lib.hid hFin
          clear hm hFin hItF hrowsF hrows7 hkp7 hIt7 hk710 hM11 hK11 hK10
          go_wp2_with fail
          go_roundw
          case rel => exact ⟨_, _, HFin.out⟩
          case measure => rw [HIS.out]; exact HM2.out
end Go.Proofs.YtobdjcnojbnegaaGreatDoor
