import Derived.Test.YtobdjcnojbnegaaGreatDoorG21
import Derived.Test.YtobdjcnojbnegaaGreatDoorG12
import Derived.Deep.CutBlock
import Derived.Deep.DeepCutAuto
/- multiWidthIndex.Load of any records. -/
namespace Go.Proofs.YtobdjcnojbnegaaGreatDoor
open Go.RowKit
open Go.ChangeMaps (setBlock)
set_option linter.unusedVariables false
set_option linter.unusedSimpArgs false
attribute [local go_sem] setCell_drewN alloc_drewN

/-- Records, as they lie in a slice at A. -/
def RecsAt (w : World) (A : Option Addr) (l : Ents) : Prop := l = [] ∨ ∃ g, A = some ⟨g, 0, none⟩ ∧ ∀ i x, l[i]? = some x → w.cell? ⟨g, i * 2, none⟩ = some (.string x.1.str) ∧ w.cell? ⟨g, i * 2 + 1, none⟩ = some (.int .u64 x.2)
theorem RecsAt.below {w w' : World} {A : Option Addr} {l : Ents} (h : RecsAt w A l) (hb : Below w.heap.size w w') : RecsAt w' A l := by
  rcases h with h | ⟨g, e, hc⟩
  · exact .inl h
  · exact .inr ⟨g, e, fun i x hx => ⟨(hb.cell (World.block_lt_of_cell? w _ (hc i x hx).1)).trans (hc i x hx).1, (hb.cell (World.block_lt_of_cell? w _ (hc i x hx).2)).trans (hc i x hx).2⟩⟩

/-- The digest of a record that was made since B. -/
structure RecAt (w : World) (B : Nat) (r : Rec) : Prop where
  at_ : BytesAt w r.A r.x.1.dig
  blk : ByteBlk w 5 r.A
  frm : From B r.A
  cap : r.x.1.dig.length ≤ r.cap
theorem RecAt.kp {S : Nat → Prop} {w w' : World} {B : Nat} {r : Rec} (h : RecAt w B r) (k : Kp S w w') (hS : ∀ i, S i → ∀ cs fr, w.heap[i]? ≠ some (.cells cs 5 fr)) : RecAt w' B r := by
  have hk : ∀ ad, r.A = some ad → w'.heap[ad.block]? = w.heap[ad.block]? := by
    intro ad e
    obtain ⟨cs, fr, hh⟩ := h.blk ad e
    exact k.block _ (Array.getElem?_eq_some_iff.1 hh).1 (fun hs => hS _ hs cs fr hh)
  exact ⟨h.at_.upd hk, h.blk.upd hk, h.frm, h.cap⟩
theorem RecAt.below {w w' : World} {B : Nat} {r : Rec} (h : RecAt w B r) (hb : Below w.heap.size w w') : RecAt w' B r := h.kp (S := fun _ => False) (Kp.of_below hb) (fun _ h => h.elim)
def recKey (r : Rec) : Int := (r.x.1.dig.length : Int)
def recT : TypeId := 302

theorem notU8_map {w : World} {mi : Nat} {q : IntKind} {L : List (Int × Value)} (h : ImAt w mi q L) : ∀ cs fr, w.heap[mi]? ≠ some (.cells cs 5 fr) := by
  obtain ⟨es, cl, h0, _⟩ := h
  intro cs fr e
  rw [h0] at e; cases e
theorem notU8_row {w : World} {mi : Nat} {q : IntKind} {z : Nat} {Gs : List (Grp Rec)} (h : GrpsAt Rec.cells w mi q recT z Gs) {G : Grp Rec} (hG : G ∈ Gs) : ∀ cs fr, w.heap[G.g]? ≠ some (.cells cs 5 fr) := by
  obtain ⟨cur, h0⟩ := h.row hG
  intro cs fr e
  rw [h0] at e
  injection e with e
  injection e with _ e2
  exact absurd e2 (by decide)

theorem own_cap {w : World} {z g n cap : Nat} {e : TypeId} {k : Nat} {xs : List Value} (h : w.ownsRow z e k (.slice (some ⟨g, 0, none⟩) n cap) n xs) : n ≤ cap ∧ g < w.heap.size := by
  rcases h.2 with ⟨e, _⟩ | ⟨g', cap', cur, e, hb, hg, hn, hc, hs, ht⟩
  · cases e
  · cases e; exact ⟨hn, (Array.getElem?_eq_some_iff.1 hg).1⟩
theorem RecAt.ok {w : World} {B z g n cap : Nat} {r : Rec} {xs : List Value} (h : RecAt w B r) (ho : w.ownsRow z recT 2 (.slice (some ⟨g, 0, none⟩) n cap) n xs) : RecOk w g r := by
  refine ⟨h.at_, fun p e e2 => ?_, fun p e => ?_⟩
  · obtain ⟨cs, fr, hh⟩ := h.blk p e
    obtain ⟨_, cur, hc⟩ := own_cells ho (g := g) rfl
    rw [e2, hc] at hh
    injection hh with hh
    injection hh with _ e3
    exact absurd e3 (by decide)
  · obtain ⟨cs, fr, hh⟩ := h.blk p e
    exact (Array.getElem?_eq_some_iff.1 hh).1
theorem notU8_own {w : World} {z g n cap : Nat} {xs : List Value} (ho : w.ownsRow z recT 2 (.slice (some ⟨g, 0, none⟩) n cap) n xs) : ∀ cs fr, w.heap[g]? ≠ some (.cells cs 5 fr) := by
  obtain ⟨_, cur, hc⟩ := own_cells ho (g := g) rfl
  intro cs fr e
  rw [hc] at e
  injection e with e
  injection e with _ e2
  exact absurd e2 (by decide)
theorem notU8_it {w : World} {r b : Nat} {q : IntKind} {L done : List (Int × Value)} (h : ItAt w r b q L done) : ∀ cs fr, w.heap[r]? ≠ some (.cells cs 5 fr) := by
  obtain ⟨es, clock, since, seen, c0, g1, g2, g3⟩ := h
  intro cs fr e
  rw [g2] at e; cases e

/-- What stands behind some rows while an index is loaded. -/
structure LdI (w : World) (a : Addr) (mk rI : Nat) (Gs : List (Grp Rec)) (done : List Rec) (wx : World) (dg : List (Grp Rec)) (secs : List Sec) : Prop where
  it : ItAt wx rI w.heap.size .i64 (Gs.map Grp.pair) (dg.map Grp.pair)
  sub : ∀ G ∈ dg, G ∈ Gs
  mw : MwAt wx a mk secs
  gd : ∀ s ∈ secs, rI < s.gd
  wid : secs.map Sec.width = dg.map (fun G => G.key.toNat + 8)
  sec : ∀ s ∈ secs, ∃ G ∈ dg, ∃ k : List Rec, s.width = G.key.toNat + 8 ∧ k.Perm G.items ∧ SortedD (k.map Rec.x) ∧ s.data = (k.map Rec.x).flatMap rowB
  rows : ∀ G ∈ Gs, ∃ k : List Rec, k.Perm G.items ∧ wx.ownsRow w.heap.size recT 2 G.val G.items.length (k.flatMap Rec.cells)
  recs : ∀ r ∈ done, RecAt wx w.heap.size r
  kp : Kp (fun i => i = mk) w wx
  lt : rI < wx.heap.size
theorem LdI.fin {w wx : World} {a : Addr} {mk rI : Nat} {Gs dg : List (Grp Rec)} {done : List Rec} {secs : List Sec} {l : Ents} (h : LdI w a mk rI Gs done wx dg secs) (hp : (dg.map Grp.pair).Perm (Gs.map Grp.pair)) (hG : Grouped recKey Gs done) (hd : done.map Rec.x = l) : SecsFor l secs := by
  refine ⟨fun s hs => ?_, fun x hx => ?_, h.mw.nodup⟩
  · obtain ⟨G, hGd, k, h1, h2, h3, h4⟩ := h.sec s hs
    have hGs := h.sub G hGd
    obtain ⟨r, hr, hk⟩ := hG.ne G hGs
    have hkey : G.key.toNat = r.x.1.dig.length := by rw [← hk]; simp [recKey]
    refine ⟨r.x.1.dig.length, k.map Rec.x, by rw [h1, hkey], ?_, ⟨r.x, by rw [← hd]; exact List.mem_map_of_mem hr, rfl⟩, h3, h4⟩
    refine (h2.map Rec.x).trans ?_
    rw [hG.eq G hGs, ← hd, List.filter_map]
    have : (List.filter (fun x => decide (recKey x = G.key)) done) = List.filter (hasLen r.x.1.dig.length ∘ Rec.x) done := by
      refine List.filter_congr fun y _ => ?_
      simp only [Function.comp_apply, hasLen, ← hk, recKey, Int.natCast_inj]
    rw [this]
  · rw [← hd] at hx
    obtain ⟨r, hr, rfl⟩ := List.mem_map.1 hx
    obtain ⟨G, hGs, hk⟩ := hG.all r hr
    obtain ⟨G', hG', e⟩ := List.mem_map.1 (hp.mem_iff.2 (List.mem_map_of_mem (f := Grp.pair) hGs))
    have e2 : G'.key = G.key := congrArg Prod.fst e
    have hm : G'.key.toNat + 8 ∈ secs.map Sec.width := by rw [h.wid]; exact List.mem_map.2 ⟨G', hG', rfl⟩
    obtain ⟨s, hs, e3⟩ := List.mem_map.1 hm
    refine ⟨s, hs, ?_⟩
    rw [e3, e2, hk]; simp [recKey]

set_option maxRecDepth 100000 in
set_option maxHeartbeats 12800000 in
theorem MwLoad_ok (a : Addr) (mk cap : Nat) (A : Option Addr) (l : Ents) (hl : ∀ x ∈ l, x.1.Ok) (ho : ∀ x ∈ l, 0 ≤ x.2 ∧ x.2 < 18446744073709551616) (hlen : l.length ≤ 100000) (w : World) (hM : MwAt w a mk []) (ham : a.block ≠ mk) (hR : RecsAt w A l) :
    Calls Tryz.prog 197 #[.pointer (some a), .slice A l.length cap] w fun e w' =>
      e = .returned .nilIface ∧ (∃ secs, SecsFor l secs ∧ (∀ s ∈ secs, w.heap.size ≤ s.gd) ∧ MwAt w' a mk secs) ∧ Kp (fun i => i = mk) w w' := by
  have hmm := @run_makeMap Tryz.prog
  obtain ⟨i0, ti, tz0, tz1, tz2⟩ := info_parts info_rec
  have hal := World.block_lt_of_cell? w _ hM.cell
  have hmkl := hM.map.lt
  have HM := Lib.hid hM; have HL := Lib.hid hl; have HO := Lib.hid ho
  have HG0 : Hid (GrpsAt Rec.cells (w.alloc (.map #[] 0)) w.heap.size .i64 recT w.heap.size []) := Lib.hid (GrpsAt.none w _)
  have HB0 : Hid (Below w.heap.size w (w.alloc (.map #[] 0))) := Lib.hid (below_boxed w _)
  clear hM hl ho
  go_enter Tryz.func197, Tryz.ntmps197
  go_wp2_with fail
  go_loopw [23] (fun vi wr => ∃ (k : Nat) (Gs : List (Grp Rec)) (done : List Rec), k ≤ l.length ∧ vi = .int .i64 (k : Int) ∧ done.map Rec.x = l.take k ∧ GrpsAt Rec.cells wr w.heap.size .i64 recT w.heap.size Gs ∧ Grouped recKey Gs done ∧ (∀ r ∈ done, RecAt wr w.heap.size r) ∧ Below w.heap.size w wr) (fun vi _ => l.length - (intOf vi).toNat)
  case atStart => exact ⟨0, [], [], Nat.zero_le _, rfl, rfl, HG0.out, Grouped.none, by simp, HB0.out⟩
  case round =>
    obtain ⟨k, Gs, done, hk, rfl, hdone, hG, hGr, hRec, hB⟩ := hrel
    have hmi := hG.im.lt
    by_cases hlt : k < l.length
    · obtain ⟨x, hx⟩ : ∃ x, l[k]? = some x := ⟨_, List.getElem?_eq_getElem hlt⟩
      have hxl := List.mem_of_getElem? hx
      obtain ⟨gr, rfl, r0, r1⟩ : ∃ gr, A = some ⟨gr, 0, none⟩ ∧ wr.cell? ⟨gr, k * 2, none⟩ = some (.string x.1.str) ∧ wr.cell? ⟨gr, k * 2 + 1, none⟩ = some (.int .u64 x.2) := by
        rcases hR.below hB with h | ⟨gr, e, hc⟩
        · subst h; simp at hlt
        · exact ⟨gr, e, (hc k x hx).1, (hc k x hx).2⟩
      have hgr : gr < wr.heap.size := World.block_lt_of_cell? wr _ r0
      have hc := HL.out x hxl
      have hdl := hc.dig
      have HG := Lib.hid hG; have HGr := Lib.hid hGr; have HRec := Lib.hid hRec; have HB := Lib.hid hB; have HD := Lib.hid hdone
      obtain ⟨wo, rfl⟩ : ∃ wo, wo = wr := ⟨_, rfl⟩
      clear hG hGr hRec hB hdone HG0 HB0 hR
      go_wp2_with fail
      refine (Hash_ok x.1 hc _).mono ?_
      rintro e w1 ⟨A1, c1, rfl, hc1, hA1, hB1, hF1, hb1⟩
      go_wp2_with fail
      refine (Decode_ok x.1.code hc.code x.1.dig (by omega) A1 _ c1 _ hA1 rfl hc1).mono ?_
      rintro e w2 ⟨g, A2, c2, rfl, hc2, hS2, hb2, hg2, hblk⟩
      have hb12 := below_next hb1 hb2
      have hbw : Below wo.heap.size wo w2 := by (repeat (first | (with_reducible exact Below.refl _ _) | (with_reducible exact below_boxed _ _) | (with_reducible refine below_box ?_ _) | (with_reducible refine below_drew1 ?_) | (with_reducible refine below_drewn ?_ _) | (with_reducible refine below_bytes ?_ _ _) | (with_reducible refine below_next ?_ (by assumption)) | (with_reducible refine below_set ?_ (by first | (simp; done) | (simp; omega) | omega) _)))
      have krec : w2.cell? ⟨wo.heap.size, 1, none⟩ = some (.int .u64 x.2) := by
        rw [hb12.cell (p := ⟨wo.heap.size, 1, none⟩) (by simp)]
        exact blk_cell' (heap_alloc_last wo _) 1
      have k3 : w2.cell? ⟨g, 3, none⟩ = some (.slice A2 x.1.dig.length c2) := by simp [World.cell?, hblk]
      have hwo : w.heap.size ≤ wo.heap.size := HB.out.size
      have hNew : RecAt w2 w.heap.size ⟨A2, c2, x⟩ := ⟨hS2.bytes _ (hA1.below hb2), hS2.blk _ _ (hB1.below hb2), hS2.frm _ (hF1.mono (by simp; omega)), hc2⟩
      have hG2 := HG.out.below hbw
      have hRec2 : ∀ r ∈ done, RecAt w2 w.heap.size r := fun r hr => (HRec.out r hr).below hbw
      have hB2 := below_next HB.out hbw
      have hz2 : wo.heap.size < w2.heap.size := by have := hb12.size; simp at this; omega
      have hgl2 : g < w2.heap.size := (Array.getElem?_eq_some_iff.1 hblk).1
      obtain ⟨v, ok, hlk, hP⟩ : ∃ v ok, (Instr.lookup 298 (.map (some w.heap.size)) (.int .i64 (x.1.dig.length : Int)) true).run Tryz.prog w2 = .ok (.tuple #[v, .bool ok]) w2 ∧
          ((ok = true ∧ ∃ (j : Nat) (G : Grp Rec), Gs[j]? = some G ∧ G.key = (x.1.dig.length : Int) ∧ v = G.val) ∨ (ok = false ∧ ∀ G ∈ Gs, G.key ≠ (x.1.dig.length : Int))) := by
        by_cases hex : ∃ G ∈ Gs, G.key = (x.1.dig.length : Int)
        · obtain ⟨G, hGm, hkey⟩ := hex
          obtain ⟨j, hj⟩ := List.getElem?_of_mem hGm
          have h := hG2.im.look (P := Tryz.prog) Tryz.underlying298 Tryz.underlying3 (k := (x.1.dig.length : Int)) (v := G.val) (by rw [← hkey]; exact grp_look hG2.keys hGm) true
          exact ⟨_, _, h, .inl ⟨rfl, j, G, hj, hkey, rfl⟩⟩
        · have hno : ∀ G ∈ Gs, G.key ≠ (x.1.dig.length : Int) := fun G hG e => hex ⟨G, hG, e⟩
          have h := hG2.im.look_no (P := Tryz.prog) Tryz.underlying298 Tryz.underlying3 (k := (x.1.dig.length : Int)) (grp_no hno) true _ idxsZero
          exact ⟨_, _, h, .inr ⟨rfl, hno⟩⟩
      have HX := Lib.hid (And.intro hNew (And.intro hG2 (And.intro hRec2 hB2)))
      clear hb1 hb2 hb12 hbw hA1 hB1 hF1 hS2 hblk hNew hG2 hRec2 hB2 r0 r1 hmm
      go_upto_if 49 with fail
      go_cut [11] (fun s11 wx => ∃ (Gs1 : List (Grp Rec)) (j : Nat) (G : Grp Rec), s11 = G.val ∧ Gs1[j]? = some G ∧ G.key = (x.1.dig.length : Int) ∧ GrpsAt Rec.cells wx w.heap.size .i64 recT w.heap.size Gs1 ∧ GMid recKey Gs1 done (x.1.dig.length : Int) ∧ (∀ r ∈ done, RecAt wx w.heap.size r) ∧ RecAt wx w.heap.size ⟨A2, c2, x⟩ ∧ wx.cell? ⟨wo.heap.size, 1, none⟩ = some (.int .u64 x.2) ∧ Below w.heap.size w wx)
      case first =>
        rcases hP with ⟨rfl, j, G, hj, hkey, rfl⟩ | ⟨rfl, hno⟩
        · go_wp2_with fail
          go_meet
          exact ⟨Gs, j, G, rfl, hj, hkey, HX.out.2.1, HGr.out.old _, HX.out.2.2.1, HX.out.1, krec, HX.out.2.2.2⟩
        · have hG2 := HX.out.2.1
          have hmr := makeRecs0
          go_wp2_with (at_mapUpdate; refine step_put_im rfl _ _ _ 298 rfl Tryz.underlying298 Tryz.underlying3 rfl (hG2.im.upd (heap_alloc_old w2 _ hG2.im.lt)) (k := (x.1.dig.length : Int)) (val := .slice (some ⟨w2.heap.size, 0, none⟩) 0 0) rfl rfl ?_; intro w3 hIm3 hK3 hs3; refine later ?_)
          have hG3 := hG2.new hno rfl (by omega) hIm3 hK3
          have hlk3 := hG3.im.look (P := Tryz.prog) Tryz.underlying298 Tryz.underlying3 (k := (x.1.dig.length : Int)) (v := .slice (some ⟨w2.heap.size, 0, none⟩) 0 0) (grp_look hG3.keys (G := ⟨(x.1.dig.length : Int), w2.heap.size, 0, []⟩) (by simp)) false
          simp only [Bool.false_eq_true, if_false] at hlk3
          have hnu : ∀ i, i = w.heap.size → ∀ cs fr, (w2.alloc (.cells #[] 302)).heap[i]? ≠ some (.cells cs 5 fr) := fun i e => by
            subst e
            exact notU8_map (hG2.im.upd (heap_alloc_old w2 _ hG2.im.lt))
          have hB3 : Below w.heap.size w w3 := hK3.to_below (below_box HX.out.2.2.2 _) (fun i e => by omega)
          have hR3 : ∀ r, RecAt w2 w.heap.size r → RecAt w3 w.heap.size r := fun r h => (h.below (below_boxed w2 _)).kp hK3 hnu
          have krec3 := (hK3.cell (p := ⟨wo.heap.size, 1, none⟩) (by simp; omega) (by show ¬ wo.heap.size = w.heap.size; have := hG2.im.lt; omega)).trans ((World.cell?_of_block (w := w2) (heap_alloc_old w2 _ hz2)).trans krec)
          have HY := Lib.hid (And.intro hG3 (And.intro hB3 (And.intro hR3 krec3)))
          clear hIm3 hK3 hs3 hG3 hnu hB3 hR3 krec3 hG2
          refine now ?_
          go_wp2_with fail
          go_meet
          exact ⟨Gs ++ [⟨(x.1.dig.length : Int), w2.heap.size, 0, []⟩], Gs.length, ⟨(x.1.dig.length : Int), w2.heap.size, 0, []⟩, rfl, by simp, rfl, HY.out.1, HGr.out.new hno _ _, fun r hr => HY.out.2.2.1 r (HX.out.2.2.1 r hr), HY.out.2.2.1 _ HX.out.1, HY.out.2.2.2, HY.out.2.1⟩
      case rest =>
        clear hP hlk krec HX k3 HGr HB HG HRec
        obtain ⟨Gs1, j, G, rfl, hj, hkey, hG1, hMid, hRec1, hNew1, krec1, hB1⟩ := hcut
        have hGm := List.mem_of_getElem? hj
        have hlow := hG1.lt hGm
        have hgi : G.items.length ≤ l.length := by
          rw [hMid.eq G hGm]
          have h1 := List.length_filter_le (fun x => decide (recKey x = G.key)) done
          have h2 : done.length = k := by rw [← List.length_map (f := Rec.x), HD.out, List.length_take]; omega
          omega
        have hwc : w.heap.size < wc.heap.size := hG1.im.lt
        have hwk : wo.heap.size < wc.heap.size := World.block_lt_of_cell? wc _ krec1
        have hown := (hG1.own G hGm).alloc (Obj.cells #[.slice A2 x.1.dig.length c2, .int .u64 x.2] 302)
        have hImb : ImAt (wc.alloc (Obj.cells #[.slice A2 x.1.dig.length c2, .int .u64 x.2] 302)) w.heap.size .i64 (Gs1.map Grp.pair) := hG1.im.upd (heap_alloc_old wc _ hG1.im.lt)
        have HC := Lib.hid (And.intro hG1 (And.intro hMid (And.intro hRec1 (And.intro hNew1 hB1))))
        have hneG := hG1.ne hGm
        clear hMid hRec1 hNew1 hB1
        go_wp2_with (at_builtin; refine wpList_append_lies _ rfl _ _ 299 rfl w.heap.size 302 i0 (.agg #[.slice none 0 0, .int .u64 0]) 2 32 Tryz.underlying299 ti tz0 tz1 tz2 rfl (by decide) _ _ _ rfl hown ⟨wc.heap.size, 0, none⟩ 1 1 [.slice A2 x.1.dig.length c2, .int .u64 x.2] rfl rfl ?c1 ?c2 (by decide) ?c3 ?c4 ?c5 _ rfl ?_)
        case c1 => exact two_cells wc _ _ _
        case c2 =>
          intro u hu
          simp only [List.mem_cons, List.not_mem_nil, or_false] at hu
          rcases hu with rfl | rfl <;> rfl
        case c3 => unfold maxLen; omega
        case c4 => omega
        case c5 => simp; omega
        intro g4 cap4 w4 hown4 hgrow hloc hlt4
        refine later ?_
        have hk4 := kp_grown hgrow
        have hIm4 := hImb.kp hk4 (by rw [G.own]; simpa using fun e => hneG e.symm)
        refine now ?_
        go_wp2_with (at_mapUpdate; refine step_put_im rfl _ _ _ 298 rfl Tryz.underlying298 Tryz.underlying3 rfl hIm4 (k := (x.1.dig.length : Int)) (val := .slice (some ⟨g4, 0, none⟩) (G.items.length + 1) cap4) rfl rfl ?_; intro w5 hIm5 hK5 hs5; refine later ?_)
        have hG5 := (HC.out.1.below (below_boxed wc (Obj.cells #[.slice A2 x.1.dig.length c2, .int .u64 x.2] 302))).append hj (⟨A2, c2, x⟩ : Rec) hown4 hgrow (by rw [show (wc.alloc (Obj.cells #[.slice A2 x.1.dig.length c2, .int .u64 x.2] 302)).heap.size = wc.heap.size + 1 by simp]; exact hloc) (by rw [hkey]; exact hIm5) hK5
        have hnu4 : ∀ i, some i = G.val.ownBlock → ∀ cs fr, (wc.alloc (Obj.cells #[.slice A2 x.1.dig.length c2, .int .u64 x.2] 302)).heap[i]? ≠ some (.cells cs 5 fr) := by
          intro i e
          rw [G.own] at e
          injection e with e
          subst e
          rw [heap_alloc_old wc _ hlow.2]
          exact notU8_row HC.out.1 hGm
        have hnu5 : ∀ i, i = w.heap.size → ∀ cs fr, w4.heap[i]? ≠ some (.cells cs 5 fr) := fun i e => by
          subst e
          exact notU8_map hIm4
        have hR5 : ∀ r, RecAt wc w.heap.size r → RecAt w5 w.heap.size r := fun r h => ((h.below (below_boxed wc _)).kp hk4 hnu4).kp hK5 hnu5
        have hB5 : Below w.heap.size w w5 := hK5.to_below (hk4.to_below (below_box HC.out.2.2.2.2 _) (fun i e => by rw [G.own] at e; injection e with e; omega)) (fun i e => by omega)
        have hGr5 := GMid.append (x := (⟨A2, c2, x⟩ : Rec)) HC.out.1.keys HC.out.2.1 hj hkey g4 cap4
        have HY := Lib.hid (And.intro hG5 (And.intro hGr5 (And.intro hR5 hB5)))
        have hdn : (done ++ [(⟨A2, c2, x⟩ : Rec)]).map Rec.x = l.take (k + 1) := by
          rw [List.map_append, HD.out, List.take_succ_eq_append_getElem hlt, (List.getElem?_eq_some_iff.1 hx).2]; rfl
        have HD5 := Lib.hid hdn
        clear hG5 hnu4 hnu5 hR5 hB5 hGr5 hIm5 hK5 hs5 hIm4 hk4 hown4 hgrow hloc hlt4 hown hImb hdn
        refine now ?_
        go_wp2_with fail
        go_roundw
        case rel =>
          refine ⟨k + 1, _, _, by omega, by go_num, HD5.out, HY.out.1, HY.out.2.1, fun r hr => ?_, HY.out.2.2.2⟩
          rcases List.mem_append.1 hr with hr | hr
          · exact HY.out.2.2.1 r (HC.out.2.2.1 r hr)
          · rw [List.mem_singleton] at hr; subst hr
            exact HY.out.2.2.1 _ HC.out.2.2.2.1
        case measure => simp [intOf]; omega
    · obtain rfl : k = l.length := by omega
      rw [List.take_length] at hdone
      have HX := Lib.hid (And.intro hG (And.intro hGr (And.intro hRec (And.intro hB hdone))))
      have hdl : done.length = l.length := by rw [← List.length_map (f := Rec.x), hdone]
      clear hGr hRec hB HG0 HB0 hdone hmm
      obtain ⟨wo, rfl⟩ : ∃ wo, wo = wr := ⟨_, rfl⟩
      go_wp2_with (at_range; refine step_range_im rfl _ 298 rfl Tryz.underlying298 rfl hG.im ?_; intro w6 hIt6 hb6 hs6; refine later ?_)
      have hwo : w.heap.size < wo.heap.size := hG.im.lt
      have hgs : ∀ G ∈ Gs, w.heap.size < G.g ∧ G.g < wo.heap.size := fun G hGm => by have h1 := hG.lt hGm; have h2 := hG.ne hGm; omega
      have hB6 := below_next HX.out.2.2.2.1 hb6
      have hM6 : MwAt w6 a mk [] := HM.out.kp (S := fun _ => False) (Kp.of_below hB6) id id (by simp)
      have hLd : LdI w a mk wo.heap.size Gs done w6 [] [] := ⟨hIt6, by simp, hM6, by simp, rfl, by simp, fun G hGm => ⟨G.items, .refl _, (hG.below hb6).own G hGm⟩, fun r hr => (HX.out.2.2.1 r hr).below hb6, Kp.of_below hB6, by omega⟩
      have HLd := Lib.hid hLd
      have HGS := Lib.hid (And.intro hgs hG.gs)
      have HGR := Lib.hid HX.out.2.1
      have HDN := Lib.hid HX.out.2.2.2.2
      clear hIt6 hb6 hs6 hB6 hM6 hLd hG HX hgs
      obtain ⟨rI, hrI⟩ : ∃ rI, rI = wo.heap.size := ⟨_, rfl⟩
      rw [← hrI] at HLd HGS hwo
      rw [← hrI]
      clear hrI
      refine now ?_
      go_wp2_with fail
      go_loopw [15] (fun _ wx => ∃ (dg : List (Grp Rec)) (secs : List Sec), LdI w a mk rI Gs done wx dg secs) (fun _ wx => Gs.length - (wx.iterSeen rI).size)
      case atStart => exact ⟨[], [], HLd.out⟩
      case round =>
        obtain ⟨dg, secs, hI⟩ := hrel
        have HI := Lib.hid hI
        have hIt := hI.it
        clear hI HLd
        go_wp2_with (at_next; refine step_next_im rfl _ rfl rfl hIt (fun hp => later ?_) (fun p w7 hpm hdl7 hIt7 hK7 hs7 hen => later ?_))
        · refine now ?_
          go_wp2_with fail
          go_ret
          exact ⟨rfl, ⟨secs, HI.out.fin hp HGR.out HDN.out, fun s hs => by have := HI.out.gd s hs; omega, HI.out.mw⟩, HI.out.kp⟩
        · obtain ⟨G, hGm, hGp⟩ := List.mem_map.1 hpm
          have hD7 : (dg ++ [G]).map Grp.pair = dg.map Grp.pair ++ [p] := by rw [List.map_append, ← hGp]; rfl
          obtain ⟨hg1, hg2⟩ := HGS.out.1 G hGm
          obtain ⟨r0, hr0, hk0⟩ := HGR.out.ne G hGm
          have hr0l : r0.x ∈ l := by rw [← HDN.out]; exact List.mem_map_of_mem hr0
          have hL2 : r0.x.1.dig.length ≤ 200 := (HL.out _ hr0l).dig
          have hit : ∀ r ∈ G.items, r ∈ done ∧ r.x.1.dig.length = r0.x.1.dig.length := fun r hr => by
            rw [HGR.out.eq G hGm] at hr
            obtain ⟨h1, h2⟩ := List.mem_filter.1 hr
            have h3 := of_decide_eq_true h2
            rw [← hk0] at h3
            simp only [recKey, Int.natCast_inj] at h3
            exact ⟨h1, h3⟩
          have hin : G.items.length ≤ done.length := by rw [HGR.out.eq G hGm]; exact List.length_filter_le _ _
          have hin0 : 0 < G.items.length := by
            rw [HGR.out.eq G hGm]
            exact List.length_pos_of_mem (List.mem_filter.2 ⟨hr0, by simp [hk0]⟩)
          have hnew : G.key.toNat + 8 ∉ secs.map Sec.width := by
            rw [HI.out.wid]
            intro hm
            obtain ⟨G', hG', e⟩ := List.mem_map.1 hm
            have hnd := hIt7.nd
            rw [← hD7, grp_keys, List.map_append, List.nodup_append] at hnd
            refine hnd.2.2 G'.key (List.mem_map_of_mem hG') G.key (by simp) ?_
            obtain ⟨r1, _, hk1⟩ := HGR.out.ne G' (HI.out.sub G' hG')
            rw [← hk0, ← hk1] at e ⊢
            simp only [recKey, Int.toNat_natCast, Int.natCast_inj] at e ⊢
            omega
          have hne1 : mk ≠ rI := by omega
          have hM7 : MwAt w7 a mk secs := HI.out.mw.kp hK7 (by omega) hne1 (fun s hs => by have := HI.out.gd s hs; omega)
          have hrows7 : ∀ G ∈ Gs, ∃ k : List Rec, k.Perm G.items ∧ w7.ownsRow w.heap.size recT 2 G.val G.items.length (k.flatMap Rec.cells) := fun G' hG' => by
            obtain ⟨k, h1, h2⟩ := HI.out.rows G' hG'
            exact ⟨k, h1, own_kp h2 hK7 (fun g e => by cases e; show ¬ G'.g = rI; have := (HGS.out.1 G' hG').2; omega)⟩
          have hrecs7 : ∀ r ∈ done, RecAt w7 w.heap.size r := fun r hr => (HI.out.recs r hr).kp hK7 (fun i e => by subst e; exact notU8_it hIt)
          have hkp7 : Kp (fun i => i = mk) w w7 := HI.out.kp.trans hK7 (fun i e => by subst e; exact .inr (by omega))
          have hlt7 : rI < w7.heap.size := by have := hK7.size; have := HI.out.lt; omega
          have hGk : G.key = (r0.x.1.dig.length : Int) := hk0.symm
          obtain ⟨k, hkp, hown7⟩ := hrows7 G hGm
          have hDG := Lib.hid hD7
          have hGS := Lib.hid hGm
          obtain ⟨L, hL⟩ : ∃ L, L = r0.x.1.dig.length := ⟨_, rfl⟩
          rw [← hL] at hL2 hit hGk
          clear hL
          obtain ⟨key, g, gcap, items⟩ := G
          simp only at hg1 hg2 hit hin hin0 hnew hGk hkp
          subst hGk
          obtain rfl : p = ((L : Int), .slice (some ⟨g, 0, none⟩) items.length gcap) := hGp.symm
          have hown : w7.ownsRow w.heap.size recT 2 (.slice (some ⟨g, 0, none⟩) items.length gcap) items.length (k.flatMap Rec.cells) := hown7
          obtain ⟨hcp, hg7⟩ := own_cap hown
          have hkl : k.length = items.length := hkp.length_eq
          have hRow := RecRow.of_own hown hkl (fun r hr => (hrecs7 r (hit r (hkp.mem_iff.1 hr)).1).ok hown)
          have hSort := sortRecs_ok g items.length gcap k.toArray w7 (by omega) hcp hg7 (by simpa using hkl) hRow
          have H7 := Lib.hid (And.intro hM7 (And.intro hrows7 (And.intro hrecs7 (And.intro hkp7 hIt7))))
          have HOWN := Lib.hid hown
          have HKP := Lib.hid hkp
          have HIT := Lib.hid hit
          have HNEW := Lib.hid hnew
          have HDL := Lib.hid hdl7
          have HIS := Lib.hid HI.out.it.seen
          clear hpm hGp hD7 hr0 hk0 hr0l hit hM7 hrows7 hrecs7 hkp7 hIt7 hK7 hs7 hown7 hown hkl hRow hIt hdl7 hnew
          refine now ?_
          go_wp2_with fail
          refine hSort.mono ?_
          clear hSort
          rintro e w8 ⟨rfl, d, hR8, hd8, hp8, hS8⟩
          have hk8 := hR8.kp
          have hown8 : w8.ownsRow w.heap.size recT 2 (.slice (some ⟨g, 0, none⟩) items.length gcap) items.length (d.toList.flatMap Rec.cells) := RecRow.own HOWN.out hR8 hd8
          have hdp : d.toList.Perm items := hp8.trans HKP.out
          have hrows8 : ∀ G ∈ Gs, ∃ k : List Rec, k.Perm G.items ∧ w8.ownsRow w.heap.size recT 2 G.val G.items.length (k.flatMap Rec.cells) := fun G' hG' => by
            by_cases e : G'.g = g
            · obtain ⟨i, hi⟩ := List.getElem?_of_mem hG'
              obtain ⟨j, hj⟩ := List.getElem?_of_mem hGS.out
              have hij := nodup_at HGS.out.2 (i := i) (j := j) (x := g) (by rw [List.getElem?_map, hi]; simp [e]) (by rw [List.getElem?_map, hj]; rfl)
              subst hij
              rw [hi] at hj
              injection hj with hj
              subst hj
              exact ⟨d.toList, hdp, hown8⟩
            · obtain ⟨k, h1, h2⟩ := H7.out.2.1 G' hG'
              exact ⟨k, h1, own_kp h2 hk8 (fun g' e' => by cases e'; exact e)⟩
          have hrecs8 : ∀ r ∈ done, RecAt w8 w.heap.size r := fun r hr => (H7.out.2.2.1 r hr).kp hk8 (fun i e => by subst e; exact notU8_own HOWN.out)
          have hM8 : MwAt w8 a mk secs := H7.out.1.kp hk8 (by omega) (by omega) (fun s hs => by have := HI.out.gd s hs; omega)
          have hIt8 := H7.out.2.2.2.2.kp hk8 (by omega) (by omega)
          have hkp8 : Kp (fun i => i = mk) w w8 := H7.out.2.2.2.1.trans hk8 (fun i e => by subst e; exact .inr (by omega))
          have hlt8 : rI < w8.heap.size := by have := hk8.size; omega
          have hcell : ∀ t, t < items.length → w8.cell? ⟨g, t * 2, none⟩ = some (.slice d[t]!.A d[t]!.x.1.dig.length d[t]!.cap) ∧ w8.cell? ⟨g, t * 2 + 1, none⟩ = some (.int .u64 d[t]!.x.2) := fun t ht => by
            obtain ⟨cur, hgc, hcur, _⟩ := hR8.row
            obtain ⟨h1, h2⟩ := hcur t ht
            rw [Nat.mul_comm t]
            exact ⟨(blk_cell' hgc _).trans h1, (blk_cell' hgc _).trans h2⟩
          have hmem : ∀ t, t < items.length → d[t]! ∈ items := fun t ht => by
            rw [getElem!_pos d t (by omega)]
            exact hdp.mem_iff.1 (by simp)
          obtain ⟨Wd, hWd⟩ : ∃ Wd, Wd = L + 8 := ⟨_, rfl⟩
          obtain ⟨M, hMd⟩ : ∃ M, M = Wd * items.length := ⟨_, rfl⟩
          have hW8 : (L : Int) + 8 = (Wd : Int) := by omega
          have hWa : Wd ≤ L + 8 := by omega
          have hWb : L + 8 ≤ Wd := by omega
          have hM1 : (Wd : Int) * (items.length : Int) = (M : Int) := by rw [hMd]; push_cast; rfl
          have hMb : M ≤ 208 * 100000 := by rw [hMd]; exact Nat.mul_le_mul (by omega) (by omega)
          have hWM : Wd ≤ M := by rw [hMd]; exact Nat.le_mul_of_pos_right Wd hin0
          have hmk8 := fun W => make8 M (M : Int) rfl (by omega) W
          have H8 := Lib.hid (And.intro hM8 (And.intro hrows8 (And.intro hrecs8 (And.intro hkp8 hIt8))))
          have HD8 := Lib.hid (And.intro hdp hS8)
          have HCELL := Lib.hid hcell
          have HMEM := Lib.hid hmem
          have HMD := Lib.hid hMd
          have HWD := Lib.hid hWd
          have hg8 : g < w8.heap.size := by have := hk8.size; omega
          clear hWd
          clear hk8 hown8 hdp hrows8 hrecs8 hM8 hIt8 hkp8 hcell hmem hMd hp8 hS8 hR8 H7 HOWN HKP
          go_wp2_with fail
          obtain ⟨wy0, hwy0⟩ : ∃ wy0, wy0 = w8.alloc (.cells (zeros8 M).toArray 5) := ⟨_, rfl⟩
          have hz0 : wy0.heap[w8.heap.size]? = some (.cells (bcells ([] : List UInt8) ++ zeros8 (M - 0 * Wd)).toArray 5 (0, 0)) := by
            rw [hwy0, Nat.zero_mul, Nat.sub_zero]; exact heap_alloc_last w8 _
          have hb89 : Below w8.heap.size w8 wy0 := by rw [hwy0]; exact below_boxed w8 _
          rw [← hwy0]
          have hgd : w8.heap.size < wy0.heap.size := (Array.getElem?_eq_some_iff.1 hz0).1
          clear hwy0
          go_loopw [88] (fun v88 wy => ∃ j : Nat, j ≤ items.length ∧ v88 = .int .i64 (j : Int) ∧ wy.heap[w8.heap.size]? = some (.cells (bcells (((d.toList.take j).map Rec.x).flatMap rowB) ++ zeros8 (M - j * Wd)).toArray 5 (0, 0)) ∧ Kp (fun i => i = w8.heap.size) wy0 wy) (fun v88 _ => items.length - (intOf v88).toNat)
          case atStart => exact ⟨0, Nat.zero_le _, rfl, hz0, Kp.refl _ _⟩
          case round =>
            obtain ⟨j, hj, rfl, hz, hkj⟩ := hrel
            obtain ⟨wy, rfl⟩ : ∃ wy, wy = wr := ⟨_, rfl⟩
            clear hz0
            have hk8j : Kp (fun i => i = w8.heap.size) w8 wy := (Kp.of_below (S := fun i => i = w8.heap.size) hb89).trans hkj (fun i h => .inl h)
            by_cases hlt : j < items.length
            · obtain ⟨k0, k1⟩ := HCELL.out j hlt
              have hrm := HMEM.out j hlt
              have hrd := HIT.out _ hrm
              have hrA := (H8.out.2.2.1 _ hrd.1)
              have hrx : d[j]!.x ∈ l := by rw [← HDN.out]; exact List.mem_map_of_mem hrd.1
              have hro := HO.out _ hrx
              have hk0 := (hk8j.cell (p := ⟨g, j * 2, none⟩) hg8 (by show ¬ g = w8.heap.size; omega)).trans k0
              have hk1 := (hk8j.cell (p := ⟨g, j * 2 + 1, none⟩) hg8 (by show ¬ g = w8.heap.size; omega)).trans k1
              have hrne : ∀ p, d[j]!.A = some p → p.block < w8.heap.size := fun p e => by
                obtain ⟨cs, fr, hh⟩ := hrA.blk p e
                exact (Array.getElem?_eq_some_iff.1 hh).1
              have hA : BytesAt wy d[j]!.A d[j]!.x.1.dig := hrA.at_.upd fun ad e => hk8j.block _ (hrne ad e) (by have := hrne ad e; show ¬ ad.block = w8.heap.size; omega)
              have hcap := hrA.cap
              have htk : ((d.toList.take (j + 1)).map Rec.x).flatMap rowB = ((d.toList.take j).map Rec.x).flatMap rowB ++ rowB d[j]!.x := by
                have hjd : j < d.toList.length := by rw [Array.length_toList, hd8]; exact hlt
                rw [List.take_succ_eq_append_getElem hjd, List.map_append, List.flatMap_append]
                rw [getElem!_pos d j (by omega)]
                simp
              have hpl : (((d.toList.take j).map Rec.x).flatMap rowB).length = j * Wd := by
                rw [(rows_at L _ (fun x hx => ?_)).1, List.length_map, List.length_take, Array.length_toList, hd8, Nat.min_eq_left hj, HWD.out]
                obtain ⟨r, hr, rfl⟩ := List.mem_map.1 hx
                exact (HIT.out r (HD8.out.1.mem_iff.1 (List.mem_of_mem_take hr))).2
              have HTK := Lib.hid htk
              have HPL := Lib.hid hpl
              have hrL := hrd.2
              clear htk hpl k0 k1 hrm hrd hrA hrx
              generalize d[j]! = r at *
              obtain ⟨P, hPd⟩ : ∃ P, P = j * Wd := ⟨_, rfl⟩
              obtain ⟨Q, hQd⟩ : ∃ Q, Q = (j + 1) * Wd := ⟨_, rfl⟩
              have hP : (j : Int) * (Wd : Int) = (P : Int) := by rw [hPd]; push_cast; rfl
              have hQ : ((j : Int) + 1) * (Wd : Int) = (Q : Int) := by rw [hQd]; push_cast; rfl
              have hPQ : Q = P + Wd := by rw [hPd, hQd, Nat.add_mul, Nat.one_mul]
              have hPQa : Q ≤ P + Wd := by omega
              have hPQb : P + Wd ≤ Q := by omega
              have HPQ := Lib.hid hPQ
              clear hPQ
              have hQM : Q ≤ M := by rw [hQd, HMD.out, Nat.mul_comm]; exact Nat.mul_le_mul_left _ hlt
              rw [← hPd] at hz HPL
              have HPD := Lib.hid hPd
              have HQD := Lib.hid hQd
              clear hPd hQd
              have hs7 : ∀ W : World, (Instr.slice 65 (.slice (some ⟨w8.heap.size, 0, none⟩) M M) (some (.int .i64 (P : Int))) (some (.int .i64 (Q : Int))) none).run Tryz.prog W = .ok (.slice (some ⟨w8.heap.size, P, none⟩) (Q - P) (M - P)) W := fun W => cut_lh w8.heap.size P Q M (by omega) (by omega) (by omega) (P : Int) (Q : Int) rfl rfl W
              have hoff : ((r.x.2.toNat : Nat) : Int) = r.x.2 := Int.toNat_of_nonneg hro.1
              have hbb : Below wy.heap.size wy (wy.alloc (.cells #[.slice r.A r.x.1.dig.length r.cap, .int .u64 r.x.2] 302)).drew := by (repeat (first | (with_reducible exact Below.refl _ _) | (with_reducible exact below_boxed _ _) | (with_reducible refine below_box ?_ _) | (with_reducible refine below_drew1 ?_) | (with_reducible refine below_drewn ?_ _) | (with_reducible refine below_bytes ?_ _ _) | (with_reducible refine below_next ?_ (by assumption)) | (with_reducible refine below_set ?_ (by first | (simp; done) | (simp; omega) | omega) _)))
              have hRW := recWrite_any w8.heap.size P (Q - P) (M - P) r.cap r.x.2.toNat r.A r.x.1.dig (bcells (((d.toList.take j).map Rec.x).flatMap rowB) ++ zeros8 (M - P)) (wy.alloc (.cells #[.slice r.A r.x.1.dig.length r.cap, .int .u64 r.x.2] 302)).drew
                ((hbb.block _ (Array.getElem?_eq_some_iff.1 hz).1).trans hz) (hA.below hbb) (fun p e => by have := hrne p e; omega) (by omega) (by omega) (by rw [List.length_append, bcells_len, zeros8_length, HPL.out]; omega) (by omega) hcap (by rw [List.length_append, bcells_len, zeros8_length, HPL.out]; omega)
              rw [hoff, hrL] at hRW
              have hwj : IntKind.i64.wrap ((j : Int) + 1) = (j : Int) + 1 := by rw [IntKind.wrap_i64]; omega
              have hwP : IntKind.i64.wrap (P : Int) = (P : Int) := by rw [IntKind.wrap_i64]; omega
              have hwQ : IntKind.i64.wrap (Q : Int) = (Q : Int) := by rw [IntKind.wrap_i64]; omega
              have hgl : g < wy.heap.size := World.block_lt_of_cell? wy _ hk0
              have HZ := Lib.hid hz
              clear hz hA hrne hbb
              go_wp2_with fail
              refine wp_region_noPanic ?_
              go_region_with (go_at_call 209; refine hRW.mono ?_; rintro e w10 ⟨rfl, hg10, hK10⟩)
              refine NoPanic.normal ?_
              have hrowl : (r.x.1.dig ++ Lib.leBytes 8 r.x.2.toNat).length = Wd := by rw [List.length_append, le8_len, hrL]; omega
              rw [splice_fill _ _ M P Q Wd HPL.out HPQ.out hrowl hQM] at hg10
              have hK11 : Kp (fun i => i = w8.heap.size) wy0 w10 := hkj.trans (S' := fun i => i = w8.heap.size) ((Kp.of_below (S := fun i => i = w8.heap.size) (by (repeat (first | (with_reducible exact Below.refl _ _) | (with_reducible exact below_boxed _ _) | (with_reducible refine below_box ?_ _) | (with_reducible refine below_drew1 ?_) | (with_reducible refine below_drewn ?_ _) | (with_reducible refine below_bytes ?_ _ _) | (with_reducible refine below_next ?_ (by assumption)) | (with_reducible refine below_set ?_ (by first | (simp; done) | (simp; omega) | omega) _))))).trans hK10 (fun i h => .inl h)) (fun i h => .inl h)
              have hfl : ((d.toList.take (j + 1)).map Rec.x).flatMap rowB = ((d.toList.take j).map Rec.x).flatMap rowB ++ (r.x.1.dig ++ Lib.leBytes 8 r.x.2.toNat) := HTK.out
              rw [← hfl] at hg10
              have HG10 := Lib.hid (And.intro hg10 hK11)
              clear hg10 hK11 hK10 hRW hfl hrowl
              go_wp2_with fail
              go_roundw
              case rel => exact ⟨j + 1, by omega, by go_num, by rw [← HQD.out]; exact HG10.out.1, HG10.out.2⟩
              case measure => simp [intOf]; omega
            · obtain rfl : j = items.length := by omega
              have hdat : ((d.toList.take items.length).map Rec.x).flatMap rowB = (d.toList.map Rec.x).flatMap rowB := by rw [List.take_of_length_le (by rw [Array.length_toList]; omega)]
              rw [hdat, show M - items.length * Wd = 0 by rw [HMD.out, Nat.mul_comm]; omega, show zeros8 0 = [] from rfl, List.append_nil] at hz
              obtain ⟨data, hdata⟩ : ∃ data, data = (d.toList.map Rec.x).flatMap rowB := ⟨_, rfl⟩
              have hdlen : data.length = M := by
                rw [hdata, (rows_at L _ (fun x hx => ?_)).1, List.length_map, Array.length_toList, hd8, HMD.out, ← HWD.out, Nat.mul_comm]
                obtain ⟨r, hr, rfl⟩ := List.mem_map.1 hx
                exact (HIT.out r (HD8.out.1.mem_iff.1 hr)).2
              rw [← hdata] at hz
              have HDATA := Lib.hid hdata
              have hMy : MwAt wy a mk secs := H8.out.1.kp hk8j (by omega) (by omega) (fun s hs => by have := (Array.getElem?_eq_some_iff.1 (H8.out.1.row s hs)).1; show ¬ s.gd = w8.heap.size; omega)
              have hIty := H8.out.2.2.2.2.kp hk8j (by omega) (by omega)
              have hrowsy : ∀ G ∈ Gs, ∃ k : List Rec, k.Perm G.items ∧ wy.ownsRow w.heap.size recT 2 G.val G.items.length (k.flatMap Rec.cells) := fun G' hG' => by
                obtain ⟨k, h1, h2⟩ := H8.out.2.1 G' hG'
                exact ⟨k, h1, own_kp h2 hk8j (fun g e => by cases e; show ¬ G'.g = w8.heap.size; have := (HGS.out.1 G' hG').2; omega)⟩
              have hrecsy : ∀ r ∈ done, RecAt wy w.heap.size r := fun r hr => (H8.out.2.2.1 r hr).kp hk8j (fun i e cs fr => by subst e; rw [Array.getElem?_eq_none (Nat.le_refl _)]; simp)
              have hkpy : Kp (fun i => i = mk) w wy := H8.out.2.2.2.1.trans hk8j (fun i e => by subst e; exact .inr (by omega))
              have hmky := hMy.map.lt
              have hay := World.block_lt_of_cell? wy _ hMy.cell
              have hgdy := (Array.getElem?_eq_some_iff.1 hz).1
              have cay := hMy.cell
              have hu32 : IntKind.u32.wrap (Wd : Int) = (Wd : Int) := by rw [IntKind.wrap_u32]; omega
              have hu32' : IntKind.u32.wrap (L : Int) = (L : Int) := by rw [IntKind.wrap_u32]; omega
              obtain ⟨om, hmu, him⟩ := (hMy.map.upd (w' := (wy.alloc (.cells #[.int .u32 (Wd : Int), .int .u64 (items.length : Int), .slice (some ⟨w8.heap.size, 0, none⟩) M M] 295)).drew) (heap_alloc_old wy _ hmky)).put (P := Tryz.prog) Tryz.underlying164 Tryz.underlying138 (Wd : Int) (.agg #[.int .u32 (Wd : Int), .int .u64 (items.length : Int), .slice (some ⟨w8.heap.size, 0, none⟩) M M])
              have hmu1 := hmu _ rfl
              have HIM := Lib.hid (him _ rfl)
              have hblkX := heap_alloc_last wy (.cells #[.int .u32 (Wd : Int), .int .u64 (items.length : Int), .slice (some ⟨w8.heap.size, 0, none⟩) M M] 295)
              have HY := Lib.hid (And.intro hMy (And.intro hIty (And.intro hrowsy (And.intro hrecsy (And.intro hkpy hz)))))
              have HDLEN := Lib.hid hdlen
              clear hMy hIty hrowsy hrecsy hkpy hz hmu him hdat hdata hdlen hk8j
              go_wp2_with fail
              go_region
              have hkX : Kp (fun i => i = mk) wy (setBlock (wy.alloc (.cells #[.int .u32 (Wd : Int), .int .u64 (items.length : Int), .slice (some ⟨w8.heap.size, 0, none⟩) M M] 295)).drew mk om) :=
                ((Kp.of_below (S := fun _ => False) (below_drew1 (below_boxed wy _))).mono (S' := fun i => i = mk) (fun _ h => h.elim)).trans (kp_setBlk (w := (wy.alloc _).drew) om) (fun i h => .inl h)
              generalize setBlock (wy.alloc (.cells #[.int .u32 (Wd : Int), .int .u64 (items.length : Int), .slice (some ⟨w8.heap.size, 0, none⟩) M M] 295)).drew mk om = WF at *
              obtain ⟨hMy, hIty, hrowsy, hrecsy, hkpy, hz⟩ := HY.out
              have hItF := hIty.kp hkX (by omega) (by omega)
              have hgF := (hkX.block w8.heap.size hgdy (by omega)).trans hz
              have caF := (hkX.cell hay ham).trans cay
              have hs : Sec.pair ⟨Wd, data, w8.heap.size⟩ = ((Wd : Int), .agg #[.int .u32 (Wd : Int), .int .u64 (items.length : Int), .slice (some ⟨w8.heap.size, 0, none⟩) M M]) := by
                have hdiv : M / Wd = items.length := by rw [HMD.out]; exact Nat.mul_div_cancel_left _ (by omega)
                simp only [Sec.pair, Sec.val, HDLEN.out, hdiv]
              have hMF : MwAt WF a mk (secs ++ [⟨Wd, data, w8.heap.size⟩]) := by
                refine ⟨caF, ?_, fun s hs' => ?_⟩
                · have h := HIM.out
                  rw [iput_new (fun q hq => by
                    obtain ⟨s, hs', rfl⟩ := List.mem_map.1 hq
                    intro e
                    have e2 : s.width = Wd := by have e3 : (s.width : Int) = (Wd : Int) := e; omega
                    refine HNEW.out ?_
                    rw [Int.toNat_natCast, ← HWD.out, ← e2]
                    exact List.mem_map_of_mem hs'), ← hs] at h
                  rw [List.map_append]; exact h
                · rcases List.mem_append.1 hs' with h | h
                  · exact (hkX.block _ (Array.getElem?_eq_some_iff.1 (hMy.row s h)).1 (by have := HI.out.gd s h; show ¬ s.gd = mk; omega)).trans (hMy.row s h)
                  · rw [List.mem_singleton] at h; subst h; exact hgF
              have hnuX : ∀ i, i = mk → ∀ cs fr, wy.heap[i]? ≠ some (.cells cs 5 fr) := fun i e => by subst e; exact notU8_map hMy.map
              have hFin : LdI w a mk rI Gs done WF (dg ++ [⟨(L : Int), g, gcap, items⟩]) (secs ++ [⟨Wd, data, w8.heap.size⟩]) := by
                refine ⟨by rw [hDG.out]; exact hItF, fun G' hG' => ?_, hMF, fun s hs' => ?_, ?_, fun s hs' => ?_, fun G' hG' => ?_, fun r hr => (hrecsy r hr).kp hkX hnuX, hkpy.trans hkX (fun i h => .inl h), by have := hkX.size; omega⟩
                · rcases List.mem_append.1 hG' with h | h
                  · exact HI.out.sub G' h
                  · rw [List.mem_singleton] at h; subst h; exact hGS.out
                · rcases List.mem_append.1 hs' with h | h
                  · exact HI.out.gd s h
                  · rw [List.mem_singleton] at h; subst h; exact hlt8
                · rw [List.map_append, List.map_append, HI.out.wid]
                  simp only [List.map_cons, List.map_nil, Int.toNat_natCast, HWD.out]
                · rcases List.mem_append.1 hs' with h | h
                  · obtain ⟨G', h1, h2⟩ := HI.out.sec s h
                    exact ⟨G', List.mem_append_left _ h1, h2⟩
                  · rw [List.mem_singleton] at h; subst h
                    exact ⟨⟨(L : Int), g, gcap, items⟩, by simp, d.toList, by simp [HWD.out], HD8.out.1, HD8.out.2, HDATA.out⟩
                · obtain ⟨k, h1, h2⟩ := hrowsy G' hG'
                  exact ⟨k, h1, own_kp h2 hkX (fun g e => by cases e; show ¬ G'.g = mk; have := (HGS.out.1 G' hG').1; omega)⟩
              have hm : Gs.length - (WF.iterSeen rI).size < Gs.length - (dg.map Grp.pair).length := by
                rw [hFin.it.seen]
                have := HDL.out
                simp only [List.length_map, List.length_append, List.length_cons, List.length_nil] at this ⊢
                omega
              have HM2 := Lib.hid hm
              have HFin := Lib.hid hFin
              clear hm hFin hMF hnuX hgF caF hItF hMy hIty hrowsy hrecsy hkpy hz hkX hmu1 hblkX hs
              go_wp2_with fail
              go_roundw
              case rel => exact ⟨_, _, HFin.out⟩
              case measure => rw [HIS.out]; exact HM2.out
end Go.Proofs.YtobdjcnojbnegaaGreatDoor
