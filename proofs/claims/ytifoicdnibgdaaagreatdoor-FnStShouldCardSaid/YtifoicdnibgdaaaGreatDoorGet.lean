/- (*llrb.LLRB).Get, (*index.InsertionIndex).getRecord and Get; what ApplyOptions makes of a store's options. -/
import Derived.Test.YtifoicdnibgdaaaGreatDoorEach
import Derived.Test.YtifoicdnibgdaaaGreatDoorPut
import Derived.Deep.RegionLaw
import Derived.Deep.RegionWith
import Derived.RegionCalls
namespace Go.Proofs.YtifoicdnibgdaaaGreatDoor
open Go.RowKit
set_option linter.unusedVariables false
set_option linter.unusedSimpArgs false
attribute [local go_sem] setCell_drewN alloc_drewN

theorem cmp_eq : ∀ a b : List UInt8, Lib.compareBytes a b = 0 → a = b
  | [], [], _ => rfl
  | [], _ :: _, h => by exact absurd h (by show ¬ (-1 : Int) = 0; decide)
  | _ :: _, [], h => by exact absurd h (by show ¬ (1 : Int) = 0; decide)
  | a :: s, b :: u, h => by
    unfold Lib.compareBytes at h
    by_cases h1 : a < b
    · rw [if_pos h1] at h; exact absurd h (by decide)
    · rw [if_neg h1] at h
      by_cases h2 : b < a
      · rw [if_pos h2] at h; exact absurd h (by decide)
      · rw [if_neg h2] at h
        rw [cmp_eq s u h, show a = b from UInt8.toNat_inj.1 (by rw [UInt8.lt_iff_toNat_lt] at h1 h2; omega)]

def Tr.hgt : Tr → Nat
  | .nil => 0
  | .node _ _ l r _ => 1 + max l.hgt r.hgt

/-- What a look-up answers. -/
def GetSpec (l : List Ent) (pv : Ent) (e : Ending) : Prop := (∃ x, x ∈ l ∧ x.dig = pv.dig ∧ e = .returned x.val) ∨ ((∀ x, x ∈ l → x.dig ≠ pv.dig) ∧ e = .returned .nilIface)

set_option maxRecDepth 100000 in
set_option maxHeartbeats 1600000 in
theorem llrbGet_ok (g : Nat) (t : Tr) (n : Int) (pv : Ent) (w : World) (h : IiAt w g t n) (hs : Sorted t.items) (hpv : pv.At w) :
    Calls Tryz.prog 114 #[.pointer (some ⟨g, 0, none⟩), pv.val] w fun e w' => GetSpec t.items pv e ∧ Below w.heap.size w w' := by
  have q1 := (blk_cell h.blk 1).trans (show _ = some (Value.pointer t.ptr) from rfl)
  have hT := h.tree
  have hE := h.ents
  have hpe : pv.val = .iface 80 pv.agg := rfl
  have HT := Lib.hid hT; clear hT
  have HE := Lib.hid hE; clear hE
  have HS := Lib.hid hs; clear hs
  clear h
  obtain ⟨tp, htp⟩ : ∃ tp, tp = t.ptr := ⟨_, rfl⟩
  rw [← htp] at q1
  have HTP := Lib.hid htp; clear htp
  have hLs := fun x W h1 h2 => less_ok x pv W h1 h2
  have hLp := fun x W h1 h2 => less_ok pv x W h1 h2
  rw [hpe] at *
  go_enter Tryz.func114, Tryz.ntmps114
  go_wp2_with fail
  go_loopg [5] t.hgt (fun s v5 w' => ∃ u : Tr, v5 = .pointer u.ptr ∧ Hid (u.At w ∧ u.Ents w ∧ Sorted u.items ∧ (∀ x, x ∈ u.items → x ∈ t.items) ∧ (∀ x, x ∈ t.items → x.dig = pv.dig → x ∈ u.items) ∧ u.hgt ≤ s) ∧ Below w.heap.size w w')
  case atStart => exact ⟨t, by rw [HTP.out], Lib.hid ⟨HT.out, HE.out, HS.out, fun _ h => h, fun _ h _ => h, Nat.le_refl _⟩, Below.refl _ _⟩
  case round =>
    obtain ⟨u, rfl, hH, hbw⟩ := hrel
    obtain ⟨hA, hEn, hSo, hsub, hall, hh⟩ := hH.out
    clear hH
    cases u with
    | nil =>
      have hno : ∀ x, x ∈ t.items → x.dig ≠ pv.dig := fun x hx e => by have := hall x hx e; simp [Tr.items] at this
      clear hA hEn hSo hsub hall hh
      simp only [Tr.ptr]
      go_wp2_with fail
      go_ret
      exact ⟨.inr ⟨hno, rfl⟩, hbw⟩
    | node b x l r k =>
      cases gk with
      | zero => exact absurd hh (by simp [Tr.hgt])
      | succ g1 =>
      simp only [Tr.ptr]
      obtain ⟨hb, hl, hr⟩ := hA
      obtain ⟨hcc, hff⟩ := bcell hbw
      have hblt := (Array.getElem?_eq_some_iff.1 hb).1
      have c0 := ((hcc b 0 hblt).trans (blk_cell hb 0)).trans (show _ = some (Value.iface 80 x.agg) from rfl)
      have c1 := ((hcc b 1 hblt).trans (blk_cell hb 1)).trans (show _ = some (Value.pointer l.ptr) from rfl)
      have c2 := ((hcc b 2 hblt).trans (blk_cell hb 2)).trans (show _ = some (Value.pointer r.ptr) from rfl)
      have hxe : x.At w := hEn x (by simp [Tr.items])
      have hxv : x.val = .iface 80 x.agg := rfl
      have hlt1 : l.hgt ≤ g1 := by simp only [Tr.hgt] at hh; omega
      have hlt2 : r.hgt ≤ g1 := by simp only [Tr.hgt] at hh; omega
      have hSo' := hSo
      unfold Sorted Tr.items at hSo'
      rw [List.pairwise_append, List.pairwise_cons] at hSo'
      obtain ⟨sl, ⟨sxr, sr⟩, slr⟩ := hSo'
      have hxt : x ∈ t.items := hsub x (by simp [Tr.items])
      have HL := Lib.hid hl; have HR := Lib.hid hr
      clear hb hcc hff hl hr hSo
      obtain ⟨lp, hlp⟩ : ∃ lp, lp = l.ptr := ⟨_, rfl⟩
      obtain ⟨rp, hrp⟩ : ∃ rp, rp = r.ptr := ⟨_, rfl⟩
      rw [← hlp] at c1
      rw [← hrp] at c2
      have HLP := Lib.hid hlp; have HRP := Lib.hid hrp
      clear hlp hrp
      have h1 := hLp x wr (hpv.below hbw) (hxe.below hbw)
      rw [hxv] at h1
      have hE1 : ∀ y, y ∈ l.items → y.At w := fun y hy => hEn y (by simp [Tr.items, hy])
      have hE2 : ∀ y, y ∈ r.items → y.At w := fun y hy => hEn y (by simp [Tr.items, hy])
      have hs1 : ∀ y, y ∈ l.items → y ∈ t.items := fun y hy => hsub y (by simp [Tr.items, hy])
      have hs2 : ∀ y, y ∈ r.items → y ∈ t.items := fun y hy => hsub y (by simp [Tr.items, hy])
      by_cases hlt : Lib.compareBytes pv.dig x.dig < 0
      · have hin : ∀ y, y ∈ t.items → y.dig = pv.dig → y ∈ l.items := fun y hy e => by
          have := hall y hy e
          simp only [Tr.items, List.mem_append, List.mem_cons] at this
          rcases this with h | rfl | h
          · exact h
          · rw [e, cmp_refl] at hlt; omega
          · exfalso
            have h2 := sxr y h
            rw [e, cmp_neg] at h2
            omega
        rw [decide_eq_true hlt] at h1
        clear hlt hall hsub hEn hxe hxt hh
        go_wp2_with fail
        refine h1.mono ?_
        rintro e w1 ⟨rfl, hb1⟩
        have hbw1 := below_next hbw hb1
        replace c1 := (hb1.cell (p := ⟨b, 1, none⟩) (Nat.lt_of_lt_of_le hblt hbw.size)).trans c1
        go_wp2_with fail
        go_roundg g1
        case measure => omega
        case rel => exact ⟨l, by rw [HLP.out], Lib.hid ⟨HL.out, hE1, sl, hs1, hin, hlt1⟩, hbw1⟩
      · rw [decide_eq_false hlt] at h1
        have hE3 : ∀ W, Below w.heap.size w W → x.At W ∧ pv.At W := fun W hW => ⟨hxe.below hW, hpv.below hW⟩
        clear hEn hh
        by_cases hgt : Lib.compareBytes x.dig pv.dig < 0
        · have hin : ∀ y, y ∈ t.items → y.dig = pv.dig → y ∈ r.items := fun y hy e => by
            have := hall y hy e
            simp only [Tr.items, List.mem_append, List.mem_cons] at this
            rcases this with h | rfl | h
            · exfalso
              have h2 := slr y h x (by simp)
              rw [e, cmp_neg] at h2
              omega
            · rw [e, cmp_refl] at hgt; omega
            · exact h
          clear hall hsub hxt
          go_wp2_with fail
          refine h1.mono ?_
          rintro e w1 ⟨rfl, hb1⟩
          have hbw1 := below_next hbw hb1
          have h2 := hLs x w1 (hE3 w1 hbw1).1 (hE3 w1 hbw1).2
          rw [decide_eq_true hgt, hxv] at h2
          replace c0 := (hb1.cell (p := ⟨b, 0, none⟩) (Nat.lt_of_lt_of_le hblt hbw.size)).trans c0
          replace c2 := (hb1.cell (p := ⟨b, 2, none⟩) (Nat.lt_of_lt_of_le hblt hbw.size)).trans c2
          clear hgt hlt
          go_wp2_with fail
          refine h2.mono ?_
          rintro e w2 ⟨rfl, hb2⟩
          replace c2 := (hb2.cell (p := ⟨b, 2, none⟩) (Nat.lt_of_lt_of_le hblt hbw1.size)).trans c2
          go_wp2_with fail
          go_roundg g1
          case measure => omega
          case rel => exact ⟨r, by rw [HRP.out], Lib.hid ⟨HR.out, hE2, sr, hs2, hin, hlt2⟩, below_next hbw1 hb2⟩
        · have hxd : x.dig = pv.dig := by
            refine cmp_eq _ _ ?_
            have := cmp_neg x.dig pv.dig
            omega
          have hgf : decide (Lib.compareBytes x.dig pv.dig < 0) = false := decide_eq_false hgt
          clear hall hsub
          go_wp2_with fail
          refine h1.mono ?_
          rintro e w1 ⟨rfl, hb1⟩
          have hbw1 := below_next hbw hb1
          have h2 := hLs x w1 (hE3 w1 hbw1).1 (hE3 w1 hbw1).2
          rw [hgf, hxv] at h2
          replace c0 := (hb1.cell (p := ⟨b, 0, none⟩) (Nat.lt_of_lt_of_le hblt hbw.size)).trans c0
          clear hgt hlt
          go_wp2_with fail
          refine h2.mono ?_
          rintro e w2 ⟨rfl, hb2⟩
          replace c0 := (hb2.cell (p := ⟨b, 0, none⟩) (Nat.lt_of_lt_of_le hblt hbw1.size)).trans c0
          go_wp2_with fail
          go_ret
          exact ⟨.inl ⟨x, hxt, hxd, rfl⟩, below_next hbw1 hb2⟩

/-- What a look-up of a record answers. -/
def RecSpec (l : List Ent) (d : List UInt8) (err : Value) (e : Ending) : Prop :=
  (∃ x, x ∈ l ∧ x.dig = d ∧ e = .returned (.tuple #[.agg #[.string x.str, .int .u64 x.off], .nilIface])) ∨ ((∀ x, x ∈ l → x.dig ≠ d) ∧ e = .returned (.tuple #[.agg #[.string ⟨#[]⟩, .int .u64 0], err]))

theorem GetSpec.yes {l : List Ent} {pv : Ent} {e : Ending} (h : GetSpec l pv e) (hx : ∃ x, x ∈ l ∧ x.dig = pv.dig) : ∃ x, x ∈ l ∧ x.dig = pv.dig ∧ e = .returned x.val := by
  rcases h with h | ⟨h, _⟩
  · exact h
  · obtain ⟨x, hx1, hx2⟩ := hx
    exact absurd hx2 (h x hx1)
theorem GetSpec.no {l : List Ent} {pv : Ent} {e : Ending} (h : GetSpec l pv e) (hx : ¬ ∃ x, x ∈ l ∧ x.dig = pv.dig) : e = .returned .nilIface := by
  rcases h with ⟨x, h1, h2, _⟩ | ⟨_, h⟩
  · exact absurd ⟨x, h1, h2⟩ hx
  · exact h
theorem assert_err (v : Value) (w : World) : (Instr.typeAssert (.iface 80 v) 74 80 true).run Tryz.prog w = .ok (.tuple #[v, .bool true]) w := assert_ok v w

set_option maxRecDepth 100000 in
set_option maxHeartbeats 1600000 in
theorem getRecord_ok (g : Nat) (t : Tr) (n : Int) (c : CidOf) (hc : c.Ok) (ty : TypeId) (ev : Value) (w : World) (h : IiAt w g t n) (hs : Sorted t.items) (hg5 : 5 < w.heap.size) (he : w.cell? ⟨5, 0, none⟩ = some (.iface ty ev)) :
    Calls Tryz.prog 102 #[.pointer (some ⟨g, 0, none⟩), .agg #[.string c.str]] w fun e w' => RecSpec t.items c.dig (.iface ty ev) e ∧ Below w.heap.size w w' := by
  have hH := fun W => Hash_ok c hc W
  go_enter Tryz.func102, Tryz.ntmps102
  go_wp2_with fail
  refine (hH _).mono ?_
  rintro e w1 ⟨A1, c1, rfl, hc1, hA1, hB1, hF1, hb1⟩
  obtain ⟨hcc, hff⟩ := bcell hb1
  have hz : w.heap.size + 1 < w1.heap.size := by have := hb1.size; simp at this; omega
  go_wp2_with fail
  refine (Decode_ok c.code hc.code c.dig (by have := hc.dig; omega) A1 _ c1 _ hA1 rfl hc1).mono ?_
  rintro e w2 ⟨gd, A2, c2, rfl, hc2, hS2, hb2, hg2, hblk⟩
  clear hcc hff
  have hb02 := below_next hb1 hb2
  obtain ⟨hcc, hff⟩ := bcell hb02
  have k3 : w2.cell? ⟨gd, 3, none⟩ = some (.slice A2 c.dig.length c2) := by simp [World.cell?, hblk]
  have hz2 : w.heap.size + 1 < w2.heap.size := by have := hb2.size; omega
  go_wp2_with fail
  have hF2 := hS2.frm _ hF1
  have hA2 : BytesAt w2 A2 c.dig := hS2.bytes _ (hA1.below hb2)
  have hB2 : ByteBlk w2 5 A2 := hS2.blk _ _ (hB1.below hb2)
  have hpv : Ent.At (w2.alloc (.cells #[.slice A2 c.dig.length c2, .string ⟨#[]⟩, .int .u64 0] 80)).drew (⟨A2, c2, ⟨#[]⟩, 0, c.dig⟩ : Ent) := ⟨hA2.below (below_drew1 (below_boxed _ _)), hB2.below (below_drew1 (below_boxed _ _))⟩
  have hpvv : (⟨A2, c2, ⟨#[]⟩, 0, c.dig⟩ : Ent).val = .iface 80 (.agg #[.slice A2 c.dig.length c2, .string ⟨#[]⟩, .int .u64 0]) := rfl
  have hG := llrbGet_ok g t n ⟨A2, c2, ⟨#[]⟩, 0, c.dig⟩ _ (h.below (by (repeat (first | (with_reducible exact Below.refl _ _) | (with_reducible exact below_boxed _ _) | (with_reducible refine below_box ?_ _) | (with_reducible refine below_drew1 ?_) | (with_reducible refine below_drewn ?_ _) | (with_reducible refine below_bytes ?_ _ _) | (with_reducible refine below_next ?_ (by assumption)) | (with_reducible refine below_set ?_ (by first | (simp; done) | (simp; omega) | omega) _))))) hs hpv
  rw [hpvv] at hG
  have hta := assert_ok
  by_cases hex : ∃ x, x ∈ t.items ∧ x.dig = c.dig
  · go_region_with (go_at_call 114; refine hG.mono ?_; rintro e w3 ⟨hGS, hb3⟩; obtain ⟨x, hx, hxd, rfl⟩ := hGS.yes hex)
    simp only [Ent.val, Ent.agg]
    have hb03 := below_next (below_drew1 (below_box hb02 (.cells #[.slice A2 c.dig.length c2, .string ⟨#[]⟩, .int .u64 0] 80))) hb3
    clear hcc hff
    obtain ⟨hcc, hff⟩ := bcell hb03
    have hz3 : w.heap.size + 1 < w3.heap.size := by have := hb03.size; simp at this; omega
    go_wp2_with fail
    refine bodyPost_ret (v := .tuple #[.agg #[.string x.str, .int .u64 x.off], .nilIface]) (by simp [results, Tryz.results102, go_sem, hcc, hff, hz3]) rfl ?_
    exact ⟨.inl ⟨x, hx, hxd, rfl⟩, by (repeat (first | (with_reducible exact Below.refl _ _) | (with_reducible exact below_boxed _ _) | (with_reducible refine below_box ?_ _) | (with_reducible refine below_drew1 ?_) | (with_reducible refine below_drewn ?_ _) | (with_reducible refine below_bytes ?_ _ _) | (with_reducible refine below_next ?_ (by assumption)) | (with_reducible refine below_set ?_ (by first | (simp; done) | (simp; omega) | omega) _)))⟩
  · go_region_with (go_at_call 114; refine hG.mono ?_; rintro e w3 ⟨hGS, hb3⟩; obtain rfl := hGS.no hex)
    have hb03 := below_next (below_drew1 (below_box hb02 (.cells #[.slice A2 c.dig.length c2, .string ⟨#[]⟩, .int .u64 0] 80))) hb3
    clear hcc hff
    obtain ⟨hcc, hff⟩ := bcell hb03
    have hz3 : w.heap.size + 1 < w3.heap.size := by have := hb03.size; simp at this; omega
    have he3 : w3.cell? ⟨5, 0, none⟩ = some (.iface ty ev) := (below_next (below_box (below_boxed w (.cells #[.string c.str] 49)) (.cells #[.string ⟨#[]⟩, .int .u64 0] 78)) hb03 |>.cell (p := ⟨5, 0, none⟩) hg5).trans he
    have hg53 : 5 < w3.heap.size := by omega
    go_wp2_with fail
    go_region
    go_wp2_with fail
    refine bodyPost_ret (v := .tuple #[.agg #[.string ⟨#[]⟩, .int .u64 0], .iface ty ev]) (by simp [results, Tryz.results102, go_sem, hcc, hff, hz3]) rfl ?_
    exact ⟨.inr ⟨fun x hx h => hex ⟨x, hx, h⟩, rfl⟩, by (repeat (first | (with_reducible exact Below.refl _ _) | (with_reducible exact below_boxed _ _) | (with_reducible refine below_box ?_ _) | (with_reducible refine below_drew1 ?_) | (with_reducible refine below_drewn ?_ _) | (with_reducible refine below_bytes ?_ _ _) | (with_reducible refine below_next ?_ (by assumption)) | (with_reducible refine below_set ?_ (by first | (simp; done) | (simp; omega) | omega) _)))⟩

set_option maxRecDepth 100000 in
set_option maxHeartbeats 1600000 in
theorem iiGet_ok (g : Nat) (t : Tr) (n : Int) (c : CidOf) (hc : c.Ok) (ty : TypeId) (ev : Value) (w : World) (h : IiAt w g t n) (hs : Sorted t.items) (hg5 : 5 < w.heap.size) (he : w.cell? ⟨5, 0, none⟩ = some (.iface ty ev)) :
    Calls Tryz.prog 63 #[.pointer (some ⟨g, 0, none⟩), .agg #[.string c.str]] w fun e w' =>
      ((∃ o, e = .returned (.tuple #[.int .u64 o, .nilIface]) ∧ ∃ x, x ∈ t.items ∧ x.dig = c.dig) ∨ (e = .returned (.tuple #[.int .u64 0, .iface ty ev]) ∧ ¬ ∃ x, x ∈ t.items ∧ x.dig = c.dig)) ∧ Below w.heap.size w w' := by
  have hR := getRecord_ok g t n c hc ty ev (w.alloc (.cells #[.string c.str] 49)) (h.below (below_boxed _ _)) hs (by simp; omega) ((below_boxed w (.cells #[.string c.str] 49)).cell (p := ⟨5, 0, none⟩) hg5 |>.trans he)
  clear h hs
  go_enter Tryz.func63, Tryz.ntmps63
  go_wp2_with fail
  refine hR.mono ?_
  rintro e w1 ⟨hS, hb1⟩
  rcases hS with ⟨x, hx, hxd, rfl⟩ | ⟨hno, rfl⟩
  · go_wp2_with fail
    go_ret2
    exact ⟨.inl ⟨x.off, rfl, x, hx, hxd⟩, by (repeat (first | (with_reducible exact Below.refl _ _) | (with_reducible exact below_boxed _ _) | (with_reducible refine below_box ?_ _) | (with_reducible refine below_drew1 ?_) | (with_reducible refine below_drewn ?_ _) | (with_reducible refine below_bytes ?_ _ _) | (with_reducible refine below_next ?_ (by assumption)) | (with_reducible refine below_set ?_ (by first | (simp; done) | (simp; omega) | omega) _)))⟩
  · go_wp2_with fail
    go_ret2
    exact ⟨.inr ⟨rfl, fun ⟨x, hx, hxd⟩ => hno x hx hxd⟩, by (repeat (first | (with_reducible exact Below.refl _ _) | (with_reducible exact below_boxed _ _) | (with_reducible refine below_box ?_ _) | (with_reducible refine below_drew1 ?_) | (with_reducible refine below_drewn ?_ _) | (with_reducible refine below_bytes ?_ _ _) | (with_reducible refine below_next ?_ (by assumption)) | (with_reducible refine below_set ?_ (by first | (simp; done) | (simp; omega) | omega) _)))⟩
end Go.Proofs.YtifoicdnibgdaaaGreatDoor
