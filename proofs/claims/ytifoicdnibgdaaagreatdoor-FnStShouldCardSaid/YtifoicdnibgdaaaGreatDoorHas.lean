/- (*index.InsertionIndex).HasExactCID. -/
import Derived.Test.YtifoicdnibgdaaaGreatDoorGet
import Derived.Deep.QuietTactic
namespace Go.Proofs.YtifoicdnibgdaaaGreatDoor
open Go.RowKit
set_option linter.unusedVariables false
set_option linter.unusedSimpArgs false
attribute [local go_sem] setCell_drewN alloc_drewN

theorem Equal_ok (a b : List UInt8) (A B : Option Addr) (ca cb : Nat) (w : World) (ha : BytesAt w A a) (hb : BytesAt w B b) :
    Calls Tryz.prog 101 #[.slice A a.length ca, .slice B b.length cb] w fun e w' => e = .returned (.bool (a == b)) ∧ w = w' := by
  have h1 := bytes_string (P := Tryz.prog) Tryz.underlying76 Tryz.underlying5 Tryz.underlying9 w A a ca ha
  have h2 := bytes_string (P := Tryz.prog) Tryz.underlying76 Tryz.underlying5 Tryz.underlying9 w B b cb hb
  go_enter Tryz.func101, Tryz.ntmps101
  go_wp2_with fail
  go_ret
  exact ⟨by simp, rfl⟩

/-- How the search goes on: none: it goes on; some f: it has ended, f: found. -/
def scan (pv : Ent) (s : ByteArray) : List Ent → Option Bool
  | [] => none
  | x :: r => if x.lt pv = true then scan pv s r else if x.dig == pv.dig then (if x.str.toList = s.toList then some true else scan pv s r) else some false
theorem scan_append (pv : Ent) (s : ByteArray) : ∀ a b : List Ent, scan pv s (a ++ b) = (match scan pv s a with | none => scan pv s b | some f => some f)
  | [], b => rfl
  | x :: a, b => by
    have ih := scan_append pv s a b
    simp only [List.cons_append, scan]
    split
    · exact ih
    · split
      · split
        · rfl
        · exact ih
      · rfl
theorem scan_lt (pv : Ent) (s : ByteArray) : ∀ a : List Ent, (∀ y, y ∈ a → y.lt pv = true) → scan pv s a = none
  | [], _ => rfl
  | x :: a, h => by
    simp only [scan]
    rw [if_pos (h x (by simp))]
    exact scan_lt pv s a fun y hy => h y (by simp [hy])
theorem scan_true (pv : Ent) (s : ByteArray) : ∀ a : List Ent, Sorted a → (scan pv s a = some true ↔ ∃ x, x ∈ a ∧ x.dig = pv.dig ∧ x.str = s)
  | [], _ => by simp [scan]
  | x :: a, h => by
    have h' := List.pairwise_cons.1 h
    have ih := scan_true pv s a h'.2
    simp only [scan]
    by_cases h1 : x.lt pv = true
    · rw [if_pos h1, ih]
      have hl : Lib.compareBytes x.dig pv.dig < 0 := of_decide_eq_true h1
      constructor
      · rintro ⟨y, hy, h2⟩; exact ⟨y, by simp [hy], h2⟩
      · rintro ⟨y, hy, h2, h3⟩
        rcases List.mem_cons.1 hy with rfl | hy
        · rw [h2, cmp_refl] at hl; omega
        · exact ⟨y, hy, h2, h3⟩
    · rw [if_neg h1]
      have hge : ¬ Lib.compareBytes x.dig pv.dig < 0 := fun h => h1 (decide_eq_true h)
      by_cases h2 : x.dig = pv.dig
      · rw [if_pos (by simp [h2])]
        by_cases h3 : x.str = s
        · rw [if_pos (by rw [h3])]
          simp only [true_iff]
          exact ⟨x, by simp, h2, h3⟩
        · have h4 : ¬ x.str.toList = s.toList := fun e => h3 (by
            rw [ByteArray.toList_eq, ByteArray.toList_eq] at e
            exact ByteArray.ext (Array.ext' e))
          rw [if_neg h4, ih]
          constructor
          · rintro ⟨y, hy, h5⟩; exact ⟨y, by simp [hy], h5⟩
          · rintro ⟨y, hy, h5, h6⟩
            rcases List.mem_cons.1 hy with rfl | hy
            · exact absurd h6 h3
            · exact ⟨y, hy, h5, h6⟩
      · rw [if_neg (by simp [h2])]
        constructor
        · intro h; cases h
        · rintro ⟨y, hy, h5, h6⟩
          exfalso
          rcases List.mem_cons.1 hy with rfl | hy
          · exact h2 h5
          · have hle := h'.1 y hy
            rw [h5] at hle
            exact h2 (cmp_eq _ _ (by omega))

/-- While it goes on. -/
structure HasI (B W : World) (g : Nat) (t : Tr) (n : Int) (pv : Ent) (s : ByteArray) (eb cb fb : Nat) : Prop where
  ii : IiAt W g t n
  pvAt : pv.At W
  e : W.heap[eb]? = some (.cells #[.slice pv.A pv.dig.length pv.cap, .string pv.str, .int .u64 pv.off] 80 (0, 0))
  c : W.heap[cb]? = some (.cells #[.string s] 49 (0, 0))
  f : W.heap[fb]? = some (.cells #[.bool false] 4 (0, 0))
  bel : Below B.heap.size B W
  ge : B.heap.size ≤ fb
/-- When it has ended. -/
def HasE (B W : World) (fb : Nat) (f : Bool) : Prop := W.cell? ⟨fb, 0, none⟩ = some (.bool f) ∧ Below B.heap.size B W
theorem HasI.ended {B W : World} {g : Nat} {t : Tr} {n : Int} {pv : Ent} {s : ByteArray} {eb cb fb : Nat} (h : HasI B W g t n pv s eb cb fb) : HasE B W fb false := ⟨blk_cell h.f 0, h.bel⟩
theorem HasI.next {B W W1 : World} {g : Nat} {t : Tr} {n : Int} {pv : Ent} {s : ByteArray} {eb cb fb : Nat} (h : HasI B W g t n pv s eb cb fb) (hb : Below W.heap.size W W1) : HasI B W1 g t n pv s eb cb fb :=
  ⟨h.ii.below hb, ⟨h.pvAt.1.below hb, h.pvAt.2.below hb⟩, (hb.block _ (Array.getElem?_eq_some_iff.1 h.e).1).trans h.e, (hb.block _ (Array.getElem?_eq_some_iff.1 h.c).1).trans h.c, (hb.block _ (Array.getElem?_eq_some_iff.1 h.f).1).trans h.f, below_next h.bel hb, h.ge⟩

/-- What the iterator, or the walk through a part of the tree, answers. -/
def HasPost (B : World) (g : Nat) (t : Tr) (n : Int) (pv : Ent) (s : ByteArray) (eb cb fb : Nat) (r : Option Bool) (e : Ending) (w' : World) : Prop :=
  match r with
  | none => e = .returned (.bool true) ∧ HasI B w' g t n pv s eb cb fb
  | some f => e = .returned (.bool false) ∧ HasE B w' fb f

set_option maxRecDepth 100000 in
set_option maxHeartbeats 1600000 in
theorem hasIter_ok (B : World) (g : Nat) (t : Tr) (n : Int) (pv : Ent) (s : ByteArray) (eb cb fb : Nat) (x : Ent) (hlt : x.lt pv = false) (w : World) (h : HasI B w g t n pv s eb cb fb) (hx : x.At w) :
    Calls Tryz.prog 100 #[x.val, .pointer (some ⟨eb, 0, none⟩), .pointer (some ⟨cb, 0, none⟩), .pointer (some ⟨fb, 0, none⟩)] w fun e w' => HasPost B g t n pv s eb cb fb (scan pv s [x]) e w' := by
  have hta := assert_plain
  have hEq := fun W h1 h2 => Equal_ok x.dig pv.dig x.A pv.A x.cap pv.cap W h1 h2
  have e0 := (blk_cell h.e 0).trans (show _ = some (Value.slice pv.A pv.dig.length pv.cap) from rfl)
  have c0 := (blk_cell h.c 0).trans (show _ = some (Value.string s) from rfl)
  have f0 := (blk_cell h.f 0).trans (show _ = some (Value.bool false) from rfl)
  have ff := blk_free h.f 0
  have le := (Array.getElem?_eq_some_iff.1 h.e).1
  have lc := (Array.getElem?_eq_some_iff.1 h.c).1
  have lf := (Array.getElem?_eq_some_iff.1 h.f).1
  have hw : below_boxed w = below_boxed w := rfl
  unfold Ent.val Ent.agg
  clear hw
  go_enter Tryz.func100, Tryz.ntmps100
  go_wp2_with fail
  refine (hEq _ (hx.1.below (by (repeat (first | (with_reducible exact Below.refl _ _) | (with_reducible exact below_boxed _ _) | (with_reducible refine below_box ?_ _) | (with_reducible refine below_drew1 ?_) | (with_reducible refine below_drewn ?_ _) | (with_reducible refine below_bytes ?_ _ _) | (with_reducible refine below_next ?_ (by assumption)) | (with_reducible refine below_set ?_ (by first | (simp; done) | (simp; omega) | omega) _))))) (h.pvAt.1.below (by (repeat (first | (with_reducible exact Below.refl _ _) | (with_reducible exact below_boxed _ _) | (with_reducible refine below_box ?_ _) | (with_reducible refine below_drew1 ?_) | (with_reducible refine below_drewn ?_ _) | (with_reducible refine below_bytes ?_ _ _) | (with_reducible refine below_next ?_ (by assumption)) | (with_reducible refine below_set ?_ (by first | (simp; done) | (simp; omega) | omega) _)))))).mono ?_
  rintro e w1 ⟨rfl, rfl⟩
  by_cases hd : x.dig = pv.dig
  · have hb : (x.dig == pv.dig) = true := by simp [hd]
    rw [hb]
    by_cases hs : x.str.toList = s.toList
    · have hsc : scan pv s [x] = some true := by simp [scan, hlt, hd, hs]
      go_wp2_with fail
      go_ret
      rw [hsc]
      refine ⟨rfl, ?_, below_box (below_set h.bel h.ge _) _⟩
      rw [World.cell?_alloc_lt _ _ _ (by simpa using lf)]
      exact World.cell?_setCell_same _ _ _ f0
    · have hsc : scan pv s [x] = none := by simp [scan, hlt, hd, hs]
      go_wp2_with fail
      go_ret
      rw [hsc]
      exact ⟨rfl, h.next (below_boxed _ _)⟩
  · have hb : (x.dig == pv.dig) = false := by simp [hd]
    have hsc : scan pv s [x] = some false := by simp [scan, hlt, hd]
    rw [hb]
    go_wp2_with fail
    go_ret
    rw [hsc]
    exact ⟨rfl, (h.next (below_boxed _ _)).ended⟩

set_option maxRecDepth 100000 in
set_option maxHeartbeats 3200000 in
theorem hasWalk_ok (B : World) (g : Nat) (t : Tr) (n : Int) (pv : Ent) (s : ByteArray) (eb cb fb : Nat) (p : Option Addr) :
    ∀ (u : Tr), Sorted u.items → ∀ w, HasI B w g t n pv s eb cb fb → (∀ W, HasI B W g t n pv s eb cb fb → u.At W ∧ u.Ents W) →
    Calls Tryz.prog 66 #[.pointer p, .pointer u.ptr, pv.val, .func (.func 100) #[] #[.pointer (some ⟨eb, 0, none⟩), .pointer (some ⟨cb, 0, none⟩), .pointer (some ⟨fb, 0, none⟩)]] w fun e w' => HasPost B g t n pv s eb cb fb (scan pv s u.items) e w' := by
  intro u
  induction u with
  | nil =>
    intro _ w h _
    show Calls Tryz.prog 66 #[.pointer p, .pointer none, .iface 80 pv.agg, .func (.func 100) #[] #[.pointer (some ⟨eb, 0, none⟩), .pointer (some ⟨cb, 0, none⟩), .pointer (some ⟨fb, 0, none⟩)]] w _
    go_enter Tryz.func66, Tryz.ntmps66
    go_wp2_with fail
    go_ret
    exact ⟨rfl, h⟩
  | node b x l r k ihl ihr =>
    intro hs w h hA
    have hs' := hs
    unfold Sorted Tr.items at hs'
    rw [List.pairwise_append, List.pairwise_cons] at hs'
    obtain ⟨sl, ⟨sxr, sr⟩, slr⟩ := hs'
    have hl := fun W hW => ihl sl W hW (fun W h => ⟨(hA W h).1.2.1, fun y hy => (hA W h).2 y (by simp [Tr.items, hy])⟩)
    have hr := fun W hW => ihr sr W hW (fun W h => ⟨(hA W h).1.2.2, fun y hy => (hA W h).2 y (by simp [Tr.items, hy])⟩)
    clear ihl ihr
    have q : ∀ W, HasI B W g t n pv s eb cb fb → W.cell? ⟨b, 0, none⟩ = some (.iface 80 x.agg) ∧ W.cell? ⟨b, 1, none⟩ = some (.pointer l.ptr) ∧ W.cell? ⟨b, 2, none⟩ = some (.pointer r.ptr) := fun W h =>
      ⟨blk_cell (hA W h).1.1 0, blk_cell (hA W h).1.1 1, blk_cell (hA W h).1.1 2⟩
    have hxw : ∀ W, HasI B W g t n pv s eb cb fb → x.At W := fun W h => (hA W h).2 x (by simp [Tr.items])
    have hLs := fun W h1 h2 => less_ok x pv W h1 h2
    have hpv : pv.val = .iface 80 pv.agg := rfl
    have hxv : x.val = .iface 80 x.agg := rfl
    have hsc : scan pv s (Tr.node b x l r k).items = (match scan pv s l.items with | none => (match scan pv s [x] with | none => scan pv s r.items | some f => some f) | some f => some f) := by
      show scan pv s (l.items ++ x :: r.items) = _
      rw [scan_append, show x :: r.items = [x] ++ r.items from rfl, scan_append pv s [x] r.items]
    show Calls Tryz.prog 66 #[.pointer p, .pointer (some ⟨b, 0, none⟩), .iface 80 pv.agg, .func (.func 100) #[] #[.pointer (some ⟨eb, 0, none⟩), .pointer (some ⟨cb, 0, none⟩), .pointer (some ⟨fb, 0, none⟩)]] w _
    rw [hpv] at hl hr hLs
    rw [hxv] at hLs
    obtain ⟨q0, q1, q2⟩ := q w h
    have hI := fun (hlt : x.lt pv = false) W hW => hasIter_ok B g t n pv s eb cb fb x hlt W hW (hxw W hW)
    rw [hxv] at hI
    have HA := Lib.hid hA; clear hA
    have HSC := Lib.hid hsc; clear hsc
    clear hs
    generalize hxl : x.lt pv = xl at *
    have hxl' : decide (Lib.compareBytes x.dig pv.dig < 0) = xl := hxl
    rw [hxl'] at hLs
    have HXL := Lib.hid hxl
    clear hxl hxl'
    cases xl with
    | true =>
      clear hI
      have hnl : scan pv s l.items = none := scan_lt pv s _ fun y hy => decide_eq_true (by
        have h1 := slr y hy x (by simp)
        have h2 : Lib.compareBytes x.dig pv.dig < 0 := of_decide_eq_true HXL.out
        have h3 := cmp_trans _ _ _ h1 (Int.le_of_lt h2)
        rcases Int.lt_or_eq_of_le h3 with h4 | h4
        · exact h4
        · exfalso
          rw [cmp_eq _ _ h4, cmp_neg] at h1
          omega)
      have hnx : scan pv s [x] = none := scan_lt pv s _ (by intro y hy; simp at hy; subst hy; exact HXL.out)
      have HS2 : Hid (scan pv s (Tr.node b x l r k).items = scan pv s r.items) := Lib.hid (by rw [HSC.out, hnl, hnx])
      clear hnl hnx sl sxr sr slr
      go_enter Tryz.func66, Tryz.ntmps66
      go_wp2_with fail
      refine (hLs _ (hxw w h) h.pvAt).mono ?_
      rintro e w1 ⟨rfl, hb1⟩
      have h1 := h.next hb1
      clear q0 q1 q2
      obtain ⟨q0, q1, q2⟩ := q w1 h1
      go_wp2_with fail
      refine (hr w1 h1).mono ?_
      intro e w2 hP
      cases hsr : scan pv s r.items with
      | none =>
        rw [hsr] at hP
        obtain ⟨rfl, hI2⟩ := hP
        go_wp2_with fail
        go_ret
        rw [HS2.out, hsr]
        exact ⟨rfl, hI2⟩
      | some f =>
        rw [hsr] at hP
        obtain ⟨rfl, hI2⟩ := hP
        go_wp2_with fail
        go_ret
        rw [HS2.out, hsr]
        exact ⟨rfl, hI2⟩
    | false =>
      have hI' := hI rfl
      clear hI sl sxr sr slr
      go_enter Tryz.func66, Tryz.ntmps66
      go_wp2_with fail
      refine (hLs _ (hxw w h) h.pvAt).mono ?_
      rintro e w1 ⟨rfl, hb1⟩
      have h1 := h.next hb1
      clear q0 q1 q2
      obtain ⟨q0, q1, q2⟩ := q w1 h1
      go_wp2_with fail
      refine (hl w1 h1).mono ?_
      intro e w2 hP
      cases hsl : scan pv s l.items with
      | some f =>
        rw [hsl] at hP
        obtain ⟨rfl, hI2⟩ := hP
        go_wp2_with fail
        go_ret
        rw [HSC.out, hsl]
        exact ⟨rfl, hI2⟩
      | none =>
        rw [hsl] at hP
        obtain ⟨rfl, h2⟩ := hP
        clear q0 q1 q2
        obtain ⟨q0, q1, q2⟩ := q w2 h2
        have hcall : ∀ (v : Value) (W : World), (callFunc 100 #[v, .pointer (some ⟨eb, 0, none⟩), .pointer (some ⟨cb, 0, none⟩), .pointer (some ⟨fb, 0, none⟩)]).run Tryz.prog W = .ok (.enter 100 #[v, .pointer (some ⟨eb, 0, none⟩), .pointer (some ⟨cb, 0, none⟩), .pointer (some ⟨fb, 0, none⟩)]) W := fun v W => by rfl
        go_wp2_with fail
        refine (hI' w2 h2).mono ?_
        intro e w3 hP
        cases hsx : scan pv s [x] with
        | some f =>
          rw [hsx] at hP
          obtain ⟨rfl, hI2⟩ := hP
          go_wp2_with fail
          go_ret
          rw [HSC.out, hsl, hsx]
          exact ⟨rfl, hI2⟩
        | none =>
          rw [hsx] at hP
          obtain ⟨rfl, h3⟩ := hP
          clear q0 q1 q2
          obtain ⟨q0, q1, q2⟩ := q w3 h3
          go_wp2_with fail
          refine (hr w3 h3).mono ?_
          intro e w4 hP
          cases hsr : scan pv s r.items with
          | none =>
            rw [hsr] at hP
            obtain ⟨rfl, hI2⟩ := hP
            go_wp2_with fail
            go_ret
            rw [HSC.out, hsl, hsx, hsr]
            exact ⟨rfl, hI2⟩
          | some f =>
            rw [hsr] at hP
            obtain ⟨rfl, hI2⟩ := hP
            go_wp2_with fail
            go_ret
            rw [HSC.out, hsl, hsx, hsr]
            exact ⟨rfl, hI2⟩

theorem HasI.cells {B W : World} {g : Nat} {t : Tr} {n : Int} {pv : Ent} {s : ByteArray} {eb cb fb : Nat} (h : HasI B W g t n pv s eb cb fb) : W.cell? ⟨g, 1, none⟩ = some (.pointer t.ptr) := (blk_cell h.ii.blk 1).trans (show _ = some (Value.pointer t.ptr) from rfl)

set_option maxRecDepth 100000 in
set_option maxHeartbeats 1600000 in
theorem hasAll_ok (B : World) (g : Nat) (t : Tr) (n : Int) (pv : Ent) (s : ByteArray) (eb cb fb : Nat) (hs : Sorted t.items) (w : World) (h : HasI B w g t n pv s eb cb fb) :
    Calls Tryz.prog 28 #[.pointer (some ⟨g, 0, none⟩), pv.val, .func (.func 100) #[] #[.pointer (some ⟨eb, 0, none⟩), .pointer (some ⟨cb, 0, none⟩), .pointer (some ⟨fb, 0, none⟩)]] w fun e w' => e = .returned (.tuple #[]) ∧ HasE B w' fb ((scan pv s t.items).getD false) := by
  have q1 := h.cells
  have hW := hasWalk_ok B g t n pv s eb cb fb (some ⟨g, 0, none⟩) t hs w h (fun W hW => ⟨hW.ii.tree, hW.ii.ents⟩)
  have hpv : pv.val = .iface 80 pv.agg := rfl
  rw [hpv] at hW ⊢
  obtain ⟨tp, htp⟩ : ∃ tp, tp = t.ptr := ⟨_, rfl⟩
  rw [← htp] at q1 hW
  clear htp h hs
  go_enter Tryz.func28, Tryz.ntmps28
  go_wp2_with fail
  refine hW.mono ?_
  intro e w1 hP
  cases hsc : scan pv s t.items with
  | none =>
    rw [hsc] at hP
    obtain ⟨rfl, hI⟩ := hP
    go_wp2_with fail
    go_end0
    exact ⟨rfl, by rw [hsc]; exact hI.ended⟩
  | some f =>
    rw [hsc] at hP
    obtain ⟨rfl, hI⟩ := hP
    go_wp2_with fail
    go_end0
    exact ⟨rfl, by rw [hsc]; exact hI⟩

set_option maxRecDepth 100000 in
set_option maxHeartbeats 1600000 in
theorem HasExact_ok (g : Nat) (t : Tr) (n : Int) (c : CidOf) (hc : c.Ok) (w : World) (h : IiAt w g t n) (hs : Sorted t.items) (fnd : Bool) (hf : fnd = true ↔ ∃ x, x ∈ t.items ∧ x.dig = c.dig ∧ x.str = c.str) :
    Calls Tryz.prog 62 #[.pointer (some ⟨g, 0, none⟩), .agg #[.string c.str]] w fun e w' => e = .returned (.tuple #[.bool fnd, .nilIface]) ∧ Below w.heap.size w w' := by
  have hH := fun W => Hash_ok c hc W
  go_enter Tryz.func62, Tryz.ntmps62
  go_wp2_with fail
  refine (hH _).mono ?_
  rintro e w1 ⟨A1, c1, rfl, hc1, hA1, hB1, hF1, hb1⟩
  obtain ⟨hcc, hff⟩ := bcell hb1
  have hz : w.heap.size < w1.heap.size := by have := hb1.size; simp at this; omega
  go_wp2_with fail
  refine (Decode_ok c.code hc.code c.dig (by have := hc.dig; omega) A1 _ c1 _ hA1 rfl hc1).mono ?_
  rintro e w2 ⟨gd, A2, c2, rfl, hc2, hS2, hb2, hg2, hblk⟩
  clear hcc hff
  have hb02 := below_next hb1 hb2
  obtain ⟨hcc, hff⟩ := bcell hb02
  have k3 : w2.cell? ⟨gd, 3, none⟩ = some (.slice A2 c.dig.length c2) := by simp [World.cell?, hblk]
  have hz2 : w.heap.size < w2.heap.size := by have := hb2.size; omega
  have hA2 : BytesAt w2 A2 c.dig := hS2.bytes _ (hA1.below hb2)
  have hB2 : ByteBlk w2 5 A2 := hS2.blk _ _ (hB1.below hb2)
  go_wp2_with fail
  generalize hE : (Obj.cells #[.slice A2 c.dig.length c2, .string ⟨#[]⟩, .int .u64 0] 80) = E at *
  have hwc : w2.heap[w.heap.size]? = some (.cells #[.string c.str] 49 (0, 0)) := (hb02.block _ (by simp)).trans (heap_alloc_last w _)
  have hbw : Below w.heap.size w w2 := below_next (below_boxed w _) hb02
  have hb3 : Below w2.heap.size w2 ((w2.alloc E).alloc (.cells #[.bool false] 4)).drew := below_drew1 (below_box (below_boxed _ _) _)
  have hI : HasI w ((w2.alloc E).alloc (.cells #[.bool false] 4)).drew g t n ⟨A2, c2, ⟨#[]⟩, 0, c.dig⟩ c.str w2.heap.size w.heap.size (w2.heap.size + 1) := by
    refine ⟨h.below (below_next hbw hb3), ⟨hA2.below hb3, hB2.below hb3⟩, ?_, (hb3.block _ (Array.getElem?_eq_some_iff.1 hwc).1).trans hwc, ?_, below_next hbw hb3, by omega⟩
    · exact (Below.heap_alloc _ _ _ (by simp)).trans ((heap_alloc_last w2 E).trans (by rw [← hE]))
    · have h1 : (w2.alloc E).heap.size = w2.heap.size + 1 := by simp
      rw [← h1]
      exact heap_alloc_last (w2.alloc E) (.cells #[.bool false] 4)
  have hAll := hasAll_ok w g t n ⟨A2, c2, ⟨#[]⟩, 0, c.dig⟩ c.str w2.heap.size w.heap.size (w2.heap.size + 1) hs _ hI
  rw [show (⟨A2, c2, ⟨#[]⟩, 0, c.dig⟩ : Ent).val = .iface 80 (.agg #[.slice A2 c.dig.length c2, .string ⟨#[]⟩, .int .u64 0]) from rfl] at hAll
  have hfs : (scan ⟨A2, c2, ⟨#[]⟩, 0, c.dig⟩ c.str t.items).getD false = fnd := by
    have h1 := scan_true ⟨A2, c2, ⟨#[]⟩, 0, c.dig⟩ c.str t.items hs
    cases hsc : scan ⟨A2, c2, ⟨#[]⟩, 0, c.dig⟩ c.str t.items with
    | none =>
      cases fnd with
      | false => rfl
      | true => have := h1.2 (hf.1 rfl); rw [hsc] at this; cases this
    | some f =>
      cases f with
      | true =>
        have := h1.1 hsc
        exact (hf.2 this).symm
      | false =>
        cases fnd with
        | false => rfl
        | true => have := h1.2 (hf.1 rfl); rw [hsc] at this; cases this
  rw [hfs] at hAll
  subst hE
  clear hf hfs hI hwc h hs hbw hb3
  go_region_with (go_at_call 28; refine hAll.mono ?_; rintro e w3 ⟨rfl, hfc, hb3⟩)
  go_wp2_with fail
  go_ret2
  exact ⟨rfl, hb3⟩
end Go.Proofs.YtifoicdnibgdaaaGreatDoor
