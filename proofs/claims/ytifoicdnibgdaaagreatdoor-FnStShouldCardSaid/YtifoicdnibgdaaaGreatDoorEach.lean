/- The insertion index gone through: Min, AscendGreaterOrEqual, ForEachCid. -/
import Derived.Test.YtifoicdnibgdaaaGreatDoorSort
namespace Go.Proofs.YtifoicdnibgdaaaGreatDoor
open Go.RowKit
set_option linter.unusedVariables false
set_option linter.unusedSimpArgs false
attribute [local go_sem] setCell_drewN alloc_drewN

/-- The entry that the tree begins with. -/
def Tr.first : Tr → Option Ent
  | .nil => none
  | .node _ x .nil _ _ => some x
  | .node _ x (.node b y l r k) _ _ => (Tr.node b y l r k).first
def Tr.spine : Tr → Nat
  | .nil => 0
  | .node _ _ l _ _ => l.spine + 1
def minVal : Option Ent → Value
  | none => .nilIface
  | some x => x.val

theorem Tr.first_items : ∀ (t : Tr) (x : Ent), t.first = some x → ∃ r, t.items = x :: r
  | .nil, x, h => by simp [Tr.first] at h
  | .node b y .nil r k, x, h => by simp [Tr.first] at h; exact ⟨r.items, by simp [Tr.items, h]⟩
  | .node b y (.node b' z l r' k') r k, x, h => by
    simp only [Tr.first] at h
    obtain ⟨q, hq⟩ := Tr.first_items _ x h
    exact ⟨q ++ y :: r.items, by rw [Tr.items, hq]; rfl⟩
theorem Tr.first_some : ∀ (b : Nat) (y : Ent) (l r : Tr) (k : Bool), ∃ x, (Tr.node b y l r k).first = some x
  | b, y, .nil, r, k => ⟨y, rfl⟩
  | b, y, .node b' z l r' k', r, k => Tr.first_some b' z l r' k'

set_option maxRecDepth 100000 in
set_option maxHeartbeats 1600000 in
theorem min_ok (g : Nat) (t : Tr) (n : Int) (w : World) (h : IiAt w g t n) :
    Calls Tryz.prog 29 #[.pointer (some ⟨g, 0, none⟩)] w fun e w' => e = .returned (minVal t.first) ∧ w = w' := by
  have q1 := (blk_cell h.blk 1).trans (show _ = some (Value.pointer t.ptr) from rfl)
  have hT := h.tree
  cases t with
  | nil =>
    replace q1 := q1.trans (show _ = some (Value.pointer none) from rfl)
    go_enter Tryz.func29, Tryz.ntmps29
    go_wp2_with fail
    go_ret
    exact ⟨rfl, rfl⟩
  | node b x l r k =>
    replace q1 := q1.trans (show _ = some (Value.pointer (some ⟨b, 0, none⟩)) from rfl)
    have HT := Lib.hid hT; clear hT
    go_enter Tryz.func29, Tryz.ntmps29
    go_wp2_with fail
    generalize hT : Tr.node b x l r k = T at *
    have HTT := Lib.hid hT; clear hT
    go_loopg [3] T.spine (fun s v3 w' => ∃ b x l r k, v3 = .pointer (some ⟨b, 0, none⟩) ∧ (Tr.node b x l r k).At w ∧ Hid ((Tr.node b x l r k).first = T.first) ∧ Hid ((Tr.node b x l r k).spine = s) ∧ w = w')
    case atStart => exact ⟨b, x, l, r, k, rfl, by rw [HTT.out]; exact HT.out, by rw [HTT.out]; rfl, by rw [HTT.out]; rfl, rfl⟩
    case round =>
      obtain ⟨b1, x1, l1, r1, k1, rfl, hAt, hF, hS, rfl⟩ := hrel
      cases l1 with
      | nil =>
        obtain ⟨hb, _, _⟩ := hAt
        have c1 := (blk_cell hb 1).trans (show _ = some (Value.pointer none) from rfl)
        have c0 := (blk_cell hb 0).trans (show _ = some (Value.iface 80 x1.agg) from rfl)
        clear hb
        go_wp2_with fail
        go_ret
        rw [HTT.out, ← hF.out]
        exact ⟨rfl, rfl⟩
      | node b2 x2 l2 r2 k2 =>
        obtain ⟨hb, hl, _⟩ := hAt
        have c1 := (blk_cell hb 1).trans (show _ = some (Value.pointer (some ⟨b2, 0, none⟩)) from rfl)
        clear hb
        have HL := Lib.hid hl; clear hl
        cases gk with
        | zero => exact absurd hS.out (by simp [Tr.spine])
        | succ g1 =>
        go_wp2_with fail
        go_roundg g1
        case measure => omega
        case rel => exact ⟨b2, x2, l2, r2, k2, rfl, HL.out, hF, by have := hS.out; simp only [Tr.spine] at this ⊢; exact Nat.succ.inj this, rfl⟩

/-! Going up through the tree from a pivot that none is below: each entry is handed to the iterator, in order. -/
set_option maxRecDepth 100000 in
set_option maxHeartbeats 3200000 in
theorem ascend_ok (L : List Ent) (Inv : List Ent → World → Prop) (hBel : ∀ acc w w', Inv acc w → Below w.heap.size w w' → Inv acc w') (pv : Ent) (hP : ∀ acc w, Inv acc w → pv.At w) (f : Nat) (caps : Array Value) (p : Option Addr)
    (hcall : ∀ (v : Value) (W : World), (callFunc f (#[v] ++ caps)).run Tryz.prog W = .ok (.enter f (#[v] ++ caps)) W)
    (hit : ∀ acc x rest w, acc ++ x :: rest = L → Inv acc w → x.At w → Calls Tryz.prog f (#[x.val] ++ caps) w fun e w' => e = .returned (.bool true) ∧ Inv (acc ++ [x]) w') :
    ∀ (t : Tr), (∀ acc w, Inv acc w → t.At w ∧ t.Ents w) → (∀ x, x ∈ t.items → x.lt pv = false) → ∀ acc rest w, acc ++ (t.items ++ rest) = L → Inv acc w →
    Calls Tryz.prog 66 #[.pointer p, .pointer t.ptr, pv.val, .func (.func f) #[] caps] w fun e w' => e = .returned (.bool true) ∧ Inv (acc ++ t.items) w' := by
  intro t
  induction t with
  | nil =>
    intro hA hlt acc rest w hL hI
    show Calls Tryz.prog 66 #[.pointer p, .pointer none, .iface 80 pv.agg, .func (.func f) #[] caps] w _
    go_enter Tryz.func66, Tryz.ntmps66
    go_wp2_with fail
    go_ret
    exact ⟨rfl, by simpa [Tr.items] using hI⟩
  | node b x l r k ihl ihr =>
    intro hA hlt acc rest w hL hI
    have hl := ihl (fun acc w h => ⟨(hA acc w h).1.2.1, fun y hy => (hA acc w h).2 y (by simp [Tr.items, hy])⟩) (fun y hy => hlt y (by simp [Tr.items, hy]))
    have hr := ihr (fun acc w h => ⟨(hA acc w h).1.2.2, fun y hy => (hA acc w h).2 y (by simp [Tr.items, hy])⟩) (fun y hy => hlt y (by simp [Tr.items, hy]))
    clear ihl ihr
    have hx : decide (Lib.compareBytes x.dig pv.dig < 0) = false := hlt x (by simp [Tr.items])
    have hLs := fun W h1 h2 => less_ok x pv W h1 h2
    rw [hx] at hLs
    have q : ∀ acc W, Inv acc W → W.cell? ⟨b, 0, none⟩ = some (.iface 80 x.agg) ∧ W.cell? ⟨b, 1, none⟩ = some (.pointer l.ptr) ∧ W.cell? ⟨b, 2, none⟩ = some (.pointer r.ptr) := fun acc W h =>
      ⟨blk_cell (hA acc W h).1.1 0, blk_cell (hA acc W h).1.1 1, blk_cell (hA acc W h).1.1 2⟩
    have hpv : pv.val = .iface 80 pv.agg := rfl
    have hxv : x.val = .iface 80 x.agg := rfl
    simp only [Tr.items, List.append_assoc, List.cons_append] at hL
    have hl' := fun W hW => hl acc (x :: (r.items ++ rest)) W hL hW
    have hit' := fun W hW => hit (acc ++ l.items) x (r.items ++ rest) W (by rw [← hL]; simp) hW ((hA _ W hW).2 x (by simp [Tr.items]))
    have hr' := fun W hW => hr (acc ++ l.items ++ [x]) rest W (by rw [← hL]; simp) hW
    rw [hxv] at hit'
    clear hl hr hL
    show Calls Tryz.prog 66 #[.pointer p, .pointer (some ⟨b, 0, none⟩), .iface 80 pv.agg, .func (.func f) #[] caps] w _
    rw [hpv] at hl' hr' hLs
    rw [hxv] at hLs
    clear hit hlt hx
    obtain ⟨q0, q1, q2⟩ := q acc w hI
    have hxw := (hA acc w hI).2 x (by simp [Tr.items])
    go_enter Tryz.func66, Tryz.ntmps66
    go_wp2_with fail
    refine (hLs _ hxw (hP acc w hI)).mono ?_
    rintro e w1 ⟨rfl, hb1⟩
    have hI1 := hBel acc w w1 hI hb1
    clear q0 q1 q2
    obtain ⟨q0, q1, q2⟩ := q acc w1 hI1
    go_wp2_with fail
    refine (hl' w1 hI1).mono ?_
    rintro e w2 ⟨rfl, hI2⟩
    clear q0 q1 q2
    obtain ⟨q0, q1, q2⟩ := q _ w2 hI2
    go_wp2_with fail
    refine (hit' w2 hI2).mono ?_
    rintro e w3 ⟨rfl, hI3⟩
    clear q0 q1 q2
    obtain ⟨q0, q1, q2⟩ := q _ w3 hI3
    go_wp2_with fail
    refine (hr' w3 hI3).mono ?_
    rintro e w4 ⟨rfl, hI4⟩
    go_wp2_with fail
    go_ret
    refine ⟨rfl, ?_⟩
    have e : acc ++ l.items ++ [x] ++ r.items = acc ++ (Tr.node b x l r k).items := by simp [Tr.items]
    rw [e] at hI4
    exact hI4

set_option maxRecDepth 100000 in
set_option maxHeartbeats 1600000 in
theorem ascendAll_ok (L : List Ent) (Inv : List Ent → World → Prop) (hBel : ∀ acc w w', Inv acc w → Below w.heap.size w w' → Inv acc w') (g : Nat) (t : Tr) (n : Int) (hA : ∀ acc w, Inv acc w → IiAt w g t n) (hs : Sorted t.items) (f : Nat) (caps : Array Value)
    (hcall : ∀ (v : Value) (W : World), (callFunc f (#[v] ++ caps)).run Tryz.prog W = .ok (.enter f (#[v] ++ caps)) W)
    (hit : ∀ acc x rest w, acc ++ x :: rest = L → Inv acc w → x.At w → Calls Tryz.prog f (#[x.val] ++ caps) w fun e w' => e = .returned (.bool true) ∧ Inv (acc ++ [x]) w') (w : World) (hL : t.items = L) (hI : Inv [] w) :
    Calls Tryz.prog 28 #[.pointer (some ⟨g, 0, none⟩), minVal t.first, .func (.func f) #[] caps] w fun e w' => e = .returned (.tuple #[]) ∧ Inv t.items w' := by
  have hi := hA [] w hI
  have q1 := (blk_cell hi.blk 1).trans (show _ = some (Value.pointer t.ptr) from rfl)
  cases t with
  | nil =>
    replace q1 := q1.trans (show _ = some (Value.pointer none) from rfl)
    show Calls Tryz.prog 28 #[.pointer (some ⟨g, 0, none⟩), .nilIface, .func (.func f) #[] caps] w _
    clear hi hit hcall hs
    go_enter Tryz.func28, Tryz.ntmps28
    go_wp2
    go_end0
    exact ⟨rfl, by simpa [Tr.items] using hI⟩
  | node b x l r k =>
    obtain ⟨pv, hpv⟩ := Tr.first_some b x l r k
    obtain ⟨rest, hrest⟩ := Tr.first_items _ _ hpv
    have hmem : pv ∈ (Tr.node b x l r k).items := by rw [hrest]; simp
    have hlt : ∀ y, y ∈ (Tr.node b x l r k).items → y.lt pv = false := by
      intro y hy
      rw [hrest] at hy hs
      have hle : Lib.compareBytes pv.dig y.dig ≤ 0 := by
        rcases List.mem_cons.1 hy with rfl | hy'
        · rw [cmp_refl]; decide
        · exact (List.pairwise_cons.1 hs).1 y hy'
      have := cmp_neg pv.dig y.dig
      exact decide_eq_false (by omega)
    have hasc := ascend_ok L Inv hBel pv (fun acc w h => (hA acc w h).ents pv hmem) f caps (some ⟨g, 0, none⟩) hcall hit (Tr.node b x l r k) (fun acc w h => ⟨(hA acc w h).tree, (hA acc w h).ents⟩) hlt [] [] w (by simpa using hL) hI
    rw [hpv]
    have hv : pv.val = .iface 80 pv.agg := rfl
    rw [hv] at hasc
    clear hL
    show Calls Tryz.prog 28 #[.pointer (some ⟨g, 0, none⟩), .iface 80 pv.agg, .func (.func f) #[] caps] w _
    generalize (Tr.node b x l r k).ptr = tp at *
    clear hi hit hcall hs hlt hrest hpv
    have HV := Lib.hid hv; clear hv
    go_enter Tryz.func28, Tryz.ntmps28
    go_wp2_with fail
    refine hasc.mono ?_
    rintro e w1 ⟨rfl, hI1⟩
    go_wp2_with fail
    go_end0
    exact ⟨rfl, hI1⟩
end Go.Proofs.YtifoicdnibgdaaaGreatDoor
