/- bytes.Reader: a text that is read. -/
import Derived.Test.YtfjclhfhbclbhaaGreatDoorCid
import Derived.Test.YtfjclhfhbclbhaaGreatDoorKp
import Derived.RegionTactic
import Derived.Deep.WholeRow
import Derived.BigQuiet
import Derived.BigRegion
import Derived.Deep.RegionLaw
import Derived.Laws.CopyRow
import Derived.Deep.MidRow
namespace Go.Proofs.YtfjclhfhbclbhaaGreatDoor
open Go.RowKit
set_option linter.unusedVariables false
set_option linter.unusedSimpArgs false
attribute [local go_sem] setCell_drewN alloc_drewN

/-- A reader at block b that stands at pos in the bytes bs. -/
structure RdAt (w : World) (b : Nat) (A : Option Addr) (cap : Nat) (bs : List UInt8) (pos : Nat) : Prop where
  blk : ∃ pr : Int, w.heap[b]? = some (.cells #[.slice A bs.length cap, .int .i64 pos, .int .i64 pr] 71 (0, 0))
  row : BytesAt w A bs
  le : pos ≤ bs.length
  cap : bs.length ≤ cap
  big : bs.length ≤ 1099511627776
  ne : ∀ g o, A = some ⟨g, o, none⟩ → g ≠ b

theorem blk_cell' {w : World} {g : Nat} {cs : Array Value} {t : TypeId} {fr : Nat × Nat} (h : w.heap[g]? = some (.cells cs t fr)) (i : Nat) : w.cell? ⟨g, i, none⟩ = cs[i]? := cell_of_row w g i cs t fr h
theorem blk_free' {w : World} {g : Nat} {cs : Array Value} {t : TypeId} (h : w.heap[g]? = some (.cells cs t (0, 0))) (i : Nat) : w.frozen? ⟨g, i, none⟩ = false := by simp [World.frozen?, h]

theorem RdAt.keep {w w' : World} {b : Nat} {A : Option Addr} {cap : Nat} {bs : List UInt8} {pos : Nat} (h : RdAt w b A cap bs pos) {S : Nat → Prop} (hk : Kp S w w') (hb : ¬ S b) (hA : ∀ g o, A = some ⟨g, o, none⟩ → ¬ S g) : RdAt w' b A cap bs pos := by
  obtain ⟨⟨pr, hp⟩, hr, h1, h2, h3, h4⟩ := h
  have hlt := (Array.getElem?_eq_some_iff.1 hp).1
  refine ⟨⟨pr, (hk.block b hlt hb).trans hp⟩, ?_, h1, h2, h3, h4⟩
  rcases hr with h | ⟨g, o, e, hc⟩
  · exact .inl h
  · refine .inr ⟨g, o, e, fun j x hj => ?_⟩
    have := hc j x hj
    exact (hk.cell (p := ⟨g, o + j, none⟩) (World.block_lt_of_cell? w _ this) (hA g o e)).trans this

theorem BytesAt.kp {S : Nat → Prop} {w w' : World} {A : Option Addr} {bs : List UInt8} (h : BytesAt w A bs) (hk : Kp S w w') (hA : ∀ g o, A = some ⟨g, o, none⟩ → ¬ S g) : BytesAt w' A bs := by
  rcases h with h | ⟨g, o, e, hc⟩
  · exact .inl h
  · refine .inr ⟨g, o, e, fun j x hj => ?_⟩
    have := hc j x hj
    exact (hk.cell (p := ⟨g, o + j, none⟩) (World.block_lt_of_cell? w _ this) (hA g o e)).trans this
theorem rd_set {w : World} {b : Nat} {v0 : Value} {pos pr : Int} (hp : w.heap[b]? = some (.cells #[v0, .int .i64 pos, .int .i64 pr] 71 (0, 0))) (q : Int) :
    ((w.setCell ⟨b, 2, none⟩ (.int .i64 (-1))).setCell ⟨b, 1, none⟩ (.int .i64 q)).heap[b]? = some (.cells #[v0, .int .i64 q, .int .i64 (-1)] 71 (0, 0)) := by
  have h1 : (w.setCell ⟨b, 2, none⟩ (.int .i64 (-1))).heap[b]? = some (.cells #[v0, .int .i64 pos, .int .i64 (-1)] 71 (0, 0)) := by
    rw [setCell_eq_setRow w b 2 _ _ _ _ hp, setRow_heap w b _ _ _ _ hp]; rfl
  rw [setCell_eq_setRow _ b 1 _ _ _ _ h1, setRow_heap _ b _ _ _ _ h1]; rfl
theorem rd_kp (w : World) (b : Nat) (v1 v2 : Value) : Kp (fun i => i = b) w ((w.setCell ⟨b, 2, none⟩ v1).setCell ⟨b, 1, none⟩ v2) :=
  Kp.set (S := fun i => i = b) (Kp.set (S := fun i => i = b) (Kp.refl (fun i => i = b) w) (p := ⟨b, 2, none⟩) (.inl rfl) v1) (p := ⟨b, 1, none⟩) (.inl rfl) v2
theorem Kp.drew {S : Nat → Prop} {w w' : World} (h : Kp S w w') : Kp S w w'.drew := ⟨h.os, h.tape, h.output, h.size, h.block⟩
theorem RdAt.drew {w : World} {b : Nat} {A : Option Addr} {cap : Nat} {bs : List UInt8} {pos : Nat} (h : RdAt w b A cap bs pos) : RdAt w.drew b A cap bs pos := ⟨h.blk, h.row, h.le, h.cap, h.big, h.ne⟩
/-- The reader, moved on. -/
theorem RdAt.moved {w : World} {b : Nat} {A : Option Addr} {cap : Nat} {bs : List UInt8} {pos : Nat} (h : RdAt w b A cap bs pos) (q : Nat) (hq : q ≤ bs.length) (z : Int) (hz : z = (q : Int)) : RdAt ((w.setCell ⟨b, 2, none⟩ (.int .i64 (-1))).setCell ⟨b, 1, none⟩ (.int .i64 z)) b A cap bs q := by
  subst hz
  obtain ⟨⟨pr, hp⟩, hr, h1, h2, h3, h4⟩ := h
  exact ⟨⟨-1, rd_set hp q⟩, hr.kp (rd_kp _ _ _ _) (fun g o e => h4 g o e), hq, h2, h3, h4⟩

set_option maxRecDepth 100000 in
theorem NewReader_ok (A : Option Addr) (cap : Nat) (bs : List UInt8) (w : World) (h : BytesAt w A bs) (hc : bs.length ≤ cap) (hb : bs.length ≤ 1099511627776) (hA : ∀ g o, A = some ⟨g, o, none⟩ → g < w.heap.size) :
    Calls Tryz.prog 9 #[.slice A bs.length cap] w fun e w' => e = .returned (.pointer (some ⟨w.heap.size, 0, none⟩)) ∧ RdAt w' w.heap.size A cap bs 0 ∧ Below w.heap.size w w' := by
  go_enter Tryz.func9, Tryz.ntmps9
  go_wp2_with fail
  go_ret
  exact ⟨rfl, ⟨⟨-1, heap_alloc_last _ _⟩, h.below (below_boxed _ _), by omega, hc, hb, fun g o e => by have := hA g o e; omega⟩, by (repeat (first | (with_reducible exact Below.refl _ _) | (with_reducible exact below_boxed _ _) | (with_reducible refine below_box ?_ _) | (with_reducible refine below_drew1 ?_) | (with_reducible refine below_drewn ?_ _) | (with_reducible refine below_bytes ?_ _ _) | (with_reducible refine below_next ?_ (by assumption)) | (with_reducible refine below_set ?_ (by first | (simp; done) | (simp; omega) | omega) _)))⟩

set_option maxRecDepth 100000 in
set_option maxHeartbeats 1600000 in
theorem ReadByte_ok (b : Nat) (A : Option Addr) (cap : Nat) (bs : List UInt8) (pos : Nat) (x : UInt8) (w : World) (h : RdAt w b A cap bs pos) (hx : bs[pos]? = some x) :
    Calls Tryz.prog 159 #[.pointer (some ⟨b, 0, none⟩)] w fun e w' => e = .returned (.tuple #[.int .u8 (x.toNat : Int), .nilIface]) ∧ RdAt w' b A cap bs (pos + 1) ∧ Kp (fun i => i = b) w w' := by
  have hm := h.moved (pos + 1) (by have := (List.getElem?_eq_some_iff.1 hx).1; omega) ((pos : Int) + 1) (by omega)
  have HM := Lib.hid hm; clear hm
  obtain ⟨⟨pr, hp⟩, hr, h1, h2, h3, h4⟩ := h
  have hlt := (List.getElem?_eq_some_iff.1 hx).1
  have c0 := (blk_cell' hp 0).trans (show _ = some (Value.slice A bs.length cap) from rfl)
  have c1 := (blk_cell' hp 1).trans (show _ = some (Value.int .i64 (pos : Int)) from rfl)
  have c2 := (blk_cell' hp 2).trans (show _ = some (Value.int .i64 pr) from rfl)
  have f1 := blk_free' hp 1
  have f2 := blk_free' hp 2
  have hbl := (Array.getElem?_eq_some_iff.1 hp).1
  rcases hr with hr | ⟨g, o, rfl, hc⟩
  · rw [hr] at hx; simp at hx
  have hcx := hc pos x hx
  have hgb : g ≠ b := h4 g o rfl
  have hbg : b ≠ g := fun e => hgb e.symm
  have hw1 : IntKind.i64.wrap ((pos : Int) + 1) = ((pos + 1 : Nat) : Int) := by rw [IntKind.wrap_i64]; omega
  have hlt' : (pos : Int) < (bs.length : Int) := by omega
  have hge : ¬ ((bs.length : Int) ≤ (pos : Int)) := by omega
  generalize bs.length = n at *
  clear hx hc
  generalize x.toNat = xn at *
  go_enter Tryz.func159, Tryz.ntmps159
  go_wp2_with fail
  go_region
  go_wp2_with fail
  go_region
  go_wp2_with fail
  go_ret2
  exact ⟨rfl, HM.out.drew.drew, (rd_kp _ _ _ _).drew.drew⟩

/-- 'copy' into a row of the call's own, in a region that draws. -/
theorem step_copy_row {P : Program} {ops : Array Oper} {o : Oper} {a : Act} {w : World} {K : Act → World → Prop} {Q : Exit → Act → World → Prop} {E : Prop} (hgd : o.guard = none) (d s : Operand) (dT sT : TypeId)
    (ho : o.op = .call { callee := .builtin .copy, args := #[d, s], argTypes := #[dT, sT] }) (elem : TypeId) (hu : P.underlying dT = some (.slice elem)) (hsz : (P.info? elem).map (·.size) = some 1)
    (g off dLen dCap : Nat) (ad : Addr) (sLen sCap : Nat) (hd : a.eval d = .slice (some ⟨g, off, none⟩) dLen dCap) (hs : a.eval s = .slice (some ad) sLen sCap)
    (cur : Array Value) (t : TypeId) (hg : w.heap[g]? = some (.cells cur t (0, 0))) (cs : List Value) (hn : cs.length = Nat.min sLen dLen) (hsrc : ∀ j v, cs[j]? = some v → w.cell? (ad.add j) = some v)
    (hfit : off + cs.length ≤ cur.size) (h1 : ∀ v ∈ cs, v.oneCell' = true)
    (h : K (a.put o.dst (goInt cs.length)) (w.setRow g (cur.toList.take off ++ cs ++ cur.toList.drop (off + cs.length)).toArray)) :
    if Region.wanted o (yielded ops a.tmps) = true then Oper.wp P o a w K Q else E := by
  have hw : Region.wanted o (yielded ops a.tmps) = true := by simp [Region.wanted, hgd]
  rw [if_pos hw]
  have hrun := run_copy_row (P := P) w dT sT o.type elem g off dLen dCap ad sLen sCap cur t cs hu hsz hg hn hsrc hfit h1
  unfold Oper.wp execOp
  simp only [ho, resolve, invoke, builtin, Sem.run_bind, Sem.run_pure, Result.andThen_ok, List.map_toArray, List.map_cons, List.map_nil, hd, hs, hrun]
  exact h

theorem info_u8s : (Tryz.prog.info? 5).map (·.size) = some 1 := by kernel_rfl

/-- The bytes of a list from a place on, as cells. -/
def bcells (l : List UInt8) : List Value := l.map fun x => .int .u8 (x.toNat : Int)

set_option maxRecDepth 100000 in
set_option maxHeartbeats 1600000 in
theorem Read_ok (b : Nat) (A : Option Addr) (cap : Nat) (bs : List UInt8) (pos : Nat) (gb ob m cb : Nat) (cur : Array Value) (w : World) (h : RdAt w b A cap bs pos) (hm0 : 0 < m) (hm : pos + m ≤ bs.length)
    (hgb : w.heap[gb]? = some (.cells cur 5 (0, 0))) (hfit : ob + m ≤ cur.size) (hnb : gb ≠ b) (hnA : ∀ g o, A = some ⟨g, o, none⟩ → g ≠ gb) :
    Calls Tryz.prog 282 #[.pointer (some ⟨b, 0, none⟩), .slice (some ⟨gb, ob, none⟩) m cb] w fun e w' => e = .returned (.tuple #[.int .i64 (m : Int), .nilIface]) ∧ RdAt w' b A cap bs (pos + m) ∧
      w'.heap[gb]? = some (.cells (cur.toList.take ob ++ bcells ((bs.drop pos).take m) ++ cur.toList.drop (ob + m)).toArray 5 (0, 0)) ∧ Kp (fun i => i = b ∨ i = gb) w w' := by
  obtain ⟨⟨pr, hp⟩, hr, h1, h2, h3, h4⟩ := h
  have c0 := (blk_cell' hp 0).trans (show _ = some (Value.slice A bs.length cap) from rfl)
  have c1 := (blk_cell' hp 1).trans (show _ = some (Value.int .i64 (pos : Int)) from rfl)
  have c2 := (blk_cell' hp 2).trans (show _ = some (Value.int .i64 pr) from rfl)
  have f1 := blk_free' hp 1
  have f2 := blk_free' hp 2
  rcases hr with hr | ⟨g, o, rfl, hc⟩
  · rw [hr] at hm; simp at hm; omega
  have hgb' : g ≠ b := h4 g o rfl
  have hbg : b ≠ g := fun e => hgb' e.symm
  have hlt' : (pos : Int) < (bs.length : Int) := by omega
  have hge : ¬ ((bs.length : Int) ≤ (pos : Int)) := by omega
  have hle : (pos : Int) ≤ (bs.length : Int) := by omega
  have hlc : (bs.length : Int) ≤ (cap : Int) := by omega
  have hpc : ¬ cap = pos := by omega
  have hw1 : IntKind.i64.wrap ((pos : Int) + (m : Int)) = (pos : Int) + (m : Int) := by rw [IntKind.wrap_i64]; omega
  go_enter Tryz.func282, Tryz.ntmps282
  go_wp2_with fail
  go_region
  go_wp2_with fail
  have hgb2 : ((w.setCell ⟨b, 2, none⟩ (.int .i64 (-1))).drew.drew).heap[gb]? = some (.cells cur 5 (0, 0)) := (Below.heap_setCell _ _ _ _ hnb).trans hgb
  have hml : (bcells ((bs.drop pos).take m)).length = m := by simp only [bcells, List.length_map, List.length_take, List.length_drop]; clear hw1; omega
  have hcl : (bcells ((bs.drop pos).take m)).length = Nat.min (bs.length - pos) m := by rw [hml]; exact (Nat.min_eq_right (by clear hw1; omega)).symm
  have h1c : ∀ v ∈ bcells ((bs.drop pos).take m), v.oneCell' = true := by
    intro v hv
    unfold bcells at hv
    obtain ⟨x, _, rfl⟩ := List.mem_map.1 hv
    rfl
  have hsrc : ∀ j v, (bcells ((bs.drop pos).take m))[j]? = some v → ((w.setCell ⟨b, 2, none⟩ (.int .i64 (-1))).drew.drew).cell? ((⟨g, o + pos, none⟩ : Addr).add j) = some v := by
    intro j v hj
    rw [Addr.add_mid]
    have hj' := (List.getElem?_eq_some_iff.1 hj).1
    rw [hml] at hj'
    simp only [bcells, List.getElem?_map, List.getElem?_take, hj', if_true, List.getElem?_drop] at hj
    cases hq : bs[pos + j]? with
    | none => rw [hq] at hj; cases hj
    | some x =>
      rw [hq] at hj
      cases hj
      have := hc (pos + j) x hq
      rw [show o + pos + j = o + (pos + j) by omega]
      exact (World.cell?_of_block (w := w) (a := ⟨g, o + (pos + j), none⟩) (Below.heap_setCell _ _ _ _ hgb')).trans this
  go_region_law (refine step_copy_row rfl (.tmp 20) (.tmp 29) 27 27 rfl 5 Tryz.underlying27 info_u8s gb ob m cb ⟨g, o + pos, none⟩ (bs.length - pos) (cap - pos) rfl rfl cur 5 hgb2 (bcells ((bs.drop pos).take m)) hcl hsrc (by rw [hml]; exact hfit) h1c ?_)
  all_goals generalize hX : (cur.toList.take ob ++ (bcells ((bs.drop pos).take m) ++ cur.toList.drop (ob + m))).toArray = X at *
  all_goals
    have hb1 : (w.setCell ⟨b, 2, none⟩ (.int .i64 (-1))).heap[b]? = some (.cells #[.slice (some ⟨g, o, none⟩) bs.length cap, .int .i64 pos, .int .i64 (-1)] 71 (0, 0)) := by
      rw [setCell_eq_setRow w b 2 _ _ _ _ hp, setRow_heap w b _ _ _ _ hp]; rfl
    have hb2 : ((w.setCell ⟨b, 2, none⟩ (.int .i64 (-1))).drew.drew.setRow gb X).heap[b]? = some (.cells #[.slice (some ⟨g, o, none⟩) bs.length cap, .int .i64 pos, .int .i64 (-1)] 71 (0, 0)) := (setRow_other _ _ _ _ (fun e => hnb e.symm)).trans hb1
    have hg2 : ((w.setCell ⟨b, 2, none⟩ (.int .i64 (-1))).drew.drew.setRow gb X).heap[gb]? = some (.cells X 5 (0, 0)) := setRow_heap _ _ _ _ _ _ hgb2
    have hgA2 : ((w.setCell ⟨b, 2, none⟩ (.int .i64 (-1))).drew.drew.setRow gb X).heap[g]? = w.heap[g]? := (setRow_other _ _ _ _ (hnA g o rfl)).trans (Below.heap_setCell _ _ _ _ hgb')
    have hkp : Kp (fun i => i = b ∨ i = gb) w ((w.setCell ⟨b, 2, none⟩ (.int .i64 (-1))).drew.drew.setRow gb X) := ⟨rfl, rfl, rfl, by simp, fun i hi hn => (setRow_other _ _ _ _ (fun e => hn (.inr e))).trans (Below.heap_setCell _ _ _ _ (fun e => hn (.inl e)))⟩
    generalize (w.setCell ⟨b, 2, none⟩ (.int .i64 (-1))).drew.drew.setRow gb X = W2 at *
    have k1 := (blk_cell' hb2 1).trans (show _ = some (Value.int .i64 (pos : Int)) from rfl)
    have kf := blk_free' hb2 1
    have HX := Lib.hid hX
    clear hsrc hX hb1
    go_wp2_with fail
    go_ret2
    refine ⟨rfl, ⟨⟨-1, ?_⟩, .inr ⟨g, o, rfl, fun j x hj => ?_⟩, hm, h2, h3, h4⟩, ?_, ?_⟩
    · rw [setCell_eq_setRow W2 b 1 _ _ _ _ hb2, setRow_heap W2 b _ _ _ _ hb2]; rfl
    · exact (World.cell?_of_block (w := w) (a := ⟨g, o + j, none⟩) ((Below.heap_setCell _ _ _ _ hgb').trans hgA2)).trans (hc j x hj)
    · rw [List.append_assoc, HX.out]
      exact (Below.heap_setCell _ _ _ _ hnb).trans hg2
    · exact Kp.set (S := fun i => i = b ∨ i = gb) hkp (p := ⟨b, 1, none⟩) (.inl (.inl rfl)) _
end Go.Proofs.YtfjclhfhbclbhaaGreatDoor
