import Derived.Test.YtgdgmegpacmgnaaGreatDoorG00
import Derived.RegionTactic
import Derived.Deep.WholeRow
import Derived.BigQuiet
import Derived.BigRegion
import Derived.Deep.RegionLaw
import Derived.Laws.CopyRow
import Derived.Deep.MidRow
import Derived.LoopN
import Derived.RegionCalls
import Derived.Deep.RegionWith
import Derived.Deep.RegionHeld3
import Derived.Laws.AppendOwn
import Derived.OwnWalk
import Derived.Lib.ConvBytes
import Derived.Lib.Strings
import Derived.Laws.IdiomStrings
import Derived.Lib.BufferRead
/- bytes.Reader: a text that is read. -/
namespace Go.Proofs.YtgdgmegpacmgnaaGreatDoor
open Go.RowKit
set_option linter.unusedVariables false
set_option linter.unusedSimpArgs false
attribute [local go_sem] setCell_drewN alloc_drewN

/-- A reader at block b that stands at pos in the bytes bs. -/
structure RdAt (w : World) (b : Nat) (A : Option Addr) (cap : Nat) (bs : List UInt8) (pos : Nat) : Prop where
  blk : ∃ pr : Int, w.heap[b]? = some (.cells #[.slice A bs.length cap, .int .i64 pos, .int .i64 pr] 76 (0, 0))
  row : BytesAt w A bs
  le : pos ≤ bs.length
  cap : bs.length ≤ cap
  big : bs.length ≤ 1099511627776
  ne : ∀ g o, A = some ⟨g, o, none⟩ → g ≠ b

theorem blk_cell' {w : World} {g : Nat} {cs : Array Value} {t : TypeId} {fr : Nat × Nat} (h : w.heap[g]? = some (.cells cs t fr)) (i : Nat) : w.cell? ⟨g, i, none⟩ = cs[i]? := cell_of_row w g i cs t fr h
theorem blk_free' {w : World} {g : Nat} {cs : Array Value} {t : TypeId} (h : w.heap[g]? = some (.cells cs t (0, 0))) (i : Nat) : w.frozen? ⟨g, i, none⟩ = false := by simp [World.frozen?, h]

theorem RdAt.keep {w w' : World} {b : Nat} {A : Option Addr} {cap : Nat} {bs : List UInt8} {pos : Nat} (h : RdAt w b A cap bs pos) {S : Nat → Prop} (hk : Kp S w w') (hb : ¬ S b) (hA : ∀ g o, A = some ⟨g, o, none⟩ → ¬ S g) : RdAt w' b A cap bs pos := by
  obtain ⟨⟨pr, hp⟩, hr, h1, h2, h3, h4⟩ := h
  have hlt := (Array.getElem?_eq_some_iff.1 hp).1
  refine ⟨⟨pr, (hk.block b hlt hb).trans hp⟩, ?_, h1, h2, h3, h4⟩
  rcases hr with h | ⟨g, o, e, hc⟩
  · exact .inl h
  · refine .inr ⟨g, o, e, fun j x hj => ?_⟩
    have := hc j x hj
    exact (hk.cell (p := ⟨g, o + j, none⟩) (World.block_lt_of_cell? w _ this) (hA g o e)).trans this

theorem BytesAt.kp {S : Nat → Prop} {w w' : World} {A : Option Addr} {bs : List UInt8} (h : BytesAt w A bs) (hk : Kp S w w') (hA : ∀ g o, A = some ⟨g, o, none⟩ → ¬ S g) : BytesAt w' A bs := by
  rcases h with h | ⟨g, o, e, hc⟩
  · exact .inl h
  · refine .inr ⟨g, o, e, fun j x hj => ?_⟩
    have := hc j x hj
    exact (hk.cell (p := ⟨g, o + j, none⟩) (World.block_lt_of_cell? w _ this) (hA g o e)).trans this
theorem rd_set {w : World} {b : Nat} {v0 : Value} {pos pr : Int} (hp : w.heap[b]? = some (.cells #[v0, .int .i64 pos, .int .i64 pr] 76 (0, 0))) (q : Int) :
    ((w.setCell ⟨b, 2, none⟩ (.int .i64 (-1))).setCell ⟨b, 1, none⟩ (.int .i64 q)).heap[b]? = some (.cells #[v0, .int .i64 q, .int .i64 (-1)] 76 (0, 0)) := by
  have h1 : (w.setCell ⟨b, 2, none⟩ (.int .i64 (-1))).heap[b]? = some (.cells #[v0, .int .i64 pos, .int .i64 (-1)] 76 (0, 0)) := by
    rw [setCell_eq_setRow w b 2 _ _ _ _ hp, setRow_heap w b _ _ _ _ hp]; rfl
  rw [setCell_eq_setRow _ b 1 _ _ _ _ h1, setRow_heap _ b _ _ _ _ h1]; rfl
theorem rd_kp (w : World) (b : Nat) (v1 v2 : Value) : Kp (fun i => i = b) w ((w.setCell ⟨b, 2, none⟩ v1).setCell ⟨b, 1, none⟩ v2) :=
  Kp.set (S := fun i => i = b) (Kp.set (S := fun i => i = b) (Kp.refl (fun i => i = b) w) (p := ⟨b, 2, none⟩) (.inl rfl) v1) (p := ⟨b, 1, none⟩) (.inl rfl) v2
theorem Kp.drew {S : Nat → Prop} {w w' : World} (h : Kp S w w') : Kp S w w'.drew := ⟨h.os, h.tape, h.output, h.size, h.block⟩
theorem RdAt.drew {w : World} {b : Nat} {A : Option Addr} {cap : Nat} {bs : List UInt8} {pos : Nat} (h : RdAt w b A cap bs pos) : RdAt w.drew b A cap bs pos := ⟨h.blk, h.row, h.le, h.cap, h.big, h.ne⟩
/-- The reader, moved on. -/
theorem RdAt.moved {w : World} {b : Nat} {A : Option Addr} {cap : Nat} {bs : List UInt8} {pos : Nat} (h : RdAt w b A cap bs pos) (q : Nat) (hq : q ≤ bs.length) (z : Int) (hz : z = (q : Int)) : RdAt ((w.setCell ⟨b, 2, none⟩ (.int .i64 (-1))).setCell ⟨b, 1, none⟩ (.int .i64 z)) b A cap bs q := by
  subst hz
  obtain ⟨⟨pr, hp⟩, hr, h1, h2, h3, h4⟩ := h
  exact ⟨⟨-1, rd_set hp q⟩, hr.kp (rd_kp _ _ _ _) (fun g o e => h4 g o e), hq, h2, h3, h4⟩

set_option maxRecDepth 100000 in
theorem NewReader_ok (A : Option Addr) (cap : Nat) (bs : List UInt8) (w : World) (h : BytesAt w A bs) (hc : bs.length ≤ cap) (hb : bs.length ≤ 1099511627776) (hA : ∀ g o, A = some ⟨g, o, none⟩ → g < w.heap.size) :
    Calls Tryz.prog 11 #[.slice A bs.length cap] w fun e w' => e = .returned (.pointer (some ⟨w.heap.size, 0, none⟩)) ∧ RdAt w' w.heap.size A cap bs 0 ∧ Below w.heap.size w w' := by
  go_enter Tryz.func11, Tryz.ntmps11
  go_wp2_with fail
  go_ret
  exact ⟨rfl, ⟨⟨-1, heap_alloc_last _ _⟩, h.below (below_boxed _ _), by omega, hc, hb, fun g o e => by have := hA g o e; omega⟩, by (repeat (first | (with_reducible exact Below.refl _ _) | (with_reducible exact below_boxed _ _) | (with_reducible refine below_box ?_ _) | (with_reducible refine below_drew1 ?_) | (with_reducible refine below_drewn ?_ _) | (with_reducible refine below_bytes ?_ _ _) | (with_reducible refine below_next ?_ (by assumption)) | (with_reducible refine below_set ?_ (by first | (simp; done) | (simp; omega) | omega) _)))⟩

set_option maxRecDepth 100000 in
set_option maxHeartbeats 1600000 in
theorem ReadByte_ok (b : Nat) (A : Option Addr) (cap : Nat) (bs : List UInt8) (pos : Nat) (x : UInt8) (w : World) (h : RdAt w b A cap bs pos) (hx : bs[pos]? = some x) :
    Calls Tryz.prog 165 #[.pointer (some ⟨b, 0, none⟩)] w fun e w' => e = .returned (.tuple #[.int .u8 (x.toNat : Int), .nilIface]) ∧ RdAt w' b A cap bs (pos + 1) ∧ Kp (fun i => i = b) w w' := by
  have hm := h.moved (pos + 1) (by have := (List.getElem?_eq_some_iff.1 hx).1; omega) ((pos : Int) + 1) (by omega)
  have HM := Lib.hid hm; clear hm
  obtain ⟨⟨pr, hp⟩, hr, h1, h2, h3, h4⟩ := h
  have hlt := (List.getElem?_eq_some_iff.1 hx).1
  have c0 := (blk_cell' hp 0).trans (show _ = some (Value.slice A bs.length cap) from rfl)
  have c1 := (blk_cell' hp 1).trans (show _ = some (Value.int .i64 (pos : Int)) from rfl)
  have c2 := (blk_cell' hp 2).trans (show _ = some (Value.int .i64 pr) from rfl)
  have f1 := blk_free' hp 1
  have f2 := blk_free' hp 2
  have hbl := (Array.getElem?_eq_some_iff.1 hp).1
  rcases hr with hr | ⟨g, o, rfl, hc⟩
  · rw [hr] at hx; simp at hx
  have hcx := hc pos x hx
  have hgb : g ≠ b := h4 g o rfl
  have hbg : b ≠ g := fun e => hgb e.symm
  have hw1 : IntKind.i64.wrap ((pos : Int) + 1) = ((pos + 1 : Nat) : Int) := by rw [IntKind.wrap_i64]; omega
  have hlt' : (pos : Int) < (bs.length : Int) := by omega
  have hge : ¬ ((bs.length : Int) ≤ (pos : Int)) := by omega
  generalize bs.length = n at *
  clear hx hc
  generalize x.toNat = xn at *
  go_enter Tryz.func165, Tryz.ntmps165
  go_wp2_with fail
  go_region
  go_wp2_with fail
  go_region
  go_wp2_with fail
  go_ret2
  exact ⟨rfl, HM.out.drew.drew, (rd_kp _ _ _ _).drew.drew⟩

/-- 'copy' into a row of the call's own, in a region that draws. -/
theorem step_copy_row {P : Program} {ops : Array Oper} {o : Oper} {a : Act} {w : World} {K : Act → World → Prop} {Q : Exit → Act → World → Prop} {E : Prop} (hgd : o.guard = none) (d s : Operand) (dT sT : TypeId)
    (ho : o.op = .call { callee := .builtin .copy, args := #[d, s], argTypes := #[dT, sT] }) (elem : TypeId) (hu : P.underlying dT = some (.slice elem)) (hsz : (P.info? elem).map (·.size) = some 1)
    (g off dLen dCap : Nat) (ad : Addr) (sLen sCap : Nat) (hd : a.eval d = .slice (some ⟨g, off, none⟩) dLen dCap) (hs : a.eval s = .slice (some ad) sLen sCap)
    (cur : Array Value) (t : TypeId) (hg : w.heap[g]? = some (.cells cur t (0, 0))) (cs : List Value) (hn : cs.length = Nat.min sLen dLen) (hsrc : ∀ j v, cs[j]? = some v → w.cell? (ad.add j) = some v)
    (hfit : off + cs.length ≤ cur.size) (h1 : ∀ v ∈ cs, v.oneCell' = true)
    (h : K (a.put o.dst (goInt cs.length)) (w.setRow g (cur.toList.take off ++ cs ++ cur.toList.drop (off + cs.length)).toArray)) :
    if Region.wanted o (yielded ops a.tmps) = true then Oper.wp P o a w K Q else E := by
  have hw : Region.wanted o (yielded ops a.tmps) = true := by simp [Region.wanted, hgd]
  rw [if_pos hw]
  have hrun := run_copy_row (P := P) w dT sT o.type elem g off dLen dCap ad sLen sCap cur t cs hu hsz hg hn hsrc hfit h1
  unfold Oper.wp execOp
  simp only [ho, resolve, invoke, builtin, Sem.run_bind, Sem.run_pure, Result.andThen_ok, List.map_toArray, List.map_cons, List.map_nil, hd, hs, hrun]
  exact h

theorem info_u8s : (Tryz.prog.info? 5).map (·.size) = some 1 := by kernel_rfl

/-- The bytes of a list from a place on, as cells. -/
def bcells (l : List UInt8) : List Value := l.map fun x => .int .u8 (x.toNat : Int)

set_option maxRecDepth 100000 in
set_option maxHeartbeats 1600000 in
theorem Read_ok {tb : TypeId} (b : Nat) (A : Option Addr) (cap : Nat) (bs : List UInt8) (pos : Nat) (gb ob m cb : Nat) (cur : Array Value) (w : World) (h : RdAt w b A cap bs pos) (hm0 : 0 < m) (hm : pos + m ≤ bs.length)
    (hgb : w.heap[gb]? = some (.cells cur tb (0, 0))) (hfit : ob + m ≤ cur.size) (hnb : gb ≠ b) (hnA : ∀ g o, A = some ⟨g, o, none⟩ → g ≠ gb) :
    Calls Tryz.prog 288 #[.pointer (some ⟨b, 0, none⟩), .slice (some ⟨gb, ob, none⟩) m cb] w fun e w' => e = .returned (.tuple #[.int .i64 (m : Int), .nilIface]) ∧ RdAt w' b A cap bs (pos + m) ∧
      w'.heap[gb]? = some (.cells (cur.toList.take ob ++ bcells ((bs.drop pos).take m) ++ cur.toList.drop (ob + m)).toArray tb (0, 0)) ∧ Kp (fun i => i = b ∨ i = gb) w w' := by
  obtain ⟨⟨pr, hp⟩, hr, h1, h2, h3, h4⟩ := h
  have c0 := (blk_cell' hp 0).trans (show _ = some (Value.slice A bs.length cap) from rfl)
  have c1 := (blk_cell' hp 1).trans (show _ = some (Value.int .i64 (pos : Int)) from rfl)
  have c2 := (blk_cell' hp 2).trans (show _ = some (Value.int .i64 pr) from rfl)
  have f1 := blk_free' hp 1
  have f2 := blk_free' hp 2
  rcases hr with hr | ⟨g, o, rfl, hc⟩
  · rw [hr] at hm; simp at hm; omega
  have hgb' : g ≠ b := h4 g o rfl
  have hbg : b ≠ g := fun e => hgb' e.symm
  have hlt' : (pos : Int) < (bs.length : Int) := by omega
  have hge : ¬ ((bs.length : Int) ≤ (pos : Int)) := by omega
  have hle : (pos : Int) ≤ (bs.length : Int) := by omega
  have hlc : (bs.length : Int) ≤ (cap : Int) := by omega
  have hpc : ¬ cap = pos := by omega
  have hw1 : IntKind.i64.wrap ((pos : Int) + (m : Int)) = (pos : Int) + (m : Int) := by rw [IntKind.wrap_i64]; omega
  go_enter Tryz.func288, Tryz.ntmps288
  go_wp2_with fail
  go_region
  go_wp2_with fail
  have hgb2 : ((w.setCell ⟨b, 2, none⟩ (.int .i64 (-1))).drew.drew).heap[gb]? = some (.cells cur tb (0, 0)) := (Below.heap_setCell _ _ _ _ hnb).trans hgb
  have hml : (bcells ((bs.drop pos).take m)).length = m := by simp only [bcells, List.length_map, List.length_take, List.length_drop]; clear hw1; omega
  have hcl : (bcells ((bs.drop pos).take m)).length = Nat.min (bs.length - pos) m := by rw [hml]; exact (Nat.min_eq_right (by clear hw1; omega)).symm
  have h1c : ∀ v ∈ bcells ((bs.drop pos).take m), v.oneCell' = true := by
    intro v hv
    unfold bcells at hv
    obtain ⟨x, _, rfl⟩ := List.mem_map.1 hv
    rfl
  have hsrc : ∀ j v, (bcells ((bs.drop pos).take m))[j]? = some v → ((w.setCell ⟨b, 2, none⟩ (.int .i64 (-1))).drew.drew).cell? ((⟨g, o + pos, none⟩ : Addr).add j) = some v := by
    intro j v hj
    rw [Addr.add_mid]
    have hj' := (List.getElem?_eq_some_iff.1 hj).1
    rw [hml] at hj'
    simp only [bcells, List.getElem?_map, List.getElem?_take, hj', if_true, List.getElem?_drop] at hj
    cases hq : bs[pos + j]? with
    | none => rw [hq] at hj; cases hj
    | some x =>
      rw [hq] at hj
      cases hj
      have := hc (pos + j) x hq
      rw [show o + pos + j = o + (pos + j) by omega]
      exact (World.cell?_of_block (w := w) (a := ⟨g, o + (pos + j), none⟩) (Below.heap_setCell _ _ _ _ hgb')).trans this
  go_region_law (refine step_copy_row rfl (.tmp 20) (.tmp 29) 42 42 rfl 5 Tryz.underlying42 info_u8s gb ob m cb ⟨g, o + pos, none⟩ (bs.length - pos) (cap - pos) rfl rfl cur tb hgb2 (bcells ((bs.drop pos).take m)) hcl hsrc (by rw [hml]; exact hfit) h1c ?_)
  all_goals generalize hX : (cur.toList.take ob ++ (bcells ((bs.drop pos).take m) ++ cur.toList.drop (ob + m))).toArray = X at *
  all_goals
    have hb1 : (w.setCell ⟨b, 2, none⟩ (.int .i64 (-1))).heap[b]? = some (.cells #[.slice (some ⟨g, o, none⟩) bs.length cap, .int .i64 pos, .int .i64 (-1)] 76 (0, 0)) := by
      rw [setCell_eq_setRow w b 2 _ _ _ _ hp, setRow_heap w b _ _ _ _ hp]; rfl
    have hb2 : ((w.setCell ⟨b, 2, none⟩ (.int .i64 (-1))).drew.drew.setRow gb X).heap[b]? = some (.cells #[.slice (some ⟨g, o, none⟩) bs.length cap, .int .i64 pos, .int .i64 (-1)] 76 (0, 0)) := (setRow_other _ _ _ _ (fun e => hnb e.symm)).trans hb1
    have hg2 : ((w.setCell ⟨b, 2, none⟩ (.int .i64 (-1))).drew.drew.setRow gb X).heap[gb]? = some (.cells X tb (0, 0)) := setRow_heap _ _ _ _ _ _ hgb2
    have hgA2 : ((w.setCell ⟨b, 2, none⟩ (.int .i64 (-1))).drew.drew.setRow gb X).heap[g]? = w.heap[g]? := (setRow_other _ _ _ _ (hnA g o rfl)).trans (Below.heap_setCell _ _ _ _ hgb')
    have hkp : Kp (fun i => i = b ∨ i = gb) w ((w.setCell ⟨b, 2, none⟩ (.int .i64 (-1))).drew.drew.setRow gb X) := ⟨rfl, rfl, rfl, by simp, fun i hi hn => (setRow_other _ _ _ _ (fun e => hn (.inr e))).trans (Below.heap_setCell _ _ _ _ (fun e => hn (.inl e)))⟩
    generalize (w.setCell ⟨b, 2, none⟩ (.int .i64 (-1))).drew.drew.setRow gb X = W2 at *
    have k1 := (blk_cell' hb2 1).trans (show _ = some (Value.int .i64 (pos : Int)) from rfl)
    have kf := blk_free' hb2 1
    have HX := Lib.hid hX
    clear hsrc hX hb1
    go_wp2_with fail
    go_ret2
    refine ⟨rfl, ⟨⟨-1, ?_⟩, .inr ⟨g, o, rfl, fun j x hj => ?_⟩, hm, h2, h3, h4⟩, ?_, ?_⟩
    · rw [setCell_eq_setRow W2 b 1 _ _ _ _ hb2, setRow_heap W2 b _ _ _ _ hb2]; rfl
    · exact (World.cell?_of_block (w := w) (a := ⟨g, o + j, none⟩) ((Below.heap_setCell _ _ _ _ hgb').trans hgA2)).trans (hc j x hj)
    · rw [List.append_assoc, HX.out]
      exact (Below.heap_setCell _ _ _ _ hnb).trans hg2
    · exact Kp.set (S := fun i => i = b ∨ i = gb) hkp (p := ⟨b, 1, none⟩) (.inl (.inl rfl)) _
end Go.Proofs.YtgdgmegpacmgnaaGreatDoor

/- varint.ReadUvarint over a bytes.Reader. -/
namespace Go.Proofs.YtgdgmegpacmgnaaGreatDoor
open Go.RowKit
set_option linter.unusedVariables false
set_option linter.unusedSimpArgs false
attribute [local go_sem] setCell_drewN alloc_drewN

theorem toU8_nat {a : Nat} (h : a < 256) : (((a.toUInt8).toNat : Nat) : Int) = (a : Int) := by simp [Nat.toUInt8, UInt8.toNat_ofNat', Nat.mod_eq_of_lt h]

theorem method_ReadByte (v : Value) (w : World) : (method 463 40 v "ReadByte").run Tryz.prog w = .ok (165, v) w := by kernel_rfl
theorem tuple2 {a a' b : Value} (h1 : a = a') : Ending.returned (.tuple #[a, b]) = .returned (.tuple #[a', b]) := by rw [h1]

set_option maxRecDepth 100000 in
set_option maxHeartbeats 1600000 in
theorem ReadUvarint_ok (b : Nat) (A : Option Addr) (cap : Nat) (bs : List UInt8) (pos : Nat) (n : Nat) (hn : n < 9223372036854775808) (rest : List UInt8) (w : World) (h : RdAt w b A cap bs pos) (hbs : bs.drop pos = Lib.uvarint n ++ rest) :
    Calls Tryz.prog 29 #[.iface 40 (.pointer (some ⟨b, 0, none⟩))] w fun e w' => e = .returned (.tuple #[.int .u64 n, .nilIface]) ∧ RdAt w' b A cap bs (pos + (Lib.uvarint n).length) ∧ Kp (fun i => i = b) w w' := by
  have hme := method_ReadByte
  go_enter Tryz.func29, Tryz.ntmps29
  go_wp2_with fail
  go_loopw [4, 5] (fun vx vs wr => ∃ (k y acc : Nat) (pre : List UInt8), vs = .int .u64 ((7 * k : Nat) : Int) ∧ vx = .int .u64 acc ∧ pre.length = k ∧ Lib.uvarint n = pre ++ Lib.uvarint y ∧ acc < 2 ^ (7 * k) ∧ n = acc + y * 2 ^ (7 * k) ∧ (k = 0 ∨ 0 < y) ∧ RdAt wr b A cap bs (pos + k) ∧ Kp (fun i => i = b) w wr)
    (fun _ vs _ => 1000 - (intOf vs).toNat)
  case atStart => exact ⟨0, n, 0, [], rfl, rfl, rfl, rfl, by decide, by simp, .inl rfl, h, Kp.refl _ _⟩
  case round =>
    clear h
    obtain ⟨k, y, acc, pre, rfl, rfl, hk, hsplit, hacc, hval, hy, hR, hK⟩ := hrel
    have hat : ∀ j, bs[pos + j]? = (Lib.uvarint n ++ rest)[j]? := fun j => by rw [← hbs, List.getElem?_drop]
    by_cases hb : y < 128
    · have hx : bs[pos + k]? = some y.toUInt8 := by
        rw [hat, hsplit, Lib.uvarint_small hb, List.append_assoc, List.getElem?_append_right (by omega), hk]; simp
      have hRB := ReadByte_ok b A cap bs (pos + k) y.toUInt8 wr hR hx
      rw [toU8_nat (by omega)] at hRB
      have hk9 : k < 9 := pow_bound hn hval hy
      have hy0 : y = 0 → k = 0 := by omega
      have HL : Hid ((Lib.uvarint n).length = k + 1) := Lib.hid (by rw [hsplit, List.length_append, hk, Lib.uvarint_small hb]; rfl)
      have H2 := Lib.hid hval
      clear hx hat hsplit hval hk hbs hR
      go_wp2_with fail
      refine hRB.mono ?_
      rintro e w1 ⟨rfl, hR1, hK1⟩
      have hyb : (y : Int) < 128 := by omega
      have hk9' : (k : Int) < 9 := by omega
      go_wp2_with fail
      · go_ret2
        have hk8 : (7 * (k : Int)) = 56 := by assumption
        obtain rfl : k = 8 := by omega
        have hv := H2.out
        exact ⟨tuple2 (int_eq (or_int acc _ 56 y n (by simp) hacc (by omega) hv)), by rw [HL.out]; exact hR1, hK.trans hK1 (fun i hi => .inl hi)⟩
      · go_ret2
        have hy1 : y = 0 := by assumption
        obtain rfl := hy0 hy1
        subst hy1
        have hv := H2.out
        exact ⟨tuple2 (int_eq (or_int acc _ 0 0 n (by simp) hacc (by omega) hv)), by rw [HL.out]; exact hR1, hK.trans hK1 (fun i hi => .inl hi)⟩
      · go_ret2
        exact ⟨tuple2 (int_eq (or_done hn hacc H2.out)), by rw [HL.out]; exact hR1, hK.trans hK1 (fun i hi => .inl hi)⟩
    · have hx : bs[pos + k]? = some (y % 128 + 128).toUInt8 := by
        rw [hat, hsplit, Lib.uvarint_big (by omega), List.append_assoc, List.getElem?_append_right (by omega), hk]; simp
      have hRB := ReadByte_ok b A cap bs (pos + k) (y % 128 + 128).toUInt8 wr hR hx
      rw [toU8_nat (by omega)] at hRB
      have hy9 : 0 < y := by omega
      have hk9 : k + 1 < 9 := pow_bound (y := y / 128) (acc := acc + y % 128 * 2 ^ (7 * k)) hn (by rw [hval]; exact pow_step acc y k) (.inr (by omega))
      have H1 := Lib.hid hsplit
      have H2 := Lib.hid hval
      have H3 := Lib.hid hk
      clear hx hat hsplit hval hk hbs hR
      generalize hz : y % 128 + 128 = z at hRB
      have hzb : 128 ≤ (z : Int) := by omega
      have hzb2 : (z : Int) < 256 := by omega
      have HZ := Lib.hid hz; clear hz
      have hk8f : ((7 * (k : Int)) == 56) = false := by simp; omega
      have hk9' : 7 * (k : Int) < 56 := by omega
      go_wp2_with fail
      refine hRB.mono ?_
      rintro e w1 ⟨rfl, hR1, hK1⟩
      go_wp2_with fail
      go_round
      case rel =>
        refine ⟨k + 1, y / 128, acc + y % 128 * 2 ^ (7 * k), pre ++ [(y % 128 + 128).toUInt8], by go_num, ?_, by simp [H3.out], by rw [H1.out, Lib.uvarint_big (by omega)]; simp, pow_lt_step hacc, ?_, .inr (by omega), by rw [← Nat.add_assoc]; exact hR1, hK.trans hK1 (fun i hi => .inl hi)⟩
        · exact int_eq (or_more hn hacc H2.out HZ.out)
        · rw [H2.out]; exact pow_step acc y k
      case measure => simp [intOf]; omega
end Go.Proofs.YtgdgmegpacmgnaaGreatDoor

/- io.ReadFull over a bytes.Reader. -/
namespace Go.Proofs.YtgdgmegpacmgnaaGreatDoor
open Go.RowKit
set_option linter.unusedVariables false
set_option linter.unusedSimpArgs false
attribute [local go_sem] setCell_drewN alloc_drewN

theorem method_Read (v : Value) (w : World) : (method 463 40 v "Read").run Tryz.prog w = .ok (288, v) w := by kernel_rfl

theorem ahead_Read (p : Addr) (w : World) : (nilAhead 463 40 (.pointer (some p)) "Read").run Tryz.prog w = .ok (some false) w := by kernel_rfl

/-- A whole row: what lies in it behind a Read that fills it. -/
theorem read_row (cur cs : List Value) (m : Nat) (hc : cur.length = m) (hm : cs.length = m) : cur.take 0 ++ cs ++ cur.drop (0 + m) = cs := by
  rw [Nat.zero_add, List.drop_of_length_le (by omega)]; simp

set_option maxRecDepth 100000 in
set_option maxHeartbeats 1600000 in
theorem ReadAtLeast_ok (b : Nat) (A : Option Addr) (cap : Nat) (bs : List UInt8) (pos : Nat) (gb m : Nat) (cur : Array Value) (w : World) (h : RdAt w b A cap bs pos) (hm0 : 0 < m) (hm : pos + m ≤ bs.length)
    (hgb : w.heap[gb]? = some (.cells cur 5 (0, 0))) (hfit : cur.size = m) (hnb : gb ≠ b) (hnA : ∀ g o, A = some ⟨g, o, none⟩ → g ≠ gb) :
    Calls Tryz.prog 216 #[.iface 40 (.pointer (some ⟨b, 0, none⟩)), .slice (some ⟨gb, 0, none⟩) m m, .int .i64 m] w fun e w' => e = .returned (.tuple #[.int .i64 (m : Int), .nilIface]) ∧ RdAt w' b A cap bs (pos + m) ∧
      w'.heap[gb]? = some (.cells (bcells ((bs.drop pos).take m)).toArray 5 (0, 0)) ∧ Kp (fun i => i = b ∨ i = gb) w w' := by
  have hme := method_Read
  have hna := ahead_Read
  have hmf : ∀ (fn : Fn) (first cap : Array Value) (w : World), (Instr.makeFunc fn first cap).run Tryz.prog w = .ok (.func fn first cap) w := fun _ _ _ _ => rfl
  have hbig := h.big
  have hR : ∀ W, RdAt W b A cap bs pos → W.heap[gb]? = some (.cells cur 5 (0, 0)) → _ := fun W hW hg => Read_ok b A cap bs pos gb 0 m m cur W hW hm0 hm hg (by omega) hnb hnA
  have hm1 : (0 : Int) < (m : Int) := by omega
  have hmb : (m : Int) < 1099511627777 := by omega
  go_enter Tryz.func216, Tryz.ntmps216
  go_wp2_with fail
  refine wp_loop_rounds 2 ?_
  rw [rounds_succ]
  go_wp2_with fail
  refine wp_region_noPanic ?_
  go_region_with (go_at_call 288; refine (hR _ (RdAt.drew h) hgb).mono ?_; rintro e w1 ⟨rfl, hR1, hg1, hK1⟩)
  refine NoPanic.normal ?_
  go_wp2_with fail
  rw [rounds_succ]
  go_wp2_with fail
  go_ret2
  refine ⟨rfl, hR1, ?_, Kp.mono (S := fun i => i = b ∨ i = gb) ⟨hK1.os, hK1.tape, hK1.output, hK1.size, hK1.block⟩ (fun i hi => .inl hi)⟩
  rw [hg1]
  congr 2
  rw [read_row _ _ m (by simpa using hfit) (by simp only [bcells, List.length_map, List.length_take, List.length_drop]; omega)]

set_option maxRecDepth 100000 in
set_option maxHeartbeats 1600000 in
theorem ReadFull_ok (b : Nat) (A : Option Addr) (cap : Nat) (bs : List UInt8) (pos : Nat) (gb m : Nat) (cur : Array Value) (w : World) (h : RdAt w b A cap bs pos) (hm0 : 0 < m) (hm : pos + m ≤ bs.length)
    (hgb : w.heap[gb]? = some (.cells cur 5 (0, 0))) (hfit : cur.size = m) (hnb : gb ≠ b) (hnA : ∀ g o, A = some ⟨g, o, none⟩ → g ≠ gb) :
    Calls Tryz.prog 201 #[.iface 40 (.pointer (some ⟨b, 0, none⟩)), .slice (some ⟨gb, 0, none⟩) m m] w fun e w' => e = .returned (.tuple #[.int .i64 (m : Int), .nilIface]) ∧ RdAt w' b A cap bs (pos + m) ∧
      w'.heap[gb]? = some (.cells (bcells ((bs.drop pos).take m)).toArray 5 (0, 0)) ∧ Kp (fun i => i = b ∨ i = gb) w w' := by
  have hR := ReadAtLeast_ok b A cap bs pos gb m cur w h hm0 hm hgb hfit hnb hnA
  clear h hm hgb hfit hnb hnA
  go_enter Tryz.func201, Tryz.ntmps201
  go_wp2_with fail
  refine hR.mono ?_
  rintro e w1 ⟨rfl, hR1⟩
  go_wp2_with fail
  go_ret2
  exact ⟨rfl, hR1⟩
set_option maxRecDepth 100000 in
set_option maxHeartbeats 800000 in
/-- Nothing is asked for. -/
theorem ReadFull_none (b gb : Nat) (w : World) :
    Calls Tryz.prog 201 #[.iface 40 (.pointer (some ⟨b, 0, none⟩)), .slice (some ⟨gb, 0, none⟩) 0 0] w fun e w' => e = .returned (.tuple #[.int .i64 0, .nilIface]) ∧ w = w' := by
  go_enter Tryz.func201, Tryz.ntmps201
  go_wp2_with fail
  suffices hs : Calls Tryz.prog 216 #[.iface 40 (.pointer (some ⟨b, 0, none⟩)), .slice (some ⟨gb, 0, none⟩) 0 0, .int .i64 0] w fun e w' => e = .returned (.tuple #[.int .i64 0, .nilIface]) ∧ w = w' by
    refine hs.mono ?_
    rintro e w1 ⟨rfl, rfl⟩
    go_wp2_with fail
    go_ret2
    exact ⟨rfl, rfl⟩
  go_enter Tryz.func216, Tryz.ntmps216
  go_wp2_with fail
  refine wp_loop_rounds 1 ?_
  rw [rounds_succ]
  go_wp2_with fail
  go_ret2
  exact ⟨rfl, rfl⟩
/-- As many as there are, or none. -/
theorem ReadFull_all (b : Nat) (A : Option Addr) (cap : Nat) (bs : List UInt8) (pos : Nat) (gb m : Nat) (cur : Array Value) (w : World) (h : RdAt w b A cap bs pos) (hm : pos + m ≤ bs.length)
    (hgb : w.heap[gb]? = some (.cells cur 5 (0, 0))) (hfit : cur.size = m) (hnb : gb ≠ b) (hnA : ∀ g o, A = some ⟨g, o, none⟩ → g ≠ gb) :
    Calls Tryz.prog 201 #[.iface 40 (.pointer (some ⟨b, 0, none⟩)), .slice (some ⟨gb, 0, none⟩) m m] w fun e w' => e = .returned (.tuple #[.int .i64 (m : Int), .nilIface]) ∧ RdAt w' b A cap bs (pos + m) ∧
      w'.heap[gb]? = some (.cells (bcells ((bs.drop pos).take m)).toArray 5 (0, 0)) ∧ Kp (fun i => i = b ∨ i = gb) w w' := by
  by_cases h0 : m = 0
  · subst h0
    refine (ReadFull_none b gb w).mono ?_
    rintro e w' ⟨rfl, rfl⟩
    refine ⟨rfl, h, ?_, Kp.refl _ _⟩
    rw [hgb, Array.eq_empty_of_size_eq_zero hfit]; rfl
  · exact ReadFull_ok b A cap bs pos gb m cur w h (by omega) hm hgb hfit hnb hnA
end Go.Proofs.YtgdgmegpacmgnaaGreatDoor

/- append onto a row of bytes of the call's own whose frozen range, if any, begins at its end or behind it (what '[]byte(s)' leaves). -/
namespace Go.Proofs.YtgdgmegpacmgnaaGreatDoor
open Go.RowKit
set_option linter.unusedVariables false
set_option linter.unusedSimpArgs false

theorem storeCells_z (P : Program) (g o : Nat) (t : TypeId) (fz : Nat × Nat) : ∀ (vs : List Value) (i : Nat) (cur : Array Value) (w : World), w.heap[g]? = some (.cells cur t fz) → cur.size ≤ fz.1 → o + i + vs.length ≤ cur.size → (∀ v ∈ vs, v.oneCell' = true) →
    (storeCells ⟨g, o, none⟩ vs i).run P w = .ok () (w.setRow g (cur.toList.take (o + i) ++ vs ++ cur.toList.drop (o + i + vs.length)).toArray)
  | [], i, cur, w, hg, _, _, _ => by
    simp only [storeCells, List.append_nil, List.length_nil, Nat.add_zero, List.take_append_drop, Array.toArray_toList]
    rw [setRow_self w g cur t fz hg]
    rfl
  | v :: rest, i, cur, w, hg, hz, hl, h1 => by
    have hi : o + i < cur.size := by simp at hl; omega
    have hadd : (⟨g, o, none⟩ : Addr).add i = ⟨g, o + i, none⟩ := by unfold Addr.add; split <;> simp_all
    have hcell : w.cell? ⟨g, o + i, none⟩ = some cur[o + i] := by simp [World.cell?, hg, hi]
    have hfro : w.frozen? ⟨g, o + i, none⟩ = false := by
      simp [World.frozen?, hg]
      intro h
      omega
    have hst : (store ((⟨g, o, none⟩ : Addr).add i) v).run P w = .ok () (w.setRow g (cur.setIfInBounds (o + i) v)) := by
      rw [hadd, run_store P w _ v _ (h1 v (by simp)), hcell]
      simp [hfro, setCell_eq_setRow w g (o + i) cur t fz v hg]
    have ih := storeCells_z P g o t fz rest (i + 1) (cur.setIfInBounds (o + i) v) (w.setRow g (cur.setIfInBounds (o + i) v)) (setRow_heap w g cur _ t fz hg) (by simpa using hz) (by simp at hl ⊢; omega) (fun x hx => h1 x (by simp [hx]))
    simp only [storeCells, Sem.run_bind, hst, Result.andThen_ok, ih, setRow_setRow]
    congr 3
    have e := list_seg_step cur.toList (o + i) v rest (by simp at hl ⊢; omega)
    simpa [Array.toList_setIfInBounds, Nat.add_assoc] using e

/-- v, of n bytes, owns the cells xs. -/
def RowZ (w : World) (base : Nat) (e : TypeId) (v : Value) (n : Nat) (xs : List Value) : Prop :=
  xs.length = n ∧ ∃ g cap cur fz, v = .slice (some ⟨g, 0, none⟩) n cap ∧ base ≤ g ∧ w.heap[g]? = some (.cells cur e fz) ∧ (fz = (0, 0) ∨ cur.size ≤ fz.1) ∧ n ≤ cap ∧ cap ≤ maxLen ∧ cur.size = cap ∧ cur.toList.take n = xs

theorem RowZ.kept {w w' : World} {base : Nat} {e : TypeId} {v : Value} {n : Nat} {xs : List Value} {row : Option Nat} (h : RowZ w base e v n xs) (hg : w.grownBy w' row) (hne : v.ownBlock ≠ row) : RowZ w' base e v n xs := by
  obtain ⟨hl, g, cap, cur, fz, rfl, hb, hgg, rest⟩ := h
  refine ⟨hl, g, cap, cur, fz, rfl, hb, ?_, rest⟩
  rw [hg.block g (Array.getElem?_eq_some_iff.1 hgg).1 (by simpa [Value.ownBlock] using hne)]
  exact hgg

theorem RowZ.cells {w : World} {base : Nat} {e : TypeId} {v : Value} {n : Nat} {xs : List Value} (h : RowZ w base e v n xs) {g : Nat} (hg : v.ownBlock = some g) : ∀ j u, xs[j]? = some u → w.cell? ((⟨g, 0, none⟩ : Addr).add j) = some u := by
  obtain ⟨hl, g', cap, cur, fz, rfl, _, hgg, _, _, _, _, htake⟩ := h
  simp [Value.ownBlock] at hg
  subst hg
  intro j u hu
  have hadd : (⟨g', 0, none⟩ : Addr).add j = ⟨g', j, none⟩ := by unfold Addr.add; split <;> simp_all
  rw [hadd]
  rw [← htake, List.getElem?_take] at hu
  split at hu
  · simp [World.cell?, hgg]; simpa using hu
  · cases hu

theorem run_append_z {P : Program} (w : World) (base : Nat) (t ty e : TypeId) (i : TypeInfo) (z : Value) (ht : P.underlying t = some (.slice e)) (hi : P.info? e = some i) (hz : i.zero = some z)
    (hsize : i.size = 1) (hby : i.bytes = 1) (hzs : z.cells.size = 1)
    (v : Value) (n : Nat) (xs : List Value) (hown : RowZ w base e v n xs)
    (a : Addr) (m c : Nat) (news : List Value) (hl : news.length = m) (hnews : ∀ j u, news[j]? = some u → w.cell? (a.add j) = some u) (h1 : ∀ u ∈ news, u.oneCell' = true)
    (h63 : n + m ≤ maxLen) (hbytes : n + m ≤ 140737488355328) (hbase : base ≤ w.heap.size) :
    ∃ v' w', (Builtin.append_ #[t, t] ty #[v, .slice (some a) m c]).run P w = .ok v' w' ∧ RowZ w' base e v' (n + m) (xs ++ news) ∧ w.grownBy w' v.ownBlock ∧ (v'.ownBlock = v.ownBlock ∨ v'.ownBlock = some w.heap.size) := by
  have hown' := hown
  obtain ⟨hx, g, cap, cur, fz, rfl, hbg, hg, hfz, hnc, hcm, hcs, htake⟩ := hown
  have hsmall : n + m ≤ 9223372036854775807 := by simp only [maxLen] at h63; omega
  have hlen : (xs ++ news).length = n + m := by rw [List.length_append, hx, hl]
  by_cases hroom : n + m ≤ cap
  · have hf := run_firstCells_some (P := P) w i.size m a m c news (by rw [hsize, hl, Nat.mul_one]) hnews
    have hst : (storeCells ⟨g, n, none⟩ news 0).run P w = .ok () (w.setRow g (cur.toList.take n ++ news ++ cur.toList.drop (n + news.length)).toArray) := by
      rcases hfz with rfl | hfz
      · have := run_storeCells_at P g n e news 0 cur w hg (by rw [hl, hcs]; omega) h1
        simpa using this
      · have := storeCells_z P g n e fz news 0 cur w hg hfz (by rw [hl, hcs]; omega) h1
        simpa using this
    refine ⟨.slice (some ⟨g, 0, none⟩) (n + m) cap, w.setRow g (cur.toList.take n ++ news ++ cur.toList.drop (n + news.length)).toArray, ?_, ⟨hlen, g, cap, (cur.toList.take n ++ news ++ cur.toList.drop (n + news.length)).toArray, fz, rfl, hbg, setRow_heap w g cur _ e _ hg, ?_, hroom, hcm, ?_, ?_⟩, ⟨rfl, rfl, rfl, by simp, fun k _ hk => setRow_other w g k _ (fun e => hk (by simp [Value.ownBlock, e]))⟩, Or.inl rfl⟩
    · rw [hsize] at hf
      simp [Builtin.append_, run_underlying ht, sizeOf, typeInfo, hi, Builtin.lenOf, hroom, hf, Addr.add_lit, hst, hsize]
    · rcases hfz with h | h
      · exact .inl h
      · right
        have : (cur.toList.take n ++ news ++ cur.toList.drop (n + news.length)).toArray.size = cur.size := by
          simp only [List.size_toArray, List.length_append, List.length_take, List.length_drop, Array.length_toList]; omega
        rw [this]; exact h
    · simp only [List.size_toArray, List.length_append, List.length_take, List.length_drop, Array.length_toList]; omega
    · rw [htake, ← hlen]; exact List.take_left
  · have holds : ∀ j u, xs[j]? = some u → w.cell? ((⟨g, 0, none⟩ : Addr).add j) = some u := hown'.cells (g := g) rfl
    have hr := run_append_grow (P := P) w t ty e i z ht hi hz ⟨g, 0, none⟩ n cap xs (by rw [hsize, hx, Nat.mul_one]) holds a m c news (by rw [hsize, hl, Nat.mul_one]) hnews (by omega) (by omega) (growslice_fits (by omega) (by rw [hby]; omega))
    have hge := grownCap_ge w (n + m) cap e
    have hcm : grownCap w (n + m) cap e ≤ maxLen := grownCap_le_maxLen w (n + m) cap e h63
    refine ⟨_, _, hr, ⟨hlen, w.heap.size, _, _, (0, 0), rfl, hbase, heap_alloc_new w.drew _, .inl rfl, hge, hcm, ?_, ?_⟩, ⟨rfl, rfl, rfl, by simp, fun k hk _ => Below.heap_alloc w.drew _ k hk⟩, Or.inr rfl⟩
    · simp only [Array.size_append, List.size_toArray, size_zeroCells, hzs, hx, hl]
      omega
    · simp only [Array.toList_append, List.append_assoc]
      rw [← List.append_assoc, ← hlen]
      exact List.take_left

theorem wp_append_z {P : Program} {w : World} {ops : Array Oper} {rest : List Oper} {o : Oper} {a : Act} {Q : Exit → Act → World → Prop} (hgd : o.guard = none) (s x : Operand) (t : TypeId)
    (ho : o.op = .call { callee := .builtin .append, args := #[s, x], argTypes := #[t, t] })
    (base : Nat) (e : TypeId) (i : TypeInfo) (z : Value) (ht : P.underlying t = some (.slice e)) (hi : P.info? e = some i) (hz : i.zero = some z)
    (hsize : i.size = 1) (hby : i.bytes = 1) (hzs : z.cells.size = 1)
    (v : Value) (n : Nat) (xs : List Value) (hs : a.eval s = v) (hown : RowZ w base e v n xs)
    (ad : Addr) (m c : Nat) (news : List Value) (hx : a.eval x = .slice (some ad) m c) (hl : news.length = m) (hnews : ∀ j u, news[j]? = some u → w.cell? (ad.add j) = some u) (h1 : ∀ u ∈ news, u.oneCell' = true)
    (h63 : n + m ≤ maxLen) (hbytes : n + m ≤ 140737488355328) (hbase : base ≤ w.heap.size)
    (h : ∀ g cap w', RowZ w' base e (.slice (some ⟨g, 0, none⟩) (n + m) cap) (n + m) (xs ++ news) → w.grownBy w' v.ownBlock → wpList P ops Q rest (a.put o.dst (.slice (some ⟨g, 0, none⟩) (n + m) cap)) w') :
    wpList P ops Q (o :: rest) a w := by
  refine wpList_plain hgd fun K hK => ?_
  obtain ⟨v', w', hr, h2, h3, h5⟩ := run_append_z (P := P) w base t o.type e i z ht hi hz hsize hby hzs v n xs hown ad m c news hl hnews h1 h63 hbytes hbase
  unfold Oper.wp execOp
  simp only [ho, resolve, invoke, builtin, Sem.run_bind, Sem.run_pure, Result.andThen_ok, List.map_toArray, List.map_cons, List.map_nil, hs, hx, hr]
  obtain ⟨_, g, cap, cur, fz, rfl, _⟩ := id h2
  exact hK _ _ (h g cap w' h2 h3)

/-- '[]byte("")': a row of no bytes. -/
theorem RowZ.conv (w : World) (e : TypeId) : RowZ (Lib.bytesWorld w e ⟨#[]⟩) w.heap.size e (.slice (some ⟨w.heap.size, 0, none⟩) 0 (grownCap w 0 0 e)) 0 [] := by
  refine ⟨rfl, w.heap.size, grownCap w 0 0 e, Lib.bytesCells w e ⟨#[]⟩, ((Lib.bytesCells w e ⟨#[]⟩).size, (Lib.bytesCells w e ⟨#[]⟩).size + 1), rfl, Nat.le_refl _, ?_, .inr (Nat.le_refl _), Nat.zero_le _, grownCap_le_maxLen w 0 0 e (by decide), ?_, ?_⟩
  · have h : (w.drew.alloc (.cells (Lib.bytesCells w e ⟨#[]⟩) e)).heap[w.heap.size]? = some (.cells (Lib.bytesCells w e ⟨#[]⟩) e (0, 0)) := heap_alloc_new w.drew _
    unfold Lib.bytesWorld World.freeze
    rw [if_neg (by decide)]
    dsimp only
    rw [Array.getElem?_modify, if_pos rfl, h]
    rfl
  · simp [Lib.bytesCells]
    rfl
  · simp
end Go.Proofs.YtgdgmegpacmgnaaGreatDoor

/- index.ReadFrom and index.New where the kind is not known. -/
namespace Go.Proofs.YtgdgmegpacmgnaaGreatDoor
open Go.RowKit
set_option linter.unusedVariables false
set_option linter.unusedSimpArgs false
attribute [local go_sem] setCell_drewN alloc_drewN

set_option maxRecDepth 100000 in
theorem errNew_ok (s : ByteArray) (w : World) :
    Calls Tryz.prog 33 #[.string s] w fun e w' => e = .returned (.iface 137 (.pointer (some ⟨w.heap.size, 0, none⟩))) ∧ Below w.heap.size w w' := by
  go_enter Tryz.func33, Tryz.ntmps33
  go_wp2_with fail
  go_ret
  exact ⟨rfl, by (repeat (first | (with_reducible exact Below.refl _ _) | (with_reducible exact below_boxed _ _) | (with_reducible refine below_box ?_ _) | (with_reducible refine below_drew1 ?_) | (with_reducible refine below_drewn ?_ _) | (with_reducible refine below_bytes ?_ _ _) | (with_reducible refine below_next ?_ (by assumption)) | (with_reducible refine below_set ?_ (by first | (simp; done) | (simp; omega) | omega) _)))⟩

theorem reader_byte (v : Value) (w : World) : (Instr.typeAssert (.iface 40 v) 78 95 true).run Tryz.prog w = .ok (.tuple #[.iface 40 v, .bool true]) w := by kernel_rfl

set_option maxRecDepth 100000 in
theorem ToByteReader_ok (v : Value) (w : World) :
    Calls Tryz.prog 30 #[.iface 40 v] w fun e w' => e = .returned (.iface 40 v) ∧ w = w' := by
  have h := reader_byte
  go_enter Tryz.func30, Tryz.ntmps30
  go_wp2_with fail
  go_ret
  exact ⟨rfl, rfl⟩

set_option maxRecDepth 100000 in
set_option maxHeartbeats 800000 in
theorem ReadCodec_ok (b : Nat) (A : Option Addr) (cap : Nat) (bs : List UInt8) (pos : Nat) (n : Nat) (hn : n < 9223372036854775808) (rest : List UInt8) (w : World) (h : RdAt w b A cap bs pos) (hbs : bs.drop pos = Lib.uvarint n ++ rest) :
    Calls Tryz.prog 21 #[.iface 40 (.pointer (some ⟨b, 0, none⟩))] w fun e w' => e = .returned (.tuple #[.int .u64 n, .nilIface]) ∧ RdAt w' b A cap bs (pos + (Lib.uvarint n).length) ∧ Kp (fun i => i = b) w w' := by
  have hR := ReadUvarint_ok b A cap bs pos n hn rest w h hbs
  clear h hbs
  go_enter Tryz.func21, Tryz.ntmps21
  go_wp2_with fail
  refine (ToByteReader_ok _ _).mono ?_
  rintro e w0 ⟨rfl, rfl⟩
  go_wp2_with fail
  refine hR.mono ?_
  rintro e w1 ⟨rfl, hR1, hK1⟩
  go_wp2_with fail
  go_ret2
  exact ⟨rfl, hR1, hK1⟩

set_option maxRecDepth 100000 in
set_option maxHeartbeats 800000 in
theorem New_unknown (n : Nat) (h0 : n ≠ 1024) (h1 : n ≠ 1025) (w : World) :
    Calls Tryz.prog 22 #[.int .u64 n] w fun e w' => e = .returned (.tuple #[.nilIface, .iface 137 (.pointer (some ⟨w.heap.size, 0, none⟩))]) ∧ Below w.heap.size w w' := by
  have h0' : ((n : Int) == 1024) = false := by simp; omega
  have h1' : ((n : Int) == 1025) = false := by simp; omega
  go_enter Tryz.func22, Tryz.ntmps22
  go_wp2_with fail
  refine (errNew_ok _ _).mono ?_
  rintro e w1 ⟨rfl, hB⟩
  go_wp2_with fail
  go_ret2
  exact ⟨rfl, hB⟩

set_option maxRecDepth 100000 in
set_option maxHeartbeats 800000 in
theorem ReadFrom_unknown (b : Nat) (A : Option Addr) (cap : Nat) (bs : List UInt8) (pos : Nat) (n : Nat) (hn : n < 9223372036854775808) (h0 : n ≠ 1024) (h1 : n ≠ 1025) (rest : List UInt8) (w : World) (h : RdAt w b A cap bs pos) (hbs : bs.drop pos = Lib.uvarint n ++ rest) :
    Calls Tryz.prog 12 #[.iface 40 (.pointer (some ⟨b, 0, none⟩))] w fun e w' => (∃ p, e = .returned (.tuple #[.nilIface, .iface 137 (.pointer (some p))])) ∧ Kp (fun i => i = b) w w' := by
  have hR := ReadCodec_ok b A cap bs pos n hn rest w h hbs
  clear h hbs
  go_enter Tryz.func12, Tryz.ntmps12
  go_wp2_with fail
  refine hR.mono ?_
  rintro e w1 ⟨rfl, hR1, hK1⟩
  go_wp2_with fail
  refine (New_unknown n h0 h1 _).mono ?_
  rintro e w2 ⟨rfl, hB2⟩
  go_wp2_with fail
  go_ret2
  exact ⟨⟨_, rfl⟩, hK1.trans (Kp.of_below hB2) (fun i hi => .inl hi)⟩

set_option maxRecDepth 100000 in
set_option maxHeartbeats 800000 in
theorem IxBytes_unknown (n : Nat) (h0 : n ≠ 1024) (h1 : n ≠ 1025) (v : Value) (w : World) :
    Calls Tryz.prog 17 #[v, .int .u64 n] w fun e w' => e = .returned (.tuple #[.string ⟨#[]⟩, .bool false]) ∧ Below w.heap.size w w' := by
  go_enter Tryz.func17, Tryz.ntmps17
  go_wp2_with fail
  suffices hs : Calls Tryz.prog 25 #[v, .int .u64 n] w fun e w' => e = .returned (.tuple #[.string ⟨#[]⟩, .bool false]) ∧ Below w.heap.size w w' by
    refine hs.mono ?_
    rintro e w1 ⟨rfl, hB⟩
    go_wp2_with fail
    go_ret2
    exact ⟨rfl, hB⟩
  go_enter Tryz.func25, Tryz.ntmps25
  go_wp2_with fail
  refine (New_unknown n h0 h1 _).mono ?_
  rintro e w1 ⟨rfl, hB⟩
  go_wp2_with fail
  go_ret2
  exact ⟨rfl, hB⟩

theorem Kp.to_below {S : Nat → Prop} {w0 w w' : World} (h : Kp S w w') (hb : Below w0.heap.size w0 w) (hS : ∀ i, S i → w0.heap.size ≤ i) : Below w0.heap.size w0 w' :=
  ⟨h.os.trans hb.os, h.tape.trans hb.tape, h.output.trans hb.output, Nat.le_trans hb.size h.size, fun k hk => (h.block k (Nat.lt_of_lt_of_le hk hb.size) (fun hs => by have := hS k hs; omega)).trans (hb.block k hk)⟩

set_option maxRecDepth 100000 in
set_option maxHeartbeats 800000 in
theorem IxAgain_unknown (n : Nat) (hn : n < 9223372036854775808) (h0 : n ≠ 1024) (h1 : n ≠ 1025) (rest : List UInt8) (s : ByteArray) (hs : s.data.toList = Lib.uvarint n ++ rest) (hl : s.size ≤ 1099511627776) (w : World) :
    Calls Tryz.prog 5 #[.string s] w fun e w' => e = .returned (.tuple #[.int .i64 0, .string ⟨#[]⟩, .bool false]) ∧ Below w.heap.size w w' := by
  have hsz : s.size = s.data.toList.length := by rw [Array.length_toList]; rfl
  have hpos := Lib.uvarint_pos n
  generalize hS : s.data.toList = bs at *
  have HS := Lib.hid hS; clear hS
  have HZ := Lib.hid hsz
  have hl' : bs.length ≤ 1099511627776 := by omega
  have hp : 0 < bs.length := by rw [hs, List.length_append]; omega
  clear hl hsz
  have HB := Lib.hid hs; clear hs
  go_enter Tryz.func5, Tryz.ntmps5
  go_wp2_with (with_reducible refine conv_event rfl (.tmp 9) 9 42 5 rfl Tryz.underlying9 Tryz.underlying42 Tryz.underlying5 s rfl ?_)
  intro g0 cap0 w0 hg0 hcap0 hb0 hA0 hB0
  subst hg0
  rw [HS.out] at hA0
  have hgz : w.heap.size < w0.heap.size := by
    rcases hA0 with h | ⟨g, o, e, hc⟩
    · rw [h] at hp; simp at hp
    · cases e
      exact World.block_lt_of_cell? w0 _ (hc 0 bs[0] (List.getElem?_eq_getElem hp))
  rw [HZ.out] at hcap0
  rw [HZ.out]
  go_wp2_with fail
  refine (NewReader_ok _ cap0 bs w0 hA0 hcap0 hl' (fun g o e => by cases e; exact hgz)).mono ?_
  rintro e w1 ⟨rfl, hR, hB1⟩
  go_wp2_with fail
  refine (ReadFrom_unknown w0.heap.size _ cap0 bs 0 n hn h0 h1 rest w1 hR (by simpa using HB.out)).mono ?_
  rintro e w2 ⟨⟨p, rfl⟩, hK⟩
  go_wp2_with fail
  go_ret3
  exact ⟨rfl, hK.to_below (below_next hb0 hB1) (fun i hi => by rw [hi]; exact hb0.size)⟩
end Go.Proofs.YtgdgmegpacmgnaaGreatDoor

/- Identifiers: an identifier taken apart (Prefix, cidOut), and the record that an index makes of one. -/
namespace Go.Proofs.YtgdgmegpacmgnaaGreatDoor
open Go.RowKit
set_option linter.unusedVariables false
set_option linter.unusedSimpArgs false
attribute [local go_sem] setCell_drewN alloc_drewN

theorem extract_list (s : ByteArray) (k : Nat) : (s.extract k s.size).data.toList = s.data.toList.drop k := by
  rw [Lib.extract_data, List.take_of_length_le]
  rw [List.length_drop, Array.length_toList]
  exact Nat.le_refl _

theorem drop2 (x : UInt8) (a b c : List UInt8) : List.drop (1 + a.length) ([x] ++ (a ++ (b ++ c))) = b ++ c := by
  rw [Nat.add_comm]; exact List.drop_left
theorem drop3 (x : UInt8) (a b c : List UInt8) : List.drop (1 + a.length + b.length) ([x] ++ (a ++ (b ++ c))) = c := by
  rw [← List.drop_drop, Nat.add_comm 1]
  show List.drop b.length (List.drop a.length (a ++ (b ++ c))) = c
  rw [List.drop_left, List.drop_left]

theorem bytes_string {P : Program} {src dst e : TypeId} (hs : P.underlying src = some (.slice e)) (he : P.underlying e = some (.int .u8)) (hd : P.underlying dst = some .string)
    (w : World) (A : Option Addr) (bs : List UInt8) (c : Nat) (h : BytesAt w A bs) : (convert src dst (.slice A bs.length c)).run P w = .ok (.string ⟨bs.toArray⟩) w := by
  rcases h with h | ⟨g, o, rfl, hc⟩
  · subst h
    cases A with
    | none => exact Lib.run_convert_nil_bytes w src dst e c hs he hd
    | some a => exact run_convert_bytes_back w src dst e a c [] hs he hd (by simp)
  · refine run_convert_bytes_back w src dst e ⟨g, o, none⟩ c bs hs he hd (fun j hj => ?_)
    rw [show (⟨g, o, none⟩ : Addr).add j = ⟨g, o + j, none⟩ from by unfold Addr.add; split <;> simp_all]
    exact hc j _ (List.getElem?_eq_getElem hj)

def sOf (l : List UInt8) : ByteArray := ⟨l.toArray⟩

theorem len_bound (x : Nat) (h : x < 9223372036854775808) : (Lib.uvarint x).length ≤ 9 := uvarint_le9 h
end Go.Proofs.YtgdgmegpacmgnaaGreatDoor
