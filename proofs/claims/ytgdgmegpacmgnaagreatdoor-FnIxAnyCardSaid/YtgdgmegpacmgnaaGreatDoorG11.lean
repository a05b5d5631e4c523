import Derived.Test.YtgdgmegpacmgnaaGreatDoorG10
import Derived.Test.YtgdgmegpacmgnaaGreatDoorProg
import Derived.Test.YtgdgmegpacmgnaaGreatDoorG00
import Derived.Outline
import Derived.Deep.QuietTactic
import Derived.Laws.BitsAllLaws
import Derived.Laws.Tables
import Derived.Deep.WholeRow
import Derived.BigQuiet
import Derived.Maps.AppendAt
import Derived.Test.YtgdgmegpacmgnaaGreatDoorG01
import Derived.Deep.MidRow
/- spec.sortedBytes: entries as an index sorted by their digests. -/
namespace Go.Proofs.YtgdgmegpacmgnaaGreatDoor
open Go.RowKit
set_option linter.unusedVariables false
set_option linter.unusedSimpArgs false
attribute [local go_sem] setCell_drewN alloc_drewN

/-- 'append' of a string to a row of the call's own, in a region that draws. -/
theorem step_append_str {P : Program} {ops : Array Oper} {o : Oper} {a : Act} {w : World} {K : Act → World → Prop} {Q : Exit → Act → World → Prop} {E : Prop} (hgd : o.guard = none) (sl x : Operand) (t u : TypeId)
    (ho : o.op = .call { callee := .builtin .append, args := #[sl, x], argTypes := #[t, u] })
    (base : Nat) (e : TypeId) (i : TypeInfo) (ht : P.underlying t = some (.slice e)) (hu : P.underlying u = some .string) (hi : P.info? e = some i) (hz : i.zero = some (.int .u8 0)) (hsize : i.size = 1) (hby : i.bytes = 1)
    (v : Value) (n : Nat) (xs : List Value) (hs : a.eval sl = v) (hown : w.ownsRow base e 1 v n xs) (s : ByteArray) (hx : a.eval x = .string s)
    (h63 : n + s.size ≤ maxLen) (hbytes : n + s.size ≤ 140737488355328) (hbase : base ≤ w.heap.size)
    (h : ∀ v' w', w'.ownsRow base e 1 v' (n + s.size) (xs ++ Lib.strCells s) → w.grownBy w' v.ownBlock → K (a.put o.dst v') w') :
    if Region.wanted o (yielded ops a.tmps) = true then Oper.wp P o a w K Q else E := by
  have hw : Region.wanted o (yielded ops a.tmps) = true := by simp [Region.wanted, hgd]
  rw [if_pos hw]
  obtain ⟨v', w', hr, h2, h3, h4⟩ := Lib.run_append_own_string (P := P) (w := w) base t u o.type e i ht hu hi hz hsize hby v n xs hown s h63 hbytes hbase
  unfold Oper.wp execOp
  simp only [ho, resolve, invoke, builtin, Sem.run_bind, Sem.run_pure, Result.andThen_ok, List.map_toArray, List.map_cons, List.map_nil, hs, hx, hr]
  exact h v' w' h2 h3

def hasLen (n : Nat) (x : CidOf × Int) : Bool := decide (x.1.dig.length = n)
/-- The rows of a length of digests. -/
def rowsOf (l : List (CidOf × Int)) (n : Nat) : List UInt8 := (l.filter (hasLen n)).flatMap fun x => x.1.dig ++ Lib.leBytes 8 x.2.toNat
/-- The section of a length of digests. -/
def widthSec (l : List (CidOf × Int)) (n : Nat) : List UInt8 := Lib.leBytes 4 (n + 8) ++ Lib.leBytes 8 (rowsOf l n).length ++ rowsOf l n
/-- Entries l, sorted as l', as an index sorted by digests. -/
def sortedSpec (l l' : List (CidOf × Int)) : List UInt8 := Lib.leBytes 4 (sortN (widthsOf l)).length ++ (sortN (widthsOf l)).flatMap (widthSec l')
theorem rowsOf_snoc (l : List (CidOf × Int)) (x : CidOf × Int) (n : Nat) : rowsOf (l ++ [x]) n = rowsOf l n ++ (if x.1.dig.length = n then x.1.dig ++ Lib.leBytes 8 x.2.toNat else []) := by
  simp only [rowsOf, List.filter_append, List.flatMap_append]
  by_cases h : x.1.dig.length = n <;> simp [h, hasLen]
theorem rowsOf_le (l : List (CidOf × Int)) (n : Nat) (hd : ∀ x ∈ l, x.1.dig.length ≤ 1000) : (rowsOf l n).length ≤ l.length * 1008 := by
  induction l with
  | nil => simp [rowsOf]
  | cons x l ih =>
    have h1 := ih (fun y hy => hd y (List.mem_cons_of_mem _ hy))
    have h2 := hd x List.mem_cons_self
    have h3 : (rowsOf (x :: l) n).length ≤ (rowsOf l n).length + 1008 := by
      simp only [rowsOf, List.filter_cons]
      split
      · simp only [List.flatMap_cons, List.length_append, le_length]; omega
      · omega
    simp only [List.length_cons]; omega
theorem widthSec_le (l : List (CidOf × Int)) (n : Nat) (hd : ∀ x ∈ l, x.1.dig.length ≤ 1000) : (widthSec l n).length ≤ 12 + l.length * 1008 := by
  have := rowsOf_le l n hd
  simp only [widthSec, List.length_append, le_length]; omega
theorem widthSecs_le (l : List (CidOf × Int)) (hd : ∀ x ∈ l, x.1.dig.length ≤ 1000) : ∀ ws : List Nat, (ws.flatMap (widthSec l)).length ≤ ws.length * (12 + l.length * 1008)
  | [] => by simp
  | n :: ws => by
    have h1 := widthSecs_le l hd ws
    have h2 := widthSec_le l n hd
    simp only [List.flatMap_cons, List.length_append, List.length_cons]
    rw [Nat.add_mul]; omega
theorem widthsOf_mem {l : List (CidOf × Int)} {n : Nat} (h : n ∈ widthsOf l) : ∃ x ∈ l, x.1.dig.length = n := by
  have : ∀ (l : List (CidOf × Int)) (acc : List Nat), n ∈ l.foldl widthStep acc → n ∈ acc ∨ ∃ x ∈ l, x.1.dig.length = n := by
    intro l
    induction l with
    | nil => intro acc h; exact .inl h
    | cons x l ih =>
      intro acc h
      rcases ih _ h with h | ⟨y, hy, e⟩
      · unfold widthStep at h
        split at h
        · exact .inl h
        · rcases List.mem_append.1 h with h | h
          · exact .inl h
          · exact .inr ⟨x, List.mem_cons_self, (List.mem_singleton.1 h).symm⟩
      · exact .inr ⟨y, List.mem_cons_of_mem _ hy, e⟩
  rcases this l [] h with h | h
  · simp at h
  · exact h
theorem AppK.below {w w' : World} {v v' : Value} {B : Nat} (h : AppK w w' v v') (hB : B ≤ w.heap.size) (hv : ∀ i, v.ownBlock = some i → B ≤ i) : Below B w w' := ⟨h.kp.os, h.kp.tape, h.kp.output, h.kp.size, fun i hi => h.kp.block i (by omega) (fun e => by have := hv i e.symm; omega)⟩
theorem RowU.lo {w : World} {B : Nat} {v : Value} {l : List UInt8} (h : RowU w B v l) (i : Nat) (e : v.ownBlock = some i) : B ≤ i := (World.ownsRow.lt h i e).1
theorem RowU.hi {w : World} {B : Nat} {v : Value} {l : List UInt8} (h : RowU w B v l) (i : Nat) (e : v.ownBlock = some i) : i < w.heap.size := (World.ownsRow.lt h i e).2
theorem bcells_str (l : List UInt8) : Lib.strCells (sOf l) = bcells l := by simp [Lib.strCells, bcells, sOf]
theorem AppK.other {w w' : World} {v v' u : Value} {B : Nat} {l : List UInt8} (h : AppK w w' v v') (hu : RowU w B u l) (hn : ∀ i, v.ownBlock = some i → u.ownBlock ≠ some i) : RowU w' B u l ∧ ∀ i, v'.ownBlock = some i → u.ownBlock ≠ some i := by
  refine ⟨own_kp hu h.kp (fun g e k => hn g k.symm e), fun i e1 e2 => ?_⟩
  rcases h.loc with e | ⟨k, e, hk⟩
  · rw [e] at e1; exact hn i e1 e2
  · rw [e] at e1; cases e1
    have := hu.hi _ e2
    omega
/-- What stands behind some widths while their sections are written. -/
structure SbI (w w1 : World) (v : Value) (gS : Nat) (vW : Value) (wr : World) (v0 : Value) : Prop where
  ak : AppK w wr v v0
  keepS : wr.heap[gS]? = w1.heap[gS]?
  keepW : ∀ i, vW.ownBlock = some i → wr.heap[i]? = w1.heap[i]?
  ap : ∀ g, v0.ownBlock = some g → g ≠ gS ∧ vW.ownBlock ≠ some g
  sz : w1.heap.size ≤ wr.heap.size
  ltS : gS < w1.heap.size
  ltW : ∀ i, vW.ownBlock = some i → i < w1.heap.size
theorem SbI.step {w w1 wr wr' : World} {v v0 v' vW : Value} {gS : Nat} (h : SbI w w1 v gS vW wr v0) (k : AppK wr wr' v0 v') : SbI w w1 v gS vW wr' v' := by
  have h1 := h.ltS; have h2 := h.sz
  refine ⟨h.ak.trans k, ?_, fun i hi => ?_, fun g hg => ?_, Nat.le_trans h.sz k.kp.size, h.ltS, h.ltW⟩
  · refine (k.kp.block _ (by omega) (fun e => ?_)).trans h.keepS
    exact (h.ap _ e.symm).1 rfl
  · have h3 := h.ltW i hi
    refine (k.kp.block _ (by omega) (fun e => ?_)).trans (h.keepW i hi)
    exact (h.ap _ e.symm).2 hi
  · rcases k.loc with e | ⟨n, e, hn⟩
    · rw [e] at hg; exact h.ap g hg
    · rw [e] at hg; cases hg
      refine ⟨by omega, fun e => ?_⟩
      have := h.ltW _ e
      omega
theorem SbI.below {w w1 wr wr' : World} {v v0 vW : Value} {gS : Nat} (h : SbI w w1 v gS vW wr v0) (k : Below wr.heap.size wr wr') : SbI w w1 v gS vW wr' v0 := h.step ⟨Kp.of_below k, .inl rfl⟩
theorem RowsAt.same {w w' : World} {g : Nat} {l : List (CidOf × Int)} (h : RowsAt w (some ⟨g, 0, none⟩) l) (e : w'.heap[g]? = w.heap[g]?) : RowsAt w' (some ⟨g, 0, none⟩) l := by
  rcases h with h | ⟨g', o, he, hc⟩
  · exact .inl h
  · cases he
    exact .inr ⟨g, 0, rfl, fun i x hx j v hj => (World.cell?_of_block (w := w) (a := ⟨g, 0 + i * 5 + j, none⟩) e).trans (hc i x hx j v hj)⟩
theorem RowsAt.kp {S : Nat → Prop} {w w' : World} {A : Option Addr} {l : List (CidOf × Int)} (h : RowsAt w A l) (k : Kp S w w') (hs : ∀ g o, A = some ⟨g, o, none⟩ → ¬ S g) : RowsAt w' A l := by
  rcases h with h | ⟨g', o, he, hc⟩
  · exact .inl h
  · exact .inr ⟨g', o, he, fun i x hx j v hj => (k.cell (p := ⟨g', o + i * 5 + j, none⟩) (World.block_lt_of_cell? w _ (hc i x hx j v hj)) (hs _ _ he)).trans (hc i x hx j v hj)⟩
theorem RowU.keep {w w' : World} {B : Nat} {v : Value} {l : List UInt8} (h : RowU w B v l) (k : Below w.heap.size w w') : RowU w' B v l := own_kp h (Kp.of_below (S := fun _ => False) k) (fun _ _ => id)

set_option maxRecDepth 100000 in
set_option maxHeartbeats 3200000 in
theorem sortedBytes_ok (most : Nat) (hS : StableEnts most) (B : Nat) (v : Value) (ob : List UInt8) (l : List (CidOf × Int)) (A : Option Addr) (cap : Nat) (w : World) (hR : RowsAt w A l) (h0 : 0 < l.length) (hlen : l.length ≤ 10000) (hle : l.length ≤ most) (hcap : l.length ≤ cap)
    (hd : ∀ x ∈ l, x.1.dig.length ≤ 1000) (ho : ∀ x ∈ l, 0 ≤ x.2 ∧ x.2 < 18446744073709551616) (hob : ob.length ≤ 900000000000) (hB : B ≤ w.heap.size) (hv : RowU w B v ob) (hvA : ∀ g o, A = some ⟨g, o, none⟩ → v.ownBlock ≠ some g) :
    Calls Tryz.prog 48 #[v, .slice A l.length cap] w fun e w' => ∃ l' v', l'.Perm l ∧ SortedD l' ∧ e = .returned v' ∧ RowU w' B v' (ob ++ sortedSpec l l') ∧ AppK w w' v v' := by
  obtain ⟨i0, ui, uz0, uz1, uz2⟩ := info_parts info3_u8
  have hWid := Widths_ok l A cap w hR (by omega) hcap (fun x hx => by have := hd x hx; omega)
  have hwl := widthsOf_le l
  go_enter Tryz.func48, Tryz.ntmps48
  go_wp2_with fail
  refine hWid.mono ?_
  rintro e w2 ⟨vW, rfl, hI2, hB2⟩
  have hsl : (sortN (widthsOf l)).length = (widthsOf l).length := sortN_len _
  have HWS := Lib.hid hsl
  obtain ⟨gW, capW, hvW⟩ : ∃ p c, vW = .slice p (sortN (widthsOf l)).length c := by
    rcases hI2.2 with ⟨h, h'⟩ | ⟨g, cap, cur, h, _⟩
    · exact ⟨none, 0, by rw [h, h']⟩
    · exact ⟨_, _, h⟩
  subst hvW
  obtain ⟨ws, hws⟩ : ∃ ws, ws = sortN (widthsOf l) := ⟨_, rfl⟩
  rw [← hws] at hI2 HWS
  have hwsl : ws.length ≤ l.length := by rw [HWS.out]; exact hwl
  rw [← hws]
  have HW := Lib.hid hws
  have hz2 := hB2.size
  have hl1 := low_ok B ws.length 4 v ob (by omega) (by omega) (by omega) w2 (by omega) (hv.keep hB2)
  clear hws hsl hWid
  go_wp2_with fail
  refine hl1.mono ?_
  rintro e w3 ⟨v2, rfl, hV3, hA3⟩
  have hA03 : AppK w w3 v v2 := AppK.trans ⟨Kp.of_below hB2, .inl rfl⟩ hA3
  have hR3 : RowsAt w3 A l := hR.kp hA03.kp (fun g o e h => hvA g o e h.symm)
  have hBy := ByDigest_ok most hS l A cap w3 hR3 h0 (by omega) hle
  have hz3 := hA3.kp.size
  have hvlt : ∀ i, v.ownBlock = some i → i < w.heap.size := hv.hi
  have hWlo : ∀ i, (Value.slice gW ws.length capW).ownBlock = some i → w.heap.size ≤ i ∧ i < w2.heap.size := fun i e => World.ownsRow.lt hI2 i e
  have hI3 : IntsOf w3 w.heap.size (.slice gW ws.length capW) ws := own_kp hI2 hA3.kp (fun g e h => by have := hWlo g e; have := hvlt g h.symm; omega)
  have hap : ∀ i, v2.ownBlock = some i → i < w3.heap.size ∧ (Value.slice gW ws.length capW).ownBlock ≠ some i := fun i e => ⟨hV3.hi i e, fun e2 => by
    have h1 := hWlo i e2
    rcases hA3.loc with h | ⟨n, h, hn⟩
    · rw [h] at e; have := hvlt i e; omega
    · rw [h] at e; cases e; omega⟩
  clear hl1 hR hR3 hI2 hA3 hv
  go_wp2_with fail
  refine hBy.mono ?_
  rintro e w4 ⟨l', g, c, hP, hSD, rfl, hg3, hR4, hg4, hB4⟩
  have hV4 := hV3.keep hB4
  have hz4 := hB4.size
  have hI4 : IntsOf w4 w.heap.size (.slice gW ws.length capW) ws := own_kp hI3 (Kp.of_below (S := fun _ => False) hB4) (fun _ _ => id)
  have hSb : SbI w w4 v g (.slice gW ws.length capW) w4 v2 := ⟨AppK.trans hA03 ⟨Kp.of_below hB4, .inl rfl⟩, rfl, fun _ _ => rfl, fun i e => ⟨by have := (hap i e).1; omega, (hap i e).2⟩, Nat.le_refl _, hg4, fun i e => by have := (hWlo i e).2; omega⟩
  have hBw4 : B ≤ w4.heap.size := by omega
  have hll : l'.length = l.length := hP.length_eq
  have hd' : ∀ x ∈ l', x.1.dig.length ≤ 1000 := fun x hx => hd x (hP.mem_iff.1 hx)
  have ho' : ∀ x ∈ l', 0 ≤ x.2 ∧ x.2 < 18446744073709551616 := fun x hx => ho x (hP.mem_iff.1 hx)
  have hmem : ∀ n ∈ ws, ∃ x ∈ l', x.1.dig.length = n := fun n hn => by
    obtain ⟨x, hx, e⟩ := widthsOf_mem (l := l) (sortN_mem.1 (by rw [← HW.out]; exact hn))
    exact ⟨x, hP.mem_iff.2 hx, e⟩
  have HD := Lib.hid hd'; have HO := Lib.hid ho'; have HMem := Lib.hid hmem; have HP := Lib.hid hP; have HSD := Lib.hid hSD
  have HLL := Lib.hid hll
  have HIs := Lib.hid hI4
  clear hd' ho' hmem hP hSD hBy hV3 hA03 hI3 hap hd ho hvA hll hI4
  have hlen2 := hlen
  rw [← HLL.out] at hwsl hlen
  generalize hob4 : ob ++ Lib.leBytes 4 ws.length = ob4 at hV4
  have hob4l : ob4.length ≤ 900000000004 := by rw [← hob4, List.length_append, le_length]; omega
  have HOB := Lib.hid hob4
  clear hob4
  go_wp2_with fail
  go_loopw [0, 23] (fun v0 vi wr => ∃ k : Nat, k ≤ ws.length ∧ vi = .int .i64 (k : Int) ∧ RowU wr B v0 (ob4 ++ (ws.take k).flatMap (widthSec l')) ∧ SbI w w4 v g (.slice gW ws.length capW) wr v0 ∧ B ≤ wr.heap.size) (fun _ vi _ => ws.length - (intOf vi).toNat)
  case atStart => exact ⟨0, Nat.zero_le _, rfl, by simpa using hV4, hSb, hBw4⟩
  case round =>
    obtain ⟨k, hk, rfl, hR, hI, hBr⟩ := hrel
    by_cases hlt : k < ws.length
    · obtain ⟨n, hn⟩ : ∃ n, ws[k]? = some n := ⟨_, List.getElem?_eq_getElem hlt⟩
      have htk : (ws.take (k + 1)).flatMap (widthSec l') = (ws.take k).flatMap (widthSec l') ++ widthSec l' n := by
        rw [List.take_succ_eq_append_getElem hlt, List.flatMap_append, (List.getElem?_eq_some_iff.1 hn).2]; simp
      obtain ⟨x0, hx0, hl0⟩ := HMem.out n (List.mem_of_getElem? hn)
      have hn1 : n ≤ 1000 := by rw [← hl0]; exact HD.out x0 hx0
      have hbig : (ob4 ++ (ws.take k).flatMap (widthSec l')).length ≤ 900000000004 + 10000 * (12 + 10000 * 1008) := by
        have := widthSecs_le l' HD.out (ws.take k)
        rw [List.length_take] at this
        rw [List.length_append]
        have h2 : min k ws.length * (12 + l'.length * 1008) ≤ 10000 * (12 + 10000 * 1008) := Nat.mul_le_mul (by omega) (by omega)
        omega
      obtain ⟨b, rfl⟩ : ∃ b, gW = some ⟨b, 0, none⟩ := by
        rcases HIs.out.2 with ⟨_, h⟩ | ⟨b, _, _, h, _⟩
        · omega
        · cases h; exact ⟨b, rfl⟩
      have hcW : wr.cell? ⟨b, k, none⟩ = some (.int .i64 (n : Int)) := by
        have h1 := World.ownsRow.cells HIs.out (g := b) rfl k (numV .i64 n) (by rw [List.getElem?_map, hn]; rfl)
        have h2 : w4.cell? ⟨b, k, none⟩ = some (numV .i64 n) := by
          by_cases hk0 : k = 0
          · subst hk0; simpa [Addr.add] using h1
          · simpa [Addr.add, hk0] using h1
        exact (World.cell?_of_block (w := w4) (a := ⟨b, k, none⟩) (hI.keepW b rfl)).trans h2
      obtain ⟨wo, rfl⟩ : ∃ wo, wo = wr := ⟨_, rfl⟩
      have hRr : RowsAt wo (some ⟨g, 0, none⟩) l' := hR4.same hI.keepS
      have hx0p : 0 < (rowsOf l' n).length := by
        rcases Nat.eq_zero_or_pos (rowsOf l' n).length with h | h
        · exfalso
          have h1 := List.flatMap_eq_nil_iff.1 (List.eq_nil_of_length_eq_zero h) x0 (List.mem_filter.2 ⟨hx0, by simp [hasLen, hl0]⟩)
          have h2 := congrArg List.length h1
          simp [le_length] at h2
        · exact h
      have HTK := Lib.hid htk; have HX := Lib.hid hx0p; have HB := Lib.hid hbig; have HR := Lib.hid hR; have HI := Lib.hid hI
      clear htk hx0p hx0 hl0 hn hbig hR hI
      go_wp2_with fail
      go_loopw [9, 29] (fun v9 vj wi => ∃ j : Nat, j ≤ l.length ∧ vj = .int .i64 (j : Int) ∧ RowU wi wo.heap.size v9 (rowsOf (l'.take j) n) ∧ Below wo.heap.size wo wi) (fun _ vj _ => l.length - (intOf vj).toNat)
      case atStart => exact ⟨0, Nat.zero_le _, rfl, ⟨rfl, .inl ⟨rfl, rfl⟩⟩, Below.refl _ _⟩
      case round =>
        obtain ⟨j, hj, rfl, hU, hBi⟩ := hrel
        by_cases hlt2 : j < l.length
        · obtain ⟨x, hx⟩ : ∃ x, l'[j]? = some x := ⟨_, List.getElem?_eq_getElem (by rw [HLL.out]; exact hlt2)⟩
          obtain ⟨g0, o, hgo, hg0, r0, r1, r2, r3, r4⟩ := hRr.row hBi hx
          cases hgo
          obtain ⟨hox, hox2⟩ := HO.out x (List.mem_of_getElem? hx)
          obtain ⟨m, hm⟩ : ∃ m : Nat, x.2 = (m : Int) := ⟨x.2.toNat, by omega⟩
          have hmt : x.2.toNat = m := by omega
          rw [Nat.zero_add] at r0 r1 r2 r3 r4
          rw [hm] at r4
          have hsz : (sOf x.1.dig).size = x.1.dig.length := by simp [sOf, ByteArray.size]
          have htk := take_snoc' hx
          have hdx := HD.out x (List.mem_of_getElem? hx)
          have hbi := rowsOf_le (l'.take j) n (fun y hy => HD.out y (List.mem_of_mem_take hy))
          rw [List.length_take] at hbi
          have hbi2 : (rowsOf (l'.take j) n).length ≤ 10080000 := by
            have : min j l'.length * 1008 ≤ 10000 * 1008 := Nat.mul_le_mul (by omega) (by omega)
            omega
          have hgi : g < wr.heap.size := by have := hBi.size; omega
          have HTJ : Hid (rowsOf (l'.take (j + 1)) n = rowsOf (l'.take j) n ++ (if x.1.dig.length = n then x.1.dig ++ Lib.leBytes 8 m else [])) := Lib.hid (by rw [htk, rowsOf_snoc, hmt])
          have hUb := World.ownsRow.alloc hU (.cells #[.int .u64 x.1.ver, .int .u64 x.1.codec, .int .u64 x.1.code, .string (sOf x.1.dig), .int .u64 (m : Int)] 62)
          have hbb : Below wo.heap.size wo (wr.alloc (.cells #[.int .u64 x.1.ver, .int .u64 x.1.codec, .int .u64 x.1.code, .string (sOf x.1.dig), .int .u64 (m : Int)] 62)) := below_box hBi _
          have hm64 : m < 18446744073709551616 := by omega
          have hwz := hBi.size
          have hune : some wr.heap.size ≠ u9.ownBlock := fun e => by have := (World.ownsRow.lt hU _ e.symm).2; omega
          clear htk hx hbi
          by_cases hlx : x.1.dig.length = n
          · have hlx' : ((x.1.dig.length : Nat) : Int) = (n : Int) := by omega
            clear hU hBi
            go_wp2_with fail
            obtain ⟨w5, hw5⟩ : ∃ w5, w5 = (wr.alloc (.cells #[.int .u64 x.1.ver, .int .u64 x.1.codec, .int .u64 x.1.code, .string (sOf x.1.dig), .int .u64 (m : Int)] 62)).drew := ⟨_, rfl⟩
            have hU5 : RowU w5 wo.heap.size u9 (rowsOf (l'.take j) n) := by rw [hw5]; exact hUb
            have hB5 : Below wo.heap.size wo w5 := by rw [hw5]; exact below_drew1 hbb
            have hc5 : w5.cell? ⟨wr.heap.size, 4, none⟩ = some (.int .u64 (m : Int)) := by rw [hw5]; exact blk_cell' (heap_alloc_new wr _) 4
            have hb5 : w5.heap[wr.heap.size]? = some (.cells #[.int .u64 x.1.ver, .int .u64 x.1.codec, .int .u64 x.1.code, .string (sOf x.1.dig), .int .u64 (m : Int)] 62 (0, 0)) := by rw [hw5]; exact heap_alloc_new wr _
            have hs5 : wr.heap.size < w5.heap.size := by rw [hw5]; simp
            have hG : ∀ w6 v6, w6.ownsRow wo.heap.size 5 1 v6 ((rowsOf (l'.take j) n).length + (sOf x.1.dig).size) (bcells (rowsOf (l'.take j) n) ++ Lib.strCells (sOf x.1.dig)) → w5.grownBy w6 u9.ownBlock →
                RowU w6 wo.heap.size v6 (rowsOf (l'.take j) n ++ x.1.dig) ∧ Below wo.heap.size wo w6 ∧ w6.cell? ⟨wr.heap.size, 4, none⟩ = some (.int .u64 (m : Int)) ∧ wo.heap.size ≤ w6.heap.size := fun w6 v6 hown hgrow => by
              refine ⟨?_, hB5.trans ⟨hgrow.os, hgrow.tape, hgrow.output, hgrow.size, fun i hi => hgrow.block i (by omega) (fun e => by have := hU5.lo i e.symm; omega)⟩, ?_, ?_⟩
              · unfold RowU
                rw [List.length_append, ← hsz, ← bcells_append, ← bcells_str x.1.dig]; exact hown
              · exact blk_cell' ((hgrow.block _ hs5 hune).trans hb5) 4
              · have := hgrow.size; omega
            subst hw5
            clear hbb hUb
            go_region_law (first | (go_simp; go_at_call 50; refine (low_ok wo.heap.size m 8 _ (rowsOf (l'.take j) n ++ x.1.dig) hm64 (by omega) (by rw [List.length_append]; omega) _ hbs hU6).mono ?_; rintro e w7 ⟨v7, rfl, hU7, hA7⟩) | (refine step_append_str rfl (.tmp 39) (.tmp 42) 42 9 rfl wo.heap.size 5 i0 Tryz.underlying42 Tryz.underlying9 ui uz0 uz1 uz2 u9 _ _ rfl hU5 (sOf x.1.dig) rfl (by unfold maxLen; omega) (by omega) (by simp; omega) ?_; intro v6 w6 hown hgrow; obtain ⟨hU6, hB6, hc6, hbs⟩ := hG w6 v6 hown hgrow))
            all_goals
              have hnew : RowU w7 wo.heap.size v7 (rowsOf (l'.take (j + 1)) n) := by rw [HTJ.out, if_pos hlx, ← List.append_assoc]; exact hU7
              have hB7 : Below wo.heap.size wo w7 := hB6.trans (hA7.below hbs hU6.lo)
              have HN := Lib.hid hnew
              clear hU7 hA7 hU6 hB6 hG hc6 hown hgrow hnew hc5 hb5 hU5
            all_goals go_wp2_with fail
            all_goals go_roundw
            all_goals first | exact ⟨j + 1, by omega, by go_num, HN.out, hB7⟩ | (simp [intOf]; omega)
          · have hlx' : ¬ (((x.1.dig.length : Nat) : Int) = (n : Int)) := by omega
            have HU := Lib.hid hUb
            clear hU hBi hUb
            go_wp2_with fail
            go_roundw
            case rel => exact ⟨j + 1, by omega, by go_num, by rw [HTJ.out, if_neg hlx, List.append_nil]; exact HU.out, hbb⟩
            case measure => simp [intOf]; omega
        · obtain rfl : j = l.length := by omega
          rw [← HLL.out, List.take_length] at hU
          have hIi := HI.out.below hBi
          have hRi := HR.out.keep hBi
          have hap1 : ∀ i, u0.ownBlock = some i → u9.ownBlock ≠ some i := fun i e1 e2 => by have := HR.out.hi i e1; have := hU.lo i e2; omega
          have hBr1 : B ≤ wr.heap.size := by have := hBi.size; omega
          have hbig1 := HB.out
          have hrl := rowsOf_le l' n HD.out
          have hrl1 : (rowsOf l' n).length ≤ 10080000 := by
            have : l'.length * 1008 ≤ 10000 * 1008 := Nat.mul_le_mul (by omega) (by omega)
            omega
          have hl1 := low_ok B (n + 8) 4 u0 _ (by omega) (by omega) (by omega) wr hBr1 hRi
          rw [show (((n + 8 : Nat) : Int)) = (n : Int) + 8 by omega] at hl1
          clear hrl hRi hBr1
          go_wp2_with fail
          refine hl1.mono ?_
          rintro e w7 ⟨v7, rfl, hU7, hA7⟩
          have hI7 := hIi.step hA7
          obtain ⟨hu7, hap7⟩ := hA7.other hU hap1
          have hz7 := hA7.kp.size
          have hBr7 : B ≤ w7.heap.size := by have := hBi.size; omega
          have hl2 := low_ok B (rowsOf l' n).length 8 v7 _ (by omega) (by omega) (by rw [List.length_append, le_length]; omega) w7 hBr7 hU7
          obtain ⟨q, cq, hq⟩ : ∃ q c, u9 = .slice (some ⟨q, 0, none⟩) (rowsOf l' n).length c := by
            rcases hu7.2 with ⟨_, h⟩ | ⟨q, c, _, h, _⟩
            · have := HX.out; omega
            · exact ⟨q, c, h⟩
          subst hq
          clear hU hap1 hU7 hA7 hl1 hIi hbig1
          go_wp2_with fail
          refine hl2.mono ?_
          rintro e w8 ⟨v8, rfl, hU8, hA8⟩
          have hI8 := hI7.step hA8
          obtain ⟨hu8, hap8⟩ := hA8.other hu7 hap7
          have hz8 := hA8.kp.size
          have hl8 : ((ob4 ++ (ws.take k).flatMap (widthSec l') ++ Lib.leBytes 4 (n + 8)) ++ Lib.leBytes 8 (rowsOf l' n).length).length ≤ 900000000004 + 10000 * (12 + 10000 * 1008) + 12 := by
            rw [List.length_append, List.length_append, le_length, le_length]; have := HB.out; omega
          have hnl : (bcells (rowsOf l' n)).length = (rowsOf l' n).length * 1 := by rw [bcells_len, Nat.mul_one]
          have hcs := World.ownsRow.cells hu8 (g := q) rfl
          generalize hL8 : ((ob4 ++ (ws.take k).flatMap (widthSec l') ++ Lib.leBytes 4 (n + 8)) ++ Lib.leBytes 8 (rowsOf l' n).length) = L8 at hU8 hl8
          have HL8 := Lib.hid hL8
          clear hu7 hap7 hI7 hA8 hl2 hL8 hu8 hap8
          go_wp2_with (at_builtin; refine wpList_append_own_at _ rfl _ _ 42 rfl B 5 i0 (.int .u8 0) 1 1 Tryz.underlying42 ui uz0 uz1 uz2 rfl (by decide) _ _ _ rfl hU8 ⟨q, 0, none⟩ (rowsOf l' n).length cq (bcells (rowsOf l' n)) rfl hnl hcs (bcells_one _) ?c3 ?c4 ?c5 ?_)
          case c3 => unfold maxLen; omega
          case c4 => omega
          case c5 => omega
          intro v9 w9 hown hgrow hnn hloc
          have hz9 := hgrow.size
          have hA9 : AppK w8 w9 v8 v9 := ⟨kp_grown hgrow, by
            rcases hloc with h | h
            · exact .inl h
            · exact .inr ⟨_, h, Nat.le_refl _⟩⟩
          have hI9 := hI8.step hA9
          have hU9 : RowU w9 B v9 (ob4 ++ (ws.take (k + 1)).flatMap (widthSec l')) := by
            rw [HTK.out, widthSec, show ob4 ++ ((ws.take k).flatMap (widthSec l') ++ (Lib.leBytes 4 (n + 8) ++ Lib.leBytes 8 (rowsOf l' n).length ++ rowsOf l' n)) = L8 ++ rowsOf l' n by rw [← HL8.out]; simp [List.append_assoc]]
            unfold RowU
            rw [List.length_append, ← bcells_append]; exact hown
          have HU9 := Lib.hid hU9
          clear hU9 hown hgrow hnn hloc hA9 hI8 hU8 hcs hnl
          go_wp2_with fail
          go_roundw
          case rel => exact ⟨k + 1, by omega, by go_num, HU9.out, hI9, by omega⟩
          case measure => simp [intOf]; omega
    · obtain rfl : k = ws.length := by omega
      rw [List.take_length] at hR
      have HR := Lib.hid hR
      clear hR
      go_wp2_with fail
      go_ret
      refine ⟨l', _, HP.out, HSD.out, rfl, ?_, hI.ak⟩
      rw [sortedSpec, ← HW.out, ← List.append_assoc, HOB.out]
      exact HR.out
end Go.Proofs.YtgdgmegpacmgnaaGreatDoor

/- spec.Sum of no bytes by SHA-256: only the shapes. -/
namespace Go.Proofs.YtgdgmegpacmgnaaGreatDoor
open Go.RowKit
set_option linter.unusedVariables false
set_option linter.unusedSimpArgs false
attribute [local go_sem] setCell_drewN alloc_drewN

set_option maxRecDepth 100000 in
theorem right32_ok (a : Int) (n : Nat) (hn : n ≤ 32) (w : World) : Calls Tryz.prog 54 #[.int .u32 a, .int .u64 n] w fun e w' => (∃ r, e = .returned (.int .u32 r)) ∧ w = w' := by
  have h1 : IntKind.u64.wrap (32 - (n : Int)) = ((32 - n : Nat) : Int) := by rw [IntKind.wrap_u64]; omega
  go_enter Tryz.func54, Tryz.ntmps54
  go_wp2_with fail
  go_ret
  exact ⟨⟨_, rfl⟩, rfl⟩

/-- An array of n numbers of 32 bits, as a value. -/
def U32s (n : Nat) (v : Value) : Prop := ∃ xs : List Int, xs.length = n ∧ v = .agg (xs.map (Value.int .u32)).toArray

set_option maxRecDepth 100000 in
theorem small256_ok (w : World) : Calls Tryz.prog 38 #[] w fun e w' => (∃ v, U32s 8 v ∧ e = .returned v) ∧ Below w.heap.size w w' := by
  go_enter Tryz.func38, Tryz.ntmps38
  go_wp2_with fail
  refine bodyPost_ret (v := .agg #[.int .u32 1779033703, .int .u32 3144134277, .int .u32 1013904242, .int .u32 2773480762, .int .u32 1359893119, .int .u32 2600822924, .int .u32 528734635, .int .u32 1541459225]) (by simp [results, Tryz.results38, go_sem]) rfl ?_
  exact ⟨⟨_, ⟨[1779033703, 3144134277, 1013904242, 2773480762, 1359893119, 2600822924, 528734635, 1541459225], rfl, rfl⟩, rfl⟩, by (repeat (first | (with_reducible exact Below.refl _ _) | (with_reducible exact below_boxed _ _) | (with_reducible refine below_box ?_ _) | (with_reducible refine below_drew1 ?_) | (with_reducible refine below_drewn ?_ _) | (with_reducible refine below_bytes ?_ _ _) | (with_reducible refine below_next ?_ (by assumption)) | (with_reducible refine below_set ?_ (by first | (simp; done) | (simp; omega) | omega) _)))⟩
end Go.Proofs.YtgdgmegpacmgnaaGreatDoor

/- spec.padding of no bytes: 64 bytes. -/
namespace Go.Proofs.YtgdgmegpacmgnaaGreatDoor
open Go.RowKit
set_option linter.unusedVariables false
set_option linter.unusedSimpArgs false
attribute [local go_sem] setCell_drewN alloc_drewN

def Bys (xs : List Value) : Prop := ∀ u, u ∈ xs → ∃ n, u = .int .u8 n

structure PadAt (w0 w : World) (v : Value) (m : Nat) : Prop where
  row : ∃ g cap xs, v = .slice (some ⟨g, 0, none⟩) m cap ∧ RowZ w w0.heap.size 5 v m xs ∧ Bys xs
  bel : Below w0.heap.size w0 w

theorem conv_z {P : Program} {ops : Array Oper} {rest : List Oper} {o : Oper} {a : Act} {Q : Exit → Act → World → Prop} {W : World} (hgd : o.guard = none) (x : Operand) (src dst e : TypeId) {u : TypeDesc}
    (ho : o.op = .convert src dst x) (hs : P.underlying src = some u) (hd : P.underlying dst = some (.slice e)) (he : P.underlying e = some (.int .u8)) (hx : a.eval x = .string ⟨#[]⟩)
    (h : ∀ g c w1, RowZ w1 W.heap.size e (.slice (some ⟨g, 0, none⟩) 0 c) 0 [] → Below W.heap.size W w1 → wpList P ops Q rest (a.put o.dst (.slice (some ⟨g, 0, none⟩) 0 c)) w1) :
    wpList P ops Q (o :: rest) a W := by
  refine event_run hgd (v := .slice (some ⟨W.heap.size, 0, none⟩) 0 (grownCap W 0 0 e)) (w1 := Lib.bytesWorld W e ⟨#[]⟩) ?_ (h _ _ _ (RowZ.conv W e) (bytesWorld_below _ _ _))
  have := Lib.run_convert_string_bytes (P := P) W src dst e ⟨#[]⟩ hs hd he
  simp [execOp, ho, hx, this]
  exact ⟨rfl, rfl⟩

theorem info_byte : (Tryz.prog.info? 5).map (fun i => (i.zero, i.size, i.bytes)) = some (some (.int .u8 0), 1, 1) := by kernel_rfl

set_option maxRecDepth 100000 in
set_option maxHeartbeats 1600000 in
theorem padding_ok (w : World) : Calls Tryz.prog 53 #[.string ⟨#[]⟩, .int .i64 64, .int .i64 8, .bool false] w fun e w' => ∃ v, e = .returned v ∧ PadAt w w' v 64 := by
  obtain ⟨i0, hi, hz0, hz1, hz2⟩ := info_parts info_byte
  go_enter Tryz.func53, Tryz.ntmps53
  go_wp2_with (first | (with_reducible refine conv_z rfl (.tmp 14) 9 42 5 rfl Tryz.underlying9 Tryz.underlying42 Tryz.underlying5 rfl ?_; intro g0 c0 w0 hr0 hb0) | (at_builtin; refine wp_append_z rfl (.tmp 15) (.tmp 16) 42 rfl w.heap.size 5 i0 _ Tryz.underlying42 hi hz0 hz1 hz2 rfl _ _ _ rfl (hr0.kept (World.grownBy_alloc _ _ none) (by simp [Value.ownBlock])) ⟨_, 0, none⟩ 1 1 [_] rfl rfl (cell_one_new _ _ _) (by simp [Value.oneCell']) (by decide) (by decide) (by have := hb0.size; simp; omega) ?_; intro g1 c1 w1 hr1 hg1))
  have hp1 : PadAt w w1 (.slice (some ⟨g1, 0, none⟩) 1 c1) 1 := ⟨⟨g1, c1, _, rfl, hr1, by intro u hu; simp at hu; subst hu; exact ⟨_, rfl⟩⟩, (below_box hb0 _).grown hg1 (by have := hb0.size; simp; omega) (by intro k hk; have e : some g0 = some k := hk; cases e; obtain ⟨_, g, _, _, _, hv, hbg, _⟩ := hr0; cases hv; exact hbg)⟩
  clear hr0 hb0 hr1 hg1
  go_loopw [9] (fun v wr => ∃ m : Nat, 1 ≤ m ∧ m ≤ 56 ∧ PadAt w wr v m) (fun v _ => 56 - (match v with | .slice _ n _ => n | _ => 0))
  case atStart => exact ⟨1, by omega, by omega, hp1⟩
  case round =>
    clear hp1
    obtain ⟨m, hm1, hm2, hP⟩ := hrel
    obtain ⟨⟨g, c, xs, rfl, hr, hbs⟩, hb⟩ := hP
    have hw8 : IntKind.i64.wrap ((m : Int) + 8) = (m : Int) + 8 := by rw [IntKind.wrap_i64]; omega
    have hgb : w.heap.size ≤ g := by obtain ⟨_, g', _, _, _, hv, hbg, _⟩ := hr; cases hv; exact hbg
    by_cases hm : m = 56
    · subst hm
      go_wp2_with fail
      go_loopw [9, 11] (fun v vk wr => ∃ k : Nat, k ≤ 8 ∧ vk = .int .i64 k ∧ PadAt w wr v (56 + k)) (fun _ vk _ => 8 - (intOf vk).toNat)
      case atStart => exact ⟨0, by omega, rfl, ⟨⟨g, c, xs, rfl, hr, hbs⟩, hb⟩⟩
      case round =>
        clear hr hb hgb hbs
        obtain ⟨k, hk, rfl, hP⟩ := hrel
        obtain ⟨⟨g, c, xs, rfl, hr, hbs⟩, hb⟩ := hP
        have hgb : w.heap.size ≤ g := by obtain ⟨_, g', _, _, _, hv, hbg, _⟩ := hr; cases hv; exact hbg
        by_cases hk8 : k < 8
        · have hw1 : IntKind.i64.wrap (7 - (k : Int)) = 7 - (k : Int) := by rw [IntKind.wrap_i64]; omega
          have hw2 : IntKind.i64.wrap (8 * (7 - (k : Int))) = ((8 * (7 - k) : Nat) : Int) := by rw [IntKind.wrap_i64]; omega
          have hlt : ((8 * (7 - k) : Nat) : Int) < 64 := by omega
          have hlt' : 8 * (7 - k) < 64 := by omega
          have hw3 : IntKind.u64.wrap ((8 * (7 - k) : Nat) : Int) = ((8 * (7 - k) : Nat) : Int) := by rw [IntKind.wrap_u64]; omega
          generalize 8 * (7 - k) = sh at *
          go_wp2_with (at_builtin; refine wp_append_z rfl (.tmp 52) (.tmp 54) 42 rfl w.heap.size 5 i0 _ Tryz.underlying42 hi hz0 hz1 hz2 rfl _ _ _ rfl (hr.kept (World.grownBy_alloc _ _ none) (by simp [Value.ownBlock])) ⟨_, 0, none⟩ 1 1 [_] rfl rfl (cell_one_new _ _ _) (by simp [Value.oneCell']) (by unfold maxLen; omega) (by omega) (by have := hb.size; simp; omega) ?_; intro g1 c1 w1 hr1 hg1)
          exact ⟨⟨k + 1, by omega, by go_num, ⟨⟨g1, c1, _, rfl, hr1, by intro u hu; rcases List.mem_append.1 hu with hu | hu; exact hbs u hu; simp at hu; subst hu; exact ⟨_, rfl⟩⟩, (below_box hb _).grown hg1 (by have := hb.size; simp; omega) (by intro k hk; have e : some g = some k := hk; cases e; exact hgb)⟩⟩, by simp [intOf]; omega⟩
        · obtain rfl : k = 8 := by omega
          go_wp2_with fail
          go_ret
          exact ⟨_, rfl, ⟨⟨g, c, xs, rfl, hr, hbs⟩, hb⟩⟩
    · have hne : ¬ (((m : Int) + 8).tmod 64 = 0) := by rw [Int.tmod_eq_emod_of_nonneg (by omega)]; omega
      go_wp2_with (at_builtin; refine wp_append_z rfl (.tmp 25) (.tmp 26) 42 rfl w.heap.size 5 i0 _ Tryz.underlying42 hi hz0 hz1 hz2 rfl _ _ _ rfl (hr.kept (World.grownBy_alloc _ _ none) (by simp [Value.ownBlock])) ⟨_, 0, none⟩ 1 1 [_] rfl rfl (cell_one_new _ _ _) (by simp [Value.oneCell']) (by unfold maxLen; omega) (by omega) (by have := hb.size; simp; omega) ?_; intro g1 c1 w1 hr1 hg1)
      go_roundw
      case rel => exact ⟨m + 1, by omega, by omega, ⟨⟨g1, c1, _, rfl, hr1, by intro u hu; rcases List.mem_append.1 hu with hu | hu; exact hbs u hu; simp at hu; subst hu; exact ⟨_, rfl⟩⟩, (below_box hb _).grown hg1 (by have := hb.size; simp; omega) (by intro k hk; have e : some g = some k := hk; cases e; exact hgb)⟩⟩
      case measure => simp; omega
end Go.Proofs.YtgdgmegpacmgnaaGreatDoor

/- spec.large: 80 numbers. -/
namespace Go.Proofs.YtgdgmegpacmgnaaGreatDoor
open Go.RowKit
set_option linter.unusedVariables false
set_option linter.unusedSimpArgs false

/-- A block of n numbers of one kind, nothing of it frozen. -/
def NumBlk (k : IntKind) (t : TypeId) (n : Nat) (w : World) (b : Nat) : Prop := ∃ xs : List Int, xs.length = n ∧ w.heap[b]? = some (.cells (xs.map (Value.int k)).toArray t (0, 0))
/-- An array of n numbers of one kind, as a value. -/
def Nums (k : IntKind) (n : Nat) (v : Value) : Prop := ∃ xs : List Int, xs.length = n ∧ v = .agg (xs.map (Value.int k)).toArray

section
variable {P : Program}
/-- A function that answers with a literal array: 'var r; r = lit; return'. -/
theorem lit_wp {Q : Exit → Act → World → Prop} {a : Act} {w : World} (ty : TypeId) (zs cells : Array Value) (parts : Array (Nat × Operand)) (p0 p1 p2 : String) (ty1 : TypeId) (af : Array Edge)
    (hz : ∀ w, (zeroValue ty).run P w = .ok (.agg zs) w) (hzs : zs.size = cells.size) (hi : (P.info? ty).map (·.size) = some cells.size)
    (hb : ∀ a : Act, P.built ty (parts.map fun (i, x) => (i, a.eval x)).toList = some cells) (h1 : cells.all (·.oneCell') = true)
    (ha : a.tmps = #[undef, undef])
    (hQ : ∀ a' : Act, a'.defers = a.defers → a'.tmps = #[.pointer (some ⟨w.heap.size, 0, none⟩), .agg cells] → Q .ret a' (w.alloc (.cells cells ty))) :
    ((Code.region 0 #[{ dst := some 0, op := .alloc ty, type := 0, pos := p0, after := #[], guard := none }] false).seq
      ((Code.region 1 #[{ dst := some 1, op := .build ty parts, type := ty1, pos := p1, after := #[], guard := none }, { dst := none, op := .store ty (.tmp 0) (.tmp 1), type := 0, pos := p2, after := af, guard := none }] false).seq .ret)).wp P Q a w := by
  refine wp_seq (wp_region_list ?_)
  refine event_run rfl (v := .pointer (some ⟨w.heap.size, 0, none⟩)) (w1 := w.alloc (.cells zs ty)) (by simp [execOp, go_sem, hz]) (wpList_nil ?_)
  refine wp_seq (wp_region_list ?_)
  refine wpList_build rfl ty parts rfl (by rw [hb]; rfl) ?_
  rw [hb]
  refine wpList_store_row rfl ty (.tmp 0) (.tmp 1) rfl w.heap.size cells (by simp [Act.eval, Act.put, ha]) (by simp [Act.eval, Act.put, ha]) ty zs (heap_alloc_last w _) hi hzs h1 ?_
  rw [World.setRow_alloc_new]
  exact wpList_nil (wp_ret (hQ _ rfl (by simp [Act.put, ha])))
end


/-- The numbers of the table, read off the function's own literal. -/
def litXs (f : Func) : List Int :=
  match f.body with
  | some (.seq _ (.seq (.region _ ops _) _)) =>
    match ops[0]? with
    | some o => match o.op with
      | Op.build _ parts => parts.toList.map fun p => match p.2 with | .const (.int _ n) => n | _ => 0
      | _ => []
    | none => []
  | _ => []
def numCells (k : IntKind) (xs : List Int) : Array Value := (xs.map (Value.int k)).toArray
theorem large_len : (litXs Tryz.f57).length = 80 := by kernel_rfl
theorem large_info : (Tryz.prog.info? 151).map (fun i => (i.zero, i.size)) = some (some (.agg (numCells .u64 (List.replicate 80 0))), 80) := by kernel_rfl
theorem run_result_cell {P : Program} {f : Func} {tmps : Array Value} {w : World} {ty : TypeId} {p : Addr} {v : Value} {i : Nat} (hr : f.results = #[.cell i ty]) (hp : tmps.getD i undef = .pointer (some p))
    (hl : (loadVar ty p).run P w = .ok v w) : (results f tmps).run P w = .ok v w := by
  have hp' : tmps[i]?.getD undef = .pointer (some p) := by rw [← hp]; simp
  simp [results, hr, hp', asAddr, Array.mapM_eq_mapM_toList, List.mapM_cons, Sem.run_bind, hl]

set_option maxRecDepth 100000 in
theorem large_ok (w : World) : Calls Tryz.prog 57 #[] w fun e w' => (∃ v, Nums .u64 80 v ∧ e = .returned v) ∧ Below w.heap.size w w' := by
  obtain ⟨xs, hx⟩ : ∃ xs, xs = litXs Tryz.f57 := ⟨_, rfl⟩
  have hlen : xs.length = 80 := by rw [hx]; exact large_len
  have hc : (numCells .u64 xs).size = 80 := by simp [numCells, hlen]
  obtain ⟨n, e, hu⟩ : ∃ n e, Tryz.prog.underlying 151 = some (.array n e) := ⟨_, _, Tryz.underlying151⟩
  obtain ⟨hz, hi⟩ := zero_of_info large_info
  rw [← hc] at hi
  go_enter Tryz.func57, Tryz.ntmps57
  refine lit_wp 151 (numCells .u64 (List.replicate 80 0)) (numCells .u64 xs) _ _ _ _ _ _ hz (by rw [hc]; simp [numCells]) hi (fun a => by rw [hx]; kernel_rfl) (by simp [numCells, Value.oneCell']) rfl ?_
  intro a' hd ha'
  have hl := run_loadVar_new w 151 (numCells .u64 xs) n e hu hi
  refine bodyPost_ret (v := .agg (numCells .u64 xs)) (run_result_cell Tryz.results57 (by rw [ha']; rfl) hl) hd ?_
  exact ⟨⟨_, ⟨_, hlen, rfl⟩, rfl⟩, by (repeat (first | (with_reducible exact Below.refl _ _) | (with_reducible exact below_boxed _ _) | (with_reducible refine below_box ?_ _) | (with_reducible refine below_drew1 ?_) | (with_reducible refine below_drewn ?_ _) | (with_reducible refine below_bytes ?_ _ _) | (with_reducible refine below_next ?_ (by assumption)) | (with_reducible refine below_set ?_ (by first | (simp; done) | (simp; omega) | omega) _)))⟩
end Go.Proofs.YtgdgmegpacmgnaaGreatDoor
