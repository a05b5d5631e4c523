import Derived.Test.YtgdgmegpacmgnaaGreatDoorG01
import Derived.Test.YtgdgmegpacmgnaaGreatDoorG18
import Derived.LaidEql
import Derived.Deep.CutBlock
import Derived.Deep.DeepCutAuto
import Derived.Test.YtgdgmegpacmgnaaGreatDoorG09
import Derived.Test.YtgdgmegpacmgnaaGreatDoorG17
/- Numbers that a text ends within. -/
namespace Go.Proofs.YtgdgmegpacmgnaaGreatDoor
open Go.RowKit
set_option linter.unusedVariables false
set_option linter.unusedSimpArgs false
attribute [local go_sem] setCell_drewN alloc_drewN

/-- The variables in which errors lie, all of them below L. -/
structure Errs (w : World) (L : Nat) (pe pu : Addr) : Prop where
  eof : w.cell? ⟨0, 0, none⟩ = some (.iface 137 (.pointer (some pe)))
  ueof : w.cell? ⟨1, 0, none⟩ = some (.iface 137 (.pointer (some pu)))
  ovf : ∃ p, w.cell? ⟨2, 0, none⟩ = some (.iface 137 (.pointer (some p)))
  nmin : ∃ p, w.cell? ⟨3, 0, none⟩ = some (.iface 137 (.pointer (some p)))
  be : ∃ cs t, w.heap[pe.block]? = some (.cells cs t (0, 0))
  bu : ∃ cs t, w.heap[pu.block]? = some (.cells cs t (0, 0))
  lt : 0 < L ∧ 1 < L ∧ 2 < L ∧ 3 < L
  ltp : pe.block < L ∧ pu.block < L
  le : L ≤ w.heap.size
theorem Errs.kp {w w' : World} {L : Nat} {pe pu : Addr} (h : Errs w L pe pu) {S : Nat → Prop} (k : Kp S w w') (hS : ∀ i, S i → L ≤ i) : Errs w' L pe pu := by
  have hc : ∀ g, g < L → w'.cell? ⟨g, 0, none⟩ = w.cell? ⟨g, 0, none⟩ := fun g hg => k.cell (p := ⟨g, 0, none⟩) (Nat.lt_of_lt_of_le hg h.le) (fun e => by have := hS _ e; simp at this; omega)
  have hb : ∀ g, g < L → w'.heap[g]? = w.heap[g]? := fun g hg => k.block g (Nat.lt_of_lt_of_le hg h.le) (fun e => by have := hS _ e; omega)
  exact ⟨by rw [hc _ h.lt.1]; exact h.eof, by rw [hc _ h.lt.2.1]; exact h.ueof, by rw [hc _ h.lt.2.2.1]; exact h.ovf, by rw [hc _ h.lt.2.2.2]; exact h.nmin, by rw [hb _ h.ltp.1]; exact h.be, by rw [hb _ h.ltp.2]; exact h.bu, h.lt, h.ltp, Nat.le_trans h.le k.size⟩
theorem Errs.drew {w : World} {L : Nat} {pe pu : Addr} (h : Errs w L pe pu) : Errs w.drew L pe pu := h.kp (S := fun _ => False) (Kp.refl _ w).drew (fun _ e => e.elim)
theorem Errs.box {w : World} {L : Nat} {pe pu : Addr} (h : Errs w L pe pu) (o : Obj) : Errs (w.alloc o) L pe pu := h.kp (S := fun _ => False) (Kp.of_below (below_boxed w o)) (fun _ e => e.elim)
theorem infoErrQ : (Tryz.prog.info? 137).map (·.comparable) = some true := by kernel_rfl
theorem infoErrZ : (Tryz.prog.info? 139).map (fun i => decide (i.size = 0)) = some false := by kernel_rfl
/-- One of the two errors at a text's end, compared with the first. -/
theorem eql_errs {w : World} {L : Nat} {pe pu p : Addr} (h : Errs w L pe pu) (hp : p = pe ∨ p = pu) : ∃ x : Bool, (Go.binOp .eql 46 (.iface 137 (.pointer (some p))) (.iface 137 (.pointer (some pe)))).run Tryz.prog w = .ok (.bool x) w := by
  obtain ⟨i, hi, hc⟩ := Option.map_eq_some_iff.1 infoErrQ
  obtain ⟨j, hj, hz⟩ := Option.map_eq_some_iff.1 infoErrZ
  by_cases e : p = pe
  · subst e; exact ⟨true, run_eql_iface_ptr_same w p Tryz.underlying46 Tryz.underlying137 hi hc hj⟩
  · obtain rfl := hp.resolve_left e
    obtain ⟨c1, t1, h1⟩ := h.be
    obtain ⟨c2, t2, h2⟩ := h.bu
    exact ⟨false, run_eql_iface_ptr_other w Tryz.underlying46 Tryz.underlying137 hi hc hj (of_decide_eq_false hz) e h2 h1⟩

set_option maxRecDepth 100000 in
set_option maxHeartbeats 1600000 in
theorem Read_part {tb : TypeId} (b : Nat) (A : Option Addr) (cap : Nat) (bs : List UInt8) (pos : Nat) (gb ob m k cb : Nat) (cur : Array Value) (w : World) (h : RdAt w b A cap bs pos) (hm0 : 0 < k) (hm : pos + k = bs.length) (hkm : k ≤ m)
    (hgb : w.heap[gb]? = some (.cells cur tb (0, 0))) (hfit0 : ob + m ≤ cur.size) (hnb : gb ≠ b) (hnA : ∀ g o, A = some ⟨g, o, none⟩ → g ≠ gb) :
    Calls Tryz.prog 288 #[.pointer (some ⟨b, 0, none⟩), .slice (some ⟨gb, ob, none⟩) m cb] w fun e w' => e = .returned (.tuple #[.int .i64 (k : Int), .nilIface]) ∧ RdAt w' b A cap bs (pos + k) ∧ Kp (fun i => i = b ∨ i = gb) w w' := by
  have hfit : ob + k ≤ cur.size := by omega
  obtain ⟨⟨pr, hp⟩, hr, h1, h2, h3, h4⟩ := h
  have c0 := (blk_cell' hp 0).trans (show _ = some (Value.slice A bs.length cap) from rfl)
  have c1 := (blk_cell' hp 1).trans (show _ = some (Value.int .i64 (pos : Int)) from rfl)
  have c2 := (blk_cell' hp 2).trans (show _ = some (Value.int .i64 pr) from rfl)
  have f1 := blk_free' hp 1
  have f2 := blk_free' hp 2
  rcases hr with hr | ⟨g, o, rfl, hc⟩
  · rw [hr] at hm; simp at hm; omega
  have hgb' : g ≠ b := h4 g o rfl
  have hbg : b ≠ g := fun e => hgb' e.symm
  have hlt' : (pos : Int) < (bs.length : Int) := by omega
  have hge : ¬ ((bs.length : Int) ≤ (pos : Int)) := by omega
  have hle : (pos : Int) ≤ (bs.length : Int) := by omega
  have hlc : (bs.length : Int) ≤ (cap : Int) := by omega
  have hpc : ¬ cap = pos := by omega
  have hw1 : IntKind.i64.wrap ((pos : Int) + (k : Int)) = (pos : Int) + (k : Int) := by rw [IntKind.wrap_i64]; omega
  go_enter Tryz.func288, Tryz.ntmps288
  go_wp2_with fail
  go_region
  go_wp2_with fail
  have hgb2 : ((w.setCell ⟨b, 2, none⟩ (.int .i64 (-1))).drew.drew).heap[gb]? = some (.cells cur tb (0, 0)) := (Below.heap_setCell _ _ _ _ hnb).trans hgb
  have hml : (bcells ((bs.drop pos).take k)).length = k := by simp only [bcells, List.length_map, List.length_take, List.length_drop]; clear hw1; omega
  have hcl : (bcells ((bs.drop pos).take k)).length = Nat.min (bs.length - pos) m := by rw [hml]; rw [show bs.length - pos = k by clear hw1; omega]; exact (Nat.min_eq_left hkm).symm
  have h1c : ∀ v ∈ bcells ((bs.drop pos).take k), v.oneCell' = true := by
    intro v hv
    unfold bcells at hv
    obtain ⟨x, _, rfl⟩ := List.mem_map.1 hv
    rfl
  have hsrc : ∀ j v, (bcells ((bs.drop pos).take k))[j]? = some v → ((w.setCell ⟨b, 2, none⟩ (.int .i64 (-1))).drew.drew).cell? ((⟨g, o + pos, none⟩ : Addr).add j) = some v := by
    intro j v hj
    rw [Addr.add_mid]
    have hj' := (List.getElem?_eq_some_iff.1 hj).1
    rw [hml] at hj'
    simp only [bcells, List.getElem?_map, List.getElem?_take, hj', if_true, List.getElem?_drop] at hj
    cases hq : bs[pos + j]? with
    | none => rw [hq] at hj; cases hj
    | some x =>
      rw [hq] at hj
      cases hj
      have := hc (pos + j) x hq
      rw [show o + pos + j = o + (pos + j) by omega]
      exact (World.cell?_of_block (w := w) (a := ⟨g, o + (pos + j), none⟩) (Below.heap_setCell _ _ _ _ hgb')).trans this
  go_region_law (refine step_copy_row rfl (.tmp 20) (.tmp 29) 42 42 rfl 5 Tryz.underlying42 info_u8s gb ob m cb ⟨g, o + pos, none⟩ (bs.length - pos) (cap - pos) rfl rfl cur tb hgb2 (bcells ((bs.drop pos).take k)) hcl hsrc (by rw [hml]; exact hfit) h1c ?_)
  all_goals generalize hX : (cur.toList.take ob ++ (bcells ((bs.drop pos).take k) ++ cur.toList.drop (ob + k))).toArray = X at *
  all_goals
    have hb1 : (w.setCell ⟨b, 2, none⟩ (.int .i64 (-1))).heap[b]? = some (.cells #[.slice (some ⟨g, o, none⟩) bs.length cap, .int .i64 pos, .int .i64 (-1)] 76 (0, 0)) := by
      rw [setCell_eq_setRow w b 2 _ _ _ _ hp, setRow_heap w b _ _ _ _ hp]; rfl
    have hb2 : ((w.setCell ⟨b, 2, none⟩ (.int .i64 (-1))).drew.drew.setRow gb X).heap[b]? = some (.cells #[.slice (some ⟨g, o, none⟩) bs.length cap, .int .i64 pos, .int .i64 (-1)] 76 (0, 0)) := (setRow_other _ _ _ _ (fun e => hnb e.symm)).trans hb1
    have hg2 : ((w.setCell ⟨b, 2, none⟩ (.int .i64 (-1))).drew.drew.setRow gb X).heap[gb]? = some (.cells X tb (0, 0)) := setRow_heap _ _ _ _ _ _ hgb2
    have hgA2 : ((w.setCell ⟨b, 2, none⟩ (.int .i64 (-1))).drew.drew.setRow gb X).heap[g]? = w.heap[g]? := (setRow_other _ _ _ _ (hnA g o rfl)).trans (Below.heap_setCell _ _ _ _ hgb')
    have hkp : Kp (fun i => i = b ∨ i = gb) w ((w.setCell ⟨b, 2, none⟩ (.int .i64 (-1))).drew.drew.setRow gb X) := ⟨rfl, rfl, rfl, by simp, fun i hi hn => (setRow_other _ _ _ _ (fun e => hn (.inr e))).trans (Below.heap_setCell _ _ _ _ (fun e => hn (.inl e)))⟩
    generalize (w.setCell ⟨b, 2, none⟩ (.int .i64 (-1))).drew.drew.setRow gb X = W2 at *
    have k1 := (blk_cell' hb2 1).trans (show _ = some (Value.int .i64 (pos : Int)) from rfl)
    have kf := blk_free' hb2 1
    have HX := Lib.hid hX
    clear hsrc hX hb1
    go_wp2_with fail
    go_ret2
    refine ⟨rfl, ⟨⟨-1, ?_⟩, .inr ⟨g, o, rfl, fun j x hj => ?_⟩, Nat.le_of_eq hm, h2, h3, h4⟩, ?_⟩
    · rw [setCell_eq_setRow W2 b 1 _ _ _ _ hb2, setRow_heap W2 b _ _ _ _ hb2]; rfl
    · exact (World.cell?_of_block (w := w) (a := ⟨g, o + j, none⟩) ((Below.heap_setCell _ _ _ _ hgb').trans hgA2)).trans (hc j x hj)
    · exact Kp.set (S := fun i => i = b ∨ i = gb) hkp (p := ⟨b, 1, none⟩) (.inl (.inl rfl)) _

set_option maxRecDepth 100000 in
set_option maxHeartbeats 800000 in
theorem Read_eof (b : Nat) (A : Option Addr) (cap : Nat) (bs : List UInt8) (q : Option Addr) (m cb : Nat) (w : World) (h : RdAt w b A cap bs bs.length) (v : Value) (he : w.cell? ⟨0, 0, none⟩ = some v) :
    Calls Tryz.prog 288 #[.pointer (some ⟨b, 0, none⟩), .slice q m cb] w fun e w' => e = .returned (.tuple #[.int .i64 0, v]) ∧ Kp (fun _ => False) w w' := by
  obtain ⟨⟨pr, hp⟩, hr, h1, h2, h3, h4⟩ := h
  have c0 := (blk_cell' hp 0).trans (show _ = some (Value.slice A bs.length cap) from rfl)
  have c1 := (blk_cell' hp 1).trans (show _ = some (Value.int .i64 (bs.length : Int)) from rfl)
  go_enter Tryz.func288, Tryz.ntmps288
  go_wp2_with fail
  go_region
  go_wp2_with fail
  go_region
  go_wp2_with fail
  go_ret2
  exact ⟨rfl, (Kp.refl _ _).drew.drew⟩

theorem eql_errR (p : Addr) (w : World) : (Go.binOp .eql 46 (.iface 137 (.pointer (some p))) (.iface 137 (.pointer (some p)))).run Tryz.prog w = .ok (.bool true) w := by
  obtain ⟨i, hi, hc⟩ := Option.map_eq_some_iff.1 infoErrQ
  obtain ⟨j, hj, hz⟩ := Option.map_eq_some_iff.1 infoErrZ
  exact run_eql_iface_ptr_same w p Tryz.underlying46 Tryz.underlying137 hi hc hj
theorem cut_lo (g k m : Nat) (hk : k < m) (W : World) : (Instr.slice 42 (.slice (some ⟨g, 0, none⟩) m m) (some (.int .i64 (k : Int))) none none).run Tryz.prog W = .ok (.slice (some ⟨g, 0 + k, none⟩) (m - k) (m - k)) W := by
  have hel : Tryz.prog.elem 42 = 5 := by kernel_rfl
  rw [run_slice_l W 42 (some ⟨g, 0, none⟩) m m (by rw [hel]; exact Tryz.underlying42) .i64 (k : Int) (Int.natCast_nonneg _) (by omega), hel]
  have hne' : ¬ m = k := by omega
  rw [show (sizeOf 5).run Tryz.prog W = .ok 1 W from by simp [sizeOf, typeInfo]; kernel_rfl]
  simp only [Result.andThen, sliced, Int.toNat_natCast, Option.map_some, Nat.mul_one, Addr.add_mid, hne', if_false]

set_option maxRecDepth 100000 in
set_option maxHeartbeats 1600000 in
theorem ReadAtLeast_short (b : Nat) (A : Option Addr) (cap : Nat) (bs : List UInt8) (pos : Nat) (gb m : Nat) (cur : Array Value) (w : World) (h : RdAt w b A cap bs pos) (hm0 : 0 < m) (hm : bs.length < pos + m)
    (hgb : w.heap[gb]? = some (.cells cur 5 (0, 0))) (hfit : cur.size = m) (hnb : gb ≠ b) (hnA : ∀ g o, A = some ⟨g, o, none⟩ → g ≠ gb) (hmb' : m ≤ 1099511627776) {L : Nat} {pe pu : Addr} (hE : Errs w L pe pu) (hLb : L ≤ b) (hLg : L ≤ gb) :
    Calls Tryz.prog 216 #[.iface 40 (.pointer (some ⟨b, 0, none⟩)), .slice (some ⟨gb, 0, none⟩) m m, .int .i64 m] w fun e w' => (∃ x p, e = .returned (.tuple #[x, .iface 137 (.pointer (some p))]) ∧ (p = pe ∨ p = pu)) ∧ Kp (fun i => i = b ∨ i = gb) w w' := by
  have hme := method_Read
  have hna := ahead_Read
  have hmf : ∀ (fn : Fn) (first cap : Array Value) (w : World), (Instr.makeFunc fn first cap).run Tryz.prog w = .ok (.func fn first cap) w := fun _ _ _ _ => rfl
  have hbig := h.big
  have hm1 : (0 : Int) < (m : Int) := by omega
  have hmb : (m : Int) < 1099511627777 := by omega
  have hle := h.le
  by_cases h0 : pos = bs.length
  · subst h0
    have hR := Read_eof b A cap bs (some ⟨gb, 0, none⟩) m m w.drew h.drew _ hE.drew.eof
    clear h
    go_enter Tryz.func216, Tryz.ntmps216
    go_wp2_with fail
    refine wp_loop_rounds 2 ?_
    rw [rounds_succ]
    go_wp2_with fail
    refine wp_region_noPanic ?_
    go_region_with (go_at_call 288; refine hR.mono ?_; rintro e w1 ⟨rfl, hK1⟩)
    refine NoPanic.normal ?_
    go_wp2_with fail
    rw [rounds_succ]
    clear hE hR
    have hmz : ¬ m = 0 := by omega
    go_upto_region 7 with fail
    clear hmb hbig hle hm hfit hmb' hm1
    go_upto_region 9 with fail
    go_wp2_with fail
    go_ret2
    exact ⟨⟨_, _, rfl, .inl rfl⟩, (Kp.refl _ _).drew.trans hK1 (fun i e => e.elim)⟩
  · obtain ⟨k, hk⟩ : ∃ k, k = bs.length - pos := ⟨_, rfl⟩
    have hk0 : 0 < k := by omega
    have hpk : pos + k = bs.length := by omega
    have hkm : k < m := by omega
    have hP := Read_part b A cap bs pos gb 0 m k m cur w.drew h.drew hk0 hpk (by omega) hgb (by omega) hnb hnA
    have hki : (k : Int) < (m : Int) := by omega
    have hki0 : (0 : Int) < (k : Int) := by omega
    have hk63 : (k : Int) < 1099511627777 := by omega
    have hEd := hE.drew
    have hq := eql_errR
    have hcut := fun W => cut_lo gb k m hkm W
    clear h hE hk hgb
    go_enter Tryz.func216, Tryz.ntmps216
    go_wp2_with fail
    refine wp_loop_rounds 3 ?_
    rw [rounds_succ]
    go_wp2_with fail
    refine wp_region_noPanic ?_
    go_region_with (go_at_call 288; refine hP.mono ?_; rintro e w1 ⟨rfl, hR1, hK1⟩)
    refine NoPanic.normal ?_
    have hE1 := hEd.kp hK1 (fun i hi => by rcases hi with rfl | rfl <;> assumption)
    rw [hpk] at hR1
    have hR := fun q m cb => Read_eof b A cap bs q m cb w1.drew hR1.drew _ hE1.drew.eof
    clear hP
    go_wp2_with fail
    rw [rounds_succ]
    go_wp2_with fail
    refine wp_region_noPanic ?_
    go_region_with (go_at_call 288; refine (hR _ _ _).mono ?_; rintro e w2 ⟨rfl, hK2⟩)
    refine NoPanic.normal ?_
    have hE2 := hE1.drew.kp hK2 (fun i e => e.elim)
    have c0 := hE2.eof
    have c1 := hE2.ueof
    have HK := Lib.hid ((Kp.drew (Kp.refl (fun i => i = b ∨ i = gb) w)).trans hK1 (fun i h => .inl h))
    clear hE1 hE2 hR hR1 hEd hK1
    have hmz : ¬ m = 0 := by omega
    clear hmb hbig hle hm hfit hmb' hm1
    go_wp2_with fail
    rw [rounds_succ]
    go_upto_region 7 with fail
    have hge : ¬ (m : Int) ≤ (k : Int) := by omega
    clear hki hkm hk63 hmz hpk
    go_upto_region 9 with fail
    go_wp2_with fail
    go_ret2
    exact ⟨⟨_, _, rfl, .inr rfl⟩, HK.out.drew.trans hK2 (fun i (e : False) => e.elim)⟩

set_option maxRecDepth 100000 in
set_option maxHeartbeats 800000 in
theorem ReadFull_short (b : Nat) (A : Option Addr) (cap : Nat) (bs : List UInt8) (pos : Nat) (gb m : Nat) (cur : Array Value) (w : World) (h : RdAt w b A cap bs pos) (hm0 : 0 < m) (hm : bs.length < pos + m)
    (hgb : w.heap[gb]? = some (.cells cur 5 (0, 0))) (hfit : cur.size = m) (hnb : gb ≠ b) (hnA : ∀ g o, A = some ⟨g, o, none⟩ → g ≠ gb) (hmb' : m ≤ 1099511627776) {L : Nat} {pe pu : Addr} (hE : Errs w L pe pu) (hLb : L ≤ b) (hLg : L ≤ gb) :
    Calls Tryz.prog 201 #[.iface 40 (.pointer (some ⟨b, 0, none⟩)), .slice (some ⟨gb, 0, none⟩) m m] w fun e w' => (∃ x p, e = .returned (.tuple #[x, .iface 137 (.pointer (some p))]) ∧ (p = pe ∨ p = pu)) ∧ Kp (fun i => i = b ∨ i = gb) w w' := by
  have hR := ReadAtLeast_short b A cap bs pos gb m cur w h hm0 hm hgb hfit hnb hnA hmb' hE hLb hLg
  clear h hm hgb hfit hnb hnA hmb' hE
  go_enter Tryz.func201, Tryz.ntmps201
  go_wp2_with fail
  refine hR.mono ?_
  rintro e w1 ⟨⟨x, p, rfl, hp⟩, hK1⟩
  go_wp2_with fail
  go_ret2
  exact ⟨⟨_, _, rfl, hp⟩, hK1⟩

set_option maxRecDepth 100000 in
set_option maxHeartbeats 1600000 in
/-- A byte that is not there. -/
theorem ReadByte_eof (b : Nat) (A : Option Addr) (cap : Nat) (bs : List UInt8) (w : World) (h : RdAt w b A cap bs bs.length) (v : Value) (he : w.cell? ⟨0, 0, none⟩ = some v) (hgb : 0 ≠ b) :
    Calls Tryz.prog 165 #[.pointer (some ⟨b, 0, none⟩)] w fun e w' => e = .returned (.tuple #[.int .u8 0, v]) ∧ Kp (fun i => i = b) w w' := by
  have hK := Kp.set (S := fun i => i = b) (Kp.refl _ w) (p := ⟨b, 2, none⟩) (.inl rfl) (.int .i64 (-1))
  have HK := Lib.hid hK.drew.drew
  obtain ⟨⟨pr, hp⟩, hr, h1, h2, h3, h4⟩ := h
  have c0 := (blk_cell' hp 0).trans (show _ = some (Value.slice A bs.length cap) from rfl)
  have c1 := (blk_cell' hp 1).trans (show _ = some (Value.int .i64 (bs.length : Int)) from rfl)
  have c2 := (blk_cell' hp 2).trans (show _ = some (Value.int .i64 pr) from rfl)
  have f2 := blk_free' hp 2
  have he2 : ((w.setCell ⟨b, 2, none⟩ (.int .i64 (-1))).drew.drew).cell? ⟨0, 0, none⟩ = some v := (World.cell?_setCell_other w ⟨b, 2, none⟩ ⟨0, 0, none⟩ _ (fun e => hgb (congrArg Addr.block e).symm)).trans he
  go_enter Tryz.func165, Tryz.ntmps165
  go_wp2_with fail
  go_region
  go_wp2_with fail
  go_region
  go_wp2_with fail
  go_ret2
  exact ⟨rfl, HK.out⟩

set_option maxRecDepth 100000 in
set_option maxHeartbeats 1600000 in
theorem ReadUvarint_bad (b : Nat) (A : Option Addr) (cap : Nat) (bs : List UInt8) (hbad : VBad bs) (w : World) (h : RdAt w b A cap bs 0) {L : Nat} {pe pu : Addr} (hE : Errs w L pe pu) (hLb : L ≤ b) :
    Calls Tryz.prog 29 #[.iface 40 (.pointer (some ⟨b, 0, none⟩))] w fun e w' => (∃ p, e = .returned (.tuple #[.int .u64 0, .iface 137 (.pointer (some p))])) ∧ Kp (fun i => i = b) w w' := by
  have hme := method_ReadByte
  have hq := eql_errR
  obtain ⟨k, hk8, hpre, hend⟩ := hbad
  have HPRE := Lib.hid hpre
  have HEND := Lib.hid hend
  have hks : k ≤ bs.length := by
    rcases hend with h | ⟨_, x, h, _⟩ | ⟨_, h⟩
    · omega
    · have := (List.getElem?_eq_some_iff.1 h).1; omega
    · have := (List.getElem?_eq_some_iff.1 h).1; omega
  clear hpre hend
  go_enter Tryz.func29, Tryz.ntmps29
  go_wp2_with fail
  go_loopw [4, 5] (fun vx vs wr => ∃ (i : Nat) (q : Int), vs = .int .u64 ((7 * i : Nat) : Int) ∧ vx = .int .u64 q ∧ i ≤ k ∧ RdAt wr b A cap bs i ∧ Kp (fun i => i = b) w wr)
    (fun _ vs _ => 1000 - (intOf vs).toNat)
  case atStart => exact ⟨0, 0, rfl, rfl, Nat.zero_le _, h, Kp.refl _ _⟩
  case round =>
    clear h
    obtain ⟨i, q, rfl, rfl, hik, hR, hK⟩ := hrel
    have hEr := hE.kp hK (fun i hi => by rw [hi]; exact hLb)
    by_cases hlt : i < k
    · obtain ⟨x, hx, h128⟩ := HPRE.out i hlt
      have hRB := ReadByte_ok b A cap bs i x wr hR hx
      obtain ⟨z, hz⟩ : ∃ z, x.toNat = z := ⟨_, rfl⟩
      have hz256 : z < 256 := by rw [← hz]; exact x.toNat_lt
      rw [hz] at hRB h128
      have hzb : (128 : Int) ≤ (z : Int) := by omega
      have hzb1 : ¬ (z : Int) < 128 := by omega
      have hk8f : ((7 * (i : Int)) == 56) = false := beq_eq_false_iff_ne.2 (by omega)
      have hk9' : 7 * (i : Int) < 56 := by omega
      clear hx hz hR hEr
      go_wp2_with fail
      refine hRB.mono ?_
      clear hRB
      rintro e w1 ⟨rfl, hR1, hK1⟩
      go_wp2_with fail
      go_roundw
      case rel => exact ⟨i + 1, _, by go_num, rfl, by omega, hR1, hK.trans hK1 (fun i hi => .inl hi)⟩
      case measure => first | (simp [intOf]; done) | (simp [intOf]; omega)
    · obtain rfl : i = k := by omega
      rcases HEND.out with h | ⟨h, x, hx, h128⟩ | ⟨h, hx⟩
      · subst h
        have hRB := ReadByte_eof b A cap bs wr hR _ hEr.eof (fun e => by have := hEr.lt.1; omega)
        have hEr' : ∀ w1, Kp (fun i => i = b) wr w1 → Errs w1 L pe pu := fun w1 hk => hEr.kp hk (fun i hi => by rw [hi]; exact hLb)
        clear HEND HPRE hR hEr
        go_wp2_with fail
        refine hRB.mono ?_
        clear hRB
        rintro e w1 ⟨rfl, hK1⟩
        have hE1 := hEr' w1 hK1
        have c0 := hE1.eof
        have c1 := hE1.ueof
        have HK := Lib.hid (hK.trans hK1 (fun i hi => .inl hi))
        clear hEr' hE1 hK hK1
        go_wp2_with fail
        all_goals
          go_ret2
          exact ⟨⟨_, rfl⟩, HK.out⟩
      · have hRB := ReadByte_ok b A cap bs i x wr hR hx
        obtain ⟨pv, hpv⟩ := hEr.ovf
        obtain ⟨z, hz⟩ : ∃ z, x.toNat = z := ⟨_, rfl⟩
        rw [hz] at hRB h128
        have hzb : (128 : Int) ≤ (z : Int) := by omega
        have hk8f : ((7 * (i : Int)) == 56) = true := beq_iff_eq.2 (by omega)
        have hov : ∀ w1, Kp (fun i => i = b) wr w1 → w1.cell? ⟨2, 0, none⟩ = some (.iface 137 (.pointer (some pv))) := fun w1 hk => (hk.cell (p := ⟨2, 0, none⟩) (Nat.lt_of_lt_of_le hEr.lt.2.2.1 hEr.le) (fun e => by have := hEr.lt.2.2.1; have : 2 = b := e; omega)).trans hpv
        clear HEND HPRE hR hEr hx hz h h128 hpv
        go_wp2_with fail
        refine hRB.mono ?_
        clear hRB
        rintro e w1 ⟨rfl, hR1, hK1⟩
        have c0 := hov w1 hK1
        have HK := Lib.hid (hK.trans hK1 (fun i hi => .inl hi))
        clear hov hR1 hK hK1
        go_wp2_with fail
        go_region
        go_wp2_with fail
        go_ret2
        exact ⟨⟨_, rfl⟩, HK.out.drew⟩
      · have hRB := ReadByte_ok b A cap bs i 0 wr hR hx
        obtain ⟨pv, hpv⟩ := hEr.nmin
        have hov : ∀ w1, Kp (fun i => i = b) wr w1 → w1.cell? ⟨3, 0, none⟩ = some (.iface 137 (.pointer (some pv))) := fun w1 hk => (hk.cell (p := ⟨3, 0, none⟩) (Nat.lt_of_lt_of_le hEr.lt.2.2.2 hEr.le) (fun e => by have := hEr.lt.2.2.2; have : 3 = b := e; omega)).trans hpv
        have hi0 : (0 : Int) < 7 * (i : Int) := by omega
        have hi1 : 7 * (i : Int) < 63 := by omega
        obtain ⟨t8, ht8⟩ : ∃ t8, ((7 * (i : Int)) == 56) = t8 := ⟨_, rfl⟩
        rw [show ((0 : UInt8).toNat : Int) = 0 from rfl] at hRB
        clear HEND HPRE hR hEr hx hpv
        cases t8 with
        | true =>
          go_wp2_with fail
          refine hRB.mono ?_
          clear hRB
          rintro e w1 ⟨rfl, hR1, hK1⟩
          have c0 := hov w1 hK1
          have HK := Lib.hid (hK.trans hK1 (fun i hi => .inl hi))
          clear hov hR1 hK hK1
          go_wp2_with fail
          go_region
          go_wp2_with fail
          go_ret2
          exact ⟨⟨_, rfl⟩, HK.out.drew⟩
        | false =>
          go_wp2_with fail
          refine hRB.mono ?_
          clear hRB
          rintro e w1 ⟨rfl, hR1, hK1⟩
          have c0 := hov w1 hK1
          have HK := Lib.hid (hK.trans hK1 (fun i hi => .inl hi))
          clear hov hR1 hK hK1
          go_wp2_with fail
          go_region
          go_wp2_with fail
          go_ret2
          exact ⟨⟨_, rfl⟩, HK.out.drew⟩

set_option maxRecDepth 100000 in
set_option maxHeartbeats 800000 in
theorem ReadCodec_bad (b : Nat) (A : Option Addr) (cap : Nat) (bs : List UInt8) (hbad : VBad bs) (w : World) (h : RdAt w b A cap bs 0) {L : Nat} {pe pu : Addr} (hE : Errs w L pe pu) (hLb : L ≤ b) :
    Calls Tryz.prog 21 #[.iface 40 (.pointer (some ⟨b, 0, none⟩))] w fun e w' => (∃ p, e = .returned (.tuple #[.int .u64 0, .iface 137 (.pointer (some p))])) ∧ Kp (fun i => i = b) w w' := by
  have hR := ReadUvarint_bad b A cap bs hbad w h hE hLb
  clear h hbad hE
  go_enter Tryz.func21, Tryz.ntmps21
  go_wp2_with fail
  refine (ToByteReader_ok _ _).mono ?_
  rintro e w0 ⟨rfl, rfl⟩
  go_wp2_with fail
  refine hR.mono ?_
  rintro e w1 ⟨⟨p, rfl⟩, hK1⟩
  go_wp2_with fail
  go_ret2
  exact ⟨⟨_, rfl⟩, hK1⟩

set_option maxRecDepth 100000 in
set_option maxHeartbeats 800000 in
theorem ReadFrom_none (b : Nat) (A : Option Addr) (cap : Nat) (bs : List UInt8) (hbad : VBad bs) (w : World) (h : RdAt w b A cap bs 0) {L : Nat} {pe pu : Addr} (hE : Errs w L pe pu) (hLb : L ≤ b) :
    Calls Tryz.prog 12 #[.iface 40 (.pointer (some ⟨b, 0, none⟩))] w fun e w' => (∃ p, e = .returned (.tuple #[.nilIface, .iface 137 (.pointer (some p))])) ∧ Kp (fun i => i = b) w w' := by
  have hR := ReadCodec_bad b A cap bs hbad w h hE hLb
  clear h hbad hE
  go_enter Tryz.func12, Tryz.ntmps12
  go_wp2_with fail
  refine hR.mono ?_
  rintro e w1 ⟨⟨p, rfl⟩, hK1⟩
  go_wp2_with fail
  go_ret2
  exact ⟨⟨_, rfl⟩, hK1⟩
end Go.Proofs.YtgdgmegpacmgnaaGreatDoor

/- Indexes whose bytes end within a number, or have rows of fewer than 8 bytes: an error. -/
namespace Go.Proofs.YtgdgmegpacmgnaaGreatDoor
open Go.RowKit
open Go.ChangeMaps (setBlock)
set_option linter.unusedVariables false
set_option linter.unusedSimpArgs false
attribute [local go_sem] setCell_drewN alloc_drewN

set_option maxRecDepth 100000 in
set_option maxHeartbeats 800000 in
theorem zzRead32_short (b : Nat) (A : Option Addr) (cap : Nat) (bs : List UInt8) (pos : Nat) (q : Addr) (w : World) (h : RdAt w b A cap bs pos) (hm : bs.length < pos + 4) (hA : ∀ g o, A = some ⟨g, o, none⟩ → g < w.heap.size) {L : Nat} {pe pu : Addr} (hE : Errs w L pe pu) (hLb : L ≤ b) :
    Calls Tryz.prog 190 #[.iface 40 (.pointer (some ⟨b, 0, none⟩)), .pointer (some q)] w fun e w' => (∃ p, e = .returned (.iface 137 (.pointer (some p))) ∧ (p = pe ∨ p = pu)) ∧ Kp (fun i => i = b) w w' := by
  have hmk : ∀ W : World, (Instr.makeSlice 42 (.int .i64 4) (.int .i64 4)).run Tryz.prog W = .ok (.slice (some ⟨W.heap.size, 0, none⟩) 4 4) (W.alloc (.cells (zeros8 4).toArray 5)) := fun W => make8 4 4 rfl (by omega) W
  have hbw := h.blt
  have hR := ReadFull_short b A cap bs pos w.heap.size 4 (zeros8 4).toArray (w.alloc (.cells (zeros8 4).toArray 5)) (rd_alloc h _) (by omega) hm (heap_alloc_last _ _) (by simp [zeros8_length]) (by omega) (fun g o e => by have := hA g o e; omega) (by omega) (hE.box _) hLb hE.le
  clear h hE
  go_enter Tryz.func190, Tryz.ntmps190
  go_wp2_with fail
  refine hR.mono ?_
  clear hR
  rintro e w1 ⟨⟨x, p, rfl, hp⟩, hK1⟩
  have hKa : Kp (fun i => i = b) w w1 := ((kp_alloc w _).mono (S' := fun i => i = b) (fun i hi => hi.elim)).trans hK1 (fun i hi => hi.elim .inl (fun e => .inr (by omega)))
  clear hK1
  go_wp2_with fail
  go_ret
  exact ⟨⟨_, rfl, hp⟩, hKa⟩
set_option maxRecDepth 100000 in
set_option maxHeartbeats 800000 in
theorem zzRead64_short (b : Nat) (A : Option Addr) (cap : Nat) (bs : List UInt8) (pos : Nat) (q : Addr) (w : World) (h : RdAt w b A cap bs pos) (hm : bs.length < pos + 8) (hA : ∀ g o, A = some ⟨g, o, none⟩ → g < w.heap.size) {L : Nat} {pe pu : Addr} (hE : Errs w L pe pu) (hLb : L ≤ b) :
    Calls Tryz.prog 203 #[.iface 40 (.pointer (some ⟨b, 0, none⟩)), .pointer (some q)] w fun e w' => (∃ p, e = .returned (.iface 137 (.pointer (some p))) ∧ (p = pe ∨ p = pu)) ∧ Kp (fun i => i = b) w w' := by
  have hmk : ∀ W : World, (Instr.makeSlice 42 (.int .i64 8) (.int .i64 8)).run Tryz.prog W = .ok (.slice (some ⟨W.heap.size, 0, none⟩) 8 8) (W.alloc (.cells (zeros8 8).toArray 5)) := fun W => make8 8 8 rfl (by omega) W
  have hbw := h.blt
  have hR := ReadFull_short b A cap bs pos w.heap.size 8 (zeros8 8).toArray (w.alloc (.cells (zeros8 8).toArray 5)) (rd_alloc h _) (by omega) hm (heap_alloc_last _ _) (by simp [zeros8_length]) (by omega) (fun g o e => by have := hA g o e; omega) (by omega) (hE.box _) hLb hE.le
  clear h hE
  go_enter Tryz.func203, Tryz.ntmps203
  go_wp2_with fail
  refine hR.mono ?_
  clear hR
  rintro e w1 ⟨⟨x, p, rfl, hp⟩, hK1⟩
  have hKa : Kp (fun i => i = b) w w1 := ((kp_alloc w _).mono (S' := fun i => i = b) (fun i hi => hi.elim)).trans hK1 (fun i hi => hi.elim .inl (fun e => .inr (by omega)))
  clear hK1
  go_wp2_with fail
  go_ret
  exact ⟨⟨_, rfl, hp⟩, hKa⟩

set_option maxRecDepth 100000 in
set_option maxHeartbeats 800000 in
theorem checkLengths_bad (g : Nat) (width L : Nat) (h8 : width < 8) (w : World) :
    Calls Tryz.prog 237 #[.pointer (some ⟨g, 0, none⟩), .int .u32 width, .int .u64 L, .int .u64 0] w fun e w' => (∃ p, e = .returned (.iface 137 (.pointer (some p)))) ∧ Below w.heap.size w w' := by
  have hw0 : (width : Int) < 8 := by omega
  go_enter Tryz.func237, Tryz.ntmps237
  go_wp2_with fail
  refine (errNew_ok _ _).mono ?_
  rintro e w1 ⟨rfl, hB⟩
  go_wp2_with fail
  go_ret
  exact ⟨⟨_, rfl⟩, hB⟩

theorem drop_len {α : Type} {l : List α} {n m : Nat} (h : n ≤ (l.drop m).length) (hn : 0 < n) : m + n ≤ l.length := by rw [List.length_drop] at h; omega
theorem le_split_at (k : Nat) (bs : List UInt8) (pos : Nat) (h : pos + k ≤ bs.length) : bs.drop pos = Lib.leBytes k (Lib.leNat ((bs.drop pos).take k)) ++ bs.drop (pos + k) := by
  rw [← List.drop_drop]; exact le_split k _ (by rw [List.length_drop]; omega)

set_option maxRecDepth 100000 in
set_option maxHeartbeats 1600000 in
theorem SwUnmarshal_bad (b : Nat) (A : Option Addr) (cap : Nat) (bs : List UInt8) (pos : Nat) (g : Nat) (x y z : Value) (w : World)
    (h : RdAt w b A cap bs pos) (hbad : SecBad (bs.drop pos)) (hg : w.heap[g]? = some (.cells #[x, y, z] 287 (0, 0))) (hgb : g ≠ b)
    (hA : ∀ g' o, A = some ⟨g', o, none⟩ → g' < w.heap.size ∧ g' ≠ g) {L : Nat} {pe pu : Addr} (hE : Errs w L pe pu) (hLb : L ≤ b) :
    Calls Tryz.prog 217 #[.pointer (some ⟨g, 0, none⟩), .iface 40 (.pointer (some ⟨b, 0, none⟩))] w fun e w' => (∃ p, e = .returned (.iface 137 (.pointer (some p)))) ∧ Kp (fun i => i = b) w w' := by
  have hbl := h.blt
  have hbig := h.big
  have hle := h.le
  have hLw := hE.le
  have hA0 : ∀ g' o, A = some ⟨g', o, none⟩ → g' < w.heap.size := fun g' o e => (hA g' o e).1
  by_cases h4 : pos + 4 ≤ bs.length
  · have hs4 := le_split_at 4 bs pos h4
    obtain ⟨width, hwd⟩ : ∃ width, width = Lib.leNat ((bs.drop pos).take 4) := ⟨_, rfl⟩
    have hw4 := le_lt 4 (bs.drop pos) (by rw [List.length_drop]; omega)
    rw [← hwd] at hs4 hw4
    have hR1 := zzRead32_ok b A cap bs pos width (by omega) _ ⟨w.heap.size, 0, none⟩ (.int .u32 0) (w.alloc (.cells #[.int .u32 0] 103)) (rd_alloc h _) hs4 (by simp [go_sem]) (by simp [go_sem]) (by show w.heap.size ≠ b; omega) (fun g' o e => by have := hA0 g' o e; simp; omega)
    have hEa := hE.box (.cells #[.int .u32 0] 103)
    have HBAD := Lib.hid hbad
    clear h hs4 hg hbad hE
    go_enter Tryz.func217, Tryz.ntmps217
    go_wp2_with fail
    refine hR1.mono ?_
    clear hR1
    rintro e w1 ⟨rfl, hR1, hc1, hK1⟩
    have hz1 : w.heap.size < w1.heap.size := by have := hK1.size; simp at this; omega
    have hKa : Kp (fun i => i = b) w w1 := ((kp_alloc w _).mono (S' := fun i => i = b) (fun i hi => hi.elim)).trans hK1 (fun i hi => hi.elim .inl (fun e => .inr (by rw [e]; exact Nat.le_refl _)))
    have hE1 := (hEa.kp hK1 (fun i hi => by rcases hi with rfl | rfl; exact hLb; exact hLw)).box (.cells #[.int .u64 0] 22)
    have hEq := hEa.kp hK1 (fun i hi => by rcases hi with rfl | rfl; exact hLb; exact hLw)
    by_cases h12 : pos + 4 + 8 ≤ bs.length
    · have hs8 := le_split_at 8 bs (pos + 4) h12
      obtain ⟨size, hsz⟩ : ∃ size, size = Lib.leNat ((bs.drop (pos + 4)).take 8) := ⟨_, rfl⟩
      have hw8 := le_lt 8 (bs.drop (pos + 4)) (by rw [List.length_drop]; omega)
      rw [← hsz] at hs8 hw8
      have h8 : width < 8 := by
        rcases HBAD.out with h | h
        · rw [List.length_drop] at h; omega
        · rw [hwd]; exact h
      have hR2 := zzRead64_ok b A cap bs (pos + 4) size (by omega) _ ⟨w1.heap.size, 0, none⟩ (.int .u64 0) (w1.alloc (.cells #[.int .u64 0] 22)) (rd_alloc hR1 _) hs8 (by simp [go_sem]) (by simp [go_sem]) (by show w1.heap.size ≠ b; omega) (fun g' o e => by have := hA0 g' o e; simp; omega)
      clear hR1 hK1 hE1 hEq hEa hs8 hwd hsz
      go_wp2_with fail
      refine hR2.mono ?_
      clear hR2
      rintro e w2 ⟨rfl, hR2, hc2, hK2⟩
      have hz2 : w1.heap.size < w2.heap.size := by have := hK2.size; simp at this; omega
      have hKb : Kp (fun i => i = b) w w2 := hKa.trans (((kp_alloc w1 _).mono (S' := fun i => i = b ∨ w1.heap.size ≤ i) (fun i hi => hi.elim)).trans hK2 (fun i hi => hi.elim (fun e => .inl (.inl e)) (fun e => .inr (by rw [e]; exact Nat.le_refl _)))) (fun i hi => hi.elim .inl (fun e => .inr (by omega)))
      have hc5 : w2.cell? ⟨w.heap.size, 0, none⟩ = some (.int .u32 (width : Int)) := by
        have h1 := hK2.cell (p := ⟨w.heap.size, 0, none⟩) (by simp; omega) (by simp; omega)
        rw [h1, World.cell?_of_block (w := w1) (Below.heap_alloc w1 _ _ hz1)]; exact hc1
      clear hKa hK2 hc1
      go_wp2_with fail
      refine (checkLengths_bad g width size h8 w2).mono ?_
      rintro e w3 ⟨⟨p, rfl⟩, hB3⟩
      have hKc : Kp (fun i => i = b) w w3 := hKb.trans (S' := fun _ => False) (Kp.of_below hB3) (fun i hi => hi.elim)
      clear hKb hB3
      go_wp2_with fail
      go_ret
      exact ⟨⟨_, rfl⟩, hKc⟩
    · have hR2 := zzRead64_short b A cap bs (pos + 4) ⟨w1.heap.size, 0, none⟩ (w1.alloc (.cells #[.int .u64 0] 22)) (rd_alloc hR1 _) (by omega) (fun g' o e => by have := hA0 g' o e; simp; omega) hE1 hLb
      clear hR1 hK1 hEa hwd
      go_wp2_with fail
      refine hR2.mono ?_
      clear hR2
      rintro e w2 ⟨⟨p, rfl, hp⟩, hK2⟩
      have hE2 := hE1.kp hK2 (fun i hi => by rw [hi]; exact hLb)
      have c0 := hE2.eof
      have c1 := hE2.ueof
      obtain ⟨t, ht⟩ := eql_errs hE2 hp
      have hKb : Kp (fun i => i = b) w w2 := hKa.trans (((kp_alloc w1 _).mono (S' := fun i => i = b) (fun i hi => hi.elim)).trans hK2 (fun i hi => .inl hi)) (fun i hi => .inl hi)
      clear hE1 hE2 hEq hKa hK2
      cases t with
      | true =>
        go_wp2_with fail
        go_ret
        exact ⟨⟨_, rfl⟩, hKb⟩
      | false =>
        go_wp2_with fail
        go_ret
        exact ⟨⟨_, rfl⟩, hKb⟩
  · have hR1 := zzRead32_short b A cap bs pos ⟨w.heap.size, 0, none⟩ (w.alloc (.cells #[.int .u32 0] 103)) (rd_alloc h _) (by omega) (fun g' o e => by have := hA0 g' o e; simp; omega) (hE.box _) hLb
    have hEa := hE.box (.cells #[.int .u32 0] 103)
    clear h hbad hE hg
    go_enter Tryz.func217, Tryz.ntmps217
    go_wp2_with fail
    refine hR1.mono ?_
    clear hR1
    rintro e w1 ⟨⟨p, rfl, hp⟩, hK1⟩
    have hE2 := hEa.kp hK1 (fun i hi => by rw [hi]; exact hLb)
    have c0 := hE2.eof
    have c1 := hE2.ueof
    obtain ⟨t, ht⟩ := eql_errs hE2 hp
    have hKb : Kp (fun i => i = b) w w1 := ((kp_alloc w _).mono (S' := fun i => i = b) (fun i hi => hi.elim)).trans hK1 (fun i hi => .inl hi)
    clear hEa hE2 hK1
    cases t with
    | true =>
      go_wp2_with fail
      go_ret
      exact ⟨⟨_, rfl⟩, hKb⟩
    | false =>
      go_wp2_with fail
      go_ret
      exact ⟨⟨_, rfl⟩, hKb⟩

set_option maxRecDepth 100000 in
set_option maxHeartbeats 3200000 in
theorem MwUnmarshal_badN (b : Nat) (A : Option Addr) (cap : Nat) (bs : List UInt8) (pos : Nat) (a : Addr) (mb : Nat) (n : Nat) (ss : List (Nat × List UInt8)) (rest : List UInt8) (hw : ∀ s ∈ ss, 8 ≤ s.1 ∧ s.1 ≤ 33554432) (hnd : (ss.map (·.1)).Nodup) (w : World)
    (hsm : bs.length ≤ 16777216) (h : RdAt w b A cap bs pos) (hbs : bs.drop pos = Lib.leBytes 4 n ++ (secsBytes ss ++ rest)) (hlt : ss.length < n) (hn31 : n < 2147483648) (hbad : SecBad rest) (hM : MwAt w a mb []) (hab : a.block ≠ b) (hmb : mb ≠ b) (ham : a.block ≠ mb)
    (hA : ∀ g' o, A = some ⟨g', o, none⟩ → g' < w.heap.size ∧ g' ≠ a.block ∧ g' ≠ mb) {L : Nat} {pe pu : Addr} (hE : Errs w L pe pu) (hLb : L ≤ b) (hLm : L ≤ mb) :
    Calls Tryz.prog 204 #[.pointer (some a), .iface 40 (.pointer (some ⟨b, 0, none⟩))] w fun e w' => (∃ p, e = .returned (.iface 137 (.pointer (some p)))) ∧ Kp (fun i => i = b ∨ i = mb) w w' := by
  have hms := method_Seek
  have hbl := h.blt
  have hal := World.block_lt_of_cell? w _ hM.cell
  have hmbl := hM.map.lt
  have hlen : pos + 4 + (secsBytes ss).length ≤ bs.length := by
    have := congrArg List.length hbs
    simp only [List.length_drop, List.length_append, le4_len] at this
    omega
  have hsl := secsBytes_len ss
  have hbs2 : bs.drop (pos + 4) = secsBytes ss ++ rest := by rw [← List.drop_drop, hbs]; rfl
  have hend : bs.drop (pos + 4 + (secsBytes (ss.take ss.length)).length) = rest := by rw [List.take_length, ← List.drop_drop, hbs2, List.drop_left' rfl]
  have HEND : Hid (SecBad (bs.drop (pos + 4 + (secsBytes (ss.take ss.length)).length))) := Lib.hid (by rw [hend]; exact hbad)
  have hR1 := zzRead32_ok b A cap bs pos n (by omega) _ ⟨w.heap.size, 0, none⟩ (.int .u32 0) (w.alloc (.cells #[.int .u32 0] 103)) (rd_alloc h _) hbs (by simp [go_sem]) (by simp [go_sem]) (by show w.heap.size ≠ b; omega) (fun g' o e => by have := (hA g' o e).1; simp; omega)
  have HB := Lib.hid hbs2; have HW := Lib.hid hw; have HN := Lib.hid hnd
  have HE := Lib.hid hE
  clear hbs hbs2 hw hnd hbad hend hE
  go_enter Tryz.func204, Tryz.ntmps204
  go_wp2_with fail
  refine (ToByteReadSeeker_ok _ _).mono ?_
  rintro e w0 ⟨rfl, rfl⟩
  go_wp2_with fail
  refine hR1.mono ?_
  rintro e w1 ⟨rfl, hR1, hc1, hK1⟩
  have hz1 : w.heap.size < w1.heap.size := by have := hK1.size; simp at this; omega
  have hKa : Kp (fun i => i = b ∨ i = mb) w w1 := (Kp.refl _ w).box hK1 (fun i hi => hi.elim (fun e => .inl (.inl e)) (fun e => .inr e))
  have hM1 : MwAt w1 a mb [] := (hM.kp (kp_alloc w _) id id (fun _ _ => id)).kp hK1 (by simp; omega) (by simp; omega) (by simp)
  clear hK1
  go_wp2_with fail
  refine (Seek_ok b A cap bs (pos + 4) w1 hR1).mono ?_
  rintro e w2 ⟨rfl, hR2, hK2⟩
  have hz2 := hK2.size
  have hKb : Kp (fun i => i = b ∨ i = mb) w w2 := hKa.trans hK2 (fun i hi => .inl (.inl hi))
  have hM2 : MwAt w2 a mb [] := hM1.kp hK2 hab hmb (by simp)
  clear hR1 hc1 hKa hM1 hK2 hM
  have hneg : ¬ ((n : Int) < 0) := by omega
  have hwrap : IntKind.i32.wrap (n : Int) = (n : Int) := by rw [IntKind.wrap_i32]; omega
  go_wp2_with fail
  go_loopw [9, 11] (fun vs vi wr => ∃ (k sum : Nat) (secs : List Sec), vi = .int .i64 (k : Int) ∧ vs = .int .i64 (sum : Int) ∧ k ≤ ss.length ∧ sum ≤ (k + 1) * 16777216 ∧ secs.map Sec.two = ss.take k ∧ RdAt wr b A cap bs (pos + 4 + (secsBytes (ss.take k)).length) ∧
      MwAt wr a mb secs ∧ (∀ s ∈ secs, w.heap.size < s.gd) ∧ Kp (fun i => i = b ∨ i = mb) w wr ∧ w1.heap.size ≤ wr.heap.size) (fun _ vi _ => n - (intOf vi).toNat)
  case atStart => exact ⟨0, pos + 4, [], rfl, rfl, Nat.zero_le _, by omega, rfl, by simpa [secsBytes] using hR2, hM2, by simp, hKb, hz2⟩
  case round =>
    clear hR2 hM2 hKb
    obtain ⟨k, sum, secs, rfl, rfl, hk, hsum, hsecs, hR, hM, hgs, hK, hzr⟩ := hrel
    by_cases hlt : k < ss.length
    · obtain ⟨p, hp⟩ : ∃ p, ss[k]? = some p := ⟨_, List.getElem?_eq_getElem hlt⟩
      have hat := secs_at hp bs rest (pos + 4) HB.out
      have htk := secs_take hp
      have hpw := HW.out p (List.mem_of_getElem? hp)
      have hnew : ∀ s ∈ secs, s.width ≠ p.1 := by
        intro s hs e
        have h1 : s.two ∈ ss.take k := by rw [← hsecs]; exact List.mem_map.2 ⟨s, hs, rfl⟩
        obtain ⟨j, hj⟩ := List.getElem?_of_mem h1
        have hjk := (List.getElem?_eq_some_iff.1 hj).1
        rw [List.length_take] at hjk
        have hj2 : ss[j]? = some s.two := by rw [List.getElem?_take] at hj; split at hj; exact hj; cases hj
        have e2 : (ss.map (·.1))[j]? = (ss.map (·.1))[k]? := by rw [List.getElem?_map, List.getElem?_map, hj2, hp]; simp [Sec.two, e]
        have := (List.getElem?_inj (i := j) (j := k) (by simp; omega) HN.out).1 e2
        omega
      obtain ⟨width, data⟩ := p
      simp only at hat hpw hnew
      have hplen := congrArg List.length hat
      simp only [List.length_drop, List.length_append, le4_len, le8_len] at hplen
      have hpl : (secsBytes (ss.take (k + 1))).length = (secsBytes (ss.take k)).length + (12 + data.length) := by rw [htk, secsBytes_append, List.length_append]; simp [secsBytes, secBytes_len]
      have hbd : pos + 4 + (secsBytes (ss.take k)).length + 12 + data.length ≤ bs.length := by omega
      obtain ⟨pk, hpk⟩ : ∃ pk, pk = pos + 4 + (secsBytes (ss.take k)).length := ⟨_, rfl⟩
      rw [← hpk] at hR hat hbd
      have HPL : Hid (pos + 4 + (secsBytes (ss.take (k + 1))).length = pk + 12 + data.length) := Lib.hid (by omega)
      have HT := Lib.hid htk; have HSS := Lib.hid hsecs; have HNW := Lib.hid hnew
      clear hpk htk hpl hplen hsecs hnew hp
      obtain ⟨h8, hw⟩ := hpw
      have hbr := hR.blt
      have hSw := SwUnmarshal_ok b A cap bs pk wr.heap.size width data _ h8 hw (.int .u32 0) (.int .u64 0) (.slice none 0 0) (wr.alloc (.cells #[.int .u32 0, .int .u64 0, .slice none 0 0] 287)) (rd_alloc hR _) hat (heap_alloc_last _ _) (by omega) (fun g' o e => by have := (hA g' o e).1; simp; omega)
      clear hat hR
      go_wp2_with fail
      refine hSw.mono ?_
      clear hSw
      rintro e w3 ⟨rfl, hR3, ⟨gd, hgd, hs3, hd3⟩, hK3⟩
      have hz3 : wr.heap.size < w3.heap.size := by have := hK3.size; simp at this; omega
      have hKc : Kp (fun i => i = b ∨ i = mb) w w3 := hK.box hK3 (fun i hi => hi.elim (fun e => .inl (.inl e)) (fun e => .inr e))
      have hal2 := World.block_lt_of_cell? wr _ hM.cell
      have hml2 := hM.map.lt
      have hM3 : MwAt w3 a mb secs := (hM.kp (kp_alloc wr _) id id (fun _ _ => id)).kp hK3 (by simp; omega) (by simp; omega) (fun s hs => by have := hgs s hs; have := (Array.getElem?_eq_some_iff.1 (hM.row s hs)).1; simp; omega)
      have hgd' : wr.heap.size + 1 ≤ gd := by simpa using hgd
      clear hgd hK hM hK3
      go_wp2_with fail
      refine (Seek_ok b A cap bs _ w3 hR3).mono ?_
      rintro e w4 ⟨rfl, hR4, hK4⟩
      have hz4 := hK4.size
      have hKd : Kp (fun i => i = b ∨ i = mb) w w4 := hKc.trans hK4 (fun i hi => .inl (.inl hi))
      have hM4 : MwAt w4 a mb secs := hM3.kp hK4 hab hmb (fun s hs => by have := hgs s hs; omega)
      have hs4 : SwAt w4 wr.heap.size width (data.length / width) (.slice (some ⟨gd, 0, none⟩) data.length data.length) := (hK4.block _ hz3 (by omega)).trans hs3
      have hd4 := (hK4.block gd (Array.getElem?_eq_some_iff.1 hd3).1 (by omega)).trans hd3
      have hgd4 : gd < w4.heap.size := (Array.getElem?_eq_some_iff.1 hd4).1
      clear hR3 hKc hM3 hK4 hs3 hd3
      obtain ⟨ln, hln⟩ : ∃ ln, ln = data.length / width := ⟨_, rfl⟩
      rw [← hln] at hs4
      have HLN := Lib.hid hln; clear hln
      have ci := hM4.cell
      have s0 := (blk_cell' hs4 0).trans (show _ = some (Value.int .u32 (width : Int)) from rfl)
      have s1 := (blk_cell' hs4 1).trans (show _ = some (Value.int .u64 (ln : Int)) from rfl)
      have s2 := (blk_cell' hs4 2).trans (show _ = some (Value.slice (some ⟨gd, 0, none⟩) data.length data.length) from rfl)
      obtain ⟨om, hmu, him⟩ := hM4.map.put (P := Tryz.prog) Tryz.underlying133 Tryz.underlying103 (width : Int) (.agg #[.int .u32 (width : Int), .int .u64 (ln : Int), .slice (some ⟨gd, 0, none⟩) data.length data.length])
      have hmu1 := hmu w4.drew rfl
      have him1 := him w4.drew rfl
      have hm4 := hM4.map.lt
      have HIM := Lib.hid him1; have HMM := Lib.hid hM4
      clear hmu him him1 hM4
      have hsum' : ¬ ((sum : Int) + ((pk + 12 + data.length : Nat) : Int) < (sum : Int)) := by omega
      have hsw : IntKind.i64.wrap ((sum : Int) + ((pk + 12 + data.length : Nat) : Int)) = ((sum + (pk + 12 + data.length) : Nat) : Int) := by rw [IntKind.wrap_i64]; omega
      go_wp2_with fail
      go_region
      go_wp2_with fail
      go_roundw
      case rel =>
        have hval : (Sec.mk width data gd).val = .agg #[.int .u32 (width : Int), .int .u64 (ln : Int), .slice (some ⟨gd, 0, none⟩) data.length data.length] := by unfold Sec.val; rw [HLN.out]
        have hput : iput (secs.map Sec.pair) (width : Int) (.agg #[.int .u32 (width : Int), .int .u64 (ln : Int), .slice (some ⟨gd, 0, none⟩) data.length data.length]) = (secs ++ [Sec.mk width data gd]).map Sec.pair := by
          rw [iput_new, List.map_append, List.map_cons, List.map_nil, Sec.pair, hval]
          intro q hq e
          obtain ⟨s, hs, rfl⟩ := List.mem_map.1 hq
          simp only [Sec.pair] at e
          exact HNW.out s hs (by omega)
        have hi := HIM.out
        rw [hput] at hi
        have hkk : Kp (fun i => i = mb) w4 (setBlock w4.drew mb om) := (Kp.refl _ w4).drew.trans (kp_setBlk (w := w4.drew) om) (fun i hi => .inl hi)
        refine ⟨k + 1, sum + (pk + 12 + data.length), secs ++ [Sec.mk width data gd], by go_num, by first | rfl | go_num, by omega, by omega, by rw [List.map_append, HSS.out, HT.out]; rfl, ?_, ⟨?_, hi, ?_⟩, ?_, hKd.trans hkk (fun i hi => .inl (.inr hi)), by rw [setBlk_size]; show w1.heap.size ≤ w4.heap.size; omega⟩
        · rw [HPL.out]; exact hR4.keep hkk (fun e => hmb e.symm) (fun g' o e => (hA g' o e).2.2)
        · exact (hkk.cell (World.block_lt_of_cell? w4 _ ci) ham).trans ci
        · intro s hs
          rcases List.mem_append.1 hs with hs | hs
          · have hr := HMM.out.row s hs
            refine (hkk.block _ (Array.getElem?_eq_some_iff.1 hr).1 ?_).trans hr
            have := hgs s hs; omega
          · rw [List.mem_singleton] at hs; subst hs
            exact (hkk.block _ hgd4 (by show gd ≠ mb; omega)).trans hd4
        · intro s hs
          rcases List.mem_append.1 hs with hs | hs
          · exact hgs s hs
          · rw [List.mem_singleton] at hs; subst hs; show w.heap.size < gd; omega
      case measure => simp [intOf]; omega
    · obtain rfl : k = ss.length := by omega
      have hkn : ((ss.length : Nat) : Int) < (n : Int) := by omega
      have hbr := hR.blt
      have hEr := HE.out.kp hK (fun i hi => by rcases hi with rfl | rfl; exact hLb; exact hLm)
      have hSw := SwUnmarshal_bad b A cap bs _ wr.heap.size (.int .u32 0) (.int .u64 0) (.slice none 0 0) (wr.alloc (.cells #[.int .u32 0, .int .u64 0, .slice none 0 0] 287)) (rd_alloc hR _) HEND.out (heap_alloc_last _ _) (by omega) (fun g' o e => by have := (hA g' o e).1; simp; omega) (hEr.box _) hLb
      clear hR hEr hM hgs
      go_wp2_with fail
      refine hSw.mono ?_
      clear hSw
      rintro e w3 ⟨⟨p, rfl⟩, hK3⟩
      have hKc : Kp (fun i => i = b ∨ i = mb) w w3 := hK.box hK3 (fun i hi => .inl (.inl hi))
      clear hK hK3
      go_wp2_with fail
      go_ret
      exact ⟨⟨_, rfl⟩, hKc⟩

set_option maxRecDepth 100000 in
set_option maxHeartbeats 1600000 in
theorem MwUnmarshal_bad (b : Nat) (A : Option Addr) (cap : Nat) (bs : List UInt8) (pos : Nat) (a : Addr) (mb : Nat) (w : World)
    (hsm : bs.length ≤ 16777216) (h : RdAt w b A cap bs pos) (hbad : MwBad (bs.drop pos)) (hM : MwAt w a mb []) (hab : a.block ≠ b) (hmb : mb ≠ b) (ham : a.block ≠ mb)
    (hA : ∀ g' o, A = some ⟨g', o, none⟩ → g' < w.heap.size ∧ g' ≠ a.block ∧ g' ≠ mb) {L : Nat} {pe pu : Addr} (hE : Errs w L pe pu) (hLb : L ≤ b) (hLm : L ≤ mb) :
    Calls Tryz.prog 204 #[.pointer (some a), .iface 40 (.pointer (some ⟨b, 0, none⟩))] w fun e w' => (∃ p, e = .returned (.iface 137 (.pointer (some p)))) ∧ Kp (fun i => i = b ∨ i = mb) w w' := by
  rcases hbad with h4 | ⟨n, ss, tail, hbs, hlt, hn31, hb, hok⟩
  · have hms := method_Seek
    have hle := h.le
    have hbl := h.blt
    have hR1 := zzRead32_short b A cap bs pos ⟨w.heap.size, 0, none⟩ (w.alloc (.cells #[.int .u32 0] 103)) (rd_alloc h _) (by rw [List.length_drop] at h4; omega) (fun g' o e => by have := (hA g' o e).1; simp; omega) (hE.box _) hLb
    have hEa := hE.box (.cells #[.int .u32 0] 103)
    clear h h4 hE hM
    go_enter Tryz.func204, Tryz.ntmps204
    go_wp2_with fail
    refine (ToByteReadSeeker_ok _ _).mono ?_
    rintro e w0 ⟨rfl, rfl⟩
    go_wp2_with fail
    refine hR1.mono ?_
    clear hR1
    rintro e w1 ⟨⟨p, rfl, hp⟩, hK1⟩
    have hE2 := hEa.kp hK1 (fun i hi => by rw [hi]; exact hLb)
    have c0 := hE2.eof
    have c1 := hE2.ueof
    obtain ⟨t, ht⟩ := eql_errs hE2 hp
    have hKb : Kp (fun i => i = b ∨ i = mb) w w1 := ((kp_alloc w _).mono (S' := fun i => i = b ∨ i = mb) (fun i hi => hi.elim)).trans hK1 (fun i hi => .inl (.inl hi))
    clear hEa hE2 hK1
    cases t with
    | true =>
      go_wp2_with fail
      go_ret
      exact ⟨⟨_, rfl⟩, hKb⟩
    | false =>
      go_wp2_with fail
      go_ret
      exact ⟨⟨_, rfl⟩, hKb⟩
  · exact MwUnmarshal_badN b A cap bs pos a mb n ss tail (fun s hs => ⟨(hok.1 s hs).1, (hok.1 s hs).2.1⟩) hok.2 w hsm h hbs hlt hn31 hb hM hab hmb ham hA hE hLb hLm
end Go.Proofs.YtgdgmegpacmgnaaGreatDoor
