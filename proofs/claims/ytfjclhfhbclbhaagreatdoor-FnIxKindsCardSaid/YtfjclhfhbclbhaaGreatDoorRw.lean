/- A record of an index, written into its row. -/
import Derived.Test.YtfjclhfhbclbhaaGreatDoorWr
import Derived.Deep.RegionLaw
import Derived.RegionCalls
import Derived.Deep.RegionWith
namespace Go.Proofs.YtfjclhfhbclbhaaGreatDoor
open Go.RowKit
set_option linter.unusedVariables false
set_option linter.unusedSimpArgs false
attribute [local go_sem] setCell_drewN alloc_drewN

theorem cut_h (g o lo n c : Nat) (hlo : lo ≤ n) (hn : n ≤ c) (hne : lo < c) (x : Int) (hx : x = lo) (W : World) :
    (Instr.slice 27 (.slice (some ⟨g, o, none⟩) n c) (some (.int .i64 x)) none none).run Tryz.prog W = .ok (.slice (some ⟨g, o + lo, none⟩) (n - lo) (c - lo)) W := by
  subst hx
  have hel : Tryz.prog.elem 27 = 5 := by kernel_rfl
  rw [run_slice_l W 27 (some ⟨g, o, none⟩) n c (by rw [hel]; exact Tryz.underlying27) .i64 (lo : Int) (Int.natCast_nonneg _) (by omega), hel, u8_size]
  have hne' : ¬ c = lo := by omega
  simp only [Result.andThen, sliced, Int.toNat_natCast, Nat.mul_one, Option.map_some]
  simp only [hne', if_false]
  simp only [Addr.add_mid]

theorem kp_setCells (g : Nat) : ∀ (vs : List Value) (o : Nat) (w : World), Kp (fun i => i = g) w (w.setCells g o vs)
  | [], _, w => Kp.refl _ _
  | v :: r, o, w => (kp_set w ⟨g, o, none⟩ v).trans (kp_setCells g r (o + 1) _) (fun i hi => .inl hi)
theorem splice_two (cur a b : List Value) {c : List Value} (o n : Nat) (h : o ≤ cur.length) (ha : a.length = n) (hc : c = a ++ b) : splice (cur.take o ++ (a ++ cur.drop (o + n))) (o + n) b = splice cur o c := by
  subst hc; subst ha
  unfold splice
  have h1 : (cur.take o).length = o := by rw [List.length_take]; omega
  have h2 : (cur.take o ++ (a ++ cur.drop (o + a.length))).take (o + a.length) = cur.take o ++ a := by
    rw [← List.append_assoc, List.take_left' (by rw [List.length_append, h1])]
  have h3 : (cur.take o ++ (a ++ cur.drop (o + a.length))).drop (o + a.length + b.length) = cur.drop (o + (a ++ b).length) := by
    rw [← List.append_assoc, ← List.drop_drop, List.drop_left' (by rw [List.length_append, h1]), List.drop_drop, List.length_append, Nat.add_assoc]
  rw [h2, h3]
  simp only [List.append_assoc]

set_option maxRecDepth 100000 in
set_option maxHeartbeats 1600000 in
theorem recWrite_ok (g o n c ga oa cap off : Nat) (d : List UInt8) (cur : List Value) (w : World) (hg : w.heap[g]? = some (.cells cur.toArray 5 (0, 0))) (hA : BytesAt w (some ⟨ga, oa, none⟩) d) (hne : ga ≠ g) (hn : n = d.length + 8) (hc : n ≤ c) (hfit : o + n ≤ cur.length)
    (hoff : off < 18446744073709551616) (hd : 0 < d.length) (hdl : d.length ≤ cap) (hbig : cur.length ≤ 1099511627776) :
    Calls Tryz.prog 191 #[.agg #[.slice (some ⟨ga, oa, none⟩) d.length cap, .int .u64 (off : Int)], .slice (some ⟨g, o, none⟩) n c] w fun e w' => e = .returned (.tuple #[]) ∧
      w'.heap[g]? = some (.cells (splice cur o (bcells (d ++ Lib.leBytes 8 off))).toArray 5 (0, 0)) ∧ Kp (fun i => i = g) w w' := by
  have hgl := (Array.getElem?_eq_some_iff.1 hg).1
  have hs1 := fun W => cut_all (some ⟨g, o, none⟩) n c W
  have hs2 := fun W => cut_h g o d.length n c (by omega) hc (by omega) (d.length : Int) rfl W
  obtain ⟨W, hW⟩ : ∃ W, W = w.alloc (.cells #[.slice (some ⟨ga, oa, none⟩) d.length cap, .int .u64 (off : Int)] 278) := ⟨_, rfl⟩
  have hbW : Below w.heap.size w W := by rw [hW]; exact below_boxed w _
  have hg1 : W.heap[g]? = some (.cells cur.toArray 5 (0, 0)) := (hbW.block g hgl).trans hg
  have hA1 := hA.below hbW
  have hcl : (bcells d).length = Nat.min d.length n := by rw [bcells_len]; exact (Nat.min_eq_left (by omega)).symm
  have hsrc : ∀ j v, (bcells d)[j]? = some v → W.drew.cell? ((⟨ga, oa, none⟩ : Addr).add j) = some v := by
    intro j v hj
    rw [Addr.add_mid]
    rcases hA1 with h | ⟨g', o', e, hcc⟩
    · rw [h] at hd; cases hd
    · cases e
      simp only [bcells, List.getElem?_map] at hj
      cases hq : d[j]? with
      | none => rw [hq] at hj; cases hj
      | some x => rw [hq] at hj; cases hj; exact hcc j x hq
  have hn1 : d.length + 8 ≤ n := by omega
  have HN := Lib.hid hn; clear hn
  have HCL := Lib.hid hcl; clear hcl
  have hbl := bcells_len d
  go_enter Tryz.func191, Tryz.ntmps191
  go_wp2_with fail
  have hblk : W.heap[w.heap.size]? = some (.cells #[.slice (some ⟨ga, oa, none⟩) d.length cap, .int .u64 (off : Int)] 278 (0, 0)) := by rw [hW]; exact heap_alloc_last w _
  have k0 := (blk_cell' hblk 0).trans (show _ = some (Value.slice (some ⟨ga, oa, none⟩) d.length cap) from rfl)
  have hnB : w.heap.size ≠ g := by omega
  rw [← hW]
  have hkW : Kp (fun i => i = g) w W := Kp.of_below hbW
  clear hW
  generalize w.heap.size = bx at *
  have hg1d : W.drew.heap[g]? = some (.cells cur.toArray 5 (0, 0)) := hg1
  go_region_law (refine step_copy_row rfl (.tmp 6) (.tmp 8) 27 27 rfl 5 Tryz.underlying27 info_u8s g o n c ⟨ga, oa, none⟩ d.length cap rfl rfl cur.toArray 5 hg1d (bcells d) HCL.out hsrc (by rw [bcells_len, List.size_toArray]; omega) (bcells_one d) ?_)
  obtain ⟨cur2, hcur2⟩ : ∃ cur2, cur2 = List.take o cur ++ (bcells d ++ List.drop (o + d.length) cur) := ⟨_, rfl⟩
  rw [← hcur2]
  have hg2 : (W.drew.setRow g cur2.toArray).heap[g]? = some (.cells cur2.toArray 5 (0, 0)) := setRow_heap _ _ _ _ _ _ hg1d
  have hk2 : Kp (fun i => i = g) w (W.drew.setRow g cur2.toArray) :=
    hkW.trans (⟨rfl, rfl, rfl, by simp, fun i hi hn => setRow_other W.drew _ _ _ hn⟩ : Kp (fun i => i = g) W (W.drew.setRow g cur2.toArray)) (fun i hi => .inl hi)
  have hb2 : (W.drew.setRow g cur2.toArray).heap[bx]? = some (.cells #[.slice (some ⟨ga, oa, none⟩) d.length cap, .int .u64 (off : Int)] 278 (0, 0)) := (setRow_other _ _ _ _ hnB).trans hblk
  have hbs : bx < (W.drew.setRow g cur2.toArray).heap.size := (Array.getElem?_eq_some_iff.1 hb2).1
  generalize W.drew.setRow g cur2.toArray = W2 at *
  have m1 := (blk_cell' hb2 1).trans (show _ = some (Value.int .u64 (off : Int)) from rfl)
  have hlen2 : cur2.length = cur.length := by rw [hcur2]; simp [bcells_len]; omega
  have hx : ∀ j, j < 8 → ∃ v, W2.cell? ⟨g, o + d.length + j, none⟩ = some v := fun j hj => ⟨cur2[o + d.length + j]'(by omega), (blk_cell' hg2 _).trans (by simp)⟩
  obtain ⟨x0, q0⟩ := hx 0 (by omega)
  obtain ⟨x1, q1⟩ := hx 1 (by omega)
  obtain ⟨x2, q2⟩ := hx 2 (by omega)
  obtain ⟨x3, q3⟩ := hx 3 (by omega)
  obtain ⟨x4, q4⟩ := hx 4 (by omega)
  obtain ⟨x5, q5⟩ := hx 5 (by omega)
  obtain ⟨x6, q6⟩ := hx 6 (by omega)
  obtain ⟨x7, q7⟩ := hx 7 (by omega)
  have hff := fun j => blk_free' hg2 j
  have hP := Tryz.binary_LE_PutUint64 g (o + d.length) (n - d.length) (c - d.length) off hoff x0 x1 x2 x3 x4 x5 x6 x7 W2.drew (by omega) q0 q1 q2 q3 q4 q5 q6 q7 (hff _) (hff _) (hff _) (hff _) (hff _) (hff _) (hff _) (hff _)
  have hrow := heap_setCells g 5 (Lib.byteCells (Lib.leBytes 8 off)) (o + d.length) cur2 (W2.drew.alloc (.cells #[] 283)) ((heap_alloc_old W2.drew _ (Array.getElem?_eq_some_iff.1 hg2).1).trans hg2) (by simp only [Lib.byteCells_length, le8_len]; omega)
  have hk3 : Kp (fun i => i = g) w ((W2.drew.alloc (.cells #[] 283)).setCells g (o + d.length) (Lib.byteCells (Lib.leBytes 8 off))) := by
    have ha : Kp (fun _ => False) W2.drew (W2.drew.alloc (.cells #[] 283)) := kp_alloc W2.drew _
    have hb : Kp (fun i => i = g) w (W2.drew.alloc (.cells #[] 283)) := hk2.drew.trans ha (fun _ h => h.elim)
    exact hb.trans (kp_setCells g (Lib.byteCells (Lib.leBytes 8 off)) (o + d.length) (W2.drew.alloc (.cells #[] 283))) (fun i hi => .inl hi)
  have hfin : splice cur2 (o + d.length) (Lib.byteCells (Lib.leBytes 8 off)) = splice cur o (bcells (d ++ Lib.leBytes 8 off)) := by
    rw [hcur2]; exact splice_two cur (bcells d) (Lib.byteCells (Lib.leBytes 8 off)) o d.length (by omega) (bcells_len d) (by rw [← bcells_append]; rfl)
  have HF := Lib.hid hfin; have HR := Lib.hid hrow
  clear hlen2 hbl hff hsrc hrow hfin hcur2 q0 q1 q2 q3 q4 q5 q6 q7 hx hk2 hg1 hg1d hblk hkW hA hA1 hbW k0
  go_wp2_with fail
  refine wp_region_noPanic ?_
  go_region_with (go_at_call 207; refine hP.mono ?_; rintro e w3 ⟨rfl, rfl⟩)
  all_goals
    refine NoPanic.normal ?_
    go_wp2_with fail
    go_end0
    exact ⟨rfl, by rw [← HF.out]; exact HR.out, hk3⟩
end Go.Proofs.YtfjclhfhbclbhaaGreatDoor
