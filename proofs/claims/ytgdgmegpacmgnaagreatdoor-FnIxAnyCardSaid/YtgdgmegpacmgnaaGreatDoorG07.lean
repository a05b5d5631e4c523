import Derived.Test.YtgdgmegpacmgnaaGreatDoorG05
import Derived.Deep.RegionLaw
import Derived.RegionCalls
import Derived.Deep.RegionWith
import Derived.Test.YtgdgmegpacmgnaaGreatDoorG06
import Derived.BigRegion
import Derived.Test.YtgdgmegpacmgnaaGreatDoorG01
/- A record of an index, written into its row. -/
namespace Go.Proofs.YtgdgmegpacmgnaaGreatDoor
open Go.RowKit
set_option linter.unusedVariables false
set_option linter.unusedSimpArgs false
attribute [local go_sem] setCell_drewN alloc_drewN

theorem cut_h (g o lo n c : Nat) (hlo : lo ≤ n) (hn : n ≤ c) (hne : lo < c) (x : Int) (hx : x = lo) (W : World) :
    (Instr.slice 42 (.slice (some ⟨g, o, none⟩) n c) (some (.int .i64 x)) none none).run Tryz.prog W = .ok (.slice (some ⟨g, o + lo, none⟩) (n - lo) (c - lo)) W := by
  subst hx
  have hel : Tryz.prog.elem 42 = 5 := by kernel_rfl
  rw [run_slice_l W 42 (some ⟨g, o, none⟩) n c (by rw [hel]; exact Tryz.underlying42) .i64 (lo : Int) (Int.natCast_nonneg _) (by omega), hel, u8_size]
  have hne' : ¬ c = lo := by omega
  simp only [Result.andThen, sliced, Int.toNat_natCast, Nat.mul_one, Option.map_some]
  simp only [hne', if_false]
  simp only [Addr.add_mid]

theorem kp_setCells (g : Nat) : ∀ (vs : List Value) (o : Nat) (w : World), Kp (fun i => i = g) w (w.setCells g o vs)
  | [], _, w => Kp.refl _ _
  | v :: r, o, w => (kp_set w ⟨g, o, none⟩ v).trans (kp_setCells g r (o + 1) _) (fun i hi => .inl hi)
theorem splice_two (cur a b : List Value) {c : List Value} (o n : Nat) (h : o ≤ cur.length) (ha : a.length = n) (hc : c = a ++ b) : splice (cur.take o ++ (a ++ cur.drop (o + n))) (o + n) b = splice cur o c := by
  subst hc; subst ha
  unfold splice
  have h1 : (cur.take o).length = o := by rw [List.length_take]; omega
  have h2 : (cur.take o ++ (a ++ cur.drop (o + a.length))).take (o + a.length) = cur.take o ++ a := by
    rw [← List.append_assoc, List.take_left' (by rw [List.length_append, h1])]
  have h3 : (cur.take o ++ (a ++ cur.drop (o + a.length))).drop (o + a.length + b.length) = cur.drop (o + (a ++ b).length) := by
    rw [← List.append_assoc, ← List.drop_drop, List.drop_left' (by rw [List.length_append, h1]), List.drop_drop, List.length_append, Nat.add_assoc]
  rw [h2, h3]
  simp only [List.append_assoc]

set_option maxRecDepth 100000 in
set_option maxHeartbeats 1600000 in
theorem recWrite_ok (g o n c ga oa cap off : Nat) (d : List UInt8) (cur : List Value) (w : World) (hg : w.heap[g]? = some (.cells cur.toArray 5 (0, 0))) (hA : BytesAt w (some ⟨ga, oa, none⟩) d) (hne : ga ≠ g) (hn : n = d.length + 8) (hc : n ≤ c) (hfit : o + n ≤ cur.length)
    (hoff : off < 18446744073709551616) (hd : 0 < d.length) (hdl : d.length ≤ cap) (hbig : cur.length ≤ 1099511627776) :
    Calls Tryz.prog 196 #[.agg #[.slice (some ⟨ga, oa, none⟩) d.length cap, .int .u64 (off : Int)], .slice (some ⟨g, o, none⟩) n c] w fun e w' => e = .returned (.tuple #[]) ∧
      w'.heap[g]? = some (.cells (splice cur o (bcells (d ++ Lib.leBytes 8 off))).toArray 5 (0, 0)) ∧ Kp (fun i => i = g) w w' := by
  have hgl := (Array.getElem?_eq_some_iff.1 hg).1
  have hs1 := fun W => cut_all (some ⟨g, o, none⟩) n c W
  have hs2 := fun W => cut_h g o d.length n c (by omega) hc (by omega) (d.length : Int) rfl W
  obtain ⟨W, hW⟩ : ∃ W, W = w.alloc (.cells #[.slice (some ⟨ga, oa, none⟩) d.length cap, .int .u64 (off : Int)] 294) := ⟨_, rfl⟩
  have hbW : Below w.heap.size w W := by rw [hW]; exact below_boxed w _
  have hg1 : W.heap[g]? = some (.cells cur.toArray 5 (0, 0)) := (hbW.block g hgl).trans hg
  have hA1 := hA.below hbW
  have hcl : (bcells d).length = Nat.min d.length n := by rw [bcells_len]; exact (Nat.min_eq_left (by omega)).symm
  have hsrc : ∀ j v, (bcells d)[j]? = some v → W.drew.cell? ((⟨ga, oa, none⟩ : Addr).add j) = some v := by
    intro j v hj
    rw [Addr.add_mid]
    rcases hA1 with h | ⟨g', o', e, hcc⟩
    · rw [h] at hd; cases hd
    · cases e
      simp only [bcells, List.getElem?_map] at hj
      cases hq : d[j]? with
      | none => rw [hq] at hj; cases hj
      | some x => rw [hq] at hj; cases hj; exact hcc j x hq
  have hn1 : d.length + 8 ≤ n := by omega
  have HN := Lib.hid hn; clear hn
  have HCL := Lib.hid hcl; clear hcl
  have hbl := bcells_len d
  go_enter Tryz.func196, Tryz.ntmps196
  go_wp2_with fail
  have hblk : W.heap[w.heap.size]? = some (.cells #[.slice (some ⟨ga, oa, none⟩) d.length cap, .int .u64 (off : Int)] 294 (0, 0)) := by rw [hW]; exact heap_alloc_last w _
  have k0 := (blk_cell' hblk 0).trans (show _ = some (Value.slice (some ⟨ga, oa, none⟩) d.length cap) from rfl)
  have hnB : w.heap.size ≠ g := by omega
  rw [← hW]
  have hkW : Kp (fun i => i = g) w W := Kp.of_below hbW
  clear hW
  generalize w.heap.size = bx at *
  have hg1d : W.drew.heap[g]? = some (.cells cur.toArray 5 (0, 0)) := hg1
  go_region_law (refine step_copy_row rfl (.tmp 6) (.tmp 8) 42 42 rfl 5 Tryz.underlying42 info_u8s g o n c ⟨ga, oa, none⟩ d.length cap rfl rfl cur.toArray 5 hg1d (bcells d) HCL.out hsrc (by rw [bcells_len, List.size_toArray]; omega) (bcells_one d) ?_)
  obtain ⟨cur2, hcur2⟩ : ∃ cur2, cur2 = List.take o cur ++ (bcells d ++ List.drop (o + d.length) cur) := ⟨_, rfl⟩
  rw [← hcur2]
  have hg2 : (W.drew.setRow g cur2.toArray).heap[g]? = some (.cells cur2.toArray 5 (0, 0)) := setRow_heap _ _ _ _ _ _ hg1d
  have hk2 : Kp (fun i => i = g) w (W.drew.setRow g cur2.toArray) :=
    hkW.trans (⟨rfl, rfl, rfl, by simp, fun i hi hn => setRow_other W.drew _ _ _ hn⟩ : Kp (fun i => i = g) W (W.drew.setRow g cur2.toArray)) (fun i hi => .inl hi)
  have hb2 : (W.drew.setRow g cur2.toArray).heap[bx]? = some (.cells #[.slice (some ⟨ga, oa, none⟩) d.length cap, .int .u64 (off : Int)] 294 (0, 0)) := (setRow_other _ _ _ _ hnB).trans hblk
  have hbs : bx < (W.drew.setRow g cur2.toArray).heap.size := (Array.getElem?_eq_some_iff.1 hb2).1
  generalize W.drew.setRow g cur2.toArray = W2 at *
  have m1 := (blk_cell' hb2 1).trans (show _ = some (Value.int .u64 (off : Int)) from rfl)
  have hlen2 : cur2.length = cur.length := by rw [hcur2]; simp [bcells_len]; omega
  have hx : ∀ j, j < 8 → ∃ v, W2.cell? ⟨g, o + d.length + j, none⟩ = some v := fun j hj => ⟨cur2[o + d.length + j]'(by omega), (blk_cell' hg2 _).trans (by simp)⟩
  obtain ⟨x0, q0⟩ := hx 0 (by omega)
  obtain ⟨x1, q1⟩ := hx 1 (by omega)
  obtain ⟨x2, q2⟩ := hx 2 (by omega)
  obtain ⟨x3, q3⟩ := hx 3 (by omega)
  obtain ⟨x4, q4⟩ := hx 4 (by omega)
  obtain ⟨x5, q5⟩ := hx 5 (by omega)
  obtain ⟨x6, q6⟩ := hx 6 (by omega)
  obtain ⟨x7, q7⟩ := hx 7 (by omega)
  have hff := fun j => blk_free' hg2 j
  have hP := Tryz.binary_LE_PutUint64 g (o + d.length) (n - d.length) (c - d.length) off hoff x0 x1 x2 x3 x4 x5 x6 x7 W2.drew (by omega) q0 q1 q2 q3 q4 q5 q6 q7 (hff _) (hff _) (hff _) (hff _) (hff _) (hff _) (hff _) (hff _)
  have hrow := heap_setCells g 5 (Lib.byteCells (Lib.leBytes 8 off)) (o + d.length) cur2 (W2.drew.alloc (.cells #[] 299)) ((heap_alloc_old W2.drew _ (Array.getElem?_eq_some_iff.1 hg2).1).trans hg2) (by simp only [Lib.byteCells_length, le8_len]; omega)
  have hk3 : Kp (fun i => i = g) w ((W2.drew.alloc (.cells #[] 299)).setCells g (o + d.length) (Lib.byteCells (Lib.leBytes 8 off))) := by
    have ha : Kp (fun _ => False) W2.drew (W2.drew.alloc (.cells #[] 299)) := kp_alloc W2.drew _
    have hb : Kp (fun i => i = g) w (W2.drew.alloc (.cells #[] 299)) := hk2.drew.trans ha (fun _ h => h.elim)
    exact hb.trans (kp_setCells g (Lib.byteCells (Lib.leBytes 8 off)) (o + d.length) (W2.drew.alloc (.cells #[] 299))) (fun i hi => .inl hi)
  have hfin : splice cur2 (o + d.length) (Lib.byteCells (Lib.leBytes 8 off)) = splice cur o (bcells (d ++ Lib.leBytes 8 off)) := by
    rw [hcur2]; exact splice_two cur (bcells d) (Lib.byteCells (Lib.leBytes 8 off)) o d.length (by omega) (bcells_len d) (by rw [← bcells_append]; rfl)
  have HF := Lib.hid hfin; have HR := Lib.hid hrow
  clear hlen2 hbl hff hsrc hrow hfin hcur2 q0 q1 q2 q3 q4 q5 q6 q7 hx hk2 hg1 hg1d hblk hkW hA hA1 hbW k0
  go_wp2_with fail
  refine wp_region_noPanic ?_
  go_region_with (go_at_call 212; refine hP.mono ?_; rintro e w3 ⟨rfl, rfl⟩)
  all_goals
    refine NoPanic.normal ?_
    go_wp2_with fail
    go_end0
    exact ⟨rfl, by rw [← HF.out]; exact HR.out, hk3⟩
end Go.Proofs.YtgdgmegpacmgnaaGreatDoor

/- An index sorted by digests, loaded with one record. -/
namespace Go.Proofs.YtgdgmegpacmgnaaGreatDoor
open Go.RowKit
open Go.ChangeMaps (setBlock)
set_option linter.unusedVariables false
set_option linter.unusedSimpArgs false
attribute [local go_sem] setCell_drewN alloc_drewN

theorem info_rec : (Tryz.prog.info? 294).map (fun i => (i.zero, i.size, i.bytes)) = some (some (.agg #[.slice none 0 0, .int .u64 0]), 2, 32) := by kernel_rfl
theorem idxsZero (W : World) : (zeroValue 291).run Tryz.prog W = .ok (.slice none 0 0) W := by kernel_rfl
theorem method_LenR (v : Value) (w : World) : (method 463 296 v "Len").run Tryz.prog w = .ok (276, v) w := by kernel_rfl

set_option maxRecDepth 100000 in
/-- sort.Sort of at most one record. -/
theorem sortRecs_one (g cap : Nat) (w : World) :
    Calls Tryz.prog 195 #[.iface 296 (.slice (some ⟨g, 0, none⟩) 1 cap)] w fun e w' => e = .returned (.tuple #[]) ∧ w = w' := by
  have hme := method_LenR
  have hL : ∀ W : World, Calls Tryz.prog 276 #[.slice (some ⟨g, 0, none⟩) 1 cap] W fun e w' => e = .returned (.int .i64 1) ∧ W = w' := by
    intro W
    go_enter Tryz.func276, Tryz.ntmps276
    go_wp2_with fail
    go_ret
    exact ⟨rfl, rfl⟩
  go_enter Tryz.func195, Tryz.ntmps195
  go_wp2_with fail
  refine (hL _).mono ?_
  rintro e w' ⟨rfl, rfl⟩
  go_wp2_with fail
  exact bodyPost_ret (v := .tuple #[]) (by simp [results, Tryz.results195, go_sem]) rfl ⟨rfl, rfl⟩

theorem makeRecs0 (W : World) : (Instr.makeSlice 291 (.int .i64 0) (.int .i64 0)).run Tryz.prog W = .ok (.slice (some ⟨W.heap.size, 0, none⟩) 0 0) (W.alloc (.cells #[] 294)) := by
  obtain ⟨i0, hi, hz0, hz1, hz2⟩ := info_parts info_rec
  have h := run_make (P := Tryz.prog) W 291 294 i0 _ Tryz.underlying291 hi hz0 .i64 .i64 0 0 (by omega) (by omega) (by omega) (by omega)
  rw [hz1] at h
  simp only [Int.toNat_zero, Nat.zero_mul] at h
  rw [h, show madeCells (Value.agg #[.slice none 0 0, .int .u64 0]).cells 0 = #[] from Array.eq_empty_of_size_eq_zero (size_madeCells _ _)]

set_option maxRecDepth 100000 in
set_option maxHeartbeats 6400000 in
theorem MwLoad_one (a : Addr) (mk gr cap off : Nat) (c : CidOf) (hc : c.Ok) (hd : 0 < c.dig.length) (hoff : off < 18446744073709551616) (w : World) (hM : MwAt w a mk []) (ham : a.block ≠ mk) (r0 : w.cell? ⟨gr, 0, none⟩ = some (.string c.str)) (r1 : w.cell? ⟨gr, 1, none⟩ = some (.int .u64 (off : Int))) :
    Calls Tryz.prog 184 #[.pointer (some a), .slice (some ⟨gr, 0, none⟩) 1 cap] w fun e w' =>
      e = .returned .nilIface ∧ (∃ gd, w.heap.size ≤ gd ∧ MwAt w' a mk [⟨c.dig.length + 8, c.dig ++ Lib.leBytes 8 off, gd⟩]) ∧ Kp (fun i => i = mk) w w' := by
  have hmm := @run_makeMap Tryz.prog
  obtain ⟨i0, ti, tz0, tz1, tz2⟩ := info_parts info_rec
  have hdl := hc.dig
  have hgr : gr < w.heap.size := World.block_lt_of_cell? w _ r0
  have hal := World.block_lt_of_cell? w _ hM.cell
  have hmkl := hM.map.lt
  go_enter Tryz.func184, Tryz.ntmps184
  go_wp2_with fail
  refine wp_loop_rounds 2 ?_
  rw [rounds_succ]
  go_wp2_with fail
  refine (Hash_ok c hc _).mono ?_
  rintro e w1 ⟨A1, c1, rfl, hc1, hA1, hB1, hF1, hb1⟩
  obtain ⟨hcc, hff⟩ := bcell hb1
  have hz1' : w.heap.size + 1 < w1.heap.size := by have := hb1.size; simp at this; omega
  go_wp2_with fail
  refine (Decode_ok c.code hc.code c.dig (by omega) A1 _ c1 _ hA1 rfl hc1).mono ?_
  rintro e w2 ⟨g, A2, c2, rfl, hc2, hS2, hb2, hg2, hblk⟩
  clear hcc hff
  obtain ⟨hcc, hff⟩ := bcell (below_next hb1 hb2)
  have hbw : Below w.heap.size w w2 := by (repeat (first | (with_reducible exact Below.refl _ _) | (with_reducible exact below_boxed _ _) | (with_reducible refine below_box ?_ _) | (with_reducible refine below_drew1 ?_) | (with_reducible refine below_drewn ?_ _) | (with_reducible refine below_bytes ?_ _ _) | (with_reducible refine below_next ?_ (by assumption)) | (with_reducible refine below_set ?_ (by first | (simp; done) | (simp; omega) | omega) _)))
  have hmi : ((w.alloc (.map #[] 0)).alloc (.cells #[.string c.str, .int .u64 (off : Int)] 116)).heap[w.heap.size]? = some (.map #[] 0) := by rw [heap_alloc_old _ _ (by simp), heap_alloc_last]
  have hb12 := below_next hb1 hb2
  have hIm2 : ImAt w2 w.heap.size .i64 [] := (ImAt.made w .i64).upd ((hb12.block _ (by simp; omega)).trans (hmi.trans (heap_alloc_new w _).symm))
  have krec : w2.cell? ⟨w.heap.size + 1, 1, none⟩ = some (.int .u64 (off : Int)) := by
    have h := hb12.cell (p := ⟨w.heap.size + 1, 1, none⟩) (by simp)
    rw [h]
    have h2 := heap_alloc_last (w.alloc (.map #[] 0)) (.cells #[.string c.str, .int .u64 (off : Int)] 116)
    have h3 : (w.alloc (.map #[] 0)).heap.size = w.heap.size + 1 := by simp
    rw [h3] at h2
    exact blk_cell' h2 1
  have k3 : w2.cell? ⟨g, 3, none⟩ = some (.slice A2 c.dig.length c2) := by simp [World.cell?, hblk]
  have hA2 : BytesAt w2 A2 c.dig := hS2.bytes _ (hA1.below hb2)
  have hF2 : From w.heap.size A2 := hS2.frm _ (hF1.mono (by simp; omega))
  have hB2 : ByteBlk w2 5 A2 := hS2.blk _ _ (hB1.below hb2)
  have hM2 : MwAt w2 a mk [] := hM.kp (S := fun _ => False) (Kp.of_below hbw) id id (fun _ _ => id)
  have hgl2 : g < w2.heap.size := (Array.getElem?_eq_some_iff.1 hblk).1
  have hz2 : w.heap.size + 1 < w2.heap.size := by have := hb2.size; omega
  obtain ⟨ga, oa, rfl⟩ : ∃ ga oa, A2 = some ⟨ga, oa, none⟩ := by
    rcases hA2 with h | ⟨ga, oa, e, _⟩
    · rw [h] at hd; cases hd
    · exact ⟨ga, oa, e⟩
  have hgaw : w.heap.size ≤ ga := hF2 _ rfl
  have hgal : ga < w2.heap.size := by
    obtain ⟨cs, fr, hh⟩ := hB2 _ rfl
    exact (Array.getElem?_eq_some_iff.1 hh).1
  have hgami : ga ≠ w.heap.size := by
    obtain ⟨cs, fr, hh⟩ := hB2 _ rfl
    intro e
    rw [show (⟨ga, oa, none⟩ : Addr).block = ga from rfl, e] at hh
    obtain ⟨es, cl, hm, _⟩ := hIm2
    rw [hm] at hh; cases hh
  have hlk2 := hIm2.look_no (P := Tryz.prog) Tryz.underlying290 Tryz.underlying3 (k := (c.dig.length : Int)) rfl true _ idxsZero
  simp only [if_true] at hlk2
  have hmr := makeRecs0
  clear hcc hff hb1 hb2 hb12 hmi hblk hA1 hB1 hF1 hS2 hB2 hM
  have hown2 : (w2.alloc (.cells #[] 294)).ownsRow w2.heap.size 294 2 (.slice (some ⟨w2.heap.size, 0, none⟩) 0 0) 0 [] := World.ownsRow_made w2 #[] 0 (Nat.le_refl _) (Nat.zero_le _) rfl
  have HB := Lib.hid hbw; have HA2 := Lib.hid hA2; have HM2 := Lib.hid hM2
  clear hbw hA2 hM2
  go_wp2_with (at_mapUpdate; refine step_put_im rfl _ _ _ 290 rfl Tryz.underlying290 Tryz.underlying3 rfl (hIm2.upd (heap_alloc_old w2 _ hIm2.lt)) (k := (c.dig.length : Int)) (val := .slice (some ⟨w2.heap.size, 0, none⟩) 0 0) rfl rfl ?_; intro w3 hIm3 hK3 hs3; refine later ?_)
  have hs3' : w3.heap.size = w2.heap.size + 1 := by simpa using hs3
  have hlk3 := hIm3.look (P := Tryz.prog) Tryz.underlying290 Tryz.underlying3 (k := (c.dig.length : Int)) (v := .slice (some ⟨w2.heap.size, 0, none⟩) 0 0) (by simp [iput, ilook]) false
  have krec3 := (hK3.cell (p := ⟨w.heap.size + 1, 1, none⟩) (by simp; omega) (by simp)).trans ((World.cell?_of_block (w := w2) (heap_alloc_old w2 _ hz2)).trans krec)
  have hown3 := own_kp hown2 hK3 (fun g' e h => by cases e; exact absurd h (by show ¬ w2.heap.size = w.heap.size; omega))
  have HB3 : Hid (Kp (fun i => i = w.heap.size) w2 w3) := Lib.hid ((kp_alloc w2 _).mono (S' := fun i => i = w.heap.size) (fun _ h => h.elim) |>.trans hK3 (fun i h => .inl h))
  simp only [Bool.false_eq_true, if_false] at hlk3
  have hz3 : w2.heap.size < w3.heap.size := by omega
  clear hs3 hs3' hlk2 hIm2 hown2 krec k3 hK3 hmr hmm
  refine now ?_
  go_wp2_with (at_builtin; refine wpList_append_own _ rfl _ _ 291 rfl w2.heap.size 294 i0 (.agg #[.slice none 0 0, .int .u64 0]) 2 32 Tryz.underlying291 ti tz0 tz1 tz2 rfl (by decide) _ _ _ rfl (hown3.alloc _) ⟨w3.heap.size, 0, none⟩ 1 1 [.slice (some ⟨ga, oa, none⟩) c.dig.length c2, .int .u64 (off : Int)] rfl rfl ?c1 ?c2 ?c3 ?c4 ?c5 ?_)
  case c1 =>
    intro j u hj
    match j, hj with
    | 0, hj => simp at hj; subst hj; simp [Addr.add]
    | 1, hj => simp at hj; subst hj; simp [Addr.add]
  case c2 =>
    intro u hu
    simp only [List.mem_cons, List.not_mem_nil, or_false] at hu
    rcases hu with rfl | rfl <;> rfl
  case c3 => unfold maxLen; omega
  case c4 => omega
  case c5 => simp; omega
  intro v4 w4 hown4 hgrow hn4
  refine later ?_
  have hk34 : Kp (fun i => i = w2.heap.size) w3 w4 := (kp_alloc w3 _).mono (S' := fun i => i = w2.heap.size) (fun _ h => h.elim) |>.trans (kp_grown hgrow) (fun i h => .inl (by simpa [Value.ownBlock] using h))
  have hIm4 := hIm3.kp hk34 (by omega)
  obtain ⟨g4, cap4, cur4, rfl, hge4, hg4, hle4, hcm4, hcs4, htk4⟩ : ∃ g cap cur, v4 = .slice (some ⟨g, 0, none⟩) 1 cap ∧ w2.heap.size ≤ g ∧ w4.heap[g]? = some (.cells cur 294 (0, 0)) ∧ 1 ≤ cap ∧ cap ≤ maxLen ∧ cur.size = cap * 2 ∧ cur.toList.take (1 * 2) = [.slice (some ⟨ga, oa, none⟩) c.dig.length c2, .int .u64 (off : Int)] := by
    rcases hown4.2 with ⟨_, h⟩ | h
    · cases h
    · exact h
  have hz4 : w3.heap.size < w4.heap.size := by have := hgrow.size; simp at this; omega
  clear hIm3 hlk3 hown3 krec3 hown4 hgrow hn4
  refine now ?_
  go_wp2_with (at_mapUpdate; refine step_put_im rfl _ _ _ 290 rfl Tryz.underlying290 Tryz.underlying3 rfl hIm4 (k := (c.dig.length : Int)) (val := .slice (some ⟨g4, 0, none⟩) 1 cap4) rfl rfl ?_; intro w5 hIm5 hK5 hs5; refine later ?_)
  have hIm5' : ImAt w5 w.heap.size .i64 [((c.dig.length : Int), .slice (some ⟨g4, 0, none⟩) 1 cap4)] := by simpa [iput] using hIm5
  have hg5 : w5.heap[g4]? = some (.cells cur4 294 (0, 0)) := (hK5.block g4 (Array.getElem?_eq_some_iff.1 hg4).1 (by omega)).trans hg4
  have HB5 : Hid (Kp (fun i => i = w.heap.size ∨ i = w2.heap.size) w2 w5) := Lib.hid ((HB3.out.mono (S' := fun i => i = w.heap.size ∨ i = w2.heap.size) (fun i h => .inl (.inl h))).trans (S' := fun i => i = w.heap.size ∨ i = w2.heap.size) ((hk34.mono (S' := fun i => i = w.heap.size ∨ i = w2.heap.size) (fun i h => .inl (.inr h))).trans hK5 (fun i h => .inl (.inl h))) (fun i h => .inl h))
  have hz5 : w5.heap.size = w4.heap.size := hs5
  have hzz : w2.heap.size < w5.heap.size := by omega
  clear hIm4 hIm5 hK5 hs5 hk34 hg4 HB3 hz5 hz4 hz3
  refine now ?_
  go_wp2_with fail
  rw [rounds_succ]
  go_wp2_with (at_range; refine step_range_im rfl _ 290 rfl Tryz.underlying290 rfl hIm5' ?_; intro w6 hIt6 hb6 hs6; refine later ?_)
  have hg6 : w6.heap[g4]? = some (.cells cur4 294 (0, 0)) := (hb6.block g4 (Array.getElem?_eq_some_iff.1 hg5).1).trans hg5
  have HB6 : Hid (Kp (fun i => i = w.heap.size ∨ i = w2.heap.size) w2 w6) := Lib.hid (HB5.out.trans (S' := fun _ => False) (Kp.of_below hb6) (fun _ h => h.elim))
  have hr6 : w2.heap.size < w5.heap.size := hzz
  generalize w5.heap.size = r at *
  have hrw : r < w6.heap.size := by omega
  clear hIm5' hg5 hb6 HB5 hzz hs6
  refine now ?_
  go_wp2_with fail
  refine wp_loop_rounds 2 ?_
  rw [rounds_succ]
  go_wp2_with (at_next; refine step_next_im rfl _ rfl rfl hIt6 (fun hp => later ?_) (fun p w7 hpm hdl hIt7 hK7 hs7 hen => later ?_))
  · exact absurd hp.length_eq (by simp)
  · obtain rfl : p = ((c.dig.length : Int), .slice (some ⟨g4, 0, none⟩) 1 cap4) := by simpa using hpm
    have hg4r : g4 ≠ r := by
      intro e
      obtain ⟨es, clock, since, seen, c0, h1, h2, h3⟩ := hIt6
      rw [e, h2] at hg6; cases hg6
    have hg7 : w7.heap[g4]? = some (.cells cur4 294 (0, 0)) := (hK7.block g4 (Array.getElem?_eq_some_iff.1 hg6).1 hg4r).trans hg6
    have HB7 : Hid (Kp (fun i => i = w.heap.size ∨ i = w2.heap.size) w2 w7) := Lib.hid (HB6.out.trans hK7 (fun i h => .inr (by omega)))
    have hrw7 : r < w7.heap.size := by omega
    have hk0 : w7.cell? ⟨g4, 0, none⟩ = some (.slice (some ⟨ga, oa, none⟩) c.dig.length c2) := by
      rw [blk_cell' hg7 0]
      have : cur4.toList[0]? = some (.slice (some ⟨ga, oa, none⟩) c.dig.length c2) := by
        have h := congrArg (fun l => l[0]?) htk4
        simpa using h
      simpa using this
    have hk1 : w7.cell? ⟨g4, 1, none⟩ = some (.int .u64 (off : Int)) := by
      rw [blk_cell' hg7 1]
      have : cur4.toList[1]? = some (.int .u64 (off : Int)) := by
        have h := congrArg (fun l => l[1]?) htk4
        simpa using h
      simpa using this
    have hIt7' : ItAt w7 r w.heap.size .i64 [((c.dig.length : Int), .slice (some ⟨g4, 0, none⟩) 1 cap4)] [((c.dig.length : Int), .slice (some ⟨g4, 0, none⟩) 1 cap4)] := hIt7
    clear hg6 hIt6 hpm hdl hIt7 hK7 hs7 hrw HB6 hg7 htk4
    refine now ?_
    go_wp2_with fail
    refine (sortRecs_one g4 cap4 w7).mono ?_
    rintro e w8 ⟨rfl, rfl⟩
    have hmk7 := fun W => make8 (c.dig.length + 8) ((c.dig.length : Int) + 8) (by omega) (by omega) W
    have hA7 : BytesAt w7 (some ⟨ga, oa, none⟩) c.dig := HA2.out.kp HB7.out (fun g' o e => by cases e; omega)
    have hga7 : ga < w7.heap.size := by have := HB7.out.size; omega
    have hw7 : w2.heap.size ≤ w7.heap.size := HB7.out.size
    have hs7 : ∀ W : World, (Instr.slice 42 (.slice (some ⟨w7.heap.size, 0, none⟩) (c.dig.length + 8) (c.dig.length + 8)) (some (.int .i64 0)) (some (.int .i64 ((c.dig.length : Int) + 8))) none).run Tryz.prog W = .ok (.slice (some ⟨w7.heap.size, 0, none⟩) (c.dig.length + 8) (c.dig.length + 8)) W := by
      intro W
      have := cut_lh w7.heap.size 0 (c.dig.length + 8) (c.dig.length + 8) (by omega) (by omega) (by omega) 0 ((c.dig.length : Int) + 8) rfl (by omega) W
      simpa using this
    have hgz : (w7.alloc (.cells (zeros8 (c.dig.length + 8)).toArray 5)).heap[w7.heap.size]? = some (.cells (zeros8 (c.dig.length + 8)).toArray 5 (0, 0)) := heap_alloc_last w7 _
    have hb79 : Below w7.heap.size w7 ((w7.alloc (.cells (zeros8 (c.dig.length + 8)).toArray 5)).alloc (.cells #[.slice (some ⟨ga, oa, none⟩) c.dig.length c2, .int .u64 (off : Int)] 294)).drew := by (repeat (first | (with_reducible exact Below.refl _ _) | (with_reducible exact below_boxed _ _) | (with_reducible refine below_box ?_ _) | (with_reducible refine below_drew1 ?_) | (with_reducible refine below_drewn ?_ _) | (with_reducible refine below_bytes ?_ _ _) | (with_reducible refine below_next ?_ (by assumption)) | (with_reducible refine below_set ?_ (by first | (simp; done) | (simp; omega) | omega) _)))
    have hRW := recWrite_ok w7.heap.size 0 (c.dig.length + 8) (c.dig.length + 8) ga oa c2 off c.dig (zeros8 (c.dig.length + 8)) ((w7.alloc (.cells (zeros8 (c.dig.length + 8)).toArray 5)).alloc (.cells #[.slice (some ⟨ga, oa, none⟩) c.dig.length c2, .int .u64 (off : Int)] 294)).drew ((heap_alloc_old _ _ (by simp)).trans hgz) (hA7.below hb79) (by omega) rfl (Nat.le_refl _) (by simp [zeros8_length]) hoff hd hc2 (by simp [zeros8_length]; omega)
    have hg47 : g4 < w7.heap.size := World.block_lt_of_cell? w7 _ hk0
    clear hgz hA7
    go_wp2_with fail
    refine wp_loop_rounds 2 ?_
    rw [rounds_succ]
    go_wp2_with fail
    refine wp_region_noPanic ?_
    have hw0 : IntKind.i64.wrap 0 = 0 := by decide
    have hw1 : IntKind.i64.wrap 1 = 1 := by decide
    have hw8 : IntKind.i64.wrap ((c.dig.length : Int) + 8) = (c.dig.length : Int) + 8 := by rw [IntKind.wrap_i64]; omega
    go_region_with (go_at_call 196; refine hRW.mono ?_; rintro e w10 ⟨rfl, hg10, hK10⟩)
    refine NoPanic.normal ?_
    have hsp : splice (zeros8 (c.dig.length + 8)) 0 (bcells (c.dig ++ Lib.leBytes 8 off)) = bcells (c.dig ++ Lib.leBytes 8 off) := by
      have hl : (bcells (c.dig ++ Lib.leBytes 8 off)).length = c.dig.length + 8 := by rw [bcells_len, List.length_append, le8_len]
      unfold splice
      rw [hl, List.take_zero, List.nil_append, List.drop_of_length_le (by rw [zeros8_length]; omega), List.append_nil]
    rw [hsp] at hg10
    have HSP := Lib.hid hsp
    have hk10 : Kp (fun i => i = w.heap.size ∨ w2.heap.size ≤ i) w2 w10 := by
      have h1 : Kp (fun i => i = w.heap.size ∨ w2.heap.size ≤ i) w2 w7 := HB7.out.mono (fun i h => .inl (h.elim .inl (fun e => .inr (by omega))))
      have h2 : Kp (fun _ => False) w7 ((w7.alloc (.cells (zeros8 (c.dig.length + 8)).toArray 5)).alloc (.cells #[.slice (some ⟨ga, oa, none⟩) c.dig.length c2, .int .u64 (off : Int)] 294)).drew := Kp.of_below hb79
      exact (h1.trans h2 (fun _ h => h.elim)).trans hK10 (fun i h => .inl (.inr (by omega)))
    have hkw : Kp (fun _ => False) w w10 := (Kp.of_below (S := fun _ => False) HB.out).trans hk10 (fun i h => .inr (by rcases h with h | h <;> omega))
    have hM10 : MwAt w10 a mk [] := HM2.out.kp hk10 (by omega) (by omega) (by simp)
    have ca10 := hM10.cell
    have hIt10 : ItAt w10 r w.heap.size .i64 [((c.dig.length : Int), .slice (some ⟨g4, 0, none⟩) 1 cap4)] [((c.dig.length : Int), .slice (some ⟨g4, 0, none⟩) 1 cap4)] :=
      (hIt7'.kp (Kp.of_below (S := fun _ => False) hb79) id id).kp hK10 (by omega) (by omega)
    have hmk10 := hM10.map.lt
    have hal10 := World.block_lt_of_cell? w10 _ ca10
    have hz10 : w7.heap.size < w10.heap.size := by have := hK10.size; simp at this; omega
    have hu32 : IntKind.u32.wrap ((c.dig.length : Int) + 8) = (c.dig.length : Int) + 8 := by rw [IntKind.wrap_u32]; omega
    have hu32' : IntKind.u32.wrap (c.dig.length : Int) = (c.dig.length : Int) := by rw [IntKind.wrap_u32]; omega
    obtain ⟨om, hmu, him⟩ := (hM10.map.upd (w' := (w10.alloc (.cells #[.int .u32 ((c.dig.length : Int) + 8), .int .u64 1, .slice (some ⟨w7.heap.size, 0, none⟩) (c.dig.length + 8) (c.dig.length + 8)] 287)).drew) (heap_alloc_old w10 _ hmk10)).put (P := Tryz.prog) Tryz.underlying133 Tryz.underlying103 ((c.dig.length : Int) + 8) (.agg #[.int .u32 ((c.dig.length : Int) + 8), .int .u64 1, .slice (some ⟨w7.heap.size, 0, none⟩) (c.dig.length + 8) (c.dig.length + 8)])
    have hmu1 := hmu _ rfl
    have HIM := Lib.hid (him _ rfl)
    have hblkX := heap_alloc_last w10 (.cells #[.int .u32 ((c.dig.length : Int) + 8), .int .u64 1, .slice (some ⟨w7.heap.size, 0, none⟩) (c.dig.length + 8) (c.dig.length + 8)] 287)
    clear hsp hmu him hK10 hRW hb79 hmk7 hs7 hw8 hIt7' hk0 hk1 hk10 hM10
    go_wp2_with fail
    rw [rounds_succ]
    go_wp2_with fail
    go_region
    have hkX : Kp (fun i => i = mk) w10 (setBlock (w10.alloc (.cells #[.int .u32 ((c.dig.length : Int) + 8), .int .u64 1, .slice (some ⟨w7.heap.size, 0, none⟩) (c.dig.length + 8) (c.dig.length + 8)] 287)).drew mk om) :=
      ((Kp.of_below (S := fun _ => False) (below_drew1 (below_boxed w10 _))).mono (S' := fun i => i = mk) (fun _ h => h.elim)).trans (kp_setBlk (w := (w10.alloc _).drew) om) (fun i h => .inl h)
    have hItF := hIt10.kp hkX (by omega) (by omega)
    have hgF := (hkX.block w7.heap.size hz10 (by omega)).trans hg10
    have caF := (hkX.cell (World.block_lt_of_cell? w10 _ ca10) ham).trans ca10
    have hkF : Kp (fun i => i = mk) w (setBlock (w10.alloc (.cells #[.int .u32 ((c.dig.length : Int) + 8), .int .u64 1, .slice (some ⟨w7.heap.size, 0, none⟩) (c.dig.length + 8) (c.dig.length + 8)] 287)).drew mk om) := (hkw.mono (S' := fun i => i = mk) (fun _ h => h.elim)).trans hkX (fun i h => .inl h)
    generalize setBlock (w10.alloc (.cells #[.int .u32 ((c.dig.length : Int) + 8), .int .u64 1, .slice (some ⟨w7.heap.size, 0, none⟩) (c.dig.length + 8) (c.dig.length + 8)] 287)).drew mk om = WF at *
    clear hkX hmu1 hblkX ca10 hg10 hIt10 hkw hmk10 hal10 hz10 hu32 hu32'
    go_wp2_with fail
    rw [rounds_succ]
    go_wp2_with (at_next; refine step_next_im rfl _ rfl rfl hItF (fun hp => later ?_) (fun p w11 hpm hdl hIt11 hK11 hs11 hen => later ?_))
    · refine now ?_
      go_wp2_with fail
      go_ret
      refine ⟨rfl, ⟨w7.heap.size, by have := HB.out.size; omega, ⟨caF, ?_, ?_⟩⟩, hkF⟩
      · have hi := HIM.out
        have hdv : (c.dig ++ Lib.leBytes 8 off).length = c.dig.length + 8 := by rw [List.length_append, le8_len]
        have hp : Sec.pair ⟨c.dig.length + 8, c.dig ++ Lib.leBytes 8 off, w7.heap.size⟩ = ((c.dig.length : Int) + 8, .agg #[.int .u32 ((c.dig.length : Int) + 8), .int .u64 1, .slice (some ⟨w7.heap.size, 0, none⟩) (c.dig.length + 8) (c.dig.length + 8)]) := by
          simp only [Sec.pair, Sec.val, hdv, Nat.div_self (show 0 < c.dig.length + 8 by omega)]
          rfl
        rw [List.map_cons, List.map_nil, hp]
        exact hi
      · intro s hs
        rw [List.mem_singleton] at hs
        subst hs
        exact hgF
    · exact absurd hdl (by simp)
end Go.Proofs.YtgdgmegpacmgnaaGreatDoor

/- index.New, index.WriteTo, impl.written of an index sorted by digests. -/
namespace Go.Proofs.YtgdgmegpacmgnaaGreatDoor
open Go.RowKit
set_option linter.unusedVariables false
set_option linter.unusedSimpArgs false
attribute [local go_sem] setCell_drewN alloc_drewN

set_option maxRecDepth 100000 in
set_option maxHeartbeats 800000 in
theorem New_sorted (w : World) :
    Calls Tryz.prog 22 #[.int .u64 1024] w fun e w' => e = .returned (.tuple #[.iface mwT (.pointer (some ⟨w.heap.size + 1, 0, none⟩)), .nilIface]) ∧ MwAt w' ⟨w.heap.size + 1, 0, none⟩ w.heap.size [] ∧ Below w.heap.size w w' := by
  go_enter Tryz.func22, Tryz.ntmps22
  go_wp2_with fail
  refine (newSorted_ok _).mono ?_
  rintro e w1 ⟨rfl, hM, hB⟩
  go_wp2_with fail
  go_ret2
  exact ⟨rfl, hM, hB⟩

theorem method_CodecM (v : Value) (w : World) : (method 463 mwT v "Codec").run Tryz.prog w = .ok (264, v) w := by kernel_rfl
theorem method_MarshalM (v : Value) (w : World) : (method 463 mwT v "Marshal").run Tryz.prog w = .ok (200, v) w := by kernel_rfl

set_option maxRecDepth 100000 in
theorem MwCodec_ok (a : Addr) (w : World) : Calls Tryz.prog 264 #[.pointer (some a)] w fun e w' => e = .returned (.int .u64 1024) ∧ w = w' := by
  go_enter Tryz.func264, Tryz.ntmps264
  go_wp2_with fail
  go_ret
  exact ⟨rfl, rfl⟩

theorem cut_hi (g hi n c : Nat) (hh : hi ≤ n) (hn : n ≤ c) (hne : 0 < c) (x : Int) (hx : x = hi) (W : World) :
    (Instr.slice 42 (.slice (some ⟨g, 0, none⟩) n c) none (some (.int .i64 x)) none).run Tryz.prog W = .ok (.slice (some ⟨g, 0, none⟩) hi c) W := by
  subst hx
  have hel : Tryz.prog.elem 42 = 5 := by kernel_rfl
  rw [run_slice_h W 42 (some ⟨g, 0, none⟩) n c (by rw [hel]; exact Tryz.underlying42) .i64 (hi : Int) (Int.natCast_nonneg _) (by omega), hel, u8_size]
  have hne' : ¬ c = 0 := by omega
  simp only [Result.andThen, sliced, Int.toNat_natCast, Nat.zero_mul, Option.map_some]
  simp only [hne', if_false, Addr.add_mid, Nat.sub_zero]

set_option maxRecDepth 100000 in
set_option maxHeartbeats 1600000 in
theorem WriteTo_sorted (B b mk most : Nat) (a : Addr) (secs : List Sec) (w : World) (hsort : SortsTo 214 .u32 103 most) (hmost : secs.length ≤ most) (h : BufAt w B b []) (hB : B ≤ w.heap.size) (hM : MwAt w a mk secs)
    (hab : a.block < B) (hmk : mk < B) (hgd : ∀ s ∈ secs, s.gd < B) (hw : ∀ s ∈ secs, s.width < 4294967296) (hlen : secs.length ≤ 1000000) (hlim : (secsBytes (sortedSecs secs)).length ≤ 1000000000000) :
    Calls Tryz.prog 13 #[.iface mwT (.pointer (some a)), .iface 55 (.pointer (some ⟨b, 0, none⟩))] w fun e w' =>
      (∃ n : Int, e = .returned (.tuple #[.int .u64 n, .nilIface])) ∧ BufAt w' B b (Lib.uvarint 1024 ++ mwBytes (sortedSecs secs)) ∧ WrK B b w w' := by
  have h1 := method_CodecM
  have h2 := method_MarshalM
  have h3 := method_bufWrite
  have h4 := ahead_bufWrite
  have hBb : B ≤ b := h.1
  have hbl := h.lt
  have hu : Lib.uvarint 1024 = [128, 8] := by rw [Lib.uvarint_big (by omega), Lib.uvarint_small (by omega)]; rfl
  have hmk10 := fun W => make8 10 10 rfl (by omega) W
  have hmf : ∀ (fn : Fn) (first cap : Array Value) (w : World), (Instr.makeFunc fn first cap).run Tryz.prog w = .ok (.func fn first cap) w := fun _ _ _ _ => rfl
  have hP := PutUvarint_ok w.heap.size 0 10 10 1024 (by omega) (zeros8 10) 5 (w.alloc (.cells (zeros8 10).toArray 5)) (heap_alloc_last w _) (by rw [hu]; decide) (by rw [hu, zeros8_length]; decide)
  rw [hu] at hP
  have hcut := fun W => cut_hi w.heap.size 2 10 10 (by omega) (by omega) (by omega) 2 rfl W
  go_enter Tryz.func13, Tryz.ntmps13
  go_wp2_with fail
  refine (MwCodec_ok a _).mono ?_
  rintro e w0 ⟨rfl, rfl⟩
  go_wp2_with fail
  refine hP.mono ?_
  clear hP
  rintro e w1 ⟨rfl, hg1, hb1⟩
  have hb1' := hb1 w.heap.size (Nat.le_refl _)
  have hbw : Below w.heap.size w w1 := (below_boxed w _).trans hb1'
  have hby : BytesAt w1 (some ⟨w.heap.size, 0, none⟩) [128, 8] := by
    refine .inr ⟨_, _, rfl, fun j x hj => ?_⟩
    rw [blk_cell' hg1]
    match j, hj with
    | 0, hj => cases hj; rfl
    | 1, hj => cases hj; rfl
  have hB1 := h.below hbw
  have hK1 : WrK B b w w1 := WrK.of_below hbw hB
  have hz1 := hbw.size
  have hWr := bufWrite_ok B b [] [128, 8] ⟨w.heap.size, 0, none⟩ 2 10 w1.drew (hB1.same rfl) (by show B ≤ w1.heap.size; omega) hby rfl (by show w.heap.size ≠ b; omega) (by decide)
  clear hg1 hb1 hb1' hbw h hby hmk10
  go_wp2_with fail
  refine wp_region_noPanic ?_
  go_region_with (go_at_call 168; refine hWr.mono ?_; rintro e w2 ⟨rfl, hB2, hK2⟩)
  all_goals
    refine NoPanic.normal ?_
    have hK2' : WrK B b w w2 := (hK1.drewN 1 : WrK B b w w1.drew).trans hK2
    have hM2 := hK2'.mw hM hab hmk hgd
    have hz2 := hK2'.bel.size
    have hMar := MwMarshal_ok B b mk most ([] ++ [128, 8]) a secs w2 hsort hmost hB2 (by omega) hM2 hab hmk hgd hw hlen (by show 2 + 4 + _ ≤ _; omega)
    clear hB2 hM2
    go_wp2_with fail
    refine hMar.mono ?_
    clear hMar
    rintro e w3 ⟨rfl, hB3, hK3⟩
    go_wp2_with fail
    go_ret2
    exact ⟨⟨_, rfl⟩, by rw [hu]; exact hB3, hK2'.trans hK3⟩

set_option maxRecDepth 100000 in
set_option maxHeartbeats 1600000 in
/-- An index, as it is written. -/
theorem written_sorted (mk most : Nat) (a : Addr) (secs : List Sec) (w : World) (hsort : SortsTo 214 .u32 103 most) (hmost : secs.length ≤ most) (hM : MwAt w a mk secs)
    (hw : ∀ s ∈ secs, s.width < 4294967296) (hlen : secs.length ≤ 1000000) (hlim : (secsBytes (sortedSecs secs)).length ≤ 1000000000000) :
    Calls Tryz.prog 45 #[.iface mwT (.pointer (some a)), .nilIface] w fun e w' => e = .returned (.tuple #[.string (sOf (Lib.uvarint 1024 ++ mwBytes (sortedSecs secs))), .bool true]) ∧ Below w.heap.size w w' := by
  have hal := World.block_lt_of_cell? w _ hM.cell
  have hmkl := hM.map.lt
  have hgl : ∀ s ∈ secs, s.gd < w.heap.size := fun s hs => (Array.getElem?_eq_some_iff.1 (hM.row s hs)).1
  have hb0 : Below w.heap.size w (w.alloc (.cells #[.slice none 0 0, .int .i64 0, .int .i8 0] 52)) := below_boxed w _
  have hW := WriteTo_sorted w.heap.size w.heap.size mk most a secs (w.alloc (.cells #[.slice none 0 0, .int .i64 0, .int .i8 0] 52)) hsort hmost (Lib.fresh_isBuffer 52 5 w) hb0.size (hM.kp (S := fun _ => False) (Kp.of_below hb0) id id (fun _ _ => id)) hal hmkl hgl hw hlen hlim
  clear hM
  go_enter Tryz.func45, Tryz.ntmps45
  go_wp2_with fail
  refine hW.mono ?_
  rintro e w1 ⟨⟨n, rfl⟩, hB1, hK1⟩
  go_wp2_with fail
  refine (Tryz.Buffer_String w.heap.size w.heap.size (Lib.uvarint 1024 ++ mwBytes (sortedSecs secs)) w1 hB1).mono ?_
  rintro e w2 ⟨rfl, m, rfl⟩
  go_wp2_with fail
  go_ret2
  exact ⟨rfl, below_drewn (hb0.trans hK1.bel) m⟩
end Go.Proofs.YtgdgmegpacmgnaaGreatDoor
