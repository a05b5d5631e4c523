import Derived.Test.YtgdgmegpacmgnaaGreatDoorG27
import Derived.Test.YtgdgmegpacmgnaaGreatDoorG06
import Derived.Test.YtgdgmegpacmgnaaGreatDoorG07
/- spec.ReadAnyIndex. -/
namespace Go.Proofs.YtgdgmegpacmgnaaGreatDoor
open Go.RowKit
set_option linter.unusedVariables false
set_option linter.unusedSimpArgs false
attribute [local go_sem] setCell_drewN alloc_drewN

set_option maxRecDepth 100000 in
set_option maxHeartbeats 6400000 in
theorem ReadAnyIndex_ok (t : List UInt8) (hl : t.length ≤ 1000000) (w : World) :
    Calls Tryz.prog 4 #[.string (sOf t)] w fun e w' => ∃ v, e = .returned v ∧ AnyV t v ∧ Below w.heap.size w w' := by
  have hss : (sOf t).size = t.length := rfl
  have hsd : (sOf t).data.toList = t := by simp [sOf]
  obtain ⟨w0, hw0⟩ : ∃ w0, w0 = w.alloc (.cells #[.int .u64 0, .slice none 0 0, .int .i64 0, .bool false, .bool false, .bool false] 25) := ⟨_, rfl⟩
  have hb0 : Below w.heap.size w w0 := by rw [hw0]; exact below_boxed w _
  have hz0 : w0.heap.size = w.heap.size + 1 := by rw [hw0]; simp
  have hres : w0.heap[w.heap.size]? = some (.cells #[.int .u64 0, .slice none 0 0, .int .i64 0, .bool false, .bool false, .bool false] 25 (0, 0)) := by rw [hw0]; exact heap_alloc_last w _
  rcases varint_cases t with ⟨n, u, ht, hn⟩ | hbad
  · have hRV := ReadVarint_ok n hn u (sOf t) (by rw [hsd]; exact ht) (by rw [hss]; exact hl) w0
    by_cases hk0 : n = 1024
    · subst hk0
      have HT := Lib.hid ht
      rw [uv1024] at ht hRV
      have hu : t.drop 2 = u := by rw [ht]; rfl
      have htl : t.length = 2 + u.length := by rw [ht]; simp; omega
      have hext : (sOf t).extract 2 (2 + u.length) = sOf u := by rw [← htl, sOf_drop, hu]
      clear ht hu hsd
      go_enter Tryz.func4, Tryz.ntmps4
      go_wp2_with fail
      rw [← hw0]
      clear hw0
      refine hRV.mono ?_
      clear hRV
      rintro e w1 ⟨rfl, rfl⟩
      go_upto_region 6 with fail
      obtain ⟨w2, hw2⟩ : ∃ w2, w2 = (w0.alloc (.cells #[.string (sOf u), .bool true, .bool true, .bool false] 34)).alloc (.cells #[.int .u64 1024, .slice none 0 0, .int .i64 0, .bool false, .bool false, .bool false] 25) := ⟨_, rfl⟩
      rw [← hw2]
      have hb2 : Below w.heap.size w w2 := by rw [hw2]; exact below_box (below_box hb0 _) _
      have hR2 : RdrAt w2 (w.heap.size + 1) ⟨u, true, true, false⟩ := by
        rw [hw2]
        refine (heap_alloc_old _ _ (by simp; omega)).trans ?_
        rw [← hz0]; exact heap_alloc_last w0 _
      have hO2 : w2.heap[w.heap.size + 1 + 1]? = some (.cells #[.int .u64 1024, .slice none 0 0, .int .i64 0, .bool false, .bool false, .bool false] 25 (0, 0)) := by
        rw [hw2]
        have h := heap_alloc_last (w0.alloc (.cells #[.string (sOf u), .bool true, .bool true, .bool false] 34)) (.cells #[.int .u64 1024, .slice none 0 0, .int .i64 0, .bool false, .bool false, .bool false] 25)
        rw [show (w0.alloc (.cells #[.string (sOf u), .bool true, .bool true, .bool false] 34)).heap.size = w.heap.size + 1 + 1 by simp; omega] at h
        exact h
      have hres2 : w2.heap[w.heap.size]? = some (.cells #[.int .u64 0, .slice none 0 0, .int .i64 0, .bool false, .bool false, .bool false] 25 (0, 0)) := by
        rw [hw2]
        exact (heap_alloc_old _ _ (by simp; omega)).trans ((heap_alloc_old _ _ (by omega)).trans hres)
      have hRows := rows_ok (w.heap.size + 1) 0 ⟨u, true, true, false⟩ w2 hR2 (by show u.length ≤ 1000000; omega)
      have hRd := reads_rows t u HT.out
      have hrl := rows_len ⟨u, true, true, false⟩
      generalize RSt.rows ⟨u, true, true, false⟩ = stF at *
      obtain ⟨sF, okF, ordF, leftF⟩ := stF
      have hrl : sF.length ≤ u.length := hrl
      have HRD := Lib.hid hRd
      clear hw2 hres hRd
      go_wp2_with fail
      refine hRows.mono ?_
      clear hRows
      rintro e w3 ⟨v, rfl, hv, hR3, hK3⟩
      obtain ⟨vp, vn, vc, rfl⟩ := hv.form
      have hz2 : w.heap.size + 1 + 1 < w2.heap.size := (Array.getElem?_eq_some_iff.1 hO2).1
      have hO3 := (hK3.block _ hz2 (by omega)).trans hO2
      have hres3 := (hK3.block _ (show w.heap.size < w2.heap.size by omega) (by omega)).trans hres2
      have hb3 : Below w.heap.size w w3 := hK3.to_below hb2 (fun i hi => by rw [hi]; omega)
      have k1 := blk_cell' hO3 1
      have f1 := blk_free' hO3 1
      clear hO2 hres2 hR2 hv
      go_upto_region 17 with fail
      obtain ⟨wX, hwX⟩ : ∃ wX, wX = w3.setCell ⟨w.heap.size + 1 + 1, 1, none⟩ (.slice vp vn vc) := ⟨_, rfl⟩
      rw [← hwX]
      have hkX := kp_set w3 ⟨w.heap.size + 1 + 1, 1, none⟩ (.slice vp vn vc)
      rw [← hwX] at hkX
      have hOX : wX.heap[w.heap.size + 1 + 1]? = some (.cells #[.int .u64 1024, .slice vp vn vc, .int .i64 0, .bool false, .bool false, .bool false] 25 (0, 0)) := by
        rw [hwX, setCell_eq_setRow w3 _ _ _ _ _ _ hO3, setRow_heap w3 _ _ _ _ _ hO3]; rfl
      have hresX := (hkX.block _ (Array.getElem?_eq_some_iff.1 hres3).1 (by show w.heap.size ≠ w.heap.size + 1 + 1; omega)).trans hres3
      have hRX : wX.heap[w.heap.size + 1]? = some (.cells #[.string (sOf sF), .bool okF, .bool ordF, .bool leftF] 34 (0, 0)) := (hkX.block _ (Array.getElem?_eq_some_iff.1 hR3).1 (by show w.heap.size + 1 ≠ w.heap.size + 1 + 1; omega)).trans hR3
      have hbX : Below w.heap.size w wX := hkX.to_below hb3 (fun i hi => by rw [hi]; show w.heap.size ≤ w.heap.size + 1 + 1; omega)
      have hsl : sF.length ≤ t.length := by omega
      clear hwX hkX hO3 hres3 hR3 hK3 hb3 k1 f1
      have c0 := (blk_cell' hRX 0).trans (show _ = some (Value.string (sOf sF)) from rfl)
      have c1 := (blk_cell' hRX 1).trans (show _ = some (Value.bool okF) from rfl)
      have c2 := (blk_cell' hRX 2).trans (show _ = some (Value.bool ordF) from rfl)
      have c3 := (blk_cell' hRX 3).trans (show _ = some (Value.bool leftF) from rfl)
      have o2 := (blk_cell' hOX 2).trans (show _ = some (Value.int .i64 0) from rfl)
      have o3 := (blk_cell' hOX 3).trans (show _ = some (Value.bool false) from rfl)
      have o4 := (blk_cell' hOX 4).trans (show _ = some (Value.bool false) from rfl)
      have o5 := (blk_cell' hOX 5).trans (show _ = some (Value.bool false) from rfl)
      have p2 := blk_free' hOX 2
      have p3 := blk_free' hOX 3
      have p4 := blk_free' hOX 4
      have p5 := blk_free' hOX 5
      have hss2 : (sOf sF).size = sF.length := rfl
      have hsub : IntKind.i64.wrap ((t.length : Int) - (sF.length : Int)) = (t.length : Int) - (sF.length : Int) := by rw [IntKind.wrap_i64]; omega
      have HTL := Lib.hid htl
      clear htl hext
      go_region
      obtain ⟨wY, hwY⟩ : ∃ wY, wY = ((((wX.setCell ⟨w.heap.size + 1 + 1, 2, none⟩ (.int .i64 ((t.length : Int) - (sF.length : Int)))).setCell ⟨w.heap.size + 1 + 1, 3, none⟩ (.bool okF)).setCell ⟨w.heap.size + 1 + 1, 4, none⟩ (.bool ordF)).setCell ⟨w.heap.size + 1 + 1, 5, none⟩ (.bool leftF)).drew := ⟨_, rfl⟩
      rw [← hwY]
      have hOY : wY.heap[w.heap.size + 1 + 1]? = some (.cells #[.int .u64 1024, .slice vp vn vc, .int .i64 ((t.length : Int) - (sF.length : Int)), .bool okF, .bool ordF, .bool leftF] 25 (0, 0)) := by
        rw [hwY]; exact row6_set4 hOX _ _ _ _
      have hkY : Kp (fun i => i = w.heap.size + 1 + 1) wX wY := by
        rw [hwY]
        exact (Kp.set (S := fun i => i = w.heap.size + 1 + 1) (Kp.set (S := fun i => i = w.heap.size + 1 + 1) (Kp.set (S := fun i => i = w.heap.size + 1 + 1) (Kp.set (S := fun i => i = w.heap.size + 1 + 1) (Kp.refl _ wX) (.inl rfl) _) (.inl rfl) _) (.inl rfl) _) (.inl rfl) _).drew
      have hresY := (hkY.block _ (Array.getElem?_eq_some_iff.1 hresX).1 (by omega)).trans hresX
      have hbY : Below w.heap.size w wY := hkY.to_below hbX (fun i hi => by rw [hi]; omega)
      clear hwY hkY hOX hresX hRX hbX c0 c1 c2 c3 o2 o3 o4 o5 p2 p3 p4 p5 hss2 hsub
      have y0 := (blk_cell' hOY 0).trans (show _ = some (Value.int .u64 1024) from rfl)
      have y1 := (blk_cell' hOY 1).trans (show _ = some (Value.slice vp vn vc) from rfl)
      have y2 := (blk_cell' hOY 2).trans (show _ = some (Value.int .i64 ((t.length : Int) - (sF.length : Int))) from rfl)
      have y3 := (blk_cell' hOY 3).trans (show _ = some (Value.bool okF) from rfl)
      have y4 := (blk_cell' hOY 4).trans (show _ = some (Value.bool ordF) from rfl)
      have y5 := (blk_cell' hOY 5).trans (show _ = some (Value.bool leftF) from rfl)
      have k0 := (blk_cell' hresY 0).trans (show _ = some (Value.int .u64 0) from rfl)
      have k1 := (blk_cell' hresY 1).trans (show _ = some (Value.slice none 0 0) from rfl)
      have k2 := (blk_cell' hresY 2).trans (show _ = some (Value.int .i64 0) from rfl)
      have k3 := (blk_cell' hresY 3).trans (show _ = some (Value.bool false) from rfl)
      have k4 := (blk_cell' hresY 4).trans (show _ = some (Value.bool false) from rfl)
      have k5 := (blk_cell' hresY 5).trans (show _ = some (Value.bool false) from rfl)
      have f0 := blk_free' hresY 0
      have f1 := blk_free' hresY 1
      have f2 := blk_free' hresY 2
      have f3 := blk_free' hresY 3
      have f4 := blk_free' hresY 4
      have f5 := blk_free' hresY 5
      go_wp2_with fail
      have hset := row6_set hresY (.int .u64 1024) (.slice vp vn vc) (.int .i64 ((t.length : Int) - (sF.length : Int))) (.bool okF) (.bool ordF) (.bool leftF)
      generalize hW : ((((((wY.setCell ⟨w.heap.size, 0, none⟩ (.int .u64 1024)).setCell ⟨w.heap.size, 1, none⟩ (.slice vp vn vc)).setCell ⟨w.heap.size, 2, none⟩ (.int .i64 ((t.length : Int) - (sF.length : Int)))).setCell ⟨w.heap.size, 3, none⟩ (.bool okF)).setCell ⟨w.heap.size, 4, none⟩ (.bool ordF)).setCell ⟨w.heap.size, 5, none⟩ (.bool leftF)) = W at hset ⊢
      have hbW : Below w.heap.size w W := by rw [← hW]; (repeat (first | (with_reducible exact Below.refl _ _) | (with_reducible exact below_boxed _ _) | (with_reducible refine below_box ?_ _) | (with_reducible refine below_drew1 ?_) | (with_reducible refine below_drewn ?_ _) | (with_reducible refine below_bytes ?_ _ _) | (with_reducible refine below_next ?_ (by assumption)) | (with_reducible refine below_set ?_ (by first | (simp; done) | (simp; omega) | omega) _)))
      clear hW k0 k1 k2 k3 k4 k5 f0 f1 f2 f3 f4 f5 y0 y1 y2 y3 y4 y5
      have k0 := blk_cell' hset 0
      have k1 := blk_cell' hset 1
      have k2 := blk_cell' hset 2
      have k3 := blk_cell' hset 3
      have k4 := blk_cell' hset 4
      have k5 := blk_cell' hset 5
      refine bodyPost_ret (v := .agg #[.int .u64 1024, .slice vp vn vc, .int .i64 ((t.length : Int) - (sF.length : Int)), .bool okF, .bool ordF, .bool leftF]) (by simp [results, Tryz.results4, go_sem, k0, k1, k2, k3, k4, k5]) rfl ?_
      exact ⟨_, rfl, ⟨1024, _, _, _, t.length - sF.length, okF, ordF, leftF, by rw [show ((t.length - sF.length : Nat) : Int) = (t.length : Int) - (sF.length : Int) by omega], HRD.out⟩, hbW⟩
    · by_cases hk1 : n = 1025
      · subst hk1
        exact ReadAnyIndex_mh t u hl ht w
      · have hk0' : ((n : Int) != 1024) = true := bne_iff_ne.2 (by omega)
        have hk1' : ((n : Int) != 1025) = true := bne_iff_ne.2 (by omega)
        have HT := Lib.hid ht
        clear ht hsd
        have k0 := (blk_cell' hres 0).trans (show _ = some (Value.int .u64 0) from rfl)
        have k1 := (blk_cell' hres 1).trans (show _ = some (Value.slice none 0 0) from rfl)
        have k2 := (blk_cell' hres 2).trans (show _ = some (Value.int .i64 0) from rfl)
        have k3 := (blk_cell' hres 3).trans (show _ = some (Value.bool false) from rfl)
        have k4 := (blk_cell' hres 4).trans (show _ = some (Value.bool false) from rfl)
        have k5 := (blk_cell' hres 5).trans (show _ = some (Value.bool false) from rfl)
        have f0 := blk_free' hres 0
        have f1 := blk_free' hres 1
        have f2 := blk_free' hres 2
        have f3 := blk_free' hres 3
        have f4 := blk_free' hres 4
        have f5 := blk_free' hres 5
        go_enter Tryz.func4, Tryz.ntmps4
        go_wp2_with fail
        rw [← hw0]
        clear hw0
        refine hRV.mono ?_
        clear hRV
        rintro e w1 ⟨rfl, rfl⟩
        go_wp2_with fail
        have hset := row6_set hres (.int .u64 0) (.slice none 0 0) (.int .i64 0) (.bool false) (.bool false) (.bool false)
        have hbs := hb0
        generalize hW : ((((((w0.setCell { block := w.heap.size, off := 0 } (Value.int IntKind.u64 0)).setCell { block := w.heap.size, off := 1 } (Value.slice none 0 0)).setCell { block := w.heap.size, off := 2 } (Value.int IntKind.i64 0)).setCell { block := w.heap.size, off := 3 } (Value.bool false)).setCell { block := w.heap.size, off := 4 } (Value.bool false)).setCell { block := w.heap.size, off := 5 } (Value.bool false)) = W at hset ⊢
        have hbW : Below w.heap.size w W := by rw [← hW]; (repeat (first | (with_reducible exact Below.refl _ _) | (with_reducible exact below_boxed _ _) | (with_reducible refine below_box ?_ _) | (with_reducible refine below_drew1 ?_) | (with_reducible refine below_drewn ?_ _) | (with_reducible refine below_bytes ?_ _ _) | (with_reducible refine below_next ?_ (by assumption)) | (with_reducible refine below_set ?_ (by first | (simp; done) | (simp; omega) | omega) _)))
        clear hW k0 k1 k2 k3 k4 k5 f0 f1 f2 f3 f4 f5
        have k0 := blk_cell' hset 0
        have k1 := blk_cell' hset 1
        have k2 := blk_cell' hset 2
        have k3 := blk_cell' hset 3
        have k4 := blk_cell' hset 4
        have k5 := blk_cell' hset 5
        refine bodyPost_ret (v := .agg #[.int .u64 0, .slice none 0 0, .int .i64 0, .bool false, .bool false, .bool false]) (by simp [results, Tryz.results4, go_sem, k0, k1, k2, k3, k4, k5]) rfl ?_
        exact ⟨_, rfl, ⟨_, _, _, _, 0, _, _, _, rfl, .inr (.inl ⟨rfl, rfl, .inr (.inl ⟨n, u, HT.out, hn, hk0, hk1⟩)⟩)⟩, hbW⟩
  · have hRV := ReadVarint_bad (sOf t) (by rw [hsd]; exact hbad) (by rw [hss]; exact hl) w0
    have k0 := (blk_cell' hres 0).trans (show _ = some (Value.int .u64 0) from rfl)
    have k1 := (blk_cell' hres 1).trans (show _ = some (Value.slice none 0 0) from rfl)
    have k2 := (blk_cell' hres 2).trans (show _ = some (Value.int .i64 0) from rfl)
    have k3 := (blk_cell' hres 3).trans (show _ = some (Value.bool false) from rfl)
    have k4 := (blk_cell' hres 4).trans (show _ = some (Value.bool false) from rfl)
    have k5 := (blk_cell' hres 5).trans (show _ = some (Value.bool false) from rfl)
    have f0 := blk_free' hres 0
    have f1 := blk_free' hres 1
    have f2 := blk_free' hres 2
    have f3 := blk_free' hres 3
    have f4 := blk_free' hres 4
    have f5 := blk_free' hres 5
    go_enter Tryz.func4, Tryz.ntmps4
    go_wp2_with fail
    rw [← hw0]
    clear hw0
    refine hRV.mono ?_
    clear hRV
    rintro e w1 ⟨⟨y, rfl, hy⟩, rfl⟩
    have hyi : ((y : Int) == 0) = false := beq_eq_false_iff_ne.2 (by omega)
    go_wp2_with fail
    have hset := row6_set hres (.int .u64 0) (.slice none 0 0) (.int .i64 0) (.bool false) (.bool false) (.bool false)
    have hbs := hb0
    generalize hW : ((((((w0.setCell { block := w.heap.size, off := 0 } (Value.int IntKind.u64 0)).setCell { block := w.heap.size, off := 1 } (Value.slice none 0 0)).setCell { block := w.heap.size, off := 2 } (Value.int IntKind.i64 0)).setCell { block := w.heap.size, off := 3 } (Value.bool false)).setCell { block := w.heap.size, off := 4 } (Value.bool false)).setCell { block := w.heap.size, off := 5 } (Value.bool false)) = W at hset ⊢
    have hbW : Below w.heap.size w W := by rw [← hW]; (repeat (first | (with_reducible exact Below.refl _ _) | (with_reducible exact below_boxed _ _) | (with_reducible refine below_box ?_ _) | (with_reducible refine below_drew1 ?_) | (with_reducible refine below_drewn ?_ _) | (with_reducible refine below_bytes ?_ _ _) | (with_reducible refine below_next ?_ (by assumption)) | (with_reducible refine below_set ?_ (by first | (simp; done) | (simp; omega) | omega) _)))
    clear hW k0 k1 k2 k3 k4 k5 f0 f1 f2 f3 f4 f5
    have k0 := blk_cell' hset 0
    have k1 := blk_cell' hset 1
    have k2 := blk_cell' hset 2
    have k3 := blk_cell' hset 3
    have k4 := blk_cell' hset 4
    have k5 := blk_cell' hset 5
    refine bodyPost_ret (v := .agg #[.int .u64 0, .slice none 0 0, .int .i64 0, .bool false, .bool false, .bool false]) (by simp [results, Tryz.results4, go_sem, k0, k1, k2, k3, k4, k5]) rfl ?_
    exact ⟨_, rfl, ⟨_, _, _, _, 0, _, _, _, rfl, .inr (.inl ⟨rfl, rfl, .inl hbad⟩)⟩, hbW⟩
end Go.Proofs.YtgdgmegpacmgnaaGreatDoor

/- impl.IxAgain of whole indexes. -/
namespace Go.Proofs.YtgdgmegpacmgnaaGreatDoor
open Go.RowKit
set_option linter.unusedVariables false
set_option linter.unusedSimpArgs false
attribute [local go_sem] setCell_drewN alloc_drewN

set_option maxRecDepth 100000 in
set_option maxHeartbeats 800000 in
theorem Len_ok (b : Nat) (A : Option Addr) (cap : Nat) (bs : List UInt8) (pos : Nat) (w : World) (h : RdAt w b A cap bs pos) :
    Calls Tryz.prog 14 #[.pointer (some ⟨b, 0, none⟩)] w fun e w' => e = .returned (.int .i64 ((bs.length - pos : Nat) : Int)) ∧ ∃ m, w' = w.drewN m := by
  obtain ⟨⟨pr, hp⟩, hr, h1, h2, h3, h4⟩ := h
  have c0 := (blk_cell' hp 0).trans (show _ = some (Value.slice A bs.length cap) from rfl)
  have c1 := (blk_cell' hp 1).trans (show _ = some (Value.int .i64 (pos : Int)) from rfl)
  by_cases h0 : pos = bs.length
  · subst h0
    have e0 : ((bs.length - bs.length : Nat) : Int) = 0 := by omega
    rw [e0]
    go_enter Tryz.func14, Tryz.ntmps14
    go_wp2_with fail
    go_region
    go_wp2_with fail
    go_ret
    exact ⟨rfl, 1, rfl⟩
  · have hlt : ¬ ((bs.length : Int) ≤ (pos : Int)) := by omega
    have e0 : ((bs.length - pos : Nat) : Int) = (bs.length : Int) - (pos : Int) := by omega
    have hbig : (bs.length : Int) ≤ 1099511627776 := by omega
    have hw : IntKind.i64.wrap ((bs.length : Int) - (pos : Int)) = (bs.length : Int) - (pos : Int) := by rw [IntKind.wrap_i64]; omega
    rw [e0]
    go_enter Tryz.func14, Tryz.ntmps14
    go_wp2_with fail
    go_region
    go_wp2_with fail
    go_region
    go_wp2_with fail
    go_ret
    exact ⟨rfl, 2, rfl⟩

theorem RdAt.same {w w' : World} {b : Nat} {A : Option Addr} {cap : Nat} {bs : List UInt8} {pos : Nat} (h : RdAt w b A cap bs pos) (hA : ∀ g o, A = some ⟨g, o, none⟩ → g < w.heap.size) (hk : ∀ i, i < w.heap.size → w'.heap[i]? = w.heap[i]?) : RdAt w' b A cap bs pos :=
  ⟨by obtain ⟨pr, hp⟩ := h.blk; exact ⟨pr, (hk b (Array.getElem?_eq_some_iff.1 hp).1).trans hp⟩,
   by rcases h.row with hr | ⟨g, o, e, hc⟩
      · exact .inl hr
      · refine .inr ⟨g, o, e, fun j x hj => ?_⟩
        rw [World.cell?_of_block (w := w) (a := ⟨g, o + j, none⟩) (hk g (hA g o e))]
        exact hc j x hj,
   h.le, h.cap, h.big, h.ne⟩

set_option maxRecDepth 100000 in
set_option maxHeartbeats 1600000 in
theorem IxAgain_sorted (s : ByteArray) (ss : List (Nat × List UInt8)) (rest : List UInt8) (hs : s.data.toList = Lib.uvarint 1024 ++ (mwBytes ss ++ rest)) (hok : MwOk ss) (hl : s.size ≤ 1000000) (w : World) :
    Calls Tryz.prog 5 #[.string s] w fun e w' => (∃ x : List UInt8, e = .returned (.tuple #[.int .i64 ((2 + (mwBytes ss).length : Nat) : Int), .string (sOf x), .bool true]) ∧ ((ss.map (·.1)).Pairwise (· < ·) → x = Lib.uvarint 1024 ++ mwBytes ss)) ∧ Below w.heap.size w w' := by
  have hsz : s.size = s.data.toList.length := by rw [Array.length_toList]; rfl
  generalize hS : s.data.toList = bs at *
  have HS := Lib.hid hS; clear hS
  have HZ := Lib.hid hsz
  have hl' : bs.length ≤ 1000000 := by omega
  have hlen : 2 + (mwBytes ss).length ≤ bs.length := by rw [hs, uv1024]; simp; omega
  have hmwl : (mwBytes ss).length = 4 + (secsBytes ss).length := by simp only [mwBytes, List.length_append, le4_len]
  have hsl := secsBytes_len ss
  clear hl hsz
  have HB := Lib.hid hs; clear hs
  have HOK := Lib.hid hok; clear hok
  go_enter Tryz.func5, Tryz.ntmps5
  go_wp2_with (with_reducible refine conv_event rfl (.tmp 9) 9 42 5 rfl Tryz.underlying9 Tryz.underlying42 Tryz.underlying5 s rfl ?_)
  intro g0 cap0 w0 hg0 hcap0 hb0 hA0 hB0
  subst hg0
  rw [HS.out] at hA0
  have hgz : w.heap.size < w0.heap.size := by
    obtain ⟨cs, fr, h⟩ := hB0 _ rfl
    exact (Array.getElem?_eq_some_iff.1 h).1
  rw [HZ.out] at hcap0
  rw [HZ.out]
  refine later ?_
  refine now ?_
  go_wp2_with fail
  refine (NewReader_ok _ cap0 bs w0 hA0 hcap0 (by omega) (fun g o e => by cases e; exact hgz)).mono ?_
  rintro e w1 ⟨rfl, hR, hB1⟩
  have hbw1 := below_next hb0 hB1
  have hz1 := hB1.size
  have hRF := ReadFrom_sorted w0.heap.size _ cap0 bs ss rest (fun x hx => ⟨(HOK.out.1 x hx).1, (HOK.out.1 x hx).2.1⟩) HOK.out.2 w1 (by omega) hR HB.out (fun g o e => by cases e; omega)
  have hR1l := hR.blt
  clear hR hA0 hB0 hB1
  go_wp2_with fail
  refine hRF.mono ?_
  clear hRF
  rintro e w2 ⟨a, mk, secs, rfl, hR2, hs2, hM2, hg2, ha, hmk, hK2⟩
  have hbw2 : Below w.heap.size w w2 := hK2.to_below hbw1 (fun i hi => by rw [hi]; exact hb0.size)
  have hz2 := hK2.size
  have hal := World.block_lt_of_cell? w2 _ hM2.cell
  have hmkl := hM2.map.lt
  have hgl : ∀ s ∈ secs, s.gd < w2.heap.size := fun s hs => (Array.getElem?_eq_some_iff.1 (hM2.row s hs)).1
  have hsw : ∀ s ∈ secs, s.width < 4294967296 := fun s hx => by
    have := (HOK.out.1 s.two (by rw [← hs2]; exact List.mem_map.2 ⟨s, hx, rfl⟩)).2.1
    simp only [Sec.two] at this; omega
  have hsl2 : secs.length = ss.length := by rw [← hs2, List.length_map]
  have hsb : (secsBytes (sortedSecs secs)).length = (secsBytes ss).length := by rw [sortedSecs_bytes hM2.nodup, hs2]
  have hbu : Below w2.heap.size w2 (w2.alloc (.cells #[.slice none 0 0, .int .i64 0, .int .i8 0] 52)) := below_boxed w2 _
  have hW := WriteTo_sorted w2.heap.size w2.heap.size mk 1000000 a secs (w2.alloc (.cells #[.slice none 0 0, .int .i64 0, .int .i8 0] 52)) bigSort_32 (by omega) (Lib.fresh_isBuffer 52 5 w2) hbu.size (hM2.kp (S := fun _ => False) (Kp.of_below hbu) id id (fun _ _ => id)) hal hmkl hgl hsw (by omega) (by omega)
  have HR2 := Lib.hid hR2
  have HX : Hid ((ss.map (·.1)).Pairwise (· < ·) → Lib.uvarint 1024 ++ mwBytes (sortedSecs secs) = Lib.uvarint 1024 ++ mwBytes ss) := Lib.hid (fun h => by rw [sortedSecs_inc (by rw [hs2]; exact h), hs2])
  clear hM2 hgl hsw hs2 hg2 hsb hR2
  go_wp2_with fail
  refine hW.mono ?_
  clear hW
  rintro e w3 ⟨⟨n, rfl⟩, hB3, hK3⟩
  have hR3 : RdAt w3 w0.heap.size (some ⟨w.heap.size, 0, none⟩) cap0 bs (2 + (mwBytes ss).length) := HR2.out.same (fun g o e => by cases e; omega) (fun i hi => (hK3.bel.block i hi).trans (heap_alloc_old w2 _ hi))
  have hbw3 : Below w.heap.size w w3 := below_next hbw2 (hbu.trans hK3.bel)
  have hLn := Len_ok w0.heap.size _ cap0 bs (2 + (mwBytes ss).length) w3.drew hR3.drew
  have hSt := fun m4 => Tryz.Buffer_String w2.heap.size w2.heap.size (Lib.uvarint 1024 ++ mwBytes (sortedSecs secs)) (w3.drewN m4) (hB3.same rfl)
  have hcs : ((bs.length - (2 + (mwBytes ss).length) : Nat) : Int) = (bs.length : Int) - ((2 + (mwBytes ss).length : Nat) : Int) := by omega
  obtain ⟨k, hk⟩ : ∃ k, k = 2 + (mwBytes ss).length := ⟨_, rfl⟩
  rw [← hk] at hLn hcs
  rw [hcs] at hLn
  have hkl : k ≤ bs.length := by omega
  have hwr : IntKind.i64.wrap ((s.size : Int) - ((bs.length : Int) - (k : Int))) = (k : Int) := by rw [HZ.out, IntKind.wrap_i64]; omega
  have HK := Lib.hid hk
  clear hR3 hcs hk hK3
  go_wp2_with fail
  refine wp_region_noPanic ?_
  go_region_with (first | (go_at_call 14; refine hLn.mono ?_; rintro e w4 ⟨rfl, m4, rfl⟩) | (go_at_call 15; refine (hSt _).mono ?_; rintro e w5 ⟨rfl, m5, rfl⟩))
  refine NoPanic.normal ?_
  go_wp2_with fail
  go_ret3
  exact ⟨⟨Lib.uvarint 1024 ++ mwBytes (sortedSecs secs), by rw [← HK.out]; rfl, HX.out⟩, below_drewn hbw3 _⟩
theorem cods_mem_le {p : Nat × List (Nat × List UInt8)} : ∀ {ss : List (Nat × List (Nat × List UInt8))}, p ∈ ss → (codBytes p).length ≤ (codsBytes ss).length := by
  intro ss
  induction ss with
  | nil => intro h; cases h
  | cons x l ih =>
    intro h
    rw [codsBytes_cons, List.length_append]
    rcases List.mem_cons.1 h with rfl | h
    · omega
    · have := ih h; omega
theorem codBytes_secs (p : Nat × List (Nat × List UInt8)) : 12 * p.2.length ≤ (codBytes p).length := by
  have := secsBytes_len p.2
  simp only [codBytes, mwBytes, List.length_append, le4_len, le8_len]; omega

set_option maxRecDepth 100000 in
set_option maxHeartbeats 1600000 in
theorem IxAgain_mh (s : ByteArray) (ss : List (Nat × List (Nat × List UInt8))) (rest : List UInt8) (hs : s.data.toList = Lib.uvarint 1025 ++ (mhBytes ss ++ rest)) (hok : MhOk ss) (hl : s.size ≤ 1000000) (w : World) :
    Calls Tryz.prog 5 #[.string s] w fun e w' => (∃ x : List UInt8, e = .returned (.tuple #[.int .i64 ((2 + (mhBytes ss).length : Nat) : Int), .string (sOf x), .bool true]) ∧ ((ss.map (·.1)).Pairwise (· < ·) ∧ (∀ c ∈ ss, (c.2.map (·.1)).Pairwise (· < ·)) → x = Lib.uvarint 1025 ++ mhBytes ss)) ∧ Below w.heap.size w w' := by
  have hsz : s.size = s.data.toList.length := by rw [Array.length_toList]; rfl
  generalize hS : s.data.toList = bs at *
  have HS := Lib.hid hS; clear hS
  have HZ := Lib.hid hsz
  have hl' : bs.length ≤ 1000000 := by omega
  have hlen : 2 + (mhBytes ss).length ≤ bs.length := by rw [hs, uv1025]; simp; omega
  have hmwl : (mhBytes ss).length = 4 + (codsBytes ss).length := by simp only [mhBytes, List.length_append, le4_len]
  have hsl := codsBytes_len ss
  clear hl hsz
  have HB := Lib.hid hs; clear hs
  have HOK := Lib.hid hok; clear hok
  go_enter Tryz.func5, Tryz.ntmps5
  go_wp2_with (with_reducible refine conv_event rfl (.tmp 9) 9 42 5 rfl Tryz.underlying9 Tryz.underlying42 Tryz.underlying5 s rfl ?_)
  intro g0 cap0 w0 hg0 hcap0 hb0 hA0 hB0
  subst hg0
  rw [HS.out] at hA0
  have hgz : w.heap.size < w0.heap.size := by
    obtain ⟨cs, fr, h⟩ := hB0 _ rfl
    exact (Array.getElem?_eq_some_iff.1 h).1
  rw [HZ.out] at hcap0
  rw [HZ.out]
  refine later ?_
  refine now ?_
  go_wp2_with fail
  refine (NewReader_ok _ cap0 bs w0 hA0 hcap0 (by omega) (fun g o e => by cases e; exact hgz)).mono ?_
  rintro e w1 ⟨rfl, hR, hB1⟩
  have hbw1 := below_next hb0 hB1
  have hz1 := hB1.size
  have hRF := ReadFrom_mh w0.heap.size _ cap0 bs ss rest (fun c hc => ⟨(HOK.out.1 c hc).1, fun s hs => ⟨((HOK.out.1 c hc).2.1.1 s hs).1, ((HOK.out.1 c hc).2.1.1 s hs).2.1⟩, (HOK.out.1 c hc).2.1.2⟩) HOK.out.2 w1 (by omega) hR HB.out (fun g o e => by cases e; omega)
  have hR1l := hR.blt
  clear hR hA0 hB0 hB1
  go_wp2_with fail
  refine hRF.mono ?_
  clear hRF
  rintro e w2 ⟨a, mk, cs, rfl, hR2, hs2, hM2, hg2, ha, hmk, hK2⟩
  have hbw2 : Below w.heap.size w w2 := hK2.to_below hbw1 (fun i hi => by rw [hi]; exact hb0.size)
  have hz2 := hK2.size
  have hal := World.block_lt_of_cell? w2 _ hM2.cell
  have hmkl := hM2.map.lt
  have hgl : ∀ c ∈ cs, c.Under w2.heap.size := fun c hc => Cod.Above.lt (hM2.row c hc)
  have hsw : ∀ c ∈ cs, c.code < 18446744073709551616 ∧ c.secs.length ≤ 1000000 ∧ c.secs.length ≤ 1000000 ∧ ∀ s ∈ c.secs, s.width < 4294967296 := fun c hc => by
    have hm : c.two ∈ ss := by rw [← hs2]; exact List.mem_map.2 ⟨c, hc, rfl⟩
    have h1 := HOK.out.1 c.two hm
    have h2 := cods_mem_le hm
    have h3 := codBytes_secs c.two
    have h4 : c.two.2.length = c.secs.length := by simp [Cod.two]
    refine ⟨h1.1, by omega, by omega, fun s hs => ?_⟩
    have := (h1.2.1.1 s.two (List.mem_map.2 ⟨s, hs, rfl⟩)).2.1
    simp only [Sec.two] at this; omega
  have hsl2 : cs.length = ss.length := by rw [← hs2, List.length_map]
  have hsb : (codsBytes (sortedCods cs)).length = (codsBytes ss).length := by rw [sortedCods_bytes hM2.nodup (fun c hc => (hM2.row c hc).mw.nodup), hs2]
  have hbu : Below w2.heap.size w2 (w2.alloc (.cells #[.slice none 0 0, .int .i64 0, .int .i8 0] 52)) := below_boxed w2 _
  have hW := WriteTo_mh w2.heap.size w2.heap.size mk 1000000 ⟨a, 0, none⟩ cs (w2.alloc (.cells #[.slice none 0 0, .int .i64 0, .int .i8 0] 52)) bigSort_32 bigSort_64 (by omega) (Lib.fresh_isBuffer 52 5 w2) hbu.size (hM2.kp (S := fun _ => False) (Kp.of_below hbu) id id (fun _ _ => ⟨id, id, fun _ _ => id⟩)) hal hmkl hgl hsw (by omega) (by omega)
  have HR2 := Lib.hid hR2
  have HX : Hid ((ss.map (·.1)).Pairwise (· < ·) ∧ (∀ c ∈ ss, (c.2.map (·.1)).Pairwise (· < ·)) → Lib.uvarint 1025 ++ (Lib.leBytes 4 cs.length ++ codsBytes (sortedCods cs)) = Lib.uvarint 1025 ++ mhBytes ss) := Lib.hid (fun h => by rw [sortedCods_inc (by rw [hs2]; exact h.1) (by rw [hs2]; exact h.2), hs2, hsl2]; rfl)
  clear hM2 hgl hsw hs2 hg2 hsb hR2 hsl2
  go_wp2_with fail
  refine hW.mono ?_
  clear hW
  rintro e w3 ⟨⟨n, rfl⟩, hB3, hK3⟩
  have hR3 : RdAt w3 w0.heap.size (some ⟨w.heap.size, 0, none⟩) cap0 bs (2 + (mhBytes ss).length) := HR2.out.same (fun g o e => by cases e; omega) (fun i hi => (hK3.bel.block i hi).trans (heap_alloc_old w2 _ hi))
  have hbw3 : Below w.heap.size w w3 := below_next hbw2 (hbu.trans hK3.bel)
  have hLn := Len_ok w0.heap.size _ cap0 bs (2 + (mhBytes ss).length) w3.drew hR3.drew
  have hSt := fun m4 => Tryz.Buffer_String w2.heap.size w2.heap.size (Lib.uvarint 1025 ++ (Lib.leBytes 4 cs.length ++ codsBytes (sortedCods cs))) (w3.drewN m4) (hB3.same rfl)
  have hcs : ((bs.length - (2 + (mhBytes ss).length) : Nat) : Int) = (bs.length : Int) - ((2 + (mhBytes ss).length : Nat) : Int) := by omega
  obtain ⟨k, hk⟩ : ∃ k, k = 2 + (mhBytes ss).length := ⟨_, rfl⟩
  rw [← hk] at hLn hcs
  rw [hcs] at hLn
  have hkl : k ≤ bs.length := by omega
  have hwr : IntKind.i64.wrap ((s.size : Int) - ((bs.length : Int) - (k : Int))) = (k : Int) := by rw [HZ.out, IntKind.wrap_i64]; omega
  have HK := Lib.hid hk
  clear hR3 hcs hk hK3
  go_wp2_with fail
  refine wp_region_noPanic ?_
  go_region_with (first | (go_at_call 14; refine hLn.mono ?_; rintro e w4 ⟨rfl, m4, rfl⟩) | (go_at_call 15; refine (hSt _).mono ?_; rintro e w5 ⟨rfl, m5, rfl⟩))
  refine NoPanic.normal ?_
  go_wp2_with fail
  go_ret3
  exact ⟨⟨Lib.uvarint 1025 ++ (Lib.leBytes 4 cs.length ++ codsBytes (sortedCods cs)), by rw [← HK.out]; rfl, HX.out⟩, below_drewn hbw3 _⟩
end Go.Proofs.YtgdgmegpacmgnaaGreatDoor

/- MultihashIndexSorted.Load of one record. -/
namespace Go.Proofs.YtgdgmegpacmgnaaGreatDoor
open Go.RowKit
set_option linter.unusedVariables false
set_option linter.unusedSimpArgs false
attribute [local go_sem] setCell_drewN alloc_drewN

theorem info_recC : (Tryz.prog.info? 116).map (fun i => (i.zero, i.size, i.bytes)) = some (some (.agg #[.string ⟨#[]⟩, .int .u64 0]), 2, 24) := by kernel_rfl
theorem byCodeZero (W : World) : (zeroValue 110).run Tryz.prog W = .ok (.slice none 0 0) W := by kernel_rfl
theorem makeRecsC (W : World) : (Instr.makeSlice 110 (.int .i64 0) (.int .i64 0)).run Tryz.prog W = .ok (.slice (some ⟨W.heap.size, 0, none⟩) 0 0) (W.alloc (.cells #[] 116)) := by
  obtain ⟨i0, hi, hz0, hz1, hz2⟩ := info_parts info_recC
  have h := run_make (P := Tryz.prog) W 110 116 i0 _ Tryz.underlying110 hi hz0 .i64 .i64 0 0 (by omega) (by omega) (by omega) (by omega)
  rw [hz1] at h
  simp only [Int.toNat_zero, Nat.zero_mul] at h
  rw [h, show madeCells (Value.agg #[.string ⟨#[]⟩, .int .u64 0]).cells 0 = #[] from Array.eq_empty_of_size_eq_zero (size_madeCells _ _)]

set_option maxRecDepth 100000 in
set_option maxHeartbeats 6400000 in
theorem MhLoad_one (a : Addr) (mk gr cap off : Nat) (c : CidOf) (hc : c.Ok) (hd : 0 < c.dig.length) (hoff : off < 18446744073709551616) (w : World) (hM : MhAt w a mk []) (ham : a.block ≠ mk) (r0 : w.cell? ⟨gr, 0, none⟩ = some (.string c.str)) (r1 : w.cell? ⟨gr, 1, none⟩ = some (.int .u64 (off : Int))) :
    Calls Tryz.prog 177 #[.pointer (some a), .slice (some ⟨gr, 0, none⟩) 1 cap] w fun e w' =>
      e = .returned .nilIface ∧ (∃ cb mb gd, w.heap.size ≤ cb ∧ w.heap.size ≤ mb ∧ w.heap.size ≤ gd ∧ MhAt w' a mk [⟨c.code, cb, mb, [⟨c.dig.length + 8, c.dig ++ Lib.leBytes 8 off, gd⟩]⟩]) ∧ Kp (fun i => i = mk) w w' := by
  have hmm := @run_makeMap Tryz.prog
  obtain ⟨i0, ti, tz0, tz1, tz2⟩ := info_parts info_recC
  have hdl := hc.dig
  have hgr : gr < w.heap.size := World.block_lt_of_cell? w _ r0
  have hal := World.block_lt_of_cell? w _ hM.cell
  have hmkl := hM.map.lt
  go_enter Tryz.func177, Tryz.ntmps177
  go_wp2_with fail
  refine wp_loop_rounds 2 ?_
  rw [rounds_succ]
  go_wp2_with fail
  refine (Hash_ok c hc _).mono ?_
  rintro e w1 ⟨A1, c1, rfl, hc1, hA1, hB1, hF1, hb1⟩
  go_wp2_with fail
  refine (Decode_ok c.code hc.code c.dig (by omega) A1 _ c1 _ hA1 rfl hc1).mono ?_
  rintro e w2 ⟨g, A2, c2, rfl, hc2, hS2, hb2, hg2, hblk⟩
  have hb12 := below_next hb1 hb2
  have hbw : Below w.heap.size w w2 := by (repeat (first | (with_reducible exact Below.refl _ _) | (with_reducible exact below_boxed _ _) | (with_reducible refine below_box ?_ _) | (with_reducible refine below_drew1 ?_) | (with_reducible refine below_drewn ?_ _) | (with_reducible refine below_bytes ?_ _ _) | (with_reducible refine below_next ?_ (by assumption)) | (with_reducible refine below_set ?_ (by first | (simp; done) | (simp; omega) | omega) _)))
  have hmi : ((w.alloc (.map #[] 0)).alloc (.cells #[.string c.str, .int .u64 (off : Int)] 116)).heap[w.heap.size]? = some (.map #[] 0) := by rw [heap_alloc_old _ _ (by simp), heap_alloc_last]
  have hIm2 : ImAt w2 w.heap.size .u64 [] := (ImAt.made w .u64).upd ((hb12.block _ (by simp; omega)).trans (hmi.trans (heap_alloc_new w _).symm))
  have hbox : w2.heap[w.heap.size + 1]? = some (.cells #[.string c.str, .int .u64 (off : Int)] 116 (0, 0)) := by
    refine (hb12.block _ (by simp)).trans ?_
    have h2 := heap_alloc_last (w.alloc (.map #[] 0)) (.cells #[.string c.str, .int .u64 (off : Int)] 116)
    have h3 : (w.alloc (.map #[] 0)).heap.size = w.heap.size + 1 := by simp
    rw [h3] at h2
    exact h2
  have k0 : w2.cell? ⟨g, 0, none⟩ = some (.int .u64 (c.code : Int)) := by simp [World.cell?, hblk]
  have hM2 : MhAt w2 a mk [] := hM.kp (S := fun _ => False) (Kp.of_below hbw) id id (fun _ _ => ⟨id, id, fun _ _ => id⟩)
  have hz2 : w.heap.size + 1 < w2.heap.size := (Array.getElem?_eq_some_iff.1 hbox).1
  have hlk2 := hIm2.look_no (P := Tryz.prog) Tryz.underlying271 Tryz.underlying22 (k := (c.code : Int)) rfl true _ byCodeZero
  simp only [if_true] at hlk2
  have hmr := makeRecsC
  have hown2 : (w2.alloc (.cells #[] 116)).ownsRow w2.heap.size 116 2 (.slice (some ⟨w2.heap.size, 0, none⟩) 0 0) 0 [] := World.ownsRow_made w2 #[] 0 (Nat.le_refl _) (Nat.zero_le _) rfl
  have HB := Lib.hid hbw; have HM2 := Lib.hid hM2
  clear hb1 hb2 hb12 hmi hblk hA1 hB1 hF1 hS2 hM hbw hM2
  go_wp2_with (at_mapUpdate; refine step_put_im rfl _ _ _ 271 rfl Tryz.underlying271 Tryz.underlying22 rfl (hIm2.upd (heap_alloc_old w2 _ hIm2.lt)) (k := (c.code : Int)) (val := .slice (some ⟨w2.heap.size, 0, none⟩) 0 0) rfl rfl ?_; intro w3 hIm3 hK3 hs3; refine later ?_)
  have hs3' : w3.heap.size = w2.heap.size + 1 := by simpa using hs3
  have hbox3 : w3.heap[w.heap.size + 1]? = some (.cells #[.string c.str, .int .u64 (off : Int)] 116 (0, 0)) := (hK3.block _ (by simp; omega) (by omega)).trans ((heap_alloc_old w2 _ hz2).trans hbox)
  have kb0 := (blk_cell' hbox3 0).trans (show _ = some (Value.string c.str) from rfl)
  have kb1 := (blk_cell' hbox3 1).trans (show _ = some (Value.int .u64 (off : Int)) from rfl)
  have hown3 := own_kp hown2 hK3 (fun g' e h => by cases e; exact absurd h (by show ¬ w2.heap.size = w.heap.size; omega))
  have HB3 : Hid (Kp (fun i => i = w.heap.size) w2 w3) := Lib.hid ((kp_alloc w2 _).mono (S' := fun i => i = w.heap.size) (fun _ h => h.elim) |>.trans hK3 (fun i h => .inl h))
  have hz3 : w2.heap.size < w3.heap.size := by omega
  clear hs3 hs3' hlk2 hIm2 hown2 hK3 hmr hmm hbox hbox3 k0
  refine now ?_
  go_wp2_with (at_builtin; refine wpList_append_own _ rfl _ _ 110 rfl w2.heap.size 116 i0 (.agg #[.string ⟨#[]⟩, .int .u64 0]) 2 24 Tryz.underlying110 ti tz0 tz1 tz2 rfl (by decide) _ _ _ rfl (hown3.alloc _) ⟨w3.heap.size, 0, none⟩ 1 1 [.string c.str, .int .u64 (off : Int)] rfl rfl ?c1 ?c2 ?c3 ?c4 ?c5 ?_)
  case c1 =>
    intro j u hj
    match j, hj with
    | 0, hj => simp at hj; subst hj; simp [Addr.add]
    | 1, hj => simp at hj; subst hj; simp [Addr.add]
  case c2 =>
    intro u hu
    simp only [List.mem_cons, List.not_mem_nil, or_false] at hu
    rcases hu with rfl | rfl <;> rfl
  case c3 => unfold maxLen; omega
  case c4 => omega
  case c5 => simp; omega
  intro v4 w4 hown4 hgrow hn4
  refine later ?_
  have hk34 : Kp (fun i => i = w2.heap.size) w3 w4 := (kp_alloc w3 _).mono (S' := fun i => i = w2.heap.size) (fun _ h => h.elim) |>.trans (kp_grown hgrow) (fun i h => .inl (by simpa [Value.ownBlock] using h))
  have hIm4 := hIm3.kp hk34 (by omega)
  obtain ⟨g4, cap4, cur4, rfl, hge4, hg4, hle4, hcm4, hcs4, htk4⟩ : ∃ g cap cur, v4 = .slice (some ⟨g, 0, none⟩) 1 cap ∧ w2.heap.size ≤ g ∧ w4.heap[g]? = some (.cells cur 116 (0, 0)) ∧ 1 ≤ cap ∧ cap ≤ maxLen ∧ cur.size = cap * 2 ∧ cur.toList.take (1 * 2) = [.string c.str, .int .u64 (off : Int)] := by
    rcases hown4.2 with ⟨_, h⟩ | h
    · cases h
    · exact h
  have hz4 : w3.heap.size < w4.heap.size := by have := hgrow.size; simp at this; omega
  clear hIm3 hown3 hown4 hgrow hn4 kb0 kb1
  refine now ?_
  go_wp2_with (at_mapUpdate; refine step_put_im rfl _ _ _ 271 rfl Tryz.underlying271 Tryz.underlying22 rfl hIm4 (k := (c.code : Int)) (val := .slice (some ⟨g4, 0, none⟩) 1 cap4) rfl rfl ?_; intro w5 hIm5 hK5 hs5; refine later ?_)
  have hIm5' : ImAt w5 w.heap.size .u64 [((c.code : Int), .slice (some ⟨g4, 0, none⟩) 1 cap4)] := by simpa [iput] using hIm5
  have hg5 : w5.heap[g4]? = some (.cells cur4 116 (0, 0)) := (hK5.block g4 (Array.getElem?_eq_some_iff.1 hg4).1 (by omega)).trans hg4
  have HB5 : Hid (Kp (fun i => i = w.heap.size ∨ i = w2.heap.size) w2 w5) := Lib.hid ((HB3.out.mono (S' := fun i => i = w.heap.size ∨ i = w2.heap.size) (fun i h => .inl (.inl h))).trans (S' := fun i => i = w.heap.size ∨ i = w2.heap.size) ((hk34.mono (S' := fun i => i = w.heap.size ∨ i = w2.heap.size) (fun i h => .inl (.inr h))).trans hK5 (fun i h => .inl (.inl h))) (fun i h => .inl h))
  have hz5 : w5.heap.size = w4.heap.size := hs5
  have hzz : w2.heap.size < w5.heap.size := by omega
  clear hIm4 hIm5 hK5 hs5 hk34 hg4 HB3 hz5 hz4 hz3
  refine now ?_
  go_wp2_with fail
  rw [rounds_succ]
  go_wp2_with (at_range; refine step_range_im rfl _ 271 rfl Tryz.underlying271 rfl hIm5' ?_; intro w6 hIt6 hb6 hs6; refine later ?_)
  have hg6 : w6.heap[g4]? = some (.cells cur4 116 (0, 0)) := (hb6.block g4 (Array.getElem?_eq_some_iff.1 hg5).1).trans hg5
  have HB6 : Hid (Kp (fun i => i = w.heap.size ∨ i = w2.heap.size) w2 w6) := Lib.hid (HB5.out.trans (S' := fun _ => False) (Kp.of_below hb6) (fun _ h => h.elim))
  have hr6 : w2.heap.size < w5.heap.size := hzz
  generalize w5.heap.size = r at *
  have hrw : r < w6.heap.size := by omega
  clear hIm5' hg5 hb6 HB5 hzz hs6
  refine now ?_
  go_wp2_with fail
  refine wp_loop_rounds 2 ?_
  rw [rounds_succ]
  go_wp2_with (at_next; refine step_next_im rfl _ rfl rfl hIt6 (fun hp => later ?_) (fun p w7 hpm hdl hIt7 hK7 hs7 hen => later ?_))
  · exact absurd hp.length_eq (by simp)
  · obtain rfl : p = ((c.code : Int), .slice (some ⟨g4, 0, none⟩) 1 cap4) := by simpa using hpm
    have hg4r : g4 ≠ r := by
      intro e
      obtain ⟨es, clock, since, seen, c0, h1, h2, h3⟩ := hIt6
      rw [e, h2] at hg6; cases hg6
    have hg7 : w7.heap[g4]? = some (.cells cur4 116 (0, 0)) := (hK7.block g4 (Array.getElem?_eq_some_iff.1 hg6).1 hg4r).trans hg6
    have HB7 : Hid (Kp (fun i => i = w.heap.size ∨ i = w2.heap.size) w2 w7) := Lib.hid (HB6.out.trans hK7 (fun i h => .inr (by omega)))
    have hrw7 : r < w7.heap.size := by omega
    have hIt7' : ItAt w7 r w.heap.size .u64 [((c.code : Int), .slice (some ⟨g4, 0, none⟩) 1 cap4)] [((c.code : Int), .slice (some ⟨g4, 0, none⟩) 1 cap4)] := hIt7
    clear hg6 hIt6 hpm hdl hIt7 hK7 hs7 hrw HB6
    refine now ?_
    go_wp2_with fail
    refine (newMwci_ok _).mono ?_
    rintro e w8 ⟨rfl, hC8, hf8, hz8, hb8⟩
    have cc8 := hC8.code
    have hg47 : g4 < w7.heap.size := (Array.getElem?_eq_some_iff.1 hg7).1
    have hw7 : w2.heap.size ≤ w7.heap.size := HB7.out.size
    have hg8 : w8.heap[g4]? = some (.cells cur4 116 (0, 0)) := (hb8.block _ hg47).trans hg7
    go_wp2_with fail
    have hks : Kp (fun i => i = w7.heap.size + 1) w8 (w8.setCell ⟨w7.heap.size + 1, 1, none⟩ (.int .u64 (c.code : Int))) := kp_set w8 ⟨w7.heap.size + 1, 1, none⟩ _
    have hM9 : MwAt (w8.setCell ⟨w7.heap.size + 1, 1, none⟩ (.int .u64 (c.code : Int))) ⟨w7.heap.size + 1, 0, none⟩ w7.heap.size [] := ⟨(World.cell?_setCell_other w8 _ _ _ (by simp)).trans hC8.mw.cell, hC8.mw.map.kp hks (fun e => by have e' : w7.heap.size = w7.heap.size + 1 := e; omega), by simp⟩
    have hc9 : (w8.setCell ⟨w7.heap.size + 1, 1, none⟩ (.int .u64 (c.code : Int))).cell? ⟨w7.heap.size + 1, 1, none⟩ = some (.int .u64 (c.code : Int)) := World.cell?_setCell_same' w8 _ _ (by rw [cc8]; rfl)
    have hg9 : (w8.setCell ⟨w7.heap.size + 1, 1, none⟩ (.int .u64 (c.code : Int))).heap[g4]? = some (.cells cur4 116 (0, 0)) := (hks.block _ (by have := hb8.size; omega) (fun e => by have e' : g4 = w7.heap.size + 1 := e; omega)).trans hg8
    have hB9 : Below w7.heap.size w7 (w8.setCell ⟨w7.heap.size + 1, 1, none⟩ (.int .u64 (c.code : Int))) := hks.to_below hb8 (fun i e => by have e' : i = w7.heap.size + 1 := e; omega)
    generalize w8.setCell ⟨w7.heap.size + 1, 1, none⟩ (.int .u64 (c.code : Int)) = w9 at *
    have q0 : w9.cell? ⟨g4, 0, none⟩ = some (.string c.str) := by
      rw [blk_cell' hg9 0]
      have : cur4.toList[0]? = some (.string c.str) := by
        have h := congrArg (fun l => l[0]?) htk4
        simpa using h
      simpa using this
    have q1 : w9.cell? ⟨g4, 1, none⟩ = some (.int .u64 (off : Int)) := by
      rw [blk_cell' hg9 1]
      have : cur4.toList[1]? = some (.int .u64 (off : Int)) := by
        have h := congrArg (fun l => l[1]?) htk4
        simpa using h
      simpa using this
    refine (MwLoad_one ⟨w7.heap.size + 1, 0, none⟩ w7.heap.size g4 cap4 off c hc hd hoff w9 hM9 (by show w7.heap.size + 1 ≠ w7.heap.size; omega) q0 q1).mono ?_
    rintro e w10 ⟨rfl, ⟨gd, hgd, hM10⟩, hK10⟩
    go_wp2_with fail
    have hz9 := hB9.size
    have hz10 := hK10.size
    have hM210 : MhAt w10 a mk [] := ((HM2.out.kp HB7.out (by omega) (by omega) (by simp)).kp (S := fun _ => False) (Kp.of_below hB9) id id (by simp)).kp hK10 (by omega) (by omega) (by simp)
    have hcbl := World.block_lt_of_cell? w9 _ hc9
    have hC10 : CodAt w10 ⟨c.code, w7.heap.size + 1, w7.heap.size, [⟨c.dig.length + 8, c.dig ++ Lib.leBytes 8 off, gd⟩]⟩ := ⟨hM10, (hK10.cell (p := ⟨w7.heap.size + 1, 1, none⟩) hcbl (by show ¬ (w7.heap.size + 1 = w7.heap.size); omega)).trans hc9⟩
    have hP := MhPut_ok a mk [] _ w10 hM210 hC10 (by simp) ham ⟨by show mk ≠ w7.heap.size + 1; omega, by show mk ≠ w7.heap.size; omega, by simp; omega⟩ (by simp)
    refine hP.mono ?_
    rintro e w11 ⟨rfl, hM11, hK11⟩
    go_wp2_with fail
    have hIt11 := ((hIt7'.kp (S := fun _ => False) (Kp.of_below hB9) id id).kp hK10 (by omega) (by omega)).kp hK11 (by omega) (by omega)
    have hBB := HB.out
    rw [rounds_succ]
    go_wp2_with (at_next; refine step_next_im rfl _ rfl rfl hIt11 (fun hp => later ?_) (fun p w12 hpm hdl hIt12 hK12 hs12 hen => later ?_))
    · refine now ?_
      go_wp2_with fail
      go_ret
      refine ⟨rfl, ⟨w7.heap.size + 1, w7.heap.size, gd, by omega, by omega, by omega, hM11⟩, ?_⟩
      have h7 : Kp (fun i => i = mk) w w7 := (Kp.of_below (S := fun i => i = mk) hBB).trans HB7.out (fun i h => .inr (by omega))
      have h9 := h7.trans (S' := fun _ => False) (Kp.of_below hB9) (fun _ h => h.elim)
      exact (h9.trans hK10 (fun i h => .inr (by omega))).trans hK11 (fun i h => .inl h)
    · exact absurd hdl (by simp)
end Go.Proofs.YtgdgmegpacmgnaaGreatDoor
