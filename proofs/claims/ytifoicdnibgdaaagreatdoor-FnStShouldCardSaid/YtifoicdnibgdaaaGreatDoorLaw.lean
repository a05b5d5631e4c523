/- The law FnIiEach, walked. -/
import Derived.Test.YtifoicdnibgdaaaGreatDoorMap
import Derived.BigQuiet
namespace Go.Proofs.YtifoicdnibgdaaaGreatDoor
open Go.RowKit
set_option linter.unusedVariables false
set_option linter.unusedSimpArgs false
attribute [local go_sem] setCell_drewN alloc_drewN

theorem flat_get : ∀ (L : List (CidOf × Int)) (i : Nat) (x : CidOf × Int) (j : Nat), L[i]? = some x → j < 5 → (L.flatMap EntCells)[i * 5 + j]? = (EntCells x)[j]?
  | y :: L, 0, x, j, h, hj => by
    simp at h; subst h
    simp only [List.flatMap_cons, Nat.zero_mul, Nat.zero_add]
    rw [List.getElem?_append_left (by rw [EntCells_length]; omega)]
  | y :: L, i + 1, x, j, h, hj => by
    simp only [List.flatMap_cons]
    rw [List.getElem?_append_right (by rw [EntCells_length]; omega), EntCells_length, show (i + 1) * 5 + j - 5 = i * 5 + j by omega]
    exact flat_get L i x j (by simpa using h) hj

theorem rows_own {w : World} {B : Nat} {v : Value} {L : List (CidOf × Int)} (h : w.ownsRow B 30 5 v L.length (L.flatMap EntCells)) : ∃ A cap, v = .slice A L.length cap ∧ L.length ≤ cap ∧ RowsAt w A L := by
  rcases h.2 with ⟨rfl, h0⟩ | ⟨g, cap, cur, rfl, _, hh, hc, _, hsz, htk⟩
  · have hn : L = [] := List.eq_nil_of_length_eq_zero h0
    subst hn
    exact ⟨none, 0, rfl, Nat.le_refl _, .inl rfl⟩
  · refine ⟨_, cap, rfl, hc, .inr ⟨g, 0, rfl, fun i x hx j u hj => ?_⟩⟩
    have hj5 : j < 5 := by have := (List.getElem?_eq_some_iff.1 hj).1; simpa [EntCells_length] using this
    have hi := (List.getElem?_eq_some_iff.1 hx).1
    have hf := flat_get L i x j hx hj5
    rw [hj, ← htk, List.getElem?_take_of_lt (by omega)] at hf
    rw [blk_cell hh, ← hf]
    simp

def cntOf (m : List (CidOf × Int)) : CidOf × Int → Int := fun x => (m.count x : Int)

theorem cnt_snoc (m : List (CidOf × Int)) (x : CidOf × Int) : upd (cntOf m) x (cntOf m x + 1) = cntOf (m ++ [x]) := by
  funext y
  unfold upd cntOf
  rw [List.count_append]
  by_cases h : y = x
  · subst h; simp
  · have h' : ¬ x = y := fun e => h e.symm
    simp [h, h']

def cnt2 (l m : List (CidOf × Int)) : CidOf × Int → Int := fun x => (l.count x : Int) - (m.count x : Int)
theorem cnt2_nil (l : List (CidOf × Int)) : cntOf l = cnt2 l [] := by funext y; simp [cntOf, cnt2]
theorem cnt2_snoc (l m : List (CidOf × Int)) (x : CidOf × Int) : upd (cnt2 l m) x (cnt2 l m x - 1) = cnt2 l (m ++ [x]) := by
  funext y
  unfold upd cnt2
  rw [List.count_append]
  by_cases h : y = x
  · subst h; simp; omega
  · have h' : ¬ x = y := fun e => h e.symm
    simp [h, h']

theorem less_or : ∀ (a b : List UInt8), Lib.compareBytes a b ≤ 0 → Op.bytesLess a b = true ∨ (a == b) = true
  | [], [], _ => .inr rfl
  | [], _ :: _, _ => .inl rfl
  | _ :: _, [], h => by simp [Lib.compareBytes] at h
  | a :: x, b :: y, h => by
    unfold Lib.compareBytes at h
    by_cases h1 : a < b
    · exact .inl (by simp [Op.bytesLess, h1])
    · by_cases h2 : b < a
      · simp [h1, h2] at h
      · have e : a = b := UInt8.le_antisymm (UInt8.not_lt.1 h2) (UInt8.not_lt.1 h1)
        subst e
        simp only [h1, if_false] at h
        rcases less_or x y h with h3 | h3
        · exact .inl (by simp [Op.bytesLess, h3])
        · exact .inr (by simp at h3 ⊢; exact h3)

theorem map_run (w : World) : (Instr.makeMap 25 none).run Tryz.prog w = .ok (.map (some w.heap.size)) (w.alloc (.map #[] 0)) := run_makeMap _ w

set_option maxRecDepth 100000 in
set_option maxHeartbeats 1600000 in
theorem law_ok (l : List (CidOf × Int)) (hfine : ∀ x, x ∈ l → Fine x) (A : Option Addr) (cap : Nat) (w : World) (hR : RowsAt w A l) (hlen : l.length ≤ 9223372036854775807) (hcap : l.length ≤ cap)
    (hFit : ∀ W, Calls Tryz.prog 8 #[.int .u64 1, .int .u64 85, .int .u64 18, .string ⟨#[]⟩] W fun e w' => ∃ d : List UInt8, d.length = 32 ∧ e = .returned (.agg #[.int .u64 1, .int .u64 85, .int .u64 18, .string (sOf d)]) ∧ Below W.heap.size W w') :
    Calls Tryz.prog 3 #[.slice A l.length cap] w fun e w' => e = .returned (.bool true) ∧ Below w.heap.size w w' := by
  have hmm := map_run
  have hZ := fun W h => zzFits7_ok l A cap W h hlen hcap
  have hE := fun W h => stEntries_ok l A cap W h hlen hcap
  go_enter Tryz.func3, Tryz.ntmps3
  go_wp2_with fail
  refine (hZ _ (by first | exact hR | exact hR.below (by (repeat (first | (with_reducible exact Below.refl _ _) | (with_reducible exact below_boxed _ _) | (with_reducible refine below_box ?_ _) | (with_reducible refine below_drew1 ?_) | (with_reducible refine below_drewn ?_ _) | (with_reducible refine below_bytes ?_ _ _) | (with_reducible refine below_next ?_ (by assumption)) | (with_reducible refine below_set ?_ (by first | (simp; done) | (simp; omega) | omega) _)))))).mono ?_
  rintro e w1 ⟨b, rfl, hb1⟩
  cases b with
  | false =>
    go_wp2_with fail
    go_ret
    exact ⟨rfl, hb1⟩
  | true =>
  go_wp2_with fail
  refine (hE _ (hR.below hb1)).mono ?_
  rintro e w2 ⟨b, rfl, hbt, hb2⟩
  have hb12 : Below w.heap.size w w2 := hb1.trans (hb2.mono hb1.size)
  cases b with
  | false =>
    go_wp2_with fail
    go_ret
    exact ⟨rfl, hb12⟩
  | true =>
  obtain ⟨h60, hst⟩ := hbt rfl
  clear hbt hZ hE
  have hok : ∀ x, x ∈ l → x.1.Ok := fun x hx => stB_ok (hst x hx)
  have hI := fun W h => iiEach_ok l hok A cap W h (by omega) hcap
  go_wp2_with fail
  refine (hI _ (hR.below hb12)).mono ?_
  rintro e w3 ⟨v, L, rfl, hp, hs, hown, hb3⟩
  obtain ⟨A2, cap2, rfl, hcap2, hR2⟩ := rows_own hown
  have hLl : L.length = l.length := hp.length_eq.symm
  have hb13 : Below w.heap.size w w3 := hb12.trans (hb3.mono hb12.size)
  clear hI hown
  rw [hLl] at hcap2 ⊢
  go_wp2_with fail
  go_loopw [25] (fun vi wr => ∃ k : Nat, k ≤ l.length ∧ vi = .int .i64 k ∧ MapAt wr w3.heap.size (cntOf (l.take k)) ∧ Below w3.heap.size w3 wr) (fun vi _ => l.length - (intOf vi).toNat)
  case atStart => exact ⟨0, Nat.zero_le _, rfl, MapAt.made w3, below_boxed w3 _⟩
  case round =>
    obtain ⟨k, hk, rfl, hM, hbw⟩ := hrel
    by_cases hlt : k < l.length
    · have hx := List.getElem?_eq_getElem hlt
      have htk : l.take (k + 1) = l.take k ++ [l[k]] := by rw [List.take_add_one, hx]; rfl
      generalize l[k] = x at hx htk
      have hxf := hfine x (List.mem_of_getElem? hx)
      obtain ⟨g0, o, rfl, hg0, c0, c1, c2, c3, c4⟩ := (hR.below hb13).row hbw hx
      have hsz := hbw.size
      have hglt : g0 < wr.heap.size := by omega
      have hmlt : w3.heap.size < wr.heap.size := by
        obtain ⟨es, ck, h0, _⟩ := hM.is
        exact (Array.getElem?_eq_some_iff.1 h0).1
      have hbx : Below wr.heap.size wr ((wr.alloc (.cells #[.int .u64 x.1.ver, .int .u64 x.1.codec, .int .u64 x.1.code, .string (sOf x.1.dig), .int .u64 x.2] 30)).drew) := below_drew1 (below_boxed wr _)
      have hM0 : MapAt ((wr.alloc (.cells #[.int .u64 x.1.ver, .int .u64 x.1.codec, .int .u64 x.1.code, .string (sOf x.1.dig), .int .u64 x.2] 30)).drew) w3.heap.size _ := hM.same (hbx.block _ hmlt)
      obtain ⟨st, w4, hEn, hM1, hK1, hsz1, hdr1, hsto⟩ := hM0.entry hxf
      obtain ⟨w5, hSt, hM5, hK5, hsz5⟩ := hsto w4 (cntOf (l.take k) x + 1) rfl
      have hL0 := hM0.look hxf
      have hL1 := hM1.look hxf
      have hev : entVal x = .agg #[.int .u64 x.1.ver, .int .u64 x.1.codec, .int .u64 x.1.code, .string (sOf x.1.dig), .int .u64 x.2] := rfl
      rw [hev] at hEn hL0 hL1
      rw [cnt_snoc, ← htk] at hM5
      have hcb : cntOf (l.take k) x ≤ 60 ∧ 0 ≤ cntOf (l.take k) x := by
        have h1 : (l.take k).count x ≤ (l.take k).length := List.count_le_length
        rw [List.length_take] at h1
        unfold cntOf
        omega
      generalize cntOf (l.take k) x = q at *
      have hwr : IntKind.i64.wrap (q + 1) = q + 1 := by rw [IntKind.wrap_i64]; omega
      have hb5 : Below w3.heap.size w3 w5 := by
        have h0 := hbw.trans (hbx.mono hsz)
        have h1 := h0.trans (hK1.below h0.size (by rintro i rfl; exact Nat.le_refl _))
        exact h1.trans (hK5.below h1.size (by rintro i rfl; exact Nat.le_refl _))
      have HM5 := Lib.hid hM5; clear hM5
      have HX := Lib.hid hx; clear hx
      clear hM0 hM1 hsto hev htk hM
      generalize sOf x.1.dig = s at *
      go_wp2_with fail
      go_region_with (fail)
      all_goals go_wp2_with fail
      all_goals go_roundw
      case rel => exact ⟨k + 1, by omega, by go_num, HM5.out, hb5⟩
      case measure => simp [intOf]; omega
      case rel => exact ⟨k + 1, by omega, by go_num, HM5.out, hb5⟩
      case measure => simp [intOf]; omega
    · obtain rfl : k = l.length := by omega
      rw [List.take_length, cnt2_nil] at hM
      go_wp2_with fail
      go_loopw [38] (fun vi wr => ∃ k : Nat, k ≤ l.length ∧ vi = .int .i64 k ∧ MapAt wr w3.heap.size (cnt2 l (L.take k)) ∧ Below w3.heap.size w3 wr) (fun vi _ => l.length - (intOf vi).toNat)
      case atStart => exact ⟨0, Nat.zero_le _, rfl, hM, hbw⟩
      case round =>
        clear hM hbw
        obtain ⟨k, hk, rfl, hM, hbw⟩ := hrel
        by_cases hlt : k < l.length
        · have hx := List.getElem?_eq_getElem (show k < L.length by omega)
          have htk : L.take (k + 1) = L.take k ++ [L[k]] := by rw [List.take_add_one, hx]; rfl
          generalize L[k] = x at hx htk
          have hxf := hfine x (hp.mem_iff.2 (List.mem_of_getElem? hx))
          obtain ⟨g0, o, rfl, hg0, c0, c1, c2, c3, c4⟩ := hR2.row hbw hx
          have hsz := hbw.size
          have hglt : g0 < wr.heap.size := by omega
          have hmlt : w3.heap.size < wr.heap.size := by
            obtain ⟨es, ck, h0, _⟩ := hM.is
            exact (Array.getElem?_eq_some_iff.1 h0).1
          have hbx : Below wr.heap.size wr ((wr.alloc (.cells #[.int .u64 x.1.ver, .int .u64 x.1.codec, .int .u64 x.1.code, .string (sOf x.1.dig), .int .u64 x.2] 30)).drew) := below_drew1 (below_boxed wr _)
          have hM0 : MapAt ((wr.alloc (.cells #[.int .u64 x.1.ver, .int .u64 x.1.codec, .int .u64 x.1.code, .string (sOf x.1.dig), .int .u64 x.2] 30)).drew) w3.heap.size _ := hM.same (hbx.block _ hmlt)
          obtain ⟨st, w4, hEn, hM1, hK1, hsz1, hdr1, hsto⟩ := hM0.entry hxf
          obtain ⟨w5, hSt, hM5, hK5, hsz5⟩ := hsto w4 (cnt2 l (L.take k) x - 1) rfl
          have hL0 := hM0.look hxf
          have hL1 := hM1.look hxf
          have hL5 := fun n => (hM5.same (w' := w5.drewN n) (by simp [World.drewN])).look hxf
          have hev : entVal x = .agg #[.int .u64 x.1.ver, .int .u64 x.1.codec, .int .u64 x.1.code, .string (sOf x.1.dig), .int .u64 x.2] := rfl
          rw [hev] at hEn hL0 hL1
          simp only [hev] at hL5
          have hu : upd (cnt2 l (L.take k)) x (cnt2 l (L.take k) x - 1) x = cnt2 l (L.take k) x - 1 := by simp [upd]
          simp only [hu] at hL5
          have hcb : cnt2 l (L.take k) x ≤ 60 ∧ 1 ≤ cnt2 l (L.take k) x := by
            have h1 : l.count x ≤ l.length := List.count_le_length
            have h2 : (L.take (k + 1)).count x ≤ L.count x := (List.take_sublist _ _).count_le _
            rw [htk, List.count_append, hp.symm.count_eq] at h2
            simp only [List.count_singleton_self] at h2
            unfold cnt2
            omega
          rw [cnt2_snoc, ← htk] at hM5
          generalize cnt2 l (L.take k) x = q at *
          obtain ⟨r, hqr⟩ : ∃ r, q - 1 = r := ⟨_, rfl⟩
          rw [hqr] at hSt
          simp only [hqr] at hL5
          have hwr : IntKind.i64.wrap (q - 1) = r := by rw [IntKind.wrap_i64]; omega
          have hr0 : decide (r < 0) = false := decide_eq_false (by omega)
          have hrn : ¬ (r < 0) := by omega
          clear hqr
          have hb5 : Below w3.heap.size w3 w5 := by
            have h0 := hbw.trans (hbx.mono hsz)
            have h1 := h0.trans (hK1.below h0.size (by rintro i rfl; exact Nat.le_refl _))
            exact h1.trans (hK5.below h1.size (by rintro i rfl; exact Nat.le_refl _))
          have hnewb : w5.heap[wr.heap.size]? = some (.cells #[.int .u64 x.1.ver, .int .u64 x.1.codec, .int .u64 x.1.code, .string (sOf x.1.dig), .int .u64 x.2] 30 (0, 0)) := by
            rw [hK5.block _ (by rw [hsz1]; simp) (by omega), hK1.block _ (by simp) (by omega)]
            exact heap_alloc_new wr _
          have b0 := (blk_cell hnewb 0).trans rfl
          have b1 := (blk_cell hnewb 1).trans rfl
          have b2 := (blk_cell hnewb 2).trans rfl
          have b3 := (blk_cell hnewb 3).trans rfl
          have b4 := (blk_cell hnewb 4).trans rfl
          have HM5 := Lib.hid hM5; clear hM5
          by_cases hkz : 0 < k
          · obtain ⟨m, hkm⟩ : ∃ m, k = m + 1 := ⟨k - 1, by omega⟩
            have hy := List.getElem?_eq_getElem (show m < L.length by omega)
            have hle : Lib.compareBytes (L[m]).1.dig x.1.dig ≤ 0 := by
              have h1 := List.pairwise_iff_getElem.1 hs m k (by omega) (by omega) (by omega)
              rw [(List.getElem?_eq_some_iff.1 hx).2] at h1
              exact h1
            generalize L[m] = y at hy hle
            obtain ⟨g1, o1, he, _, _, _, _, p3, _⟩ := hR2.row hb5 hy
            simp only [Option.some.injEq, Addr.mk.injEq, and_true] at he
            obtain ⟨rfl, rfl⟩ := he
            have hwk : IntKind.i64.wrap ((k : Int) - 1) = (m : Int) := by rw [IntKind.wrap_i64]; omega
            have hml : m < l.length := by omega
            have hg5 : g0 < w5.heap.size := Nat.lt_of_lt_of_le hg0 hb5.size
            have HX := Lib.hid hx; clear hx
            have HKM := Lib.hid hkm; clear hkm
            have HY := Lib.hid hy; clear hy
            clear hM0 hM1 hsto hev htk hM hnewb hu
            have hkb : decide (0 < k) = true := decide_eq_true hkz
            generalize hsx : sOf x.1.dig = s at *
            generalize hsy : sOf y.1.dig = z at *
            have HSX := Lib.hid hsx; clear hsx
            have HSY := Lib.hid hsy; clear hsy
            have hll : Op.bytesLess z.toList s.toList = true ∨ (z.toList == s.toList) = true := by
              rw [← HSX.out, ← HSY.out]
              unfold sOf
              rw [ByteArray.toList_mk, ByteArray.toList_mk]
              exact less_or _ _ hle
            clear hle
            rcases hll with hl1 | hl1
            all_goals go_wp2_with fail
            all_goals go_region_with (fail)
            all_goals go_wp2_with fail
            all_goals go_quiet (fail)
            all_goals go_wp2_with fail
            all_goals exact ⟨⟨k + 1, by omega, by go_num, HM5.out.same (by simp [World.drewN]), below_drewn hb5 _⟩, by simp [intOf]; omega⟩
          · have HX := Lib.hid hx; clear hx
            clear hM0 hM1 hsto hev htk hM hnewb hu
            have hkb : decide (0 < k) = false := decide_eq_false hkz
            generalize sOf x.1.dig = s at *
            go_wp2_with fail
            go_region_with (fail)
            all_goals go_wp2_with fail
            all_goals go_quiet (fail)
            all_goals go_wp2_with fail
            all_goals exact ⟨⟨k + 1, by omega, by go_num, HM5.out.same (by simp [World.drewN]), below_drewn hb5 _⟩, by simp [intOf]; omega⟩
        · obtain rfl : k = l.length := by omega
          clear hM
          go_wp2_with fail
          refine (hFit _).mono ?_
          rintro e w4 ⟨d, hd, rfl, hb4⟩
          have hI1 := fun W A h => iiEach_ok [(⟨1, 85, 18, d⟩, 0)] (by intro x hx; rcases List.mem_singleton.1 hx with rfl; exact ⟨.inr rfl, by simp, by simp, by simp [hd]⟩) A 1 W h (by simp) (by simp)
          have hw4 : Below w.heap.size w w4 := hb13.trans ((hbw.trans (hb4.mono hbw.size)).mono hb13.size)
          go_wp2_with fail
          refine (hI1 _ _ (.inr ⟨w4.heap.size, 0, rfl, ?_⟩)).mono ?_
          · intro i x hx j u hj
            rcases i with _ | i
            · simp at hx
              subst hx
              rw [blk_cell (heap_alloc_new w4 _)]
              have hj5 : j < 5 := by have := (List.getElem?_eq_some_iff.1 hj).1; simpa [EntCells_length] using this
              rw [← hj]
              simp [EntCells]
            · simp at hx
          · rintro e w6 ⟨v6, L6, rfl, hp6, hs6, ho6, hb6⟩
            obtain ⟨A6, cap6, rfl, _, _⟩ := rows_own ho6
            have hl6 : L6.length = 1 := by have := hp6.length_eq; simpa using this.symm
            rw [hl6] at *
            go_wp2_with fail
            go_ret
            exact ⟨rfl, hw4.trans ((below_next (below_boxed w4 _) hb6).mono hw4.size)⟩
end Go.Proofs.YtifoicdnibgdaaaGreatDoor
