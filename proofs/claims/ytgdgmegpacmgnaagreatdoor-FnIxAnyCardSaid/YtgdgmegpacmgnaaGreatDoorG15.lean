import Derived.Test.YtgdgmegpacmgnaaGreatDoorG14
import Derived.Test.YtgdgmegpacmgnaaGreatDoorG10
import Derived.Shelf.GgSortFunc.SmallK
import Derived.Test.YtgdgmegpacmgnaaGreatDoorG12
import Derived.Test.YtgdgmegpacmgnaaGreatDoorG13
import Derived.Laws.AppendOwnNone
import Derived.Test.YtgdgmegpacmgnaaGreatDoorG07
import Derived.Test.YtgdgmegpacmgnaaGreatDoorG08
import Derived.Test.YtgdgmegpacmgnaaGreatDoorG09
import Derived.Test.YtgdgmegpacmgnaaGreatDoorG05
/- sort.SliceStable of entries by their digests, of any number. -/
namespace Go.Proofs.YtgdgmegpacmgnaaGreatDoor
open Go.Shelf Go.RowKit Go.Lib Go.Sort
set_option linter.unusedVariables false
set_option linter.unusedSimpArgs false
attribute [local go_sem] setCell_drewN alloc_drewN

instance : Inhabited CidOf := ⟨⟨0, 0, 0, []⟩⟩
/-- By digests, then by offsets. -/
def ltD (x y : CidOf × Int) : Bool := if x.1.dig = y.1.dig then decide (x.2 < y.2) else Op.bytesLess x.1.dig y.1.dig
theorem ltD_iff (x y : CidOf × Int) : ltD x y = true ↔ Lib.compareBytes x.1.dig y.1.dig < 0 ∨ (x.1.dig = y.1.dig ∧ x.2 < y.2) := by
  unfold ltD
  by_cases h : x.1.dig = y.1.dig
  · rw [if_pos h, h, co_self]; simp
  · rw [if_neg h, less_iff]; simp [h]
theorem ltD_not (x y : CidOf × Int) : ltD x y = false ↔ Lib.compareBytes y.1.dig x.1.dig < 0 ∨ (x.1.dig = y.1.dig ∧ y.2 ≤ x.2) := by
  rw [← Bool.not_eq_true, ltD_iff]
  have h := co_neg x.1.dig y.1.dig
  have v := co_vals x.1.dig y.1.dig
  constructor
  · intro hn
    by_cases e : x.1.dig = y.1.dig
    · exact .inr ⟨e, by have : ¬ x.2 < y.2 := fun h' => hn (.inr ⟨e, h'⟩); omega⟩
    · have e' : Lib.compareBytes x.1.dig y.1.dig ≠ 0 := fun h' => e (co_eq _ _ h')
      have : ¬ Lib.compareBytes x.1.dig y.1.dig < 0 := fun h' => hn (.inl h')
      exact .inl (by omega)
  · rintro (h1 | ⟨e, h1⟩) (h2 | ⟨e', h2⟩)
    · omega
    · rw [e', co_self] at h1; omega
    · rw [e, co_self] at h2; omega
    · omega
theorem ltD_swo : SWO ltD where
  irrefl x := by rw [ltD_not]; exact .inr ⟨rfl, Int.le_refl _⟩
  trans x y z h1 h2 := by
    rw [ltD_iff] at h1 h2 ⊢
    rcases h1 with h1 | ⟨e1, h1⟩ <;> rcases h2 with h2 | ⟨e2, h2⟩
    · exact .inl (co_lt_trans h1 (by omega))
    · rw [e2] at h1; exact .inl h1
    · rw [← e1] at h2; exact .inl h2
    · exact .inr ⟨e1.trans e2, by omega⟩
  ntrans x y z h1 h2 := by
    rw [ltD_not] at h1 h2 ⊢
    rcases h1 with h1 | ⟨e1, h1⟩ <;> rcases h2 with h2 | ⟨e2, h2⟩
    · exact .inl (co_lt_trans h2 (by omega))
    · rw [e2] at h1; exact .inl h1
    · rw [← e1] at h2; exact .inl h2
    · exact .inr ⟨e1.trans e2, by omega⟩
theorem sortedD_of {d : Array (CidOf × Int)} (h : SortedIn ltD 0 d.size d) : SortedD d.toList := by
  refine List.pairwise_iff_getElem.2 fun i j hi hj hij => ?_
  have hi' : i < d.size := by simpa using hi
  have hj' : j < d.size := by simpa using hj
  have := h i j (Nat.zero_le _) hij hj'
  rw [getElem!_pos d i hi', getElem!_pos d j hj', ltD_not] at this
  simp only [Array.getElem_toList]
  rcases this with h | ⟨e, _⟩
  · omega
  · rw [e, co_self]; omega
theorem perm_of {d d' : Array (CidOf × Int)} (h : PermIn 0 d.size d d') : d'.toList.Perm d.toList := by
  have := h.2.2
  rw [show d'.extract 0 d.size = d' by rw [← h.1]; simp, show d.extract 0 d.size = d by simp] at this
  exact this

theorem sofList (l : List UInt8) : (sOf l).toList = l := ByteArray.toList_mk l
theorem flatK_row (d : Array (CidOf × Int)) : (flatK EntCells 5 d).toList = entRow d.toList := by
  refine List.ext_getElem? fun t => ?_
  by_cases ht : t < d.size * 5
  · have hlen : t < (flatK EntCells 5 d).size := by rw [size_flatK]; exact ht
    have hd : t / 5 < d.size := by omega
    have h1 : (flatK EntCells 5 d).toList[t]? = some ((EntCells d[t / 5]!)[t % 5]!) := by
      rw [Array.getElem?_toList, Array.getElem?_eq_getElem hlen, ← getElem!_pos, get_flatK _ _ _ _ ht]
    have hx : d.toList[t / 5]? = some d[t / 5]! := by rw [Array.getElem?_toList, Array.getElem?_eq_getElem hd, getElem!_pos]
    have hv : (EntCells d[t / 5]!)[t % 5]? = some ((EntCells d[t / 5]!)[t % 5]!) := by
      have hl : t % 5 < (EntCells d[t / 5]!).length := by show t % 5 < 5; omega
      rw [List.getElem?_eq_getElem hl, getElem!_pos (EntCells d[t / 5]!) (t % 5) hl]
    have h2 := entRow_get hx hv
    rw [show t / 5 * 5 + t % 5 = t by omega] at h2
    rw [h1, h2]
  · rw [List.getElem?_eq_none (by simp; omega), List.getElem?_eq_none (by rw [entRow_len]; simp; omega)]
theorem holdsK_of {w : World} {g : Nat} {l : List (CidOf × Int)} {tail : List Value} {t : TypeId} (h : w.heap[g]? = some (.cells (entRow l ++ tail).toArray t (0, 0))) : HoldsK EntCells 5 w g 0 l.toArray := by
  intro j hj
  rw [size_flatK] at hj
  simp only [List.size_toArray] at hj
  have h0 : (entRow l)[j]? = some (flatK EntCells 5 l.toArray)[j]! := by
    have h1 := flatK_row l.toArray
    rw [show (l.toArray).toList = l from rfl] at h1
    rw [← h1, Array.getElem?_toList, Array.getElem?_eq_getElem (by rw [size_flatK]; simpa using hj), ← getElem!_pos (flatK EntCells 5 l.toArray) j (by rw [size_flatK]; simpa using hj)]
  refine ⟨?_, by rw [Nat.zero_add]; exact blk_free' h j⟩
  rw [Nat.zero_add, blk_cell' h, List.getElem?_toArray, List.getElem?_append_left (by rw [entRow_len]; omega), h0]; rfl
theorem heap_sortedK {w : World} {g n : Nat} {os : Array Obj} {l : List (CidOf × Int)} {tail : List Value} {t : TypeId} (d : Array (CidOf × Int)) (hd : d.size = l.length) (h : w.heap[g]? = some (.cells (entRow l ++ tail).toArray t (0, 0))) :
    (sortWorldK EntCells 5 w g 0 n d os).heap[g]? = some (.cells (entRow d.toList ++ tail).toArray t (0, 0)) := by
  have hg : g < w.heap.size := (Array.getElem?_eq_some_iff.1 h).1
  have e : putCells id 0 (flatK EntCells 5 d) (entRow l ++ tail).toArray = (entRow d.toList ++ tail).toArray := by
    have hl : (entRow d.toList).length = (entRow l).length := by rw [entRow_len, entRow_len]; simp [hd]
    have hf : (flatK EntCells 5 d).size = (entRow l).length := by rw [size_flatK, entRow_len, hd]
    refine Array.ext (by simp [putCells, hl]) fun i h1 h2 => ?_
    have hi : i < (entRow l ++ tail).length := by simpa [putCells] using h1
    by_cases hlt : i < (flatK EntCells 5 d).size
    · have hr : (entRow d.toList)[i]? = some (flatK EntCells 5 d)[i]! := by
        rw [← flatK_row, Array.getElem?_toList, Array.getElem?_eq_getElem hlt, getElem!_pos]
      have hi2 : i < (entRow d.toList).length := by omega
      rw [List.getElem?_eq_getElem hi2] at hr
      have hlt' : i < d.size * 5 := by rw [size_flatK] at hlt; exact hlt
      have hr' : (entRow d.toList)[i] = (flatK EntCells 5 d)[i]! := Option.some.inj hr
      simp only [putCells]
      simp [hlt', List.getElem_append_left hi2, hr']
    · have hge : (entRow l).length ≤ i := by omega
      have hge2 : (entRow d.toList).length ≤ i := by omega
      have hlt' : ¬ i < d.size * 5 := by rw [size_flatK] at hlt; exact hlt
      simp only [putCells]
      simp [hlt', List.getElem_append_right hge, List.getElem_append_right hge2, hl]
  unfold sortWorldK
  rw [heap_grow_old _ _ (by simpa [putRowK, putRow, mapBlock, Sort.ahead] using hg)]
  simp [putRowK, putRow, mapBlock, Sort.ahead, Array.getElem?_modify, h, onCells, e]
theorem kp_sortK (w : World) (g n : Nat) (os : Array Obj) (d : Array (CidOf × Int)) : Kp (fun i => i = g) w (sortWorldK EntCells 5 w g 0 n d os) := by
  refine ⟨rfl, rfl, rfl, by unfold sortWorldK; rw [size_grow, size_putRowK]; show w.heap.size ≤ w.heap.size + _; omega, fun i hi hne => ?_⟩
  unfold sortWorldK
  rw [heap_grow_old _ _ (by simpa [putRowK, putRow, mapBlock, Sort.ahead] using hi)]
  have : ¬ g = i := fun e => hne e.symm
  simp [putRowK, putRow, mapBlock, Sort.ahead, Array.getElem?_modify, this]

set_option maxRecDepth 100000 in
set_option maxHeartbeats 3200000 in
theorem less_digest (g vb cap n : Nat) (W : World) (dk : Array (CidOf × Int)) (hn : dk.size = n) (i j : Nat) (hi : i < n) (hj : j < n) (hn6 : n ≤ 1000000) (hv : W.cell? ⟨vb, 0, none⟩ = some (.slice (some ⟨g, 0, none⟩) n cap)) (hH : HoldsK EntCells 5 W g 0 dk) (hvg : vb ≠ g) :
    Calls Tryz.prog 78 #[.int .i64 (i : Int), .int .i64 (j : Int), .pointer (some ⟨vb, 0, none⟩)] W fun e w' => e = .returned (.bool (ltD dk[i]! dk[j]!)) ∧ SWK EntCells 5 W g 0 dk w' := by
  subst hn
  have hcell : ∀ x, x < dk.size → ∀ c, c < 5 → W.cell? ⟨g, x * 5 + c, none⟩ = some (EntCells dk[x]!)[c]! := fun x hx c hc => by
    have := (hH.cell hx hc).1
    rwa [Nat.zero_add] at this
  have i0 := hcell i hi 0 (by omega); have i1 := hcell i hi 1 (by omega); have i2 := hcell i hi 2 (by omega); have i3 := hcell i hi 3 (by omega); have i4 := hcell i hi 4 (by omega)
  have j0 := hcell j hj 0 (by omega); have j1 := hcell j hj 1 (by omega); have j2 := hcell j hj 2 (by omega); have j3 := hcell j hj 3 (by omega); have j4 := hcell j hj 4 (by omega)
  rw [Nat.add_zero] at i0 j0
  generalize hx : dk[i]! = x at *
  generalize hy : dk[j]! = y at *
  simp only [EntCells] at i0 i1 i2 i3 i4 j0 j1 j2 j3 j4
  have hS0 := SWK.start hH
  have HS := Lib.hid hS0
  have hglt : g < W.heap.size := World.block_lt_of_cell? W _ i0
  have hvlt : vb < W.heap.size := World.block_lt_of_cell? W _ hv
  clear hcell hS0 hH hx hy
  go_enter Tryz.func78, Tryz.ntmps78
  go_wp2_with fail
  go_region
  all_goals clear i0 i1 i2 i3 i4 j0 j1 j2 j3 j4
  all_goals go_wp2_with fail
  all_goals
    go_ret
    rename_i hcmp
    refine ⟨?_, ?_⟩
    · simp only [sofList] at hcmp ⊢
      first
        | (have he : x.1.dig = y.1.dig := (by simpa using hcmp)
           have h : ltD x y = decide (x.2 < y.2) := (by unfold ltD; rw [if_pos he])
           rw [h]; rfl)
        | (have he : ¬ x.1.dig = y.1.dig := (by simpa using hcmp)
           have h : ltD x y = Op.bytesLess x.1.dig y.1.dig := (by unfold ltD; rw [if_neg he])
           rw [h]; rfl)
    · exact ((HS.out.alloc _).alloc _).drewN 1

/-- sort.SliceStable by digests, of any number. -/
noncomputable def entE : TypeInfo := (Tryz.prog.info? 62).get (by kernel_rfl)
theorem entK (n : Nat) (h2 : 2 ≤ n) : Lib.swapperK n entE 25 = 9 := by
  have a : entE.hasPointers = true := by kernel_rfl
  have b : entE.bytes = 48 := by kernel_rfl
  have c : (n == 0) = false := by simp; omega
  have d : (n == 1) = false := by simp; omega
  simp [Lib.swapperK, a, b, c, d]
theorem stable_ents (most : Nat) (hm : most ≤ 1000000) : StableEnts most := by
  intro g cap vb l tail w hl hg hv
  by_cases h1 : l.length ≤ 1
  · exact stable_one g cap vb l tail w h1 hg hv
  have h2 : 2 ≤ l.length := by omega
  have hglt := (Array.getElem?_eq_some_iff.1 hg).1
  have hvlt := World.block_lt_of_cell? w _ hv
  have hvg : vb ≠ g := by
    intro e
    subst e
    have h0 := (holdsK_of hg).cell (i := 0) (c := 0) (by simp; omega) (by omega)
    rw [Nat.zero_mul] at h0
    have := h0.1
    rw [hv] at this
    simp [EntCells] at this
  have hF : ∀ W (d : Array (CidOf × Int)), d.size = l.length → SWK EntCells 5 w g 0 d W → HoldsK EntCells 5 W g 0 d := fun W d hs h => h.holds hglt (holdsK_of hg) (by simpa using hs)
  have hless : LessG 78 #[.pointer (some ⟨vb, 0, none⟩)] EntCells 5 ltD g 0 l.length w := by
    intro dk W hs hS i j hi hj
    exact less_digest g vb cap l.length W dk hs i j hi hj (by omega) (swk_cell hS hv hvg) (hF W dk hs hS) hvg
  have hH := holdsK_of hg
  have hB : sliceBound Tryz.prog 62 entE 25 (some ⟨g, 0, none⟩) l.length cap = #[.slice (some ⟨g, 0, none⟩) l.length cap, typeHandle Tryz.prog 62] := by
    unfold sliceBound; rw [if_neg (swapperK_gt _ _ _ h2)]
  have hSW : SWK EntCells 5 w g 0 l.toArray (stableWorld Tryz.prog Tryz.laysGt8_ren 63 (some ⟨g, 0, none⟩) l.length cap w) := ((SWK.start hH).alloc _).alloc _
  have hFam : Fam EntCells 5 ltD 78 #[.pointer (some ⟨vb, 0, none⟩)] g 0 l.length l.toArray (stableWorld Tryz.prog Tryz.laysGt8_ren 63 (some ⟨g, 0, none⟩) l.length cap w) :=
    ⟨lessG_on hless hSW hglt (by simp), hF _ _ (by simp) hSW, hSW.lt hglt, by simp⟩
  have hswap := swapSwapsK_of_literal (P := Tryz.prog) false 101 (fun args W => run_callFunc_extern Tryz.func101 (by kernel_rfl) (by kernel_rfl) (by kernel_rfl) (e := Extern.ReflectliteSwapper.swap false) (by kernel_rfl) args W) 62 entE (by kernel_rfl) EntCells 5 (fun _ => rfl) (by kernel_rfl) (fun _ => by kernel_rfl) (fun x v hv => ent_one x v hv) g 0 l.length cap
  have hSt := stable_ok EntCells 5 (fun _ => rfl) ltD ltD_swo 78 #[.pointer (some ⟨vb, 0, none⟩)] 101 _ g 0 l.length (enters_of Tryz.func78 (by kernel_rfl) rfl) hswap (by omega) l.toArray _ hFam
  have hR := Any.sort_SliceStable_of_stable Tryz.laysGt8 63 62 entsT entE (by kernel_rfl) (by kernel_rfl) (by kernel_rfl) (by kernel_rfl) 25 (fun w => by kernel_rfl) (some ⟨g, 0, none⟩) l.length cap (by omega) 101 (by rw [entK _ h2]; kernel_rfl) (.func 78) #[] #[.pointer (some ⟨vb, 0, none⟩)] w
    (fun w' => ∃ l' : List (CidOf × Int), l'.Perm l ∧ SortedD l' ∧ w'.heap[g]? = some (.cells (entRow l' ++ tail).toArray 62 (0, 0)) ∧ Kp (fun i => i = g) w w') (by
      rw [hB]
      refine hSt.mono ?_
      rintro e w' ⟨rfl, d', hS, hP, hSo⟩
      obtain ⟨n, os, rfl⟩ := swk_trans hSW hS hglt (by rw [hP.1])
      have hds : d'.size = l.length := by simpa using hP.1
      refine ⟨rfl, d'.toList, by simpa using perm_of (d := l.toArray) (by simpa using hP), sortedD_of (by rw [hds]; exact hSo), heap_sortedK d' hds hg, kp_sortK w g n os d'⟩)
  exact hR
end Go.Proofs.YtgdgmegpacmgnaaGreatDoor

/- spec.IndexBytes of any entries: no entries. -/
namespace Go.Proofs.YtgdgmegpacmgnaaGreatDoor
open Go.RowKit
set_option linter.unusedVariables false
set_option linter.unusedSimpArgs false
attribute [local go_sem] setCell_drewN alloc_drewN

set_option maxRecDepth 100000 in
set_option maxHeartbeats 1600000 in
theorem ByDigest_empty (A : Option Addr) (cap : Nat) (hA : A = none → cap = 0) (w : World) :
    Calls Tryz.prog 64 #[.slice A 0 cap] w fun e w' => ∃ g c, e = .returned (.slice (some ⟨g, 0, none⟩) 0 c) ∧ Below w.heap.size w w' := by
  obtain ⟨i0, hi, hz0, hz1, hz2⟩ := info_parts entInfo0
  have hmf : ∀ (fn : Fn) (first cap : Array Value) (w : World), (Instr.makeFunc fn first cap).run Tryz.prog w = .ok (.func fn first cap) w := fun _ _ _ _ => rfl
  have hO0 : (w.alloc (.cells #[] 62)).ownsRow w.heap.size 62 5 (.slice (some ⟨w.heap.size, 0, none⟩) 0 0) 0 [] := ⟨rfl, .inr ⟨_, 0, #[], rfl, Nat.le_refl _, heap_alloc_new w _, Nat.le_refl _, by unfold maxLen; omega, rfl, rfl⟩⟩
  go_enter Tryz.func64, Tryz.ntmps64
  go_wp2_with (at_builtin; refine later ?_)
  cases A with
  | none =>
    obtain rfl := hA rfl
    refine now ?_
    refine wpList_append_own_none rfl _ _ 63 rfl w.heap.size 62 i0 5 Tryz.underlying63 hi _ _ _ rfl hO0 rfl ?_
    obtain ⟨w2, hw2⟩ : ∃ w2, w2 = w.alloc (.cells #[] 62) := ⟨_, rfl⟩
    have hB2 : Below w.heap.size w w2 := by rw [hw2]; exact below_boxed w _
    have hgc : w2.heap[w.heap.size]? = some (.cells #[] 62 (0, 0)) := by rw [hw2]; exact heap_alloc_new w _
    have hz2 : w.heap.size < w2.heap.size := (Array.getElem?_eq_some_iff.1 hgc).1
    rw [← hw2]
    clear hO0 hw2
    have hg3 : (w2.alloc (.cells #[.slice (some ⟨w.heap.size, 0, none⟩) 0 0] 63)).heap[w.heap.size]? = some (.cells (entRow [] ++ (#[] : Array Value).toList).toArray 62 (0, 0)) := (heap_alloc_old w2 _ (Array.getElem?_eq_some_iff.1 hgc).1).trans (by simpa [entRow] using hgc)
    have hbox := heap_alloc_new w2 (.cells #[.slice (some ⟨w.heap.size, 0, none⟩) 0 0] 63)
    have hS := stable_one w.heap.size 0 w2.heap.size [] (#[] : Array Value).toList _ (by simp) hg3 (blk_cell' hbox 0)
    go_wp2_with fail
    refine hS.mono ?_
    rintro e w3 ⟨rfl, l', hp, hsd, hg', hK⟩
    have hb3 := (hK.block w2.heap.size (by simp) (by omega)).trans hbox
    have k1 := (blk_cell' hb3 0).trans (show _ = some (Value.slice (some ⟨w.heap.size, 0, none⟩) 0 0) from rfl)
    have hB3 : Below w.heap.size w w3 := (below_box hB2 _).trans ⟨hK.os, hK.tape, hK.output, hK.size, fun i hi => hK.block i (by have := hB2.size; simp; omega) (by omega)⟩
    clear hS hK hg' hg3 hbox
    go_wp2_with fail
    go_ret
    exact ⟨_, _, rfl, hB3⟩
  | some ad =>
    refine now ?_
    refine wpList_append_own_at _ rfl _ _ 63 rfl w.heap.size 62 i0 _ 5 48 Tryz.underlying63 hi hz0 hz1 hz2 rfl (by decide) _ _ _ rfl hO0 ad 0 cap [] rfl rfl (fun j u h => by simp at h) (fun u h => by simp at h) (by unfold maxLen; omega) (by omega) (by simp) ?_
    intro v' w2 hown hgrow hnn hloc
    have hB2 : Below w.heap.size w w2 := (below_boxed w _).trans ⟨hgrow.os, hgrow.tape, hgrow.output, hgrow.size, fun i hi => hgrow.block i (by simp; omega) (fun e => by have e' : some i = some w.heap.size := e; cases e'; omega)⟩
    obtain ⟨g, cap2, cur, rfl, hge, hgc⟩ : ∃ g cap cur, v' = .slice (some ⟨g, 0, none⟩) 0 cap ∧ w.heap.size ≤ g ∧ w2.heap[g]? = some (.cells cur 62 (0, 0)) := by
      rcases hown.2 with ⟨h, _⟩ | ⟨g, cap, cur, h1, h2, h3, _⟩
      · have := (hnn.1 h).1; cases this
      · exact ⟨g, cap, cur, h1, h2, h3⟩
    have hglt := (Array.getElem?_eq_some_iff.1 hgc).1
    have hg3 : (w2.alloc (.cells #[.slice (some ⟨g, 0, none⟩) 0 cap2] 63)).heap[g]? = some (.cells (entRow [] ++ cur.toList).toArray 62 (0, 0)) := (heap_alloc_old w2 _ hglt).trans (by simpa [entRow] using hgc)
    have hbox := heap_alloc_new w2 (.cells #[.slice (some ⟨g, 0, none⟩) 0 cap2] 63)
    have hS := stable_one g cap2 w2.heap.size [] cur.toList _ (by simp) hg3 (blk_cell' hbox 0)
    clear hown hgrow hnn hloc hO0
    go_wp2_with fail
    refine hS.mono ?_
    rintro e w3 ⟨rfl, l', hp, hsd, hg', hK⟩
    have hb3 := (hK.block w2.heap.size (by simp) (by omega)).trans hbox
    have k1 := (blk_cell' hb3 0).trans (show _ = some (Value.slice (some ⟨g, 0, none⟩) 0 cap2) from rfl)
    have hB3 : Below w.heap.size w w3 := (below_box hB2 _).trans ⟨hK.os, hK.tape, hK.output, hK.size, fun i hi => hK.block i (by have := hB2.size; simp; omega) (by omega)⟩
    clear hS hK hg' hg3 hbox
    go_wp2_with fail
    go_ret
    exact ⟨_, _, rfl, hB3⟩

set_option maxRecDepth 100000 in
set_option maxHeartbeats 1600000 in
theorem sortedBytes_empty (B : Nat) (v : Value) (ob : List UInt8) (A : Option Addr) (cap : Nat) (hA : A = none → cap = 0) (w : World) (hob : ob.length ≤ 900000000000) (hB : B ≤ w.heap.size) (hv : RowU w B v ob) :
    Calls Tryz.prog 48 #[v, .slice A 0 cap] w fun e w' => ∃ v', e = .returned v' ∧ RowU w' B v' (ob ++ sortedSpec [] []) ∧ AppK w w' v v' := by
  have hWid := Widths_ok [] A cap w (.inl rfl) (by simp) (by simp) (by simp)
  have hs0 : sortN (widthsOf []) = [] := by simp [widthsOf, sortN]
  rw [hs0] at hWid
  go_enter Tryz.func48, Tryz.ntmps48
  go_wp2_with fail
  refine hWid.mono ?_
  rintro e w2 ⟨vW, rfl, hI2, hB2⟩
  obtain ⟨pW, cW, rfl⟩ : ∃ p c, vW = .slice p 0 c := by
    rcases hI2.2 with ⟨h, _⟩ | ⟨g, c, _, h, _⟩
    · exact ⟨none, 0, h⟩
    · exact ⟨_, c, h⟩
  have hz2 := hB2.size
  have hl1 := low_ok B 0 4 v ob (by omega) (by omega) (by omega) w2 (by omega) (hv.keep hB2)
  clear hWid
  go_wp2_with fail
  refine hl1.mono ?_
  clear hl1
  rintro e w3 ⟨v2, rfl, hV3, hA3⟩
  have hA03 : AppK w w3 v v2 := AppK.trans ⟨Kp.of_below hB2, .inl rfl⟩ hA3
  have hBy := ByDigest_empty A cap hA w3
  go_wp2_with fail
  refine hBy.mono ?_
  clear hBy
  rintro e w4 ⟨g, c, rfl, hB4⟩
  have hV4 := hV3.keep hB4
  have hA04 : AppK w w4 v v2 := AppK.trans hA03 ⟨Kp.of_below hB4, .inl rfl⟩
  clear hV3 hA03 hI2 hv hA3
  go_wp2_with fail
  refine wp_loop_rounds 1 ?_
  rw [rounds_succ]
  go_wp2_with fail
  go_ret
  refine ⟨v2, rfl, ?_, hA04⟩
  have e0 : ob ++ sortedSpec [] [] = ob ++ Lib.leBytes 4 0 := by simp [sortedSpec, widthsOf, sortN]
  rw [e0]
  exact hV4
end Go.Proofs.YtgdgmegpacmgnaaGreatDoor

/- impl.IxBytes of one entry, sorted by digests. -/
namespace Go.Proofs.YtgdgmegpacmgnaaGreatDoor
open Go.RowKit
set_option linter.unusedVariables false
set_option linter.unusedSimpArgs false
attribute [local go_sem] setCell_drewN alloc_drewN

theorem info_Rec : (Tryz.prog.info? 116).map (fun i => (i.zero, i.size, i.bytes)) = some (some (.agg #[.string ⟨#[]⟩, .int .u64 0]), 2, 24) := by kernel_rfl
theorem method_LoadM (v : Value) (w : World) : (method 463 mwT v "Load").run Tryz.prog w = .ok (184, v) w := by kernel_rfl

theorem two_cells (w : World) (x y : Value) (t : TypeId) : ∀ (j : Nat) (u : Value), [x, y][j]? = some u → (w.alloc (.cells #[x, y] t)).cell? ((⟨w.heap.size, 0, none⟩ : Addr).add j) = some u := by
  intro j u hj
  match j, hj with
  | 0, hj => simp at hj; subst hj; simp [Addr.add]
  | 1, hj => simp at hj; subst hj; simp [Addr.add]
theorem sortedSecs_one (s : Sec) : sortedSecs [s] = [s.two] := by
  rw [sortedSecs, List.map_cons, List.map_nil, sortN_tiny (by simp)]
  simp [inOrder]

/-- An entry of an index, as it lies in a slice at block g. -/
structure EntAt (w : World) (g : Nat) (c : CidOf) (off : Nat) : Prop where
  c0 : w.cell? ⟨g, 0, none⟩ = some (.int .u64 (c.ver : Int))
  c1 : w.cell? ⟨g, 1, none⟩ = some (.int .u64 (c.codec : Int))
  c2 : w.cell? ⟨g, 2, none⟩ = some (.int .u64 (c.code : Int))
  c3 : w.cell? ⟨g, 3, none⟩ = some (.string (sOf c.dig))
  c4 : w.cell? ⟨g, 4, none⟩ = some (.int .u64 (off : Int))
theorem EntAt.lt {w : World} {g : Nat} {c : CidOf} {off : Nat} (h : EntAt w g c off) : g < w.heap.size := World.block_lt_of_cell? w _ h.c0
theorem EntAt.below {w w' : World} {g : Nat} {c : CidOf} {off : Nat} (h : EntAt w g c off) (hb : Below w.heap.size w w') : EntAt w' g c off :=
  ⟨(hb.cell (p := ⟨g, 0, none⟩) h.lt).trans h.c0, (hb.cell (p := ⟨g, 1, none⟩) h.lt).trans h.c1, (hb.cell (p := ⟨g, 2, none⟩) h.lt).trans h.c2, (hb.cell (p := ⟨g, 3, none⟩) h.lt).trans h.c3, (hb.cell (p := ⟨g, 4, none⟩) h.lt).trans h.c4⟩

/-- The bytes of an index of one entry, sorted by digests. -/
def oneSorted (dig : List UInt8) (off : Nat) : List UInt8 := Lib.uvarint 1024 ++ mwBytes [(dig.length + 8, dig ++ Lib.leBytes 8 off)]

set_option maxRecDepth 100000 in
set_option maxHeartbeats 3200000 in
theorem indexBytes_one (ge cap off : Nat) (c : CidOf) (hc : c.Ok) (hd : 0 < c.dig.length) (hoff : off < 18446744073709551616) (w : World) (hE : EntAt w ge c off) :
    Calls Tryz.prog 25 #[.slice (some ⟨ge, 0, none⟩) 1 cap, .int .u64 1024] w fun e w' => e = .returned (.tuple #[.string (sOf (oneSorted c.dig off)), .bool true]) ∧ Below w.heap.size w w' := by
  obtain ⟨i0, ti, tz0, tz1, tz2⟩ := info_parts info_Rec
  have hdl := hc.dig
  have hme := method_LoadM
  have hgl := hE.lt
  go_enter Tryz.func25, Tryz.ntmps25
  go_wp2_with fail
  refine (New_sorted _).mono ?_
  rintro e w1 ⟨rfl, hM1, hb1⟩
  have hE1 := hE.below hb1
  obtain ⟨c0, c1, c2, c3, c4⟩ := hE1
  have hg1 : ge < w1.heap.size := by have := hb1.size; omega
  have hz1 : w.heap.size + 1 < w1.heap.size := World.block_lt_of_cell? w1 _ hM1.cell
  have hCid := fun W => cidIn_ok c hc W
  go_wp2_with fail
  refine wp_loop_rounds 2 ?_
  rw [rounds_succ]
  go_wp2_with fail
  refine (hCid _).mono ?_
  rintro e w2 ⟨rfl, hb2⟩
  have hbw2 : Below w1.heap.size w1 w2 := by (repeat (first | (with_reducible exact Below.refl _ _) | (with_reducible exact below_boxed _ _) | (with_reducible refine below_box ?_ _) | (with_reducible refine below_drew1 ?_) | (with_reducible refine below_drewn ?_ _) | (with_reducible refine below_bytes ?_ _ _) | (with_reducible refine below_next ?_ (by assumption)) | (with_reducible refine below_set ?_ (by first | (simp; done) | (simp; omega) | omega) _)))
  have kbox : w2.cell? ⟨w1.heap.size, 4, none⟩ = some (.int .u64 (off : Int)) := by
    have h := hb2.cell (p := ⟨w1.heap.size, 4, none⟩) (by simp)
    rw [h]
    exact blk_cell' (heap_alloc_last w1 _) 4
  have hM2 : MwAt w2 ⟨w.heap.size + 1, 0, none⟩ w.heap.size [] := hM1.kp (S := fun _ => False) (Kp.of_below hbw2) id id (fun _ _ => id)
  have hz2 : w1.heap.size < w2.heap.size := by have := hb2.size; simp at this; omega
  have HB2 := Lib.hid (below_next hb1 hbw2); have HM2 := Lib.hid hM2
  clear hb1 hb2 hbw2 hM1 hM2 c0 c1 c2 c3 c4 hE hCid
  go_wp2_with (at_builtin; refine wpList_append_own _ rfl _ _ 110 rfl w2.heap.size 116 i0 (.agg #[.string ⟨#[]⟩, .int .u64 0]) 2 24 Tryz.underlying110 ti tz0 tz1 tz2 rfl (by decide) _ _ _ rfl (World.ownsRow_nil _ _ _ _) ⟨w2.heap.size + 1, 0, none⟩ 1 1 [.string c.str, .int .u64 (off : Int)] rfl rfl ?c1 ?c2 ?c3 ?c4 ?c5 ?_)
  case c1 =>
    intro j u hj
    have := two_cells (w2.alloc (.cells #[.string c.str] 112)) (.string c.str) (.int .u64 (off : Int)) 116 j u hj
    simpa using this
  case c2 =>
    intro u hu
    simp only [List.mem_cons, List.not_mem_nil, or_false] at hu
    rcases hu with rfl | rfl <;> rfl
  case c3 => unfold maxLen; omega
  case c4 => omega
  case c5 => simp; omega
  intro v3 w3 hown3 hgrow hn3
  refine later ?_
  obtain ⟨g3, cap3, cur3, rfl, hge3, hg3, hle3, hcm3, hcs3, htk3⟩ : ∃ g cap cur, v3 = .slice (some ⟨g, 0, none⟩) 1 cap ∧ w2.heap.size ≤ g ∧ w3.heap[g]? = some (.cells cur 116 (0, 0)) ∧ 1 ≤ cap ∧ cap ≤ maxLen ∧ cur.size = cap * 2 ∧ cur.toList.take (1 * 2) = [.string c.str, .int .u64 (off : Int)] := by
    rcases hown3.2 with ⟨_, h⟩ | h
    · cases h
    · exact h
  have k0 : w3.cell? ⟨g3, 0, none⟩ = some (.string c.str) := by
    rw [blk_cell' hg3 0]
    have : cur3.toList[0]? = some (.string c.str) := by
      have h := congrArg (fun l => l[0]?) htk3
      simpa using h
    simpa using this
  have k1 : w3.cell? ⟨g3, 1, none⟩ = some (.int .u64 (off : Int)) := by
    rw [blk_cell' hg3 1]
    have : cur3.toList[1]? = some (.int .u64 (off : Int)) := by
      have h := congrArg (fun l => l[1]?) htk3
      simpa using h
    simpa using this
  have hkA : Kp (fun _ => False) w2 ((w2.alloc (.cells #[.string c.str] 112)).alloc (.cells #[.string c.str, .int .u64 (off : Int)] 116)) := Kp.of_below (by (repeat (first | (with_reducible exact Below.refl _ _) | (with_reducible exact below_boxed _ _) | (with_reducible refine below_box ?_ _) | (with_reducible refine below_drew1 ?_) | (with_reducible refine below_drewn ?_ _) | (with_reducible refine below_bytes ?_ _ _) | (with_reducible refine below_next ?_ (by assumption)) | (with_reducible refine below_set ?_ (by first | (simp; done) | (simp; omega) | omega) _))))
  have hk23 : Kp (fun _ => False) w2 w3 := hkA.trans (kp_grown hgrow) (fun i h => by simp [Value.ownBlock] at h)
  have hM3 := HM2.out.kp hk23 id id (fun _ _ => id)
  have hL := MwLoad_one ⟨w.heap.size + 1, 0, none⟩ w.heap.size g3 cap3 off c hc hd hoff w3 hM3 (by simp) k0 k1
  have hbw3 : Below w.heap.size w w3 := HB2.out.trans ⟨hk23.os, hk23.tape, hk23.output, hk23.size, fun k hk => hk23.block k (by omega) id⟩
  have HB3 := Lib.hid hbw3
  clear hown3 hgrow hn3 hg3 htk3 k0 k1 hkA hk23 hM3 hbw3 kbox
  refine now ?_
  go_wp2_with fail
  rw [rounds_succ]
  go_wp2_with fail
  refine hL.mono ?_
  clear hL
  rintro e w4 ⟨rfl, ⟨gd, hgd, hM4⟩, hK4⟩
  have hW := written_sorted w.heap.size 1 ⟨w.heap.size + 1, 0, none⟩ [⟨c.dig.length + 8, c.dig ++ Lib.leBytes 8 off, gd⟩] w4 tinySort_32 (Nat.le_refl _) hM4 (by simp; omega) (by simp) (by rw [sortedSecs_one]; simp [secsBytes, secBytes_len, Sec.two, le8_len]; omega)
  rw [sortedSecs_one] at hW
  have hb4 : Below w.heap.size w w4 := HB3.out.trans ⟨hK4.os, hK4.tape, hK4.output, hK4.size, fun k hk => hK4.block k (by have := HB3.out.size; omega) (by omega)⟩
  clear hM4 hK4
  go_wp2_with fail
  refine hW.mono ?_
  clear hW
  rintro e w5 ⟨rfl, hb5⟩
  go_wp2_with fail
  go_ret2
  exact ⟨rfl, below_next hb4 hb5⟩

set_option maxRecDepth 100000 in
theorem IxBytes_one (ge cap off : Nat) (c : CidOf) (hc : c.Ok) (hd : 0 < c.dig.length) (hoff : off < 18446744073709551616) (w : World) (hE : EntAt w ge c off) :
    Calls Tryz.prog 17 #[.slice (some ⟨ge, 0, none⟩) 1 cap, .int .u64 1024] w fun e w' => e = .returned (.tuple #[.string (sOf (oneSorted c.dig off)), .bool true]) ∧ Below w.heap.size w w' := by
  have hI := indexBytes_one ge cap off c hc hd hoff w hE
  clear hE
  go_enter Tryz.func17, Tryz.ntmps17
  go_wp2_with fail
  refine hI.mono ?_
  rintro e w1 ⟨rfl, hb⟩
  go_wp2_with fail
  go_ret2
  exact ⟨rfl, hb⟩
end Go.Proofs.YtgdgmegpacmgnaaGreatDoor

/- ixOne: an index of one entry. -/
namespace Go.Proofs.YtgdgmegpacmgnaaGreatDoor
open Go.RowKit
set_option linter.unusedVariables false
set_option linter.unusedSimpArgs false
attribute [local go_sem] setCell_drewN alloc_drewN

theorem cmp_self : ∀ a : List UInt8, Lib.compareBytes a a = 0
  | [] => rfl
  | x :: a => by unfold Lib.compareBytes; simp [cmp_self a]
/-- What the index of one entry tells of its digest. -/
theorem tells_one {d : List UInt8} {off : Nat} (hoff : off < 18446744073709551616) {M : List Nat} (h : Tells [(d.length + 8, d ++ Lib.leBytes 8 off)] d M) : M = [off] := by
  have hd0 : rowDig (d.length + 8) (d ++ Lib.leBytes 8 off) 0 = d := by simp [rowDig]
  have ho0 : rowOff (d.length + 8) (d ++ Lib.leBytes 8 off) 0 = Lib.leBytes 8 off := by
    simp only [rowOff, Nat.zero_add, Nat.one_mul, Nat.add_sub_cancel, List.drop_left]
    exact List.take_of_length_le (by rw [le_length]; omega)
  rcases h with ⟨h, _⟩ | ⟨s, hs, hw, n, r, hn, ⟨h1, h2, h3⟩, hM⟩
  · exact absurd rfl (h _ List.mem_cons_self)
  · obtain rfl : s = (d.length + 8, d ++ Lib.leBytes 8 off) := by simpa using hs
    simp only [List.length_append, le_length] at hn h1 h2 h3 hM
    obtain rfl : n = 1 := by
      rcases Nat.lt_trichotomy n 1 with h | h | h
      · obtain rfl : n = 0 := by omega
        omega
      · exact h
      · have : 2 * (d.length + 8) ≤ n * (d.length + 8) := Nat.mul_le_mul_right _ h
        omega
    obtain rfl : r = 0 := by
      rcases Nat.lt_or_ge r 1 with h | h
      · omega
      · obtain rfl : r = 1 := by omega
        rcases h2 with h2 | h2
        · exact h2
        · rw [Nat.sub_self, hd0, cmp_self] at h2
          simp at h2
    rw [hM]
    simp only [Nat.sub_zero, runFrom, hd0, ho0, if_true]
    rw [Lib.leNat_leBytes 8 off (by omega)]
/-- The specification's bytes of the index of one entry. -/
theorem sorted_one (c : CidOf) (off : Nat) : Lib.uvarint 1024 ++ sortedSpec [(c, (off : Int))] [(c, (off : Int))] = oneSorted c.dig off := by
  have hw : sortN (widthsOf [(c, (off : Int))]) = [c.dig.length] := by
    have : widthsOf [(c, (off : Int))] = [c.dig.length] := by simp [widthsOf, widthStep]
    rw [this, sortN_tiny (by simp)]
  simp [sortedSpec, hw, widthSec, rowsOf, hasLen, oneSorted, mwBytes, secsBytes, secBytes]
theorem EntAt.rows {w : World} {g : Nat} {c : CidOf} {off : Nat} (h : EntAt w g c off) : RowsAt w (some ⟨g, 0, none⟩) [(c, (off : Int))] := by
  refine .inr ⟨g, 0, rfl, fun i x hx j v hj => ?_⟩
  match i, hx with
  | 0, hx =>
    simp only [List.getElem?_cons_zero, Option.some.injEq] at hx
    subst hx
    match j, hj with
    | 0, hj => cases hj; exact h.c0
    | 1, hj => cases hj; exact h.c1
    | 2, hj => cases hj; exact h.c2
    | 3, hj => cases hj; exact h.c3
    | 4, hj => cases hj; exact h.c4
  | i + 1, hx => simp at hx

set_option maxRecDepth 100000 in
set_option maxHeartbeats 1600000 in
theorem Fitting_id (s : ByteArray) (w : World) : Calls Tryz.prog 16 #[.int .u64 1, .int .u64 85, .int .u64 0, .string s] w fun e w' => e = .returned (.agg #[.int .u64 1, .int .u64 85, .int .u64 0, .string s]) ∧ Below w.heap.size w w' := by
  have hS : ∀ W, Calls Tryz.prog 24 #[.int .u64 0, .string s] W fun e w' => e = .returned (.tuple #[.string s, .bool true]) ∧ w' = W := by
    intro W
    go_enter Tryz.func24, Tryz.ntmps24
    go_wp2_with fail
    go_ret2
    exact ⟨rfl, rfl⟩
  go_enter Tryz.func16, Tryz.ntmps16
  go_wp2_with fail
  refine (hS _).mono ?_
  rintro e w1 ⟨rfl, rfl⟩
  go_wp2_with fail
  refine bodyPost_ret (v := .agg #[.int .u64 1, .int .u64 85, .int .u64 0, .string s]) (by simp [results, Tryz.results16, go_sem]) rfl ?_
  exact ⟨rfl, by (repeat (first | (with_reducible exact Below.refl _ _) | (with_reducible exact below_boxed _ _) | (with_reducible refine below_box ?_ _) | (with_reducible refine below_drew1 ?_) | (with_reducible refine below_drewn ?_ _) | (with_reducible refine below_bytes ?_ _ _) | (with_reducible refine below_next ?_ (by assumption)) | (with_reducible refine below_set ?_ (by first | (simp; done) | (simp; omega) | omega) _)))⟩
/-- The entry. -/
def oneC : CidOf := ⟨1, 85, 0, [97]⟩
theorem oneC_ok : oneC.Ok := ⟨.inr rfl, by decide, by decide, by decide⟩

set_option maxRecDepth 100000 in
set_option maxHeartbeats 3200000 in
theorem ixOne_sorted (p : Addr) (w : World) (hg5 : 4 < w.heap.size) (he : w.cell? ⟨4, 0, none⟩ = some (.iface 137 (.pointer (some p)))) :
    Calls Tryz.prog 6 #[.int .u64 1024] w fun e w' => e = .returned (.bool true) ∧ Below w.heap.size w w' := by
  go_enter Tryz.func6, Tryz.ntmps6
  go_wp2_with fail
  refine (Fitting_id _ _).mono ?_
  rintro e w1 ⟨rfl, hb1⟩
  go_wp2_with fail
  obtain ⟨w2, hw2⟩ : ∃ w2, w2 = w1.alloc (.cells #[.int .u64 1, .int .u64 85, .int .u64 0, .string ⟨#[97]⟩, .int .u64 7] 62) := ⟨_, rfl⟩
  have hblk : w2.heap[w1.heap.size]? = some (.cells #[.int .u64 1, .int .u64 85, .int .u64 0, .string ⟨#[97]⟩, .int .u64 7] 62 (0, 0)) := by rw [hw2]; exact heap_alloc_new w1 _
  have hE2 : EntAt w2 w1.heap.size oneC 7 := ⟨blk_cell' hblk 0, blk_cell' hblk 1, blk_cell' hblk 2, blk_cell' hblk 3, blk_cell' hblk 4⟩
  have hb2 : Below w.heap.size w w2 := by rw [hw2]; exact below_box hb1 _
  rw [← hw2]
  generalize hge : w1.heap.size = ge at *
  have hI := IxBytes_one ge 1 7 oneC oneC_ok (by decide) (by decide) w2 hE2
  have hol : (oneSorted oneC.dig 7).length = 27 := by
    simp [oneSorted, mwBytes, secsBytes, secBytes, le_length, uv1024, oneC]
  have hos : (sOf (oneSorted oneC.dig 7)).data.toList = Lib.uvarint 1024 ++ (mwBytes [(oneC.dig.length + 8, oneC.dig ++ Lib.leBytes 8 7)] ++ []) := by rw [List.append_nil]; simp [sOf, oneSorted]
  have hA : ∀ W, Below w.heap.size w W → Calls Tryz.prog 18 #[.string (sOf (oneSorted oneC.dig 7)), .agg #[.int .u64 1, .int .u64 85, .int .u64 0, .string ⟨#[97]⟩], .int .i64 9] W fun e w' =>
      ∃ q cq, e = .returned (.tuple #[.slice (some ⟨q, 0, none⟩) 1 cq, .int .u8 0]) ∧ w'.cell? ⟨q, 0, none⟩ = some (.int .u64 7) ∧ Below W.heap.size W w' := fun W hW => by
    refine (IxAll_sorted (sOf (oneSorted oneC.dig 7)) _ [] hos (by
      intro x hx
      obtain rfl : x = (oneC.dig.length + 8, oneC.dig ++ Lib.leBytes 8 7) := by simpa using hx
      exact ⟨by decide, by decide, 1, by decide, by omega⟩) (by simp) (by rw [show (sOf (oneSorted oneC.dig 7)).size = 27 from by simp [sOf, ByteArray.size]; exact hol]; omega) oneC oneC_ok 9 (by omega) p W (by have := hW.size; omega) ((hW.cell (p := ⟨4, 0, none⟩) hg5).trans he)).mono ?_
    rintro e w' ⟨v, M, rfl, hT, hO, hb⟩
    obtain rfl := tells_one (by decide) hT
    rcases hO.2 with ⟨_, h⟩ | ⟨q, cq, cur, rfl, hq, hcur, h1, _, _, htk⟩
    · simp at h
    · refine ⟨q, cq, rfl, ?_, hb⟩
      exact World.ownsRow.cells hO (g := q) rfl 0 _ rfl
  have hX : ∀ W, Below w2.heap.size w2 W → Calls Tryz.prog 19 #[.slice (some ⟨ge, 0, none⟩) 1 1, .int .u64 1024] W fun e w' => e = .returned (.string (sOf (oneSorted oneC.dig 7))) ∧ Below W.heap.size W w' := fun W hW => by
    refine (IndexBytes_sorted 1 stable_one [(oneC, ((7 : Nat) : Int))] (some ⟨ge, 0, none⟩) 1 W ((hE2.below hW).rows) (by decide) (by decide) (by decide) (by decide) (by
      intro x hx
      obtain rfl : x = (oneC, ((7 : Nat) : Int)) := by simpa using hx
      decide) (by
      intro x hx
      obtain rfl : x = (oneC, ((7 : Nat) : Int)) := by simpa using hx
      decide)).mono ?_
    rintro e w' ⟨l', hP, hSD, rfl, hb⟩
    obtain rfl := List.perm_singleton.1 hP
    exact ⟨by rw [sorted_one], hb⟩
  have HX := Lib.hid hX; have HA := Lib.hid hA
  generalize sOf (oneSorted oneC.dig 7) = S at *
  have hgelt := hE2.lt
  clear hX hA hos hol hge hw2 he
  refine hI.mono ?_
  clear hI
  rintro e w3 ⟨rfl, hb3⟩
  have hE3 := hE2.below hb3
  have k0 : w3.cell? ⟨ge, 0, none⟩ = some (.int .u64 1) := hE3.c0
  have k1 : w3.cell? ⟨ge, 1, none⟩ = some (.int .u64 85) := hE3.c1
  have k2 : w3.cell? ⟨ge, 2, none⟩ = some (.int .u64 0) := hE3.c2
  have k3 : w3.cell? ⟨ge, 3, none⟩ = some (.string ⟨#[97]⟩) := hE3.c3
  have hbw3 : Below w.heap.size w w3 := below_next hb2 hb3
  go_wp2_with fail
  refine (HA.out w3 hbw3).mono ?_
  rintro e w4 ⟨q, cq, rfl, hq, hb4⟩
  have hbw4 : Below w.heap.size w w4 := below_next hbw3 hb4
  have hb24 : Below w2.heap.size w2 w4 := below_next hb3 hb4
  have hqlt := World.block_lt_of_cell? w4 _ hq
  clear hb2 hb3 hb4 hblk hE2 hE3 k0 k1 k2 k3 hb1 hbw3
  go_wp2_with fail
  refine (HX.out w4 hb24).mono ?_
  rintro e w5 ⟨rfl, hb5⟩
  have hq5 := (hb5.cell (p := ⟨q, 0, none⟩) hqlt).trans hq
  have hbw5 : Below w.heap.size w w5 := below_next hbw4 hb5
  clear hq hb24 hbw4 hb5
  go_wp2_with fail
  go_ret
  exact ⟨rfl, hbw5⟩
end Go.Proofs.YtgdgmegpacmgnaaGreatDoor

/- What an index, as the specification writes it, tells of a digest. Plain. -/
namespace Go.Proofs.YtgdgmegpacmgnaaGreatDoor
open Go.RowKit
set_option linter.unusedVariables false

abbrev Ents := List (CidOf × Int)
/-- The widths of an index, and their rows. -/
def secsOf (l l' : Ents) : List (Nat × List UInt8) := (sortN (widthsOf l)).map fun n => (n + 8, rowsOf l' n)
theorem sortedSpec_eq (l l' : Ents) : sortedSpec l l' = mwBytes (secsOf l l') := by
  have h : ∀ ws : List Nat, ws.flatMap (widthSec l') = secsBytes (ws.map fun n => (n + 8, rowsOf l' n)) := by
    intro ws
    induction ws with
    | nil => rfl
    | cons n ws ih =>
      rw [List.flatMap_cons, ih]
      simp [secsBytes, secBytes, widthSec]
  rw [sortedSpec, mwBytes, secsOf, h, List.length_map]
def rowB (x : CidOf × Int) : List UInt8 := x.1.dig ++ Lib.leBytes 8 x.2.toNat
theorem rowB_len (x : CidOf × Int) : (rowB x).length = x.1.dig.length + 8 := by rw [rowB, List.length_append, le_length]
theorem rows_at (n : Nat) : ∀ F : Ents, (∀ x ∈ F, x.1.dig.length = n) → (F.flatMap rowB).length = F.length * (n + 8) ∧ ∀ i x, F[i]? = some x → rowDig (n + 8) (F.flatMap rowB) i = x.1.dig ∧ rowOff (n + 8) (F.flatMap rowB) i = Lib.leBytes 8 x.2.toNat
  | [], _ => ⟨by simp, fun i x h => by simp at h⟩
  | y :: F, h => by
    have hy := h y List.mem_cons_self
    obtain ⟨ih1, ih2⟩ := rows_at n F (fun x hx => h x (List.mem_cons_of_mem _ hx))
    have hl : (rowB y).length = n + 8 := by rw [rowB_len, hy]
    refine ⟨by rw [List.flatMap_cons, List.length_append, hl, ih1, List.length_cons, Nat.add_mul]; omega, fun i x hx => ?_⟩
    cases i with
    | zero =>
      simp only [List.getElem?_cons_zero, Option.some.injEq] at hx
      subst hx
      refine ⟨?_, ?_⟩
      · simp only [rowDig, Nat.zero_mul, List.drop_zero, Nat.add_sub_cancel, List.flatMap_cons, rowB, List.append_assoc]
        rw [← hy, List.take_left]
      · simp only [rowOff, Nat.zero_add, Nat.one_mul, Nat.add_sub_cancel, List.flatMap_cons, rowB, List.append_assoc]
        rw [← hy, List.drop_left, List.take_append_of_le_length (by rw [le_length]; omega), List.take_of_length_le (by rw [le_length]; omega)]
    | succ i =>
      have := ih2 i x (by simpa using hx)
      rw [← this.1, ← this.2]
      refine ⟨?_, ?_⟩
      · simp only [rowDig, List.flatMap_cons]
        rw [show (i + 1) * (n + 8) = (rowB y).length + i * (n + 8) by rw [hl, Nat.add_mul]; omega, ← List.drop_drop, List.drop_left]
      · simp only [rowOff, List.flatMap_cons]
        rw [show (i + 1 + 1) * (n + 8) - 8 = (rowB y).length + ((i + 1) * (n + 8) - 8) by rw [hl, Nat.add_mul (i + 1), Nat.add_mul i]; omega, ← List.drop_drop, List.drop_left]
theorem run_spec (n : Nat) (d : List UInt8) (F : Ents) (hF : ∀ x ∈ F, x.1.dig.length = n) (hoff : ∀ x ∈ F, 0 ≤ x.2 ∧ x.2 < 18446744073709551616) : ∀ k r, r + k = F.length →
    ((∀ x, F[r]? = some x → x.1.dig ≠ d) → runFrom (n + 8) (F.flatMap rowB) d k r = []) ∧ ∀ x, F[r]? = some x → x.1.dig = d → ∃ M, runFrom (n + 8) (F.flatMap rowB) d k r = x.2.toNat :: M := by
  intro k r hk
  have hR := (rows_at n F hF).2
  cases k with
  | zero => exact ⟨fun _ => rfl, fun x hx => by have := (List.getElem?_eq_some_iff.1 hx).1; omega⟩
  | succ k =>
    obtain ⟨y, hy⟩ : ∃ y, F[r]? = some y := ⟨_, List.getElem?_eq_getElem (by omega)⟩
    obtain ⟨h1, h2⟩ := hR r y hy
    refine ⟨fun h => ?_, fun x hx e => ?_⟩
    · rw [runFrom, h1, if_neg (fun e => h y hy e.symm)]
    · rw [hy] at hx; cases hx
      have ho := hoff y (List.mem_of_getElem? hy)
      rw [runFrom, h1, if_pos e.symm, h2, Lib.leNat_leBytes 8 _ (by omega)]
      exact ⟨_, rfl⟩
theorem rowsOf_eq (l : Ents) (n : Nat) : rowsOf l n = (l.filter (hasLen n)).flatMap rowB := rfl
theorem mem_hasLen {l : Ents} {n : Nat} {x : CidOf × Int} : x ∈ l.filter (hasLen n) ↔ x ∈ l ∧ x.1.dig.length = n := by
  rw [List.mem_filter]; simp [hasLen]
theorem widthsOf_all {l : Ents} : ∀ x ∈ l, x.1.dig.length ∈ widthsOf l := by
  have h1 : ∀ (l : Ents) (acc : List Nat) (n : Nat), n ∈ acc → n ∈ l.foldl widthStep acc := by
    intro l
    induction l with
    | nil => intro acc n h; exact h
    | cons y l ih => intro acc n h; exact ih _ n (by unfold widthStep; split <;> simp [h])
  have h2 : ∀ (l : Ents) (acc : List Nat) (x : CidOf × Int), x ∈ l → x.1.dig.length ∈ l.foldl widthStep acc := by
    intro l
    induction l with
    | nil => intro acc x h; simp at h
    | cons y l ih =>
      intro acc x h
      rcases List.mem_cons.1 h with rfl | h
      · exact h1 l _ _ (by unfold widthStep; split <;> simp [*])
      · exact ih _ x h
  exact fun x hx => h2 l [] x hx
theorem widthsOf_nodup (l : Ents) : (widthsOf l).Nodup := by
  have : ∀ (l : Ents) (acc : List Nat), acc.Nodup → (l.foldl widthStep acc).Nodup := by
    intro l
    induction l with
    | nil => intro acc h; exact h
    | cons y l ih =>
      intro acc h
      refine ih _ ?_
      unfold widthStep
      split
      · exact h
      · next hn =>
        refine List.nodup_append.2 ⟨h, by simp, fun a ha b hb => ?_⟩
        simp only [List.mem_singleton] at hb
        subst hb
        exact fun e => hn (e ▸ ha)
  exact this l [] List.nodup_nil

/-- THE LAW: of a digest an index tells nothing just if no entry has it; the first that it tells is the offset of an entry that has it. -/
theorem tells_sorted {l l' : Ents} (hP : l'.Perm l) (hS : SortedD l') (hoff : ∀ x ∈ l, 0 ≤ x.2 ∧ x.2 < 18446744073709551616) {d : List UInt8} {M : List Nat} (hT : Tells (secsOf l l') d M) :
    (M = [] ∧ ∀ x ∈ l, x.1.dig ≠ d) ∨ ∃ x ∈ l, x.1.dig = d ∧ ∃ M', M = x.2.toNat :: M' := by
  rcases hT with ⟨h, rfl⟩ | ⟨s, hs, hw, n, r, hn, ⟨h1, h2, h3⟩, hM⟩
  · refine .inl ⟨rfl, fun x hx e => ?_⟩
    refine h (x.1.dig.length + 8, rowsOf l' x.1.dig.length) (List.mem_map.2 ⟨x.1.dig.length, ?_, rfl⟩) (by rw [e])
    exact sortN_mem.2 (widthsOf_all x hx)
  · obtain ⟨m, hm, rfl⟩ := List.mem_map.1 hs
    simp only at hw hn hM h1 h2 h3
    obtain rfl : m = d.length := by omega
    rw [rowsOf_eq] at hn hM h2 h3
    generalize hF : l'.filter (hasLen d.length) = F at *
    have hFl : ∀ x ∈ F, x ∈ l ∧ x.1.dig.length = d.length := fun x hx => by rw [← hF] at hx; obtain ⟨a, b⟩ := mem_hasLen.1 hx; exact ⟨hP.mem_iff.1 a, b⟩
    have hFS : F.Pairwise fun x y => Lib.compareBytes x.1.dig y.1.dig ≤ 0 := by rw [← hF]; exact hS.filter _
    have hlF : ∀ x ∈ l, x.1.dig = d → x ∈ F := fun x hx e => by rw [← hF]; exact mem_hasLen.2 ⟨hP.mem_iff.2 hx, by rw [e]⟩
    obtain ⟨r1, r2⟩ := rows_at d.length F (fun x hx => (hFl x hx).2)
    obtain rfl : n = F.length := by
      rw [r1] at hn
      exact (Nat.eq_of_mul_eq_mul_right (by omega) hn).symm
    obtain ⟨g1, g2⟩ := run_spec d.length d F (fun x hx => (hFl x hx).2) (fun x hx => hoff x (hFl x hx).1) (F.length - r) r (by omega)
    have hp : ∀ i x, F[i]? = some x → decide (Lib.compareBytes d (rowDig (d.length + 8) (F.flatMap rowB) i) ≤ 0) = decide (Lib.compareBytes d x.1.dig ≤ 0) := fun i x hx => by rw [(r2 i x hx).1]
    by_cases hex : ∃ x, F[r]? = some x ∧ x.1.dig = d
    · obtain ⟨x, hx, e⟩ := hex
      obtain ⟨M', h⟩ := g2 x hx e
      exact .inr ⟨x, (hFl x (List.mem_of_getElem? hx)).1, e, M', by rw [hM, h]⟩
    · refine .inl ⟨by rw [hM]; exact g1 (fun x hx e => hex ⟨x, hx, e⟩), fun x hx e => ?_⟩
      obtain ⟨i, hi⟩ := List.getElem?_of_mem (hlF x hx e)
      have hil := (List.getElem?_eq_some_iff.1 hi).1
      rcases Nat.lt_or_ge i r with hlt | hge
      · rcases h2 with h2 | h2
        · omega
        · obtain ⟨y, hy⟩ : ∃ y, F[r - 1]? = some y := ⟨_, List.getElem?_eq_getElem (by omega)⟩
          rw [hp _ y hy] at h2
          simp only [decide_eq_false_iff_not] at h2
          have hxy : Lib.compareBytes x.1.dig y.1.dig ≤ 0 := by
            rcases Nat.lt_or_eq_of_le (show i ≤ r - 1 by omega) with h | h
            · have hxe := (List.getElem?_eq_some_iff.1 hi).2
              have hye := (List.getElem?_eq_some_iff.1 hy).2
              rw [← hxe, ← hye]
              exact List.pairwise_iff_getElem.1 hFS i (r - 1) _ _ h
            · subst h; rw [hi] at hy; cases hy; rw [co_self]; omega
          rw [e] at hxy
          exact h2 hxy
      · rcases h3 with h3 | h3
        · omega
        · obtain ⟨y, hy⟩ : ∃ y, F[r]? = some y := ⟨_, List.getElem?_eq_getElem (by omega)⟩
          rw [hp _ y hy] at h3
          simp only [decide_eq_true_eq] at h3
          have hyx : Lib.compareBytes y.1.dig x.1.dig ≤ 0 := by
            rcases Nat.lt_or_eq_of_le hge with h | h
            · have hxe := (List.getElem?_eq_some_iff.1 hi).2
              have hye := (List.getElem?_eq_some_iff.1 hy).2
              rw [← hxe, ← hye]
              exact List.pairwise_iff_getElem.1 hFS r i _ _ h
            · subst h; rw [hi] at hy; cases hy; rw [co_self]; omega
          rw [e] at hyx
          have := co_neg d y.1.dig
          exact hex ⟨y, hy, co_eq _ _ (by omega)⟩

/-- What stands in the parts of an index. -/
theorem secsOf_ok {l l' : Ents} (hP : l'.Perm l) (hd : ∀ x ∈ l, x.1.dig.length ≤ 1000) (hl : l.length ≤ 10000) : (∀ x ∈ secsOf l l', 8 ≤ x.1 ∧ x.1 ≤ 33554432 ∧ ∃ n, x.2.length = n * x.1 ∧ n ≤ 1000000) ∧ ((secsOf l l').map (·.1)).Nodup := by
  refine ⟨fun s hs => ?_, ?_⟩
  · obtain ⟨m, hm, rfl⟩ := List.mem_map.1 hs
    obtain ⟨x, hx, rfl⟩ := widthsOf_mem (sortN_mem.1 hm)
    have := hd x hx
    refine ⟨by show 8 ≤ x.1.dig.length + 8; omega, by show x.1.dig.length + 8 ≤ _; omega, (l'.filter (hasLen x.1.dig.length)).length, ?_, ?_⟩
    · show (rowsOf l' _).length = _
      rw [rowsOf_eq]
      exact (rows_at _ _ (fun y hy => (mem_hasLen.1 hy).2)).1
    · have h1 := List.length_filter_le (hasLen x.1.dig.length) l'
      have h2 := hP.length_eq
      omega
  · rw [secsOf, List.map_map]
    have h : ((sortN (widthsOf l)).map ((fun x => x.1) ∘ fun n => (n + 8, rowsOf l' n))) = (sortN (widthsOf l)).map (· + 8) := rfl
    rw [h]
    refine (List.pairwise_map).2 ?_
    have hn : (sortN (widthsOf l)).Nodup := (List.mergeSort_perm _ _).nodup_iff.2 (widthsOf_nodup l)
    exact hn.imp fun h e => h (by omega)
end Go.Proofs.YtgdgmegpacmgnaaGreatDoor
