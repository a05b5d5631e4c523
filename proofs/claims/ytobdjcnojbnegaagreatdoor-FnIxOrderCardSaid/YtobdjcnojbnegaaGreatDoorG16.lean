import Derived.Test.YtobdjcnojbnegaaGreatDoorG15
import Derived.Test.YtobdjcnojbnegaaGreatDoorG09
import Derived.Test.YtobdjcnojbnegaaGreatDoorG11
import Derived.Shelf.GgSortFunc.SmallK
import Derived.Test.YtobdjcnojbnegaaGreatDoorG13
import Derived.Laws.AppendOwnNone
import Derived.Test.YtobdjcnojbnegaaGreatDoorG12
import Derived.RegionCalls
/- sort.SliceStable of entries by their digests, of any number. -/
namespace Go.Proofs.YtobdjcnojbnegaaGreatDoor
open Go.Shelf Go.RowKit Go.Lib Go.Sort
set_option linter.unusedVariables false
set_option linter.unusedSimpArgs false
attribute [local go_sem] setCell_drewN alloc_drewN

instance : Inhabited CidOf := ⟨⟨0, 0, 0, []⟩⟩
/-- By digests, then by offsets. -/
def ltD (x y : CidOf × Int) : Bool := if x.1.dig = y.1.dig then decide (x.2 < y.2) else Op.bytesLess x.1.dig y.1.dig
theorem ltD_iff (x y : CidOf × Int) : ltD x y = true ↔ Lib.compareBytes x.1.dig y.1.dig < 0 ∨ (x.1.dig = y.1.dig ∧ x.2 < y.2) := by
  unfold ltD
  by_cases h : x.1.dig = y.1.dig
  · rw [if_pos h, h, co_self]; simp
  · rw [if_neg h, less_iff]; simp [h]
theorem ltD_not (x y : CidOf × Int) : ltD x y = false ↔ Lib.compareBytes y.1.dig x.1.dig < 0 ∨ (x.1.dig = y.1.dig ∧ y.2 ≤ x.2) := by
  rw [← Bool.not_eq_true, ltD_iff]
  have h := co_neg x.1.dig y.1.dig
  have v := co_vals x.1.dig y.1.dig
  constructor
  · intro hn
    by_cases e : x.1.dig = y.1.dig
    · exact .inr ⟨e, by have : ¬ x.2 < y.2 := fun h' => hn (.inr ⟨e, h'⟩); omega⟩
    · have e' : Lib.compareBytes x.1.dig y.1.dig ≠ 0 := fun h' => e (co_eq _ _ h')
      have : ¬ Lib.compareBytes x.1.dig y.1.dig < 0 := fun h' => hn (.inl h')
      exact .inl (by omega)
  · rintro (h1 | ⟨e, h1⟩) (h2 | ⟨e', h2⟩)
    · omega
    · rw [e', co_self] at h1; omega
    · rw [e, co_self] at h2; omega
    · omega
theorem ltD_swo : SWO ltD where
  irrefl x := by rw [ltD_not]; exact .inr ⟨rfl, Int.le_refl _⟩
  trans x y z h1 h2 := by
    rw [ltD_iff] at h1 h2 ⊢
    rcases h1 with h1 | ⟨e1, h1⟩ <;> rcases h2 with h2 | ⟨e2, h2⟩
    · exact .inl (co_lt_trans h1 (by omega))
    · rw [e2] at h1; exact .inl h1
    · rw [← e1] at h2; exact .inl h2
    · exact .inr ⟨e1.trans e2, by omega⟩
  ntrans x y z h1 h2 := by
    rw [ltD_not] at h1 h2 ⊢
    rcases h1 with h1 | ⟨e1, h1⟩ <;> rcases h2 with h2 | ⟨e2, h2⟩
    · exact .inl (co_lt_trans h2 (by omega))
    · rw [e2] at h1; exact .inl h1
    · rw [← e1] at h2; exact .inl h2
    · exact .inr ⟨e1.trans e2, by omega⟩
theorem sortedD_of {d : Array (CidOf × Int)} (h : SortedIn ltD 0 d.size d) : SortedD d.toList := by
  refine List.pairwise_iff_getElem.2 fun i j hi hj hij => ?_
  have hi' : i < d.size := by simpa using hi
  have hj' : j < d.size := by simpa using hj
  have := h i j (Nat.zero_le _) hij hj'
  rw [getElem!_pos d i hi', getElem!_pos d j hj', ltD_not] at this
  simp only [Array.getElem_toList]
  rcases this with h | ⟨e, _⟩
  · omega
  · rw [e, co_self]; omega
theorem perm_of {d d' : Array (CidOf × Int)} (h : PermIn 0 d.size d d') : d'.toList.Perm d.toList := by
  have := h.2.2
  rw [show d'.extract 0 d.size = d' by rw [← h.1]; simp, show d.extract 0 d.size = d by simp] at this
  exact this

theorem sofList (l : List UInt8) : (sOf l).toList = l := ByteArray.toList_mk l
theorem flatK_row (d : Array (CidOf × Int)) : (flatK EntCells 5 d).toList = entRow d.toList := by
  refine List.ext_getElem? fun t => ?_
  by_cases ht : t < d.size * 5
  · have hlen : t < (flatK EntCells 5 d).size := by rw [size_flatK]; exact ht
    have hd : t / 5 < d.size := by omega
    have h1 : (flatK EntCells 5 d).toList[t]? = some ((EntCells d[t / 5]!)[t % 5]!) := by
      rw [Array.getElem?_toList, Array.getElem?_eq_getElem hlen, ← getElem!_pos, get_flatK _ _ _ _ ht]
    have hx : d.toList[t / 5]? = some d[t / 5]! := by rw [Array.getElem?_toList, Array.getElem?_eq_getElem hd, getElem!_pos]
    have hv : (EntCells d[t / 5]!)[t % 5]? = some ((EntCells d[t / 5]!)[t % 5]!) := by
      have hl : t % 5 < (EntCells d[t / 5]!).length := by show t % 5 < 5; omega
      rw [List.getElem?_eq_getElem hl, getElem!_pos (EntCells d[t / 5]!) (t % 5) hl]
    have h2 := entRow_get hx hv
    rw [show t / 5 * 5 + t % 5 = t by omega] at h2
    rw [h1, h2]
  · rw [List.getElem?_eq_none (by simp; omega), List.getElem?_eq_none (by rw [entRow_len]; simp; omega)]
theorem holdsK_of {w : World} {g : Nat} {l : List (CidOf × Int)} {tail : List Value} {t : TypeId} (h : w.heap[g]? = some (.cells (entRow l ++ tail).toArray t (0, 0))) : HoldsK EntCells 5 w g 0 l.toArray := by
  intro j hj
  rw [size_flatK] at hj
  simp only [List.size_toArray] at hj
  have h0 : (entRow l)[j]? = some (flatK EntCells 5 l.toArray)[j]! := by
    have h1 := flatK_row l.toArray
    rw [show (l.toArray).toList = l from rfl] at h1
    rw [← h1, Array.getElem?_toList, Array.getElem?_eq_getElem (by rw [size_flatK]; simpa using hj), ← getElem!_pos (flatK EntCells 5 l.toArray) j (by rw [size_flatK]; simpa using hj)]
  refine ⟨?_, by rw [Nat.zero_add]; exact blk_free' h j⟩
  rw [Nat.zero_add, blk_cell' h, List.getElem?_toArray, List.getElem?_append_left (by rw [entRow_len]; omega), h0]; rfl
theorem heap_sortedK {w : World} {g n : Nat} {os : Array Obj} {l : List (CidOf × Int)} {tail : List Value} {t : TypeId} (d : Array (CidOf × Int)) (hd : d.size = l.length) (h : w.heap[g]? = some (.cells (entRow l ++ tail).toArray t (0, 0))) :
    (sortWorldK EntCells 5 w g 0 n d os).heap[g]? = some (.cells (entRow d.toList ++ tail).toArray t (0, 0)) := by
  have hg : g < w.heap.size := (Array.getElem?_eq_some_iff.1 h).1
  have e : putCells id 0 (flatK EntCells 5 d) (entRow l ++ tail).toArray = (entRow d.toList ++ tail).toArray := by
    have hl : (entRow d.toList).length = (entRow l).length := by rw [entRow_len, entRow_len]; simp [hd]
    have hf : (flatK EntCells 5 d).size = (entRow l).length := by rw [size_flatK, entRow_len, hd]
    refine Array.ext (by simp [putCells, hl]) fun i h1 h2 => ?_
    have hi : i < (entRow l ++ tail).length := by simpa [putCells] using h1
    by_cases hlt : i < (flatK EntCells 5 d).size
    · have hr : (entRow d.toList)[i]? = some (flatK EntCells 5 d)[i]! := by
        rw [← flatK_row, Array.getElem?_toList, Array.getElem?_eq_getElem hlt, getElem!_pos]
      have hi2 : i < (entRow d.toList).length := by omega
      rw [List.getElem?_eq_getElem hi2] at hr
      have hlt' : i < d.size * 5 := by rw [size_flatK] at hlt; exact hlt
      have hr' : (entRow d.toList)[i] = (flatK EntCells 5 d)[i]! := Option.some.inj hr
      simp only [putCells]
      simp [hlt', List.getElem_append_left hi2, hr']
    · have hge : (entRow l).length ≤ i := by omega
      have hge2 : (entRow d.toList).length ≤ i := by omega
      have hlt' : ¬ i < d.size * 5 := by rw [size_flatK] at hlt; exact hlt
      simp only [putCells]
      simp [hlt', List.getElem_append_right hge, List.getElem_append_right hge2, hl]
  unfold sortWorldK
  rw [heap_grow_old _ _ (by simpa [putRowK, putRow, mapBlock, Sort.ahead] using hg)]
  simp [putRowK, putRow, mapBlock, Sort.ahead, Array.getElem?_modify, h, onCells, e]
theorem kp_sortK (w : World) (g n : Nat) (os : Array Obj) (d : Array (CidOf × Int)) : Kp (fun i => i = g) w (sortWorldK EntCells 5 w g 0 n d os) := by
  refine ⟨rfl, rfl, rfl, by unfold sortWorldK; rw [size_grow, size_putRowK]; show w.heap.size ≤ w.heap.size + _; omega, fun i hi hne => ?_⟩
  unfold sortWorldK
  rw [heap_grow_old _ _ (by simpa [putRowK, putRow, mapBlock, Sort.ahead] using hi)]
  have : ¬ g = i := fun e => hne e.symm
  simp [putRowK, putRow, mapBlock, Sort.ahead, Array.getElem?_modify, this]

set_option maxRecDepth 100000 in
set_option maxHeartbeats 3200000 in
theorem less_digest (g vb cap n : Nat) (W : World) (dk : Array (CidOf × Int)) (hn : dk.size = n) (i j : Nat) (hi : i < n) (hj : j < n) (hn6 : n ≤ 1000000) (hv : W.cell? ⟨vb, 0, none⟩ = some (.slice (some ⟨g, 0, none⟩) n cap)) (hH : HoldsK EntCells 5 W g 0 dk) (hvg : vb ≠ g) :
    Calls Tryz.prog 122 #[.int .i64 (i : Int), .int .i64 (j : Int), .pointer (some ⟨vb, 0, none⟩)] W fun e w' => e = .returned (.bool (ltD dk[i]! dk[j]!)) ∧ SWK EntCells 5 W g 0 dk w' := by
  subst hn
  have hcell : ∀ x, x < dk.size → ∀ c, c < 5 → W.cell? ⟨g, x * 5 + c, none⟩ = some (EntCells dk[x]!)[c]! := fun x hx c hc => by
    have := (hH.cell hx hc).1
    rwa [Nat.zero_add] at this
  have i0 := hcell i hi 0 (by omega); have i1 := hcell i hi 1 (by omega); have i2 := hcell i hi 2 (by omega); have i3 := hcell i hi 3 (by omega); have i4 := hcell i hi 4 (by omega)
  have j0 := hcell j hj 0 (by omega); have j1 := hcell j hj 1 (by omega); have j2 := hcell j hj 2 (by omega); have j3 := hcell j hj 3 (by omega); have j4 := hcell j hj 4 (by omega)
  rw [Nat.add_zero] at i0 j0
  generalize hx : dk[i]! = x at *
  generalize hy : dk[j]! = y at *
  simp only [EntCells] at i0 i1 i2 i3 i4 j0 j1 j2 j3 j4
  have hS0 := SWK.start hH
  have HS := Lib.hid hS0
  have hglt : g < W.heap.size := World.block_lt_of_cell? W _ i0
  have hvlt : vb < W.heap.size := World.block_lt_of_cell? W _ hv
  clear hcell hS0 hH hx hy
  go_enter Tryz.func122, Tryz.ntmps122
  go_wp2_with fail
  go_region
  all_goals clear i0 i1 i2 i3 i4 j0 j1 j2 j3 j4
  all_goals go_wp2_with fail
  all_goals
    go_ret
    rename_i hcmp
    refine ⟨?_, ?_⟩
    · simp only [sofList] at hcmp ⊢
      first
        | (have he : x.1.dig = y.1.dig := (by simpa using hcmp)
           have h : ltD x y = decide (x.2 < y.2) := (by unfold ltD; rw [if_pos he])
           rw [h]; rfl)
        | (have he : ¬ x.1.dig = y.1.dig := (by simpa using hcmp)
           have h : ltD x y = Op.bytesLess x.1.dig y.1.dig := (by unfold ltD; rw [if_neg he])
           rw [h]; rfl)
    · exact ((HS.out.alloc _).alloc _).drewN 1

/-- sort.SliceStable by digests, of any number. -/
noncomputable def entE : TypeInfo := (Tryz.prog.info? 40).get (by kernel_rfl)
theorem entK (n : Nat) (h2 : 2 ≤ n) : Lib.swapperK n entE 25 = 9 := by
  have a : entE.hasPointers = true := by kernel_rfl
  have b : entE.bytes = 48 := by kernel_rfl
  have c : (n == 0) = false := by simp; omega
  have d : (n == 1) = false := by simp; omega
  simp [Lib.swapperK, a, b, c, d]
theorem stable_ents (most : Nat) (hm : most ≤ 1000000) : StableEnts most := by
  intro g cap vb l tail w hl hg hv
  by_cases h1 : l.length ≤ 1
  · exact stable_one g cap vb l tail w h1 hg hv
  have h2 : 2 ≤ l.length := by omega
  have hglt := (Array.getElem?_eq_some_iff.1 hg).1
  have hvlt := World.block_lt_of_cell? w _ hv
  have hvg : vb ≠ g := by
    intro e
    subst e
    have h0 := (holdsK_of hg).cell (i := 0) (c := 0) (by simp; omega) (by omega)
    rw [Nat.zero_mul] at h0
    have := h0.1
    rw [hv] at this
    simp [EntCells] at this
  have hF : ∀ W (d : Array (CidOf × Int)), d.size = l.length → SWK EntCells 5 w g 0 d W → HoldsK EntCells 5 W g 0 d := fun W d hs h => h.holds hglt (holdsK_of hg) (by simpa using hs)
  have hless : LessG 122 #[.pointer (some ⟨vb, 0, none⟩)] EntCells 5 ltD g 0 l.length w := by
    intro dk W hs hS i j hi hj
    exact less_digest g vb cap l.length W dk hs i j hi hj (by omega) (swk_cell hS hv hvg) (hF W dk hs hS) hvg
  have hH := holdsK_of hg
  have hB : sliceBound Tryz.prog 40 entE 25 (some ⟨g, 0, none⟩) l.length cap = #[.slice (some ⟨g, 0, none⟩) l.length cap, typeHandle Tryz.prog 40] := by
    unfold sliceBound; rw [if_neg (swapperK_gt _ _ _ h2)]
  have hSW : SWK EntCells 5 w g 0 l.toArray (stableWorld Tryz.prog Tryz.laysGt8_ren 22 (some ⟨g, 0, none⟩) l.length cap w) := ((SWK.start hH).alloc _).alloc _
  have hFam : Fam EntCells 5 ltD 122 #[.pointer (some ⟨vb, 0, none⟩)] g 0 l.length l.toArray (stableWorld Tryz.prog Tryz.laysGt8_ren 22 (some ⟨g, 0, none⟩) l.length cap w) :=
    ⟨lessG_on hless hSW hglt (by simp), hF _ _ (by simp) hSW, hSW.lt hglt, by simp⟩
  have hswap := swapSwapsK_of_literal (P := Tryz.prog) false 67 (fun args W => run_callFunc_extern Tryz.func67 (by kernel_rfl) (by kernel_rfl) (by kernel_rfl) (e := Extern.ReflectliteSwapper.swap false) (by kernel_rfl) args W) 40 entE (by kernel_rfl) EntCells 5 (fun _ => rfl) (by kernel_rfl) (fun _ => by kernel_rfl) (fun x v hv => ent_one x v hv) g 0 l.length cap
  have hSt := stable_ok EntCells 5 (fun _ => rfl) ltD ltD_swo 122 #[.pointer (some ⟨vb, 0, none⟩)] 67 _ g 0 l.length (enters_of Tryz.func122 (by kernel_rfl) rfl) hswap (by omega) l.toArray _ hFam
  have hR := Any.sort_SliceStable_of_stable Tryz.laysGt8 22 40 entsT entE (by kernel_rfl) (by kernel_rfl) (by kernel_rfl) (by kernel_rfl) 25 (fun w => by kernel_rfl) (some ⟨g, 0, none⟩) l.length cap (by omega) 67 (by rw [entK _ h2]; kernel_rfl) (.func 122) #[] #[.pointer (some ⟨vb, 0, none⟩)] w
    (fun w' => ∃ l' : List (CidOf × Int), l'.Perm l ∧ SortedD l' ∧ w'.heap[g]? = some (.cells (entRow l' ++ tail).toArray 40 (0, 0)) ∧ Kp (fun i => i = g) w w') (by
      rw [hB]
      refine hSt.mono ?_
      rintro e w' ⟨rfl, d', hS, hP, hSo⟩
      obtain ⟨n, os, rfl⟩ := swk_trans hSW hS hglt (by rw [hP.1])
      have hds : d'.size = l.length := by simpa using hP.1
      refine ⟨rfl, d'.toList, by simpa using perm_of (d := l.toArray) (by simpa using hP), sortedD_of (by rw [hds]; exact hSo), heap_sortedK d' hds hg, kp_sortK w g n os d'⟩)
  exact hR
end Go.Proofs.YtobdjcnojbnegaaGreatDoor

/- spec.IndexBytes of any entries: no entries. -/
namespace Go.Proofs.YtobdjcnojbnegaaGreatDoor
open Go.RowKit
set_option linter.unusedVariables false
set_option linter.unusedSimpArgs false
attribute [local go_sem] setCell_drewN alloc_drewN

set_option maxRecDepth 100000 in
set_option maxHeartbeats 1600000 in
theorem ByDigest_empty (A : Option Addr) (cap : Nat) (hA : A = none → cap = 0) (w : World) :
    Calls Tryz.prog 112 #[.slice A 0 cap] w fun e w' => ∃ g c, e = .returned (.slice (some ⟨g, 0, none⟩) 0 c) ∧ Below w.heap.size w w' := by
  obtain ⟨i0, hi, hz0, hz1, hz2⟩ := info_parts entInfo0
  have hmf : ∀ (fn : Fn) (first cap : Array Value) (w : World), (Instr.makeFunc fn first cap).run Tryz.prog w = .ok (.func fn first cap) w := fun _ _ _ _ => rfl
  have hO0 : (w.alloc (.cells #[] 40)).ownsRow w.heap.size 40 5 (.slice (some ⟨w.heap.size, 0, none⟩) 0 0) 0 [] := ⟨rfl, .inr ⟨_, 0, #[], rfl, Nat.le_refl _, heap_alloc_new w _, Nat.le_refl _, by unfold maxLen; omega, rfl, rfl⟩⟩
  go_enter Tryz.func112, Tryz.ntmps112
  go_wp2_with (at_builtin; refine later ?_)
  cases A with
  | none =>
    obtain rfl := hA rfl
    refine now ?_
    refine wpList_append_own_none rfl _ _ 22 rfl w.heap.size 40 i0 5 Tryz.underlying22 hi _ _ _ rfl hO0 rfl ?_
    obtain ⟨w2, hw2⟩ : ∃ w2, w2 = w.alloc (.cells #[] 40) := ⟨_, rfl⟩
    have hB2 : Below w.heap.size w w2 := by rw [hw2]; exact below_boxed w _
    have hgc : w2.heap[w.heap.size]? = some (.cells #[] 40 (0, 0)) := by rw [hw2]; exact heap_alloc_new w _
    have hz2 : w.heap.size < w2.heap.size := (Array.getElem?_eq_some_iff.1 hgc).1
    rw [← hw2]
    clear hO0 hw2
    have hg3 : (w2.alloc (.cells #[.slice (some ⟨w.heap.size, 0, none⟩) 0 0] 22)).heap[w.heap.size]? = some (.cells (entRow [] ++ (#[] : Array Value).toList).toArray 40 (0, 0)) := (heap_alloc_old w2 _ (Array.getElem?_eq_some_iff.1 hgc).1).trans (by simpa [entRow] using hgc)
    have hbox := heap_alloc_new w2 (.cells #[.slice (some ⟨w.heap.size, 0, none⟩) 0 0] 22)
    have hS := stable_one w.heap.size 0 w2.heap.size [] (#[] : Array Value).toList _ (by simp) hg3 (blk_cell' hbox 0)
    go_wp2_with fail
    refine hS.mono ?_
    rintro e w3 ⟨rfl, l', hp, hsd, hg', hK⟩
    have hb3 := (hK.block w2.heap.size (by simp) (by omega)).trans hbox
    have k1 := (blk_cell' hb3 0).trans (show _ = some (Value.slice (some ⟨w.heap.size, 0, none⟩) 0 0) from rfl)
    have hB3 : Below w.heap.size w w3 := (below_box hB2 _).trans ⟨hK.os, hK.tape, hK.output, hK.size, fun i hi => hK.block i (by have := hB2.size; simp; omega) (by omega)⟩
    clear hS hK hg' hg3 hbox
    go_wp2_with fail
    go_ret
    exact ⟨_, _, rfl, hB3⟩
  | some ad =>
    refine now ?_
    refine wpList_append_own_at _ rfl _ _ 22 rfl w.heap.size 40 i0 _ 5 48 Tryz.underlying22 hi hz0 hz1 hz2 rfl (by decide) _ _ _ rfl hO0 ad 0 cap [] rfl rfl (fun j u h => by simp at h) (fun u h => by simp at h) (by unfold maxLen; omega) (by omega) (by simp) ?_
    intro v' w2 hown hgrow hnn hloc
    have hB2 : Below w.heap.size w w2 := (below_boxed w _).trans ⟨hgrow.os, hgrow.tape, hgrow.output, hgrow.size, fun i hi => hgrow.block i (by simp; omega) (fun e => by have e' : some i = some w.heap.size := e; cases e'; omega)⟩
    obtain ⟨g, cap2, cur, rfl, hge, hgc⟩ : ∃ g cap cur, v' = .slice (some ⟨g, 0, none⟩) 0 cap ∧ w.heap.size ≤ g ∧ w2.heap[g]? = some (.cells cur 40 (0, 0)) := by
      rcases hown.2 with ⟨h, _⟩ | ⟨g, cap, cur, h1, h2, h3, _⟩
      · have := (hnn.1 h).1; cases this
      · exact ⟨g, cap, cur, h1, h2, h3⟩
    have hglt := (Array.getElem?_eq_some_iff.1 hgc).1
    have hg3 : (w2.alloc (.cells #[.slice (some ⟨g, 0, none⟩) 0 cap2] 22)).heap[g]? = some (.cells (entRow [] ++ cur.toList).toArray 40 (0, 0)) := (heap_alloc_old w2 _ hglt).trans (by simpa [entRow] using hgc)
    have hbox := heap_alloc_new w2 (.cells #[.slice (some ⟨g, 0, none⟩) 0 cap2] 22)
    have hS := stable_one g cap2 w2.heap.size [] cur.toList _ (by simp) hg3 (blk_cell' hbox 0)
    clear hown hgrow hnn hloc hO0
    go_wp2_with fail
    refine hS.mono ?_
    rintro e w3 ⟨rfl, l', hp, hsd, hg', hK⟩
    have hb3 := (hK.block w2.heap.size (by simp) (by omega)).trans hbox
    have k1 := (blk_cell' hb3 0).trans (show _ = some (Value.slice (some ⟨g, 0, none⟩) 0 cap2) from rfl)
    have hB3 : Below w.heap.size w w3 := (below_box hB2 _).trans ⟨hK.os, hK.tape, hK.output, hK.size, fun i hi => hK.block i (by have := hB2.size; simp; omega) (by omega)⟩
    clear hS hK hg' hg3 hbox
    go_wp2_with fail
    go_ret
    exact ⟨_, _, rfl, hB3⟩

set_option maxRecDepth 100000 in
set_option maxHeartbeats 1600000 in
theorem sortedBytes_empty (B : Nat) (v : Value) (ob : List UInt8) (A : Option Addr) (cap : Nat) (hA : A = none → cap = 0) (w : World) (hob : ob.length ≤ 900000000000) (hB : B ≤ w.heap.size) (hv : RowU w B v ob) :
    Calls Tryz.prog 87 #[v, .slice A 0 cap] w fun e w' => ∃ v', e = .returned v' ∧ RowU w' B v' (ob ++ sortedSpec [] []) ∧ AppK w w' v v' := by
  have hWid := Widths_ok [] A cap w (.inl rfl) (by simp) (by simp) (by simp)
  have hs0 : sortN (widthsOf []) = [] := by simp [widthsOf, sortN]
  rw [hs0] at hWid
  go_enter Tryz.func87, Tryz.ntmps87
  go_wp2_with fail
  refine hWid.mono ?_
  rintro e w2 ⟨vW, rfl, hI2, hB2⟩
  obtain ⟨pW, cW, rfl⟩ : ∃ p c, vW = .slice p 0 c := by
    rcases hI2.2 with ⟨h, _⟩ | ⟨g, c, _, h, _⟩
    · exact ⟨none, 0, h⟩
    · exact ⟨_, c, h⟩
  have hz2 := hB2.size
  have hl1 := low_ok B 0 4 v ob (by omega) (by omega) (by omega) w2 (by omega) (hv.keep hB2)
  clear hWid
  go_wp2_with fail
  refine hl1.mono ?_
  clear hl1
  rintro e w3 ⟨v2, rfl, hV3, hA3⟩
  have hA03 : AppK w w3 v v2 := AppK.trans ⟨Kp.of_below hB2, .inl rfl⟩ hA3
  have hBy := ByDigest_empty A cap hA w3
  go_wp2_with fail
  refine hBy.mono ?_
  clear hBy
  rintro e w4 ⟨g, c, rfl, hB4⟩
  have hV4 := hV3.keep hB4
  have hA04 : AppK w w4 v v2 := AppK.trans hA03 ⟨Kp.of_below hB4, .inl rfl⟩
  clear hV3 hA03 hI2 hv hA3
  go_wp2_with fail
  refine wp_loop_rounds 1 ?_
  rw [rounds_succ]
  go_wp2_with fail
  go_ret
  refine ⟨v2, rfl, ?_, hA04⟩
  have e0 : ob ++ sortedSpec [] [] = ob ++ Lib.leBytes 4 0 := by simp [sortedSpec, widthsOf, sortN]
  rw [e0]
  exact hV4
end Go.Proofs.YtobdjcnojbnegaaGreatDoor

/- spec.IndexBytes of any entries, both kinds. -/
namespace Go.Proofs.YtobdjcnojbnegaaGreatDoor
open Go.RowKit
set_option linter.unusedVariables false
set_option linter.unusedSimpArgs false
attribute [local go_sem] setCell_drewN alloc_drewN

theorem sortedSpec_small {l l' : List (CidOf × Int)} (hP : l'.Perm l) (hlen : l.length ≤ 100) (hd : ∀ x ∈ l, x.1.dig.length ≤ 1000) : (sortedSpec l l').length ≤ 4 + l.length * 100812 := by
  have h1 := widthSecs_le l' (fun x hx => hd x (hP.mem_iff.1 hx)) (sortN (widthsOf l))
  have h2 := widthsOf_le l
  have h3 := sortN_len (widthsOf l)
  have h4 := hP.length_eq
  have h5 : (sortN (widthsOf l)).length * (12 + l'.length * 1008) ≤ l.length * 100812 := Nat.mul_le_mul (by omega) (by omega)
  rw [sortedSpec, List.length_append, le_length]; omega

theorem sortedBytes_all (most : Nat) (hS : StableEnts most) (B : Nat) (v : Value) (ob : List UInt8) (l : List (CidOf × Int)) (A : Option Addr) (cap : Nat) (hA : A = none → cap = 0) (w : World) (hR : RowsAt w A l) (hlen : l.length ≤ 10000) (hle : l.length ≤ most) (hcap : l.length ≤ cap)
    (hd : ∀ x ∈ l, x.1.dig.length ≤ 1000) (ho : ∀ x ∈ l, 0 ≤ x.2 ∧ x.2 < 18446744073709551616) (hob : ob.length ≤ 900000000000) (hB : B ≤ w.heap.size) (hv : RowU w B v ob) (hvA : ∀ g o, A = some ⟨g, o, none⟩ → v.ownBlock ≠ some g) :
    Calls Tryz.prog 87 #[v, .slice A l.length cap] w fun e w' => ∃ l' v', l'.Perm l ∧ SortedD l' ∧ e = .returned v' ∧ RowU w' B v' (ob ++ sortedSpec l l') ∧ AppK w w' v v' := by
  by_cases h0 : l = []
  · subst h0
    refine (sortedBytes_empty B v ob A cap hA w hob hB hv).mono ?_
    rintro e w' ⟨v', rfl, h1, h2⟩
    exact ⟨[], v', List.Perm.refl _, List.Pairwise.nil, rfl, h1, h2⟩
  · exact sortedBytes_ok most hS B v ob l A cap w hR (by cases l with | nil => exact absurd rfl h0 | cons _ _ => simp) hlen hle hcap hd ho hob hB hv hvA

/-- The parts of an index 0x0401. -/
def Parts (l : List (CidOf × Int)) (ss : List (Nat × List (Nat × List UInt8))) : Prop := ∀ p ∈ ss, ∃ l', l'.Perm (codedOf l p.1) ∧ SortedD l' ∧ p.2 = secsOf (codedOf l p.1) l'
theorem codesOf_mem {l : List (CidOf × Int)} {n : Nat} (h : n ∈ codesOf l) : ∃ x ∈ l, x.1.code = n := by
  have : ∀ (l : List (CidOf × Int)) (acc : List Nat) (n : Nat), n ∈ l.foldl codeStep acc → n ∈ acc ∨ ∃ x ∈ l, x.1.code = n := by
    intro l
    induction l with
    | nil => intro acc n h; exact .inl h
    | cons y l ih =>
      intro acc n h
      rcases ih _ n h with h | ⟨x, hx, e⟩
      · unfold codeStep at h
        split at h
        · exact .inl h
        · rcases List.mem_append.1 h with h | h
          · exact .inl h
          · simp only [List.mem_singleton] at h
            exact .inr ⟨y, List.mem_cons_self, h.symm⟩
      · exact .inr ⟨x, List.mem_cons_of_mem _ hx, e⟩
  rcases this l [] n h with h | h
  · simp at h
  · exact h
theorem codesOf_all {l : List (CidOf × Int)} : ∀ x ∈ l, x.1.code ∈ codesOf l := by
  have h1 : ∀ (l : List (CidOf × Int)) (acc : List Nat) (n : Nat), n ∈ acc → n ∈ l.foldl codeStep acc := by
    intro l
    induction l with
    | nil => intro acc n h; exact h
    | cons y l ih => intro acc n h; exact ih _ n (by unfold codeStep; split <;> simp [h])
  have h2 : ∀ (l : List (CidOf × Int)) (acc : List Nat) (x : CidOf × Int), x ∈ l → x.1.code ∈ l.foldl codeStep acc := by
    intro l
    induction l with
    | nil => intro acc x h; simp at h
    | cons y l ih =>
      intro acc x h
      rcases List.mem_cons.1 h with rfl | h
      · exact h1 l _ _ (by unfold codeStep; split <;> simp [*])
      · exact ih _ x h
  exact fun x hx => h2 l [] x hx
theorem codesOf_nodup (l : List (CidOf × Int)) : (codesOf l).Nodup := by
  have : ∀ (l : List (CidOf × Int)) (acc : List Nat), acc.Nodup → (l.foldl codeStep acc).Nodup := by
    intro l
    induction l with
    | nil => intro acc h; exact h
    | cons y l ih =>
      intro acc h
      refine ih _ ?_
      unfold codeStep
      split
      · exact h
      · next hn =>
        refine List.nodup_append.2 ⟨h, by simp, fun a ha b hb => ?_⟩
        simp only [List.mem_singleton] at hb
        subst hb
        exact fun e => hn (e ▸ ha)
  exact this l [] List.nodup_nil
theorem mem_coded {l : List (CidOf × Int)} {code : Nat} {x : CidOf × Int} : x ∈ codedOf l code ↔ x ∈ l ∧ x.1.code = code := by
  rw [codedOf, List.mem_filter]; simp [hasCode]
/-- How many entries some hash functions have. -/
def sumC (l : List (CidOf × Int)) (cs : List Nat) : Nat := (cs.map fun c => (codedOf l c).length).sum
theorem coded_split (c : Nat) (cs : List Nat) (h : c ∉ cs) : ∀ l : List (CidOf × Int), (codedOf l c).length + (l.filter fun x => decide (x.1.code ∈ cs)).length ≤ (l.filter fun x => decide (x.1.code ∈ c :: cs)).length
  | [] => by simp [codedOf]
  | x :: l => by
    have ih := coded_split c cs h l
    unfold codedOf at ih ⊢
    by_cases h1 : x.1.code = c
    · have h2 : x.1.code ∉ cs := by rw [h1]; exact h
      have h3 : x.1.code ∈ c :: cs := by rw [h1]; exact List.mem_cons_self
      rw [List.filter_cons_of_pos (by simpa [hasCode] using h1), List.filter_cons_of_neg (by simpa using h2), List.filter_cons_of_pos (by simpa using h3)]
      simp only [List.length_cons]; omega
    · rw [List.filter_cons_of_neg (by simpa [hasCode] using h1)]
      by_cases h2 : x.1.code ∈ cs
      · have h3 : x.1.code ∈ c :: cs := List.mem_cons_of_mem _ h2
        rw [List.filter_cons_of_pos (by simpa using h2), List.filter_cons_of_pos (by simpa using h3)]
        simp only [List.length_cons]; omega
      · have h3 : x.1.code ∉ c :: cs := by simp [h1, h2]
        rw [List.filter_cons_of_neg (by simpa using h2), List.filter_cons_of_neg (by simpa using h3)]
        exact ih
theorem sumC_le (l : List (CidOf × Int)) : ∀ cs : List Nat, cs.Nodup → sumC l cs ≤ l.length := by
  have : ∀ cs : List Nat, cs.Nodup → sumC l cs ≤ (l.filter fun x => decide (x.1.code ∈ cs)).length := by
    intro cs
    induction cs with
    | nil => intro _; simp [sumC]
    | cons c cs ih =>
      intro h
      obtain ⟨h1, h2⟩ := List.nodup_cons.1 h
      have h3 := coded_split c cs h1 l
      have h4 := ih h2
      simp only [sumC, List.map_cons, List.sum_cons] at h4 ⊢
      omega
  exact fun cs h => Nat.le_trans (this cs h) (List.length_filter_le _ _)
theorem codesBytes_snoc (ss : List (Nat × List (Nat × List UInt8))) (p : Nat × List (Nat × List UInt8)) : codsBytes (ss ++ [p]) = codsBytes ss ++ codBytes p := by simp [codsBytes]

set_option maxRecDepth 100000 in
set_option maxHeartbeats 3200000 in
theorem IndexBody_mh (most : Nat) (hS : StableEnts most) (l : List (CidOf × Int)) (A : Option Addr) (cap : Nat) (w : World) (hR : RowsAt w A l) (hlen : l.length ≤ 100) (hle : l.length ≤ most) (hcap : l.length ≤ cap)
    (hd : ∀ x ∈ l, x.1.dig.length ≤ 1000) (ho : ∀ x ∈ l, 0 ≤ x.2 ∧ x.2 < 18446744073709551616) (hc : ∀ x ∈ l, x.1.code < 18446744073709551616) :
    Calls Tryz.prog 48 #[.slice A l.length cap, .int .u64 1025] w fun e w' => ∃ ss, ss.map (·.1) = sortN (codesOf l) ∧ Parts l ss ∧ (mhBytes ss).length ≤ 10090000 ∧ e = .returned (.string (sOf (mhBytes ss))) ∧ Below w.heap.size w w' := by
  have hAlt : ∀ g o, A = some ⟨g, o, none⟩ → l = [] ∨ g < w.heap.size := fun g o e => by
    rcases hR with h | ⟨g', o', e', hcell⟩
    · exact .inl h
    · rw [e] at e'; cases e'
      by_cases h0 : l = []
      · exact .inl h0
      · obtain ⟨x, hx⟩ : ∃ x, l[0]? = some x := ⟨_, List.getElem?_eq_getElem (by cases l with | nil => exact absurd rfl h0 | cons _ _ => simp)⟩
        exact .inr (World.block_lt_of_cell? w _ (hcell 0 x hx 0 _ rfl))
  have hCo := Codes_ok l A cap w hR (by omega) hcap
  have hnc := codesOf_le l
  have hslen := sortN_len (codesOf l)
  have hmemC : ∀ c ∈ sortN (codesOf l), ∃ x ∈ l, x.1.code = c := fun c hc => codesOf_mem (sortN_mem.1 hc)
  obtain ⟨cs, hcs⟩ : ∃ cs, cs = sortN (codesOf l) := ⟨_, rfl⟩
  rw [← hcs] at hCo hslen hmemC
  have HCS := Lib.hid hcs; have HM := Lib.hid hmemC; have HAL := Lib.hid hAlt
  have HD := Lib.hid hd; have HO := Lib.hid ho; have HC := Lib.hid hc
  have hclen : cs.length ≤ 100 := by omega
  have hnd : cs.Nodup := by rw [hcs]; exact (List.mergeSort_perm _ _).nodup_iff.2 (codesOf_nodup l)
  have HND := Lib.hid hnd
  rw [← hcs]
  clear hcs hmemC hAlt hd ho hc hslen hnc hnd
  go_enter Tryz.func48, Tryz.ntmps48
  go_wp2_with fail
  refine hCo.mono ?_
  clear hCo
  rintro e w1 ⟨vC, rfl, hOC, hB1⟩
  obtain ⟨pC, capC, rfl⟩ : ∃ p c, vC = .slice p cs.length c := by
    rcases hOC.2 with ⟨h, h'⟩ | ⟨g, c, _, h, _⟩
    · exact ⟨none, 0, by rw [h, h']⟩
    · exact ⟨_, c, h⟩
  have hz1 := hB1.size
  have hl1 := low_ok w.heap.size cs.length 4 (.slice none 0 0) [] (by omega) (by omega) (by simp) w1 hz1 ⟨rfl, .inl ⟨rfl, rfl⟩⟩
  have hR1 := hR.below hB1
  have hClo : ∀ i, (Value.slice pC cs.length capC).ownBlock = some i → w.heap.size ≤ i ∧ i < w1.heap.size := fun i e => World.ownsRow.lt hOC i e
  go_wp2_with fail
  refine hl1.mono ?_
  clear hl1
  rintro e w2 ⟨v2, rfl, hV2, hA2⟩
  have hz2 := hA2.kp.size
  have hno : ∀ i, ¬ (some i = (Value.slice none 0 0).ownBlock) := fun i h => absurd h (by show ¬ some i = none; simp)
  have hv2lo : ∀ i, v2.ownBlock = some i → w1.heap.size ≤ i := fun i e => by
    rcases hA2.loc with h | ⟨n, h, hn⟩
    · exact absurd (e.symm.trans h) (hno i)
    · rw [h] at e; exact (Option.some.inj e) ▸ hn
  have hOC2 : OutOf w2 w.heap.size (.slice pC cs.length capC) cs := own_kp hOC hA2.kp (fun g e h => hno g h)
  have hR2 : RowsAt w2 A l := hR1.kp hA2.kp (fun g o e h => hno g h)
  have hB2 : Below w.heap.size w w2 := hB1.trans ⟨hA2.kp.os, hA2.kp.tape, hA2.kp.output, hA2.kp.size, fun i hi => hA2.kp.block i (by omega) (hno i)⟩
  clear hA2 hOC hR1 hB1 hR
  go_wp2_with fail
  go_loopw [6, 22] (fun vo vi wr => ∃ (k : Nat) (ss : List (Nat × List (Nat × List UInt8))), k ≤ cs.length ∧ vi = .int .i64 (k : Int) ∧ ss.map (·.1) = cs.take k ∧ Parts l ss ∧ (codsBytes ss).length ≤ 12 * k + 100812 * sumC l (cs.take k) ∧ RowU wr w.heap.size vo (Lib.leBytes 4 cs.length ++ codsBytes ss) ∧
    (∀ i, vo.ownBlock = some i → w1.heap.size ≤ i) ∧ OutOf wr w.heap.size (.slice pC cs.length capC) cs ∧ RowsAt wr A l ∧ Below w.heap.size w wr ∧ w1.heap.size ≤ wr.heap.size) (fun _ vi _ => cs.length - (intOf vi).toNat)
  case atStart => exact ⟨0, [], Nat.zero_le _, rfl, rfl, (fun p hp => by simp at hp), by simp [codsBytes, sumC], by simpa [codsBytes] using hV2, hv2lo, hOC2, hR2, hB2, hz2⟩
  case round =>
    clear hV2 hv2lo hOC2 hR2 hB2
    obtain ⟨k, ss, hk, rfl, hss, hPa, hsz, hV, hvlo, hOC, hR, hB, hz⟩ := hrel
    by_cases hlt : k < cs.length
    · obtain ⟨c, hcx⟩ : ∃ c, cs[k]? = some c := ⟨_, List.getElem?_eq_getElem hlt⟩
      obtain ⟨x0, hx0, hx0c⟩ := HM.out c (List.mem_of_getElem? hcx)
      have hc64 : c < 18446744073709551616 := by rw [← hx0c]; exact HC.out x0 hx0
      obtain ⟨bC, rfl⟩ : ∃ b, pC = some ⟨b, 0, none⟩ := by
        rcases hOC.2 with ⟨h, h'⟩ | ⟨b, _, _, h, _⟩
        · omega
        · cases h; exact ⟨b, rfl⟩
      have hcell : wr.cell? ⟨bC, k, none⟩ = some (.int .u64 (c : Int)) := by
        have h1 := World.ownsRow.cells hOC (g := bC) rfl k (offVal c) (by rw [List.getElem?_map, hcx]; rfl)
        by_cases h0 : k = 0
        · subst h0; simpa [Addr.add, offVal] using h1
        · simpa [Addr.add, h0, offVal] using h1
      have hsk := sumC_le l (cs.take k) (HND.out.sublist (List.take_sublist _ _))
      have hob : (Lib.leBytes 4 cs.length ++ codsBytes ss).length ≤ 10090000 := by
        rw [List.length_append, le_length]
        omega
      have HSK := Lib.hid hsk
      clear hsk
      have hl2 := low_ok w.heap.size c 8 u6 (Lib.leBytes 4 cs.length ++ codsBytes ss) hc64 (by omega) (by omega) wr hB.size hV
      have htk : cs.take (k + 1) = cs.take k ++ [c] := by rw [List.take_succ_eq_append_getElem hlt, (List.getElem?_eq_some_iff.1 hcx).2]
      have HTK := Lib.hid htk; have HPA := Lib.hid hPa; have HSS := Lib.hid hss; have HX0 := Lib.hid (And.intro hx0 hx0c)
      have HV := Lib.hid hV
      generalize hobx : Lib.leBytes 4 cs.length ++ codsBytes ss = obx at hl2 hob
      have HOB := Lib.hid hobx
      have hAb : ∀ g o, A = some ⟨g, o, none⟩ → g < w.heap.size := fun g o e => by
        rcases HAL.out g o e with h | h
        · rw [h] at hx0; simp at hx0
        · exact h
      have HAB := Lib.hid hAb
      clear hcx hx0 hx0c htk hPa hss hobx hAb hV
      go_wp2_with fail
      refine hl2.mono ?_
      clear hl2
      rintro e w3 ⟨v3, rfl, hV3, hA3⟩
      have hz3 := hA3.kp.size
      have hv3lo : ∀ i, v3.ownBlock = some i → w1.heap.size ≤ i := fun i e => by
        rcases hA3.loc with h | ⟨n, h, hn⟩
        · exact hvlo i (h.symm.trans e)
        · have := Option.some.inj (h.symm.trans e); omega
      have hOC3 : OutOf w3 w.heap.size (.slice (some ⟨bC, 0, none⟩) cs.length capC) cs := own_kp hOC hA3.kp (fun g e h => by have h1 := (hClo g e).2; have h2 := hvlo g h.symm; omega)
      have hR3 : RowsAt w3 A l := hR.kp hA3.kp (fun g o e h => by have h1 := HAB.out g o e; have h2 := hvlo g h.symm; omega)
      have hB3 : Below w.heap.size w w3 := hB.trans (hA3.below hB.size (fun i e => by have := hvlo i e; omega))
      have hCd := Coded_ok l A cap c w3 hR3 (by omega) hcap
      clear hA3 hOC hR hB hcell hvlo
      go_wp2_with fail
      refine hCd.mono ?_
      clear hCd
      rintro e w4 ⟨vD, rfl, hE4, hB4⟩
      obtain ⟨A4, cap4, rfl, hcap4, hR4, hA4lo⟩ := hE4.rows
      have hV4 := hV3.keep hB4
      have hz4 := hB4.size
      have hcl : (codedOf l c).length ≤ l.length := by unfold codedOf; exact List.length_filter_le _ _
      have hpos : 0 < (codedOf l c).length := by
        have := mem_coded.2 ⟨HX0.out.1, HX0.out.2⟩
        exact List.length_pos_of_mem this
      have hd4 : ∀ x ∈ codedOf l c, x.1.dig.length ≤ 1000 := fun x hx => HD.out x (mem_coded.1 hx).1
      have ho4 : ∀ x ∈ codedOf l c, 0 ≤ x.2 ∧ x.2 < 18446744073709551616 := fun x hx => HO.out x (mem_coded.1 hx).1
      have hSb := sortedBytes_ok most hS w.heap.size v3 (obx ++ Lib.leBytes 8 c) (codedOf l c) A4 cap4 w4 hR4 hpos (by omega) (by omega) hcap4 hd4 ho4 (by rw [List.length_append, le_length]; omega) (by have := hB3.size; omega) hV4 (fun g o e h => by have h1 := (hA4lo g o e).1; have h2 := hV3.hi g h; omega)
      have hOC4 : OutOf w4 w.heap.size (.slice (some ⟨bC, 0, none⟩) cs.length capC) cs := own_kp hOC3 (Kp.of_below (S := fun _ => False) hB4) (fun _ _ => id)
      have hR4' : RowsAt w4 A l := hR3.below hB4
      have hB4' : Below w.heap.size w w4 := hB3.trans (hB4.mono hB3.size)
      have HD4 := Lib.hid hd4
      clear hd4 ho4 hE4 hV3 hV4 hOC3 hR3 hB3 hB4 hR4 hA4lo
      go_wp2_with fail
      refine hSb.mono ?_
      clear hSb
      rintro e w5 ⟨l', v5, hP, hSD, rfl, hV5, hA5⟩
      have hz5 := hA5.kp.size
      have hss5 := sortedSpec_small hP (by omega) HD4.out
      have hv5lo : ∀ i, v5.ownBlock = some i → w1.heap.size ≤ i := fun i e => by
        rcases hA5.loc with h | ⟨n, h, hn⟩
        · exact hv3lo i (h.symm.trans e)
        · have := Option.some.inj (h.symm.trans e); omega
      have hOC5 : OutOf w5 w.heap.size (.slice (some ⟨bC, 0, none⟩) cs.length capC) cs := own_kp hOC4 hA5.kp (fun g e h => by have h1 := (hClo g e).2; have h2 := hv3lo g h.symm; omega)
      have hR5 : RowsAt w5 A l := hR4'.kp hA5.kp (fun g o e h => by have h1 := HAB.out g o e; have h2 := hv3lo g h.symm; omega)
      have hB5 : Below w.heap.size w w5 := hB4'.trans (hA5.below hB4'.size (fun i e => by have := hv3lo i e; omega))
      have HP := Lib.hid (And.intro hP hSD)
      clear hP hSD hA5 hOC4 hR4' hB4'
      go_wp2_with fail
      go_roundw
      case rel =>
        have hbytes : obx ++ Lib.leBytes 8 c ++ sortedSpec (codedOf l c) l' = Lib.leBytes 4 cs.length ++ codsBytes (ss ++ [(c, secsOf (codedOf l c) l')]) := by
          rw [codesBytes_snoc, codBytes, sortedSpec_eq, ← HOB.out]; simp
        refine ⟨k + 1, ss ++ [(c, secsOf (codedOf l c) l')], by omega, by go_num, by rw [List.map_append, HSS.out, HTK.out]; rfl, ?_, ?_, by rw [← hbytes]; exact hV5, hv5lo, hOC5, hR5, hB5, by omega⟩
        · intro p hp
          rcases List.mem_append.1 hp with h | h
          · exact HPA.out p h
          · simp only [List.mem_singleton] at h
            subst h
            exact ⟨l', HP.out.1, HP.out.2, rfl⟩
        · have hsum : sumC l (cs.take (k + 1)) = sumC l (cs.take k) + (codedOf l c).length := by rw [HTK.out]; simp [sumC]
          rw [codesBytes_snoc, codBytes, ← sortedSpec_eq, List.length_append, List.length_append, le_length, hsum]
          omega
      case measure => simp [intOf]; omega
    · obtain rfl : k = cs.length := by omega
      rw [List.take_length] at hss
      have hsl : ss.length = cs.length := by rw [← hss, List.length_map]
      have hmh : Lib.leBytes 4 cs.length ++ codsBytes ss = mhBytes ss := by rw [mhBytes, hsl]
      have hml : (mhBytes ss).length ≤ 10090000 := by
        rw [← hmh, List.length_append, le_length]
        have := sumC_le l cs HND.out
        rw [List.take_length] at hsz
        omega
      have hmp : 0 < (mhBytes ss).length := by rw [← hmh, List.length_append, le_length]; omega
      rw [hmh] at hV
      obtain ⟨g, c, rfl, hby⟩ := own_bytes (bs := mhBytes ss) hV hmp rfl
      have hcv := bytes_string (P := Tryz.prog) Tryz.underlying65 Tryz.underlying5 Tryz.underlying9 wr _ (mhBytes ss) c hby
      have HX := Lib.hid (And.intro hss (And.intro hPa hml))
      clear hss hsl hmh hV hPa hby hOC hR hvlo
      go_wp2_with fail
      go_ret
      exact ⟨ss, HX.out.1, HX.out.2.1, HX.out.2.2, rfl, hB⟩
end Go.Proofs.YtobdjcnojbnegaaGreatDoor

/- What an index by hash functions that was loaded holds, against what the specification writes. Plain. -/
namespace Go.Proofs.YtobdjcnojbnegaaGreatDoor
open Go.RowKit
set_option linter.unusedVariables false

/-- The indexes of an index by hash functions. -/
structure CodsFor (l : Ents) (cs : List Cod) : Prop where
  cod : ∀ c ∈ cs, SecsFor (codedOf l c.code) c.secs ∧ ∃ x ∈ l, x.1.code = c.code
  all : ∀ x ∈ l, ∃ c ∈ cs, c.code = x.1.code
  nodup : (cs.map Cod.code).Nodup
theorem CodsFor.one {l : Ents} {cs : List Cod} (h : CodsFor l cs) : Parts l (sortedCods cs) ∧ (∀ p ∈ sortedCods cs, ∃ x ∈ l, x.1.code = p.1) ∧ (∀ x ∈ l, ∃ p ∈ sortedCods cs, p.1 = x.1.code) ∧ ((sortedCods cs).map (·.1)) = sortN (cs.map Cod.code) := by
  have hmem : ∀ p ∈ sortedCods cs, ∃ c ∈ cs, p = (c.code, sortedSecs c.secs) := by
    intro p hp
    unfold sortedCods inCodes at hp
    obtain ⟨x, hx, hf⟩ := List.mem_filterMap.1 hp
    obtain ⟨c, hc, rfl⟩ := Option.map_eq_some_iff.1 hf
    exact ⟨c, List.mem_of_find?_eq_some hc, rfl⟩
  refine ⟨fun p hp => ?_, fun p hp => ?_, fun x hx => ?_, ?_⟩
  · obtain ⟨c, hc, rfl⟩ := hmem p hp
    obtain ⟨l', h1, h2, h3⟩ := (h.cod c hc).1.one
    exact ⟨l', h1, h2, h3⟩
  · obtain ⟨c, hc, rfl⟩ := hmem p hp
    exact (h.cod c hc).2
  · obtain ⟨c, hc, e⟩ := h.all x hx
    refine ⟨(c.code, sortedSecs c.secs), ?_, e⟩
    unfold sortedCods inCodes
    refine List.mem_filterMap.2 ⟨c.code, sortN_mem.2 (List.mem_map.2 ⟨c, hc, rfl⟩), ?_⟩
    rw [find_code hc h.nodup]; rfl
  · unfold sortedCods inCodes
    have hm : ∀ n ∈ sortN (cs.map Cod.code), n ∈ cs.map Cod.code := fun n hn => sortN_mem.1 hn
    generalize sortN (cs.map Cod.code) = ws at hm ⊢
    induction ws with
    | nil => rfl
    | cons n ws ih =>
      obtain ⟨c, hc, e⟩ := List.mem_map.1 (hm n List.mem_cons_self)
      have hf := find_code hc h.nodup
      rw [e] at hf
      rw [List.filterMap_cons]
      simp only [hf, Option.map_some, List.map_cons]
      rw [ih (fun m hm' => hm m (List.mem_cons_of_mem _ hm')), e]

def OnceC (l : Ents) : Prop := l.Pairwise fun x y => ¬ (x.1.dig = y.1.dig ∧ x.1.code = y.1.code)
theorem OnceC.coded {l : Ents} (h : OnceC l) (c : Nat) : OnceD (codedOf l c) := by
  have h1 : (codedOf l c).Pairwise fun x y => ¬ (x.1.dig = y.1.dig ∧ x.1.code = y.1.code) := h.filter _
  refine h1.imp_of_mem fun {x y} hx hy hh e => hh ⟨e, ?_⟩
  have e1 : x.1.code = c := by have := (List.mem_filter.1 hx).2; simpa [hasCode] using this
  have e2 : y.1.code = c := by have := (List.mem_filter.1 hy).2; simpa [hasCode] using this
  rw [e1, e2]
theorem CodsFor.codes {l : Ents} {cs : List Cod} (h : CodsFor l cs) (n : Nat) : n ∈ cs.map Cod.code ↔ ∃ x ∈ l, x.1.code = n := by
  refine ⟨fun hn => ?_, fun ⟨x, hx, e⟩ => ?_⟩
  · obtain ⟨c, hc, rfl⟩ := List.mem_map.1 hn
    exact (h.cod c hc).2
  · obtain ⟨c, hc, e2⟩ := h.all x hx
    exact List.mem_map.2 ⟨c, hc, by rw [e2, e]⟩
theorem CodsFor.same {l m : Ents} {cl cm : List Cod} (hp : l.Perm m) (ho : OnceC l) (h1 : CodsFor l cl) (h2 : CodsFor m cm) : sortedCods cl = sortedCods cm := by
  have hc : (cl.map Cod.code).Perm (cm.map Cod.code) := by
    refine perm_of_same h1.nodup h2.nodup fun n => ?_
    rw [h1.codes, h2.codes]
    exact ⟨fun ⟨x, hx, e⟩ => ⟨x, hp.mem_iff.1 hx, e⟩, fun ⟨x, hx, e⟩ => ⟨x, hp.mem_iff.2 hx, e⟩⟩
  unfold sortedCods inCodes
  rw [sortN_perm hc]
  have hm : ∀ n ∈ sortN (cm.map Cod.code), n ∈ cm.map Cod.code := fun n hn => sortN_mem.1 hn
  generalize sortN (cm.map Cod.code) = ws at hm ⊢
  induction ws with
  | nil => rfl
  | cons n ws ih =>
    have hn := hm n List.mem_cons_self
    obtain ⟨d, hd, e⟩ := List.mem_map.1 hn
    obtain ⟨c, hc', e2⟩ := List.mem_map.1 (hc.mem_iff.2 hn)
    have f1 := find_code hc' h1.nodup
    have f2 := find_code hd h2.nodup
    rw [e2] at f1; rw [e] at f2
    rw [List.filterMap_cons, List.filterMap_cons, ih (fun m hm' => hm m (List.mem_cons_of_mem _ hm'))]
    have h3 := (h1.cod c hc').1
    have h4 := (h2.cod d hd).1
    rw [e2] at h3; rw [e] at h4
    simp only [f1, f2, Option.map_some]
    rw [e2, e, SecsFor.same (hp.filter _) (ho.coded n) h3 h4]
end Go.Proofs.YtobdjcnojbnegaaGreatDoor
