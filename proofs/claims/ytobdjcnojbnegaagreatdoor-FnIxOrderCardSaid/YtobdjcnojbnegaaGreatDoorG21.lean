import Derived.Test.YtobdjcnojbnegaaGreatDoorG18
import Derived.Test.YtobdjcnojbnegaaGreatDoorG04
import Derived.Test.YtobdjcnojbnegaaGreatDoorG11
import Derived.Test.YtobdjcnojbnegaaGreatDoorG01
import Derived.Test.YtobdjcnojbnegaaGreatDoorG20
import Derived.Test.YtobdjcnojbnegaaGreatDoorG09
import Derived.Test.YtobdjcnojbnegaaGreatDoorG07
import Derived.Deep.RegionLaw
import Derived.RegionCalls
import Derived.Deep.RegionWith
import Derived.Test.YtobdjcnojbnegaaGreatDoorG17
/- sort.Sort of the records of an index. -/
namespace Go.Proofs.YtobdjcnojbnegaaGreatDoor
open Go.Shelf Go.RowKit Go.Lib Go.Sort
set_option linter.unusedVariables false
set_option linter.unusedSimpArgs false

/-- A record: where its digest lies, and what it is. -/
structure Rec where
  A : Option Addr
  cap : Nat
  x : CidOf × Int
instance : Inhabited Rec := ⟨⟨none, 0, ⟨0, 0, 0, []⟩, 0⟩⟩
def Rec.cells (r : Rec) : List Value := [.slice r.A r.x.1.dig.length r.cap, .int .u64 r.x.2]
def recLt (x y : Rec) : Bool := decide (Lib.compareBytes x.x.1.dig y.x.1.dig < 0)
theorem recLt_swo : SWO recLt where
  irrefl x := by simp only [recLt, co_self]; rfl
  trans x y z h1 h2 := by
    simp only [recLt, decide_eq_true_eq] at *
    exact co_lt_trans h1 (by omega)
  ntrans x y z h1 h2 := by
    simp only [recLt, decide_eq_false_iff_not] at *
    have e1 := co_neg x.x.1.dig y.x.1.dig
    have e2 := co_neg y.x.1.dig z.x.1.dig
    have e3 := co_neg x.x.1.dig z.x.1.dig
    have := co_trans z.x.1.dig y.x.1.dig x.x.1.dig (by omega) (by omega)
    omega

/-- The digest of a record, in world w0, not in block g. -/
structure RecOk (w0 : World) (g : Nat) (r : Rec) : Prop where
  at_ : BytesAt w0 r.A r.x.1.dig
  ne : ∀ p, r.A = some p → p.block ≠ g
  lt : ∀ p, r.A = some p → p.block < w0.heap.size

/-- The row of records d, at block g. -/
structure RecRow (w0 : World) (g n : Nat) (d : Array Rec) (W : World) : Prop where
  row : ∃ cur : Array Value, W.heap[g]? = some (.cells cur 302 (0, 0)) ∧ (∀ t, t < n → cur[2 * t]? = some (.slice d[t]!.A d[t]!.x.1.dig.length d[t]!.cap) ∧ cur[2 * t + 1]? = some (.int .u64 d[t]!.x.2)) ∧ ∃ cur0 : Array Value, w0.heap[g]? = some (.cells cur0 302 (0, 0)) ∧ cur.size = cur0.size ∧ ∀ t, 2 * n ≤ t → cur[t]? = cur0[t]?
  ok : ∀ t, t < n → RecOk w0 g d[t]!
  kp : Kp (fun x => x = g) w0 W

theorem RecRow.bytes {w0 W : World} {g n : Nat} {d : Array Rec} (h : RecRow w0 g n d W) {t : Nat} (ht : t < n) : BytesAt W d[t]!.A d[t]!.x.1.dig := by
  have ho := h.ok t ht
  exact ho.at_.upd fun ad e => h.kp.block _ (ho.lt _ e) (ho.ne _ e)
theorem RecRow.keep {w0 W W' : World} {g n : Nat} {d : Array Rec} (h : RecRow w0 g n d W) (hg : g < w0.heap.size) (k : Kp (fun x => w0.heap.size ≤ x) W W') : RecRow w0 g n d W' := by
  obtain ⟨⟨cur, h1, h2⟩, h3, h4⟩ := h
  refine ⟨⟨cur, (k.block g (by have := h4.size; omega) (by omega)).trans h1, h2⟩, h3, h4.trans k (fun i hi => .inr hi)⟩
theorem RecRow.below {w0 W W' : World} {g n : Nat} {d : Array Rec} (h : RecRow w0 g n d W) (hb : Below W.heap.size W W') : RecRow w0 g n d W' := by
  obtain ⟨⟨cur, h1, h2⟩, h3, h4⟩ := h
  refine ⟨⟨cur, (hb.block g (Array.getElem?_eq_some_iff.1 h1).1).trans h1, h2⟩, h3, h4.trans (S' := fun _ => False) (Kp.of_below hb) (fun _ h => h.elim)⟩

theorem RecRow.drewN {w0 W : World} {g n : Nat} {d : Array Rec} (h : RecRow w0 g n d W) (m : Nat) : RecRow w0 g n d (W.drewN m) :=
  ⟨h.row, h.ok, ⟨h.kp.os, h.kp.tape, h.kp.output, h.kp.size, h.kp.block⟩⟩

set_option maxHeartbeats 1600000 in
set_option maxRecDepth 100000 in
theorem recLess_ok (w0 : World) (g n cap i j : Nat) (d : Array Rec) (W : World) (hn : n ≤ 1000000) (hc : n ≤ cap) (hR : RecRow w0 g n d W) (hi : i < n) (hj : j < n) :
    Calls Tryz.prog 288 #[.slice (some ⟨g, 0, none⟩) n cap, .int .i64 (i : Int), .int .i64 (j : Int)] W fun e w' => e = .returned (.bool (recLt d[i]! d[j]!)) ∧ RecRow w0 g n d w' ∧ Kp (fun x => x = g) W w' := by
  have hbi := hR.bytes hi
  have hbj := hR.bytes hj
  obtain ⟨cur, hg, hcur, _⟩ := hR.row
  have ci := (blk_cell' hg (2 * i)).trans (hcur i hi).1
  have cj := (blk_cell' hg (2 * j)).trans (hcur j hj).1
  have HR := Lib.hid hR
  have hlt : recLt d[i]! d[j]! = decide (Lib.compareBytes d[i]!.x.1.dig d[j]!.x.1.dig < 0) := rfl
  rw [hlt]
  clear hcur hR hg hlt
  generalize d[i]! = x at *
  generalize d[j]! = y at *
  have hC : ∀ m, Calls Tryz.prog 231 #[.slice x.A x.x.1.dig.length x.cap, .slice y.A y.x.1.dig.length y.cap] (W.drewN m) fun e w' => e = .returned (.int .i64 (Lib.compareBytes x.x.1.dig y.x.1.dig)) ∧ W.drewN m = w' :=
    fun m => Compare_ok _ _ _ _ _ _ _ _ _ (hbi.upd fun _ _ => rfl) (hbj.upd fun _ _ => rfl) rfl rfl
  generalize Lib.compareBytes x.x.1.dig y.x.1.dig = cv at *
  clear hbi hbj
  rw [Nat.mul_comm] at ci cj
  go_enter Tryz.func288, Tryz.ntmps288
  go_wp2_with fail
  go_quiet ((go_at_call 231; exact Calls.quiet_of_same ((hC _).mono fun e w1 h => ⟨h.1, h.2.symm⟩)))
  go_wp2_with fail
  go_ret
  exact ⟨rfl, HR.out.drewN _, ⟨rfl, rfl, rfl, Nat.le_refl _, fun _ _ _ => rfl⟩⟩

theorem row_set {w : World} {g : Nat} {cur : Array Value} {t : TypeId} {fr : Nat × Nat} (h : w.heap[g]? = some (.cells cur t fr)) (k : Nat) (v : Value) : (w.setCell ⟨g, k, none⟩ v).heap[g]? = some (.cells (cur.setIfInBounds k v) t fr) := by
  rw [setCell_eq_setRow w g k _ _ _ _ h, setRow_heap w g _ _ _ _ h]
theorem kp_cell (w : World) (g k : Nat) (v : Value) : Kp (fun x => x = g) w (w.setCell ⟨g, k, none⟩ v) := Kp.set (S := fun i => i = g) (Kp.refl _ _) (.inl rfl) _
theorem RecRow.swap {w0 W : World} {g n i j : Nat} {d : Array Rec} (h : RecRow w0 g n d W) (hd : d.size = n) (hi : i < n) (hj : j < n) :
    RecRow w0 g n (swp d i j) ((((W.setCell ⟨g, i * 2, none⟩ (.slice d[j]!.A d[j]!.x.1.dig.length d[j]!.cap)).setCell ⟨g, i * 2 + 1, none⟩ (.int .u64 d[j]!.x.2)).setCell ⟨g, j * 2, none⟩ (.slice d[i]!.A d[i]!.x.1.dig.length d[i]!.cap)).setCell ⟨g, j * 2 + 1, none⟩ (.int .u64 d[i]!.x.2)).drew ∧
    Kp (fun x => x = g) W ((((W.setCell ⟨g, i * 2, none⟩ (.slice d[j]!.A d[j]!.x.1.dig.length d[j]!.cap)).setCell ⟨g, i * 2 + 1, none⟩ (.int .u64 d[j]!.x.2)).setCell ⟨g, j * 2, none⟩ (.slice d[i]!.A d[i]!.x.1.dig.length d[i]!.cap)).setCell ⟨g, j * 2 + 1, none⟩ (.int .u64 d[i]!.x.2)).drew := by
  obtain ⟨⟨cur, hg, hcur, cur0, h0, hs0, ht0⟩, hok, hkp⟩ := h
  have hsz : ∀ t, t < n → 2 * t + 1 < cur.size := fun t ht => (Array.getElem?_eq_some_iff.1 (hcur t ht).2).1
  have hsi := hsz i hi
  have hsj := hsz j hj
  have hK : Kp (fun x => x = g) W ((((W.setCell ⟨g, i * 2, none⟩ (.slice d[j]!.A d[j]!.x.1.dig.length d[j]!.cap)).setCell ⟨g, i * 2 + 1, none⟩ (.int .u64 d[j]!.x.2)).setCell ⟨g, j * 2, none⟩ (.slice d[i]!.A d[i]!.x.1.dig.length d[i]!.cap)).setCell ⟨g, j * 2 + 1, none⟩ (.int .u64 d[i]!.x.2)) :=
    (((kp_cell _ _ _ _).trans (kp_cell _ _ _ _) (fun _ h => .inl h)).trans (kp_cell _ _ _ _) (fun _ h => .inl h)).trans (kp_cell _ _ _ _) (fun _ h => .inl h)
  have m2 : ∀ x : Nat, x * 2 = 2 * x := fun x => Nat.mul_comm x 2
  refine ⟨⟨⟨_, row_set (row_set (row_set (row_set hg _ _) _ _) _ _) _ _, fun t ht => ?_, cur0, h0, by simp [hs0], fun t ht => ?_⟩, fun t ht => ?_, ?_⟩, ⟨hK.os, hK.tape, hK.output, hK.size, hK.block⟩⟩
  · simp only [Array.getElem?_setIfInBounds, Array.size_setIfInBounds, m2]
    rw [swp_get d (by omega) (by omega)]
    obtain ⟨e1, e2⟩ := hcur t ht
    by_cases htj : t = j
    · subst htj
      rw [if_neg (show ¬ 2 * t + 1 = 2 * t by omega), if_pos rfl, if_pos (show 2 * t < cur.size by omega), if_pos rfl, if_pos (show 2 * t + 1 < cur.size by omega)]
      by_cases hti : t = i
      · subst hti; simp
      · simp [hti]
    · by_cases hti : t = i
      · subst hti
        rw [if_neg (show ¬ 2 * j + 1 = 2 * t by omega), if_neg (show ¬ 2 * j = 2 * t by omega), if_neg (show ¬ 2 * t + 1 = 2 * t by omega), if_pos rfl, if_pos (show 2 * t < cur.size by omega), if_neg (show ¬ 2 * j + 1 = 2 * t + 1 by omega), if_neg (show ¬ 2 * j = 2 * t + 1 by omega), if_pos rfl, if_pos (show 2 * t + 1 < cur.size by omega)]
        simp [htj]
      · rw [if_neg (show ¬ 2 * j + 1 = 2 * t by omega), if_neg (show ¬ 2 * j = 2 * t by omega), if_neg (show ¬ 2 * i + 1 = 2 * t by omega), if_neg (show ¬ 2 * i = 2 * t by omega), if_neg (show ¬ 2 * j + 1 = 2 * t + 1 by omega), if_neg (show ¬ 2 * j = 2 * t + 1 by omega), if_neg (show ¬ 2 * i + 1 = 2 * t + 1 by omega), if_neg (show ¬ 2 * i = 2 * t + 1 by omega)]
        simp [hti, htj, e1, e2]
  · simp only [Array.getElem?_setIfInBounds, Array.size_setIfInBounds]
    rw [if_neg (show ¬ j * 2 + 1 = t by omega), if_neg (show ¬ j * 2 = t by omega), if_neg (show ¬ i * 2 + 1 = t by omega), if_neg (show ¬ i * 2 = t by omega)]
    exact ht0 t ht
  · rw [swp_get d (by omega) (by omega)]
    split
    · exact hok _ hi
    · split
      · exact hok _ hj
      · exact hok _ ht
  · have := hkp.trans hK (fun _ h => .inl h)
    exact ⟨this.os, this.tape, this.output, this.size, this.block⟩

set_option maxHeartbeats 3200000 in
set_option maxRecDepth 100000 in
theorem recSwap_ok (w0 : World) (g n cap i j : Nat) (d : Array Rec) (W : World) (hn : n ≤ 1000000) (hc : n ≤ cap) (hd : d.size = n) (hR : RecRow w0 g n d W) (hi : i < n) (hj : j < n) :
    Calls Tryz.prog 289 #[.slice (some ⟨g, 0, none⟩) n cap, .int .i64 (i : Int), .int .i64 (j : Int)] W fun e w' => e = .returned (.tuple #[]) ∧ RecRow w0 g n (swp d i j) w' ∧ Kp (fun x => x = g) W w' := by
  obtain ⟨cur, hg, hcur, _⟩ := hR.row
  have hcur2 : ∀ t, t < n → cur[t * 2]? = some (.slice d[t]!.A d[t]!.x.1.dig.length d[t]!.cap) ∧ cur[t * 2 + 1]? = some (.int .u64 d[t]!.x.2) := fun t ht => by rw [Nat.mul_comm t]; exact hcur t ht
  have ci0 := (blk_cell' hg (i * 2)).trans (hcur2 i hi).1
  have ci1 := (blk_cell' hg (i * 2 + 1)).trans (hcur2 i hi).2
  have cj0 := (blk_cell' hg (j * 2)).trans (hcur2 j hj).1
  have cj1 := (blk_cell' hg (j * 2 + 1)).trans (hcur2 j hj).2
  clear hcur2
  have fi0 := blk_free' hg (i * 2)
  have fi1 := blk_free' hg (i * 2 + 1)
  have fj0 := blk_free' hg (j * 2)
  have fj1 := blk_free' hg (j * 2 + 1)
  have HR := Lib.hid hR; have HG := Lib.hid hg; have HC := Lib.hid hcur
  clear hcur hR hg
  obtain ⟨x, hx⟩ : ∃ x, x = d[i]! := ⟨_, rfl⟩
  obtain ⟨y, hy⟩ : ∃ y, y = d[j]! := ⟨_, rfl⟩
  rw [← hx] at ci0 ci1
  rw [← hy] at cj0 cj1
  have HX := Lib.hid hx; have HY := Lib.hid hy
  clear hx hy
  by_cases hij : i = j
  · subst hij
    have exy : y = x := by rw [HX.out, HY.out]
    rw [exy] at cj0 cj1 HY
    clear exy cj0 cj1 fj0 fj1
    have hfin := HR.out.swap hd hi hi
    rw [← HX.out] at hfin
    go_enter Tryz.func289, Tryz.ntmps289
    go_wp2_with fail
    go_region
    go_wp2_with fail
    go_end0
    exact ⟨rfl, hfin⟩
  · have h1 : ¬ j = i := fun e => hij e.symm
    have h2 : ¬ i * 2 = j * 2 := by omega
    have h3 : ¬ j * 2 = i * 2 := by omega
    have hfin := Lib.hid (HR.out.swap hd hi hj)
    rw [← HX.out, ← HY.out] at hfin
    go_enter Tryz.func289, Tryz.ntmps289
    go_wp2_with fail
    go_region
    go_wp2_with fail
    go_end0
    exact ⟨rfl, hfin.out⟩

theorem recSortR (w0 : World) (g n cap : Nat) (hn : n ≤ 1000000) (hc : n ≤ cap) (hg : g < w0.heap.size) : SortR recLt (RecRow w0 g n) n g w0.heap.size (.slice (some ⟨g, 0, none⟩) n cap) where
  swo := recLt_swo
  big := hn
  below := hg
  size d W h := h.kp.size
  less d W i j h hd hi hj := recLess_ok w0 g n cap i j d W hn hc h hi hj
  swap d W i j h hd hi hj := recSwap_ok w0 g n cap i j d W hn hc hd h hi hj
  keep d W W' h k := h.keep hg k

end Go.Proofs.YtobdjcnojbnegaaGreatDoor

/- sort.Sort of the records of an index: any number. -/
namespace Go.Proofs.YtobdjcnojbnegaaGreatDoor
open Go.Shelf Go.RowKit Go.Lib Go.Sort
set_option linter.unusedVariables false
set_option linter.unusedSimpArgs false

theorem method_LenS (v : Value) (w : World) : (method 471 304 v "Len").run Tryz.prog w = .ok (287, v) w := by kernel_rfl

set_option maxRecDepth 100000 in
set_option maxHeartbeats 1600000 in
theorem sortRecs_run (g n cap : Nat) (d : Array Rec) (w : World) (hn : n ≤ 1000000) (hc : n ≤ cap) (hg : g < w.heap.size) (hd : d.size = n) (hR : RecRow w g n d w) :
    Calls Tryz.prog 208 #[.iface 304 (.slice (some ⟨g, 0, none⟩) n cap)] w fun e w' => e = .returned (.tuple #[]) ∧ ∃ d', RecRow w g n d' w' ∧ PermIn 0 n d d' ∧ SortedIn recLt 0 n d' := by
  have hme := method_LenS
  have hL : ∀ W : World, Calls Tryz.prog 287 #[.slice (some ⟨g, 0, none⟩) n cap] W fun e w' => e = .returned (.int .i64 (n : Int)) ∧ W = w' := by
    intro W
    go_enter Tryz.func287, Tryz.ntmps287
    go_wp2_with fail
    go_ret
    exact ⟨rfl, rfl⟩
  have hLen : ∀ w, Calls Tryz.prog 44 #[.int .u64 (n : Int)] w fun e w' => e = .returned (.int .i64 (bitsLen n : Nat)) ∧ w' = w := fun w => by
    have h := Tryz.bits_Len (n : Int) w (by omega) (by omega)
    rwa [Int.toNat_natCast, bitLen_eq _ (by omega)] at h
  have hk : bitsLen n ≤ 62 := (bitsLen_le_iff n 62).2 (by omega)
  have HP := Lib.hid fun w1 (h : RecRow w g n d w1) => pdqR (recSortR w g n cap hn hc hg) (n + 1) 0 n (bitsLen n) d w1 (by omega) hd h (Nat.zero_le _) (Nat.le_refl _) (by omega) (Or.inl rfl)
  have HR := Lib.hid hR
  clear hR
  generalize bitsLen n = bl at *
  go_enter Tryz.func208, Tryz.ntmps208
  go_wp2_with fail
  refine (hL _).mono ?_
  rintro e w1 ⟨rfl, rfl⟩
  by_cases h1 : n ≤ 1
  · have h1i : (n : Int) ≤ 1 := by omega
    go_wp2_with fail
    refine bodyPost_ret (v := .tuple #[]) (by simp [results, Tryz.results208, go_sem]) rfl ⟨rfl, d, HR.out, permIn_refl _ _ _, fun i j hi hij hj => by omega⟩
  · have h1i : ¬ (n : Int) ≤ 1 := by omega
    have hP := HP.out w HR.out
    go_wp2_with (first | (go_at_call 44; refine (hLen _).mono ?_; rintro e w' ⟨rfl, rfl⟩))
    refine hP.mono ?_
    rintro e w1 ⟨rfl, d', h1, h2, h3⟩
    have HX := Lib.hid (And.intro h1 (And.intro h2 h3))
    clear h1 h2 h3 hP
    go_wp2_with fail
    go_end0
    exact ⟨rfl, d', HX.out⟩

theorem perm_of_permIn {d d' : Array Rec} (h : PermIn 0 d.size d d') : d'.toList.Perm d.toList := by
  have h1 := h.2.2
  have h2 := h.1
  rw [Array.extract_size] at h1
  rwa [show d'.extract 0 d.size = d' by rw [← h2, Array.extract_size]] at h1
theorem sorted_of_in {d : Array Rec} (h : SortedIn recLt 0 d.size d) : SortedD (d.toList.map Rec.x) := by
  unfold SortedD
  rw [List.pairwise_map, List.pairwise_iff_getElem]
  intro i j hi hj hij
  have h1 := h i j (Nat.zero_le _) hij (by simpa using hj)
  rw [getElem!_pos d j (by simpa using hj), getElem!_pos d i (by simpa using hi)] at h1
  simp only [recLt, decide_eq_false_iff_not] at h1
  have := co_neg d[i].x.1.dig d[j].x.1.dig
  simp only [Array.getElem_toList]
  omega
theorem sortRecs_ok (g n cap : Nat) (d : Array Rec) (w : World) (hn : n ≤ 1000000) (hc : n ≤ cap) (hg : g < w.heap.size) (hd : d.size = n) (hR : RecRow w g n d w) :
    Calls Tryz.prog 208 #[.iface 304 (.slice (some ⟨g, 0, none⟩) n cap)] w fun e w' => e = .returned (.tuple #[]) ∧ ∃ d', RecRow w g n d' w' ∧ d'.size = n ∧ d'.toList.Perm d.toList ∧ SortedD (d'.toList.map Rec.x) := by
  refine (sortRecs_run g n cap d w hn hc hg hd hR).mono ?_
  rintro e w' ⟨rfl, d', h1, h2, h3⟩
  subst hd
  exact ⟨rfl, d', h1, h2.1, perm_of_permIn h2, sorted_of_in (by rw [h2.1]; exact h3)⟩
end Go.Proofs.YtobdjcnojbnegaaGreatDoor

/- A record of an index, written into its row: digests of any length. -/
namespace Go.Proofs.YtobdjcnojbnegaaGreatDoor
open Go.RowKit
set_option linter.unusedVariables false
set_option linter.unusedSimpArgs false
attribute [local go_sem] setCell_drewN alloc_drewN

theorem run_copy_zero {P : Program} (w : World) (dT sT ty elem : TypeId) (D A : Option Addr) (dl dc c : Nat) (hu : P.underlying dT = some (.slice elem)) (hs : (P.info? elem).map (·.size) = some 1) :
    (Builtin.copy_ #[dT, sT] ty #[.slice D dl dc, .slice A 0 c]).run P w = .ok (goInt 0) w := by
  cases hq : P.info? elem with
  | none => simp [hq] at hs
  | some i =>
    have hi : i.size = 1 := by simpa [hq] using hs
    cases A <;> cases D <;> simp [Builtin.copy_, run_underlying hu, Builtin.lenOf, Builtin.firstCells, sizeOf, typeInfo, hq, hi, storeCells, loadCells, loadCellsFrom]
/-- 'copy' of nothing, in a region that draws. -/
theorem step_copy_zero {P : Program} {ops : Array Oper} {o : Oper} {a : Act} {w : World} {K : Act → World → Prop} {Q : Exit → Act → World → Prop} {E : Prop} (hgd : o.guard = none) (d s : Operand) (dT sT : TypeId)
    (ho : o.op = .call { callee := .builtin .copy, args := #[d, s], argTypes := #[dT, sT] }) (elem : TypeId) (hu : P.underlying dT = some (.slice elem)) (hsz : (P.info? elem).map (·.size) = some 1)
    (D A : Option Addr) (dl dc c : Nat) (hd : a.eval d = .slice D dl dc) (hs : a.eval s = .slice A 0 c)
    (h : K (a.put o.dst (goInt 0)) w) :
    if Region.wanted o (yielded ops a.tmps) = true then Oper.wp P o a w K Q else E := by
  have hw : Region.wanted o (yielded ops a.tmps) = true := by simp [Region.wanted, hgd]
  rw [if_pos hw]
  have hrun := run_copy_zero (P := P) w dT sT o.type elem D A dl dc c hu hsz
  unfold Oper.wp execOp
  simp only [ho, resolve, invoke, builtin, Sem.run_bind, Sem.run_pure, Result.andThen_ok, List.map_toArray, List.map_cons, List.map_nil, hd, hs, hrun]
  exact h

set_option maxRecDepth 100000 in
set_option maxHeartbeats 1600000 in
theorem recWrite_empty (g o n c cap off : Nat) (A : Option Addr) (cur : List Value) (w : World) (hg : w.heap[g]? = some (.cells cur.toArray 5 (0, 0))) (hn : n = 8) (hc : n ≤ c) (hfit : o + n ≤ cur.length)
    (hoff : off < 18446744073709551616) (hbig : cur.length ≤ 1099511627776) :
    Calls Tryz.prog 209 #[.agg #[.slice A 0 cap, .int .u64 (off : Int)], .slice (some ⟨g, o, none⟩) n c] w fun e w' => e = .returned (.tuple #[]) ∧
      w'.heap[g]? = some (.cells (splice cur o (bcells (Lib.leBytes 8 off))).toArray 5 (0, 0)) ∧ Kp (fun i => i = g) w w' := by
  have hgl := (Array.getElem?_eq_some_iff.1 hg).1
  have hs1 := fun W => cut_all (some ⟨g, o, none⟩) n c W
  have hs2 := fun W => cut_h g o 0 n c (by omega) hc (by omega) (0 : Int) rfl W
  simp only [Nat.add_zero, Nat.sub_zero] at hs2
  obtain ⟨W, hW⟩ : ∃ W, W = w.alloc (.cells #[.slice A 0 cap, .int .u64 (off : Int)] 302) := ⟨_, rfl⟩
  have hbW : Below w.heap.size w W := by rw [hW]; exact below_boxed w _
  have hg1 : W.heap[g]? = some (.cells cur.toArray 5 (0, 0)) := (hbW.block g hgl).trans hg
  have HN := Lib.hid hn; clear hn
  go_enter Tryz.func209, Tryz.ntmps209
  go_wp2_with fail
  have hblk : W.heap[w.heap.size]? = some (.cells #[.slice A 0 cap, .int .u64 (off : Int)] 302 (0, 0)) := by rw [hW]; exact heap_alloc_last w _
  have k0 := (blk_cell' hblk 0).trans (show _ = some (Value.slice A 0 cap) from rfl)
  have hnB : w.heap.size ≠ g := by omega
  rw [← hW]
  have hkW : Kp (fun i => i = g) w W := Kp.of_below hbW
  clear hW
  generalize w.heap.size = bx at *
  have hg1d : W.drew.heap[g]? = some (.cells cur.toArray 5 (0, 0)) := hg1
  go_region_law (refine step_copy_zero rfl (.tmp 6) (.tmp 8) 65 65 rfl 5 Tryz.underlying65 info_u8s (some ⟨g, o, none⟩) A n c cap rfl rfl ?_)
  have hk2 : Kp (fun i => i = g) w W.drew := hkW.drew
  have hb2 : W.drew.heap[bx]? = some (.cells #[.slice A 0 cap, .int .u64 (off : Int)] 302 (0, 0)) := hblk
  have hbs : bx < W.drew.heap.size := (Array.getElem?_eq_some_iff.1 hb2).1
  generalize W.drew = W2 at *
  have m1 := (blk_cell' hb2 1).trans (show _ = some (Value.int .u64 (off : Int)) from rfl)
  have hx : ∀ j, j < 8 → ∃ v, W2.cell? ⟨g, o + j, none⟩ = some v := fun j hj => ⟨cur[o + j]'(by have := HN.out; omega), (blk_cell' hg1d _).trans (by simp)⟩
  obtain ⟨x0, q0⟩ := hx 0 (by omega)
  obtain ⟨x1, q1⟩ := hx 1 (by omega)
  obtain ⟨x2, q2⟩ := hx 2 (by omega)
  obtain ⟨x3, q3⟩ := hx 3 (by omega)
  obtain ⟨x4, q4⟩ := hx 4 (by omega)
  obtain ⟨x5, q5⟩ := hx 5 (by omega)
  obtain ⟨x6, q6⟩ := hx 6 (by omega)
  obtain ⟨x7, q7⟩ := hx 7 (by omega)
  have hff := fun j => blk_free' hg1d j
  have hP := Tryz.binary_LE_PutUint64 g o n c off hoff x0 x1 x2 x3 x4 x5 x6 x7 W2.drew (by have := HN.out; omega) q0 q1 q2 q3 q4 q5 q6 q7 (hff _) (hff _) (hff _) (hff _) (hff _) (hff _) (hff _) (hff _)
  have hrow := heap_setCells g 5 (Lib.byteCells (Lib.leBytes 8 off)) o cur (W2.drew.alloc (.cells #[] 307)) ((heap_alloc_old W2.drew _ (Array.getElem?_eq_some_iff.1 hg1d).1).trans hg1d) (by have := HN.out; simp only [Lib.byteCells_length, le8_len]; omega)
  have hk3 : Kp (fun i => i = g) w ((W2.drew.alloc (.cells #[] 307)).setCells g o (Lib.byteCells (Lib.leBytes 8 off))) := by
    have ha : Kp (fun _ => False) W2.drew (W2.drew.alloc (.cells #[] 307)) := kp_alloc W2.drew _
    have hb : Kp (fun i => i = g) w (W2.drew.alloc (.cells #[] 307)) := hk2.drew.trans ha (fun _ h => h.elim)
    exact hb.trans (kp_setCells g (Lib.byteCells (Lib.leBytes 8 off)) o (W2.drew.alloc (.cells #[] 307))) (fun i hi => .inl hi)
  have HR := Lib.hid hrow
  clear hff hrow q0 q1 q2 q3 q4 q5 q6 q7 hx hk2 hg1 hg1d hblk hkW hbW k0
  go_wp2_with fail
  refine wp_region_noPanic ?_
  go_region_with (go_at_call 225; refine hP.mono ?_; rintro e w3 ⟨rfl, rfl⟩)
  all_goals
    refine NoPanic.normal ?_
    go_wp2_with fail
    go_end0
    exact ⟨rfl, HR.out, hk3⟩

theorem recWrite_any (g o n c cap off : Nat) (A : Option Addr) (d : List UInt8) (cur : List Value) (w : World) (hg : w.heap[g]? = some (.cells cur.toArray 5 (0, 0))) (hA : BytesAt w A d) (hne : ∀ p, A = some p → p.block ≠ g) (hn : n = d.length + 8) (hc : n ≤ c) (hfit : o + n ≤ cur.length)
    (hoff : off < 18446744073709551616) (hdl : d.length ≤ cap) (hbig : cur.length ≤ 1099511627776) :
    Calls Tryz.prog 209 #[.agg #[.slice A d.length cap, .int .u64 (off : Int)], .slice (some ⟨g, o, none⟩) n c] w fun e w' => e = .returned (.tuple #[]) ∧
      w'.heap[g]? = some (.cells (splice cur o (bcells (d ++ Lib.leBytes 8 off))).toArray 5 (0, 0)) ∧ Kp (fun i => i = g) w w' := by
  rcases hA with rfl | ⟨ga, oa, rfl, hcc⟩
  · exact recWrite_empty g o n c cap off A cur w hg (by simpa using hn) hc hfit hoff hbig
  · by_cases h0 : d.length = 0
    · have : d = [] := List.eq_nil_of_length_eq_zero h0
      subst this
      exact recWrite_empty g o n c cap off (some ⟨ga, oa, none⟩) cur w hg (by simpa using hn) hc hfit hoff hbig
    · exact recWrite_ok g o n c ga oa cap off d cur w hg (.inr ⟨ga, oa, rfl, hcc⟩) (hne _ rfl) hn hc hfit hoff (by omega) hdl hbig
end Go.Proofs.YtobdjcnojbnegaaGreatDoor

/- What Load needs of rows and bytes. -/
namespace Go.Proofs.YtobdjcnojbnegaaGreatDoor
open Go.RowKit
set_option linter.unusedVariables false
set_option linter.unusedSimpArgs false

theorem ItAt.nd {w : World} {r b : Nat} {q : IntKind} {L done : List (Int × Value)} (h : ItAt w r b q L done) : (done.map (·.1)).Nodup := by
  obtain ⟨es, clock, since, seen, c0, h1, h2, ⟨_, _, h3⟩, h4, h5, h6, h7, ds, d1, d2, d3, d4⟩ := h
  have hnds : ds.Nodup := by
    have h : (ds.map (·.born)).Pairwise (· ≠ ·) := d3
    exact (List.pairwise_map.1 h).imp (fun h e => h (by rw [e]))
  have hinj : ∀ x ∈ es.toList, ∀ y ∈ es.toList, x.key = y.key → x = y := by
    intro x hx y hy e
    obtain ⟨i, hi⟩ := List.getElem?_of_mem hx
    obtain ⟨j, hj⟩ := List.getElem?_of_mem hy
    have hn : (es.toList.map (·.key)).Nodup := h3
    have hil := (List.getElem?_eq_some_iff.1 hi).1
    have : i = j := (List.getElem?_inj (by simpa using hil) hn).1 (by rw [List.getElem?_map, List.getElem?_map, hi, hj]; simp [e])
    subst this
    rw [hi] at hj; cases hj; rfl
  have hk : (ds.map (·.key)).Nodup := by
    refine List.pairwise_map.2 (hnds.imp_of_mem fun {x y} hx hy hne e => hne (hinj x (d2 x hx) y (d2 y hy) e))
  have e1 : ds.map (·.key) = (done.map (·.1)).map (Value.int q) := by
    have := congrArg (List.map Prod.fst) d4
    simpa [imv, Function.comp_def] using this
  rw [e1] at hk
  refine List.Pairwise.imp ?_ (List.pairwise_map.1 hk)
  intro a b h e
  exact h (by rw [e])

theorem recs_get : ∀ (k : List Rec) (t : Nat), t < k.length → (k.flatMap Rec.cells)[2 * t]? = some (.slice k[t]!.A k[t]!.x.1.dig.length k[t]!.cap) ∧ (k.flatMap Rec.cells)[2 * t + 1]? = some (.int .u64 k[t]!.x.2)
  | [], t, h => by simp at h
  | r :: k, 0, _ => by simp [Rec.cells]
  | r :: k, t + 1, h => by
    have ih := recs_get k t (by simpa using h)
    have e1 : 2 * (t + 1) = 2 * t + 2 := by omega
    have e2 : 2 * (t + 1) + 1 = (2 * t + 1) + 2 := by omega
    have hl : (r.cells).length = 2 := rfl
    rw [List.flatMap_cons, e1, List.getElem?_append_right (by omega), List.getElem?_append_right (by omega), hl]
    have h3 : (r :: k)[t + 1]! = k[t]! := by simp
    rw [h3, show 2 * t + 2 - 2 = 2 * t by omega, show 2 * t + 2 + 1 - 2 = 2 * t + 1 by omega]
    exact ih
theorem recs_len : ∀ k : List Rec, (k.flatMap Rec.cells).length = 2 * k.length
  | [] => rfl
  | r :: k => by
    rw [List.flatMap_cons, List.length_append, recs_len k, List.length_cons]
    show 2 + _ = _
    omega
theorem RecRow.of_own {w : World} {z g n cap : Nat} {k : List Rec} (h : w.ownsRow z 302 2 (.slice (some ⟨g, 0, none⟩) n cap) n (k.flatMap Rec.cells)) (hk : k.length = n) (hok : ∀ r ∈ k, RecOk w g r) : RecRow w g n k.toArray w := by
  rcases h.2 with ⟨e, _⟩ | ⟨g', cap', cur, e, hb, hg, hn, hc, hs, ht⟩
  · cases e
  · cases e
    have hget : ∀ (t : Nat) (u : Value), (k.flatMap Rec.cells)[t]? = some u → cur[t]? = some u := by
      intro t u hu
      rw [← ht, List.getElem?_take] at hu
      split at hu
      · simpa using hu
      · cases hu
    refine ⟨⟨cur, hg, fun t htn => ?_, cur, hg, rfl, fun _ _ => rfl⟩, fun t htn => ?_, Kp.refl _ _⟩
    · obtain ⟨h1, h2⟩ := recs_get k t (by omega)
      rw [List.getElem!_toArray]
      exact ⟨hget _ _ h1, hget _ _ h2⟩
    · rw [List.getElem!_toArray, getElem!_pos k t (by omega)]
      exact hok _ (List.getElem_mem _)
theorem RecRow.own {w W : World} {z g n cap : Nat} {d : Array Rec} {xs : List Value} (h0 : w.ownsRow z 302 2 (.slice (some ⟨g, 0, none⟩) n cap) n xs) (h : RecRow w g n d W) (hd : d.size = n) : W.ownsRow z 302 2 (.slice (some ⟨g, 0, none⟩) n cap) n (d.toList.flatMap Rec.cells) := by
  rcases h0.2 with ⟨e, _⟩ | ⟨g', cap', cur, e, hb, hg, hn, hc, hs, ht⟩
  · cases e
  · cases e
    obtain ⟨cur', hg', hcur, cur0, hg0, hs0, _⟩ := h.row
    rw [hg] at hg0
    injection hg0 with hg0
    injection hg0 with e1 _ _
    subst e1
    have hlen : (d.toList.flatMap Rec.cells).length = 2 * n := by rw [recs_len, Array.length_toList, hd]
    refine ⟨by rw [hlen]; omega, .inr ⟨g, cap, cur', rfl, hb, hg', hn, hc, by rw [hs0, hs], ?_⟩⟩
    apply List.ext_getElem?
    intro t
    rw [List.getElem?_take]
    by_cases h2 : t < n * 2
    · rw [if_pos h2]
      have hq : t / 2 < n := by omega
      obtain ⟨a1, a2⟩ := hcur (t / 2) hq
      obtain ⟨b1, b2⟩ := recs_get d.toList (t / 2) (by rw [Array.length_toList, hd]; exact hq)
      have e : d.toList[t / 2]! = d[t / 2]! := by
        rw [getElem!_pos d.toList _ (by rw [Array.length_toList, hd]; exact hq), getElem!_pos d _ (by omega)]; simp
      rw [e] at b1 b2
      rw [Array.getElem?_toList]
      rcases Nat.mod_two_eq_zero_or_one t with hm | hm
      · rw [show 2 * (t / 2) = t by omega] at a1 b1
        rw [a1, b1]
      · rw [show 2 * (t / 2) + 1 = t by omega] at a2 b2
        rw [a2, b2]
    · rw [if_neg h2, List.getElem?_eq_none (by omega)]

/-- The row of bytes that is written by and by. -/
theorem splice_fill (pre row : List UInt8) (M P Q W : Nat) (hP : pre.length = P) (hQ : Q = P + W) (hW : row.length = W) (hM : Q ≤ M) : splice (bcells pre ++ zeros8 (M - P)) P (bcells row) = bcells (pre ++ row) ++ zeros8 (M - Q) := by
  have h1 : (bcells pre).length = P := by rw [bcells_len, hP]
  have h2 : (bcells row).length = W := by rw [bcells_len, hW]
  unfold splice
  rw [h2, List.take_left' h1, ← List.drop_drop, List.drop_left' h1, show bcells (pre ++ row) = bcells pre ++ bcells row by simp [bcells]]
  simp only [zeros8, List.drop_replicate, List.append_assoc]
  rw [show M - P - W = M - Q by omega]
end Go.Proofs.YtobdjcnojbnegaaGreatDoor
