import Derived.Test.YtgdgmegpacmgnaaGreatDoorG10
import Derived.Test.YtgdgmegpacmgnaaGreatDoorG12
import Derived.Sort.LotA
import Derived.Test.YtgdgmegpacmgnaaGreatDoorG00
import Derived.Shelf.SlSortFuncK.SWK
import Derived.Shelf.GgSortMore.Stable
/- spec.Coded: the entries of one hash function. -/
namespace Go.Proofs.YtgdgmegpacmgnaaGreatDoor
open Go.RowKit
set_option linter.unusedVariables false
set_option linter.unusedSimpArgs false
attribute [local go_sem] setCell_drewN alloc_drewN

def hasCode (code : Nat) (x : CidOf × Int) : Bool := decide (x.1.code = code)
/-- The entries of one hash function. -/
def codedOf (l : List (CidOf × Int)) (code : Nat) : List (CidOf × Int) := l.filter (hasCode code)
theorem codedOf_snoc (l : List (CidOf × Int)) (x : CidOf × Int) (code : Nat) : codedOf (l ++ [x]) code = if x.1.code = code then codedOf l code ++ [x] else codedOf l code := by
  by_cases h : x.1.code = code <;> simp [codedOf, hasCode, h]
/-- Entries in a row of the call's own. -/
def EntsOf (w : World) (B : Nat) (v : Value) (l : List (CidOf × Int)) : Prop := w.ownsRow B 62 5 v l.length (entRow l)
theorem EntsOf.rows {w : World} {B : Nat} {v : Value} {l : List (CidOf × Int)} (h : EntsOf w B v l) : ∃ A cap, v = .slice A l.length cap ∧ l.length ≤ cap ∧ RowsAt w A l ∧ (∀ g o, A = some ⟨g, o, none⟩ → B ≤ g ∧ g < w.heap.size) := by
  rcases h.2 with ⟨rfl, h0⟩ | ⟨g, cap, cur, rfl, hge, hg, hle, hcm, hcs, htk⟩
  · have hl : l = [] := by
      exact List.length_eq_zero_iff.1 h0
    subst hl
    exact ⟨none, 0, rfl, Nat.le_refl _, .inl rfl, fun g o e => by cases e⟩
  · refine ⟨some ⟨g, 0, none⟩, cap, rfl, hle, ?_, fun g' o e => by cases e; exact ⟨hge, (Array.getElem?_eq_some_iff.1 hg).1⟩⟩
    have : w.heap[g]? = some (.cells (entRow l ++ cur.toList.drop (l.length * 5)).toArray 62 (0, 0)) := by rw [hg, ← htk, List.take_append_drop]
    exact rows_of_cells this

set_option maxRecDepth 100000 in
set_option maxHeartbeats 3200000 in
theorem Coded_ok (l : List (CidOf × Int)) (A : Option Addr) (cap : Nat) (code : Nat) (w : World) (hR : RowsAt w A l) (hlen : l.length ≤ 1000000) (hcap : l.length ≤ cap) :
    Calls Tryz.prog 51 #[.slice A l.length cap, .int .u64 (code : Int)] w fun e w' => ∃ v, e = .returned v ∧ EntsOf w' w.heap.size v (codedOf l code) ∧ Below w.heap.size w w' := by
  obtain ⟨i0, ti, tz0, tz1, tz2⟩ := info_parts entInfo0
  go_enter Tryz.func51, Tryz.ntmps51
  go_wp2_with fail
  go_loopw [5, 10] (fun v5 vi wr => ∃ k : Nat, k ≤ l.length ∧ vi = .int .i64 (k : Int) ∧ EntsOf wr w.heap.size v5 (codedOf (l.take k) code) ∧ Below w.heap.size w wr) (fun _ vi _ => l.length - (intOf vi).toNat)
  case atStart => exact ⟨0, Nat.zero_le _, rfl, World.ownsRow_nil _ _ _ _, Below.refl _ _⟩
  case round =>
    obtain ⟨k, hk, rfl, hO, hB⟩ := hrel
    by_cases hlt : k < l.length
    · obtain ⟨x, hx⟩ : ∃ x, l[k]? = some x := ⟨_, List.getElem?_eq_getElem hlt⟩
      obtain ⟨g0, o, rfl, hg0, r0, r1, r2, r3, r4⟩ := hR.row hB hx
      have htk := take_snoc' hx
      have hcl : (codedOf (l.take k) code).length ≤ k := by
        have := List.length_filter_le (hasCode code) (l.take k)
        rw [List.length_take] at this
        unfold codedOf; omega
      obtain ⟨cs, hcs⟩ : ∃ cs, cs = codedOf (l.take k) code := ⟨_, rfl⟩
      rw [← hcs] at hO hcl
      have HW : Hid (codedOf (l.take (k + 1)) code = if x.1.code = code then cs ++ [x] else cs) := Lib.hid (by rw [htk, codedOf_snoc, hcs])
      have hg0r : g0 < wr.heap.size := by have := hB.size; omega
      clear hcs htk hx
      have hOb : EntsOf (wr.alloc (.cells #[.int .u64 x.1.ver, .int .u64 x.1.codec, .int .u64 x.1.code, .string (sOf x.1.dig), .int .u64 x.2] 62)) w.heap.size u5 cs := hO.alloc _
      have hbb : Below w.heap.size w (wr.alloc (.cells #[.int .u64 x.1.ver, .int .u64 x.1.codec, .int .u64 x.1.code, .string (sOf x.1.dig), .int .u64 x.2] 62)) := below_box hB _
      by_cases hc : x.1.code = code
      · have HWW : Hid (codedOf (l.take (k + 1)) code = cs ++ [x]) := Lib.hid (by rw [HW.out, if_pos hc])
        subst hc
        clear hO
        go_wp2_with (at_builtin; refine later ?_)
        obtain ⟨W2, hW2⟩ : ∃ W2, W2 = ((wr.alloc (.cells #[.int .u64 x.1.ver, .int .u64 x.1.codec, .int .u64 x.1.code, .string (sOf x.1.dig), .int .u64 x.2] 62)).alloc (.cells #[.int .u64 x.1.ver, .int .u64 x.1.codec, .int .u64 x.1.code, .string (sOf x.1.dig), .int .u64 x.2] 62)) := ⟨_, rfl⟩
        have hO2 : EntsOf W2 w.heap.size u5 cs := by rw [hW2]; exact hOb.alloc _
        have hblk : W2.heap[wr.heap.size + 1]? = some (.cells (EntCells x).toArray 62 (0, 0)) := by
          rw [hW2]
          have := heap_alloc_last (wr.alloc (.cells #[.int .u64 x.1.ver, .int .u64 x.1.codec, .int .u64 x.1.code, .string (sOf x.1.dig), .int .u64 x.2] 62)) (.cells #[.int .u64 x.1.ver, .int .u64 x.1.codec, .int .u64 x.1.code, .string (sOf x.1.dig), .int .u64 x.2] 62)
          simpa [EntCells] using this
        have hnews : ∀ j u, (EntCells x)[j]? = some u → W2.cell? ((⟨wr.heap.size + 1, 0, none⟩ : Addr).add j) = some u := fun j u h => by
          have : W2.cell? ⟨wr.heap.size + 1, j, none⟩ = some u := by rw [blk_cell' hblk, List.getElem?_toArray, h]
          by_cases h0 : j = 0
          · subst h0; simpa [Addr.add] using this
          · simpa [Addr.add, h0] using this
        have hB2 : Below w.heap.size w W2 := by rw [hW2]; exact below_box hbb _
        have hz2 : W2.heap.size = wr.heap.size + 2 := by rw [hW2]; simp
        rw [← hW2]
        clear hOb hW2 hbb
        refine now ?_
        refine wpList_append_own_at _ rfl _ _ 63 rfl w.heap.size 62 i0 _ 5 48 Tryz.underlying63 ti tz0 tz1 tz2 rfl (by decide) _ _ _ rfl hO2 ⟨wr.heap.size + 1, 0, none⟩ 1 1 (EntCells x) rfl rfl hnews (ent_one x) ?c3 ?c4 ?c5 ?_
        case c3 => unfold maxLen; omega
        case c4 => omega
        case c5 => exact hB2.size
        intro v' w3 hown hgrow hnn hloc
        have hO3 : EntsOf w3 w.heap.size v' (cs ++ [x]) := by
          unfold EntsOf
          rw [List.length_append, show entRow (cs ++ [x]) = entRow cs ++ EntCells x by simp [entRow]]
          exact hown
        have hB3 : Below w.heap.size w w3 := hB2.trans ⟨hgrow.os, hgrow.tape, hgrow.output, hgrow.size, fun i hi => hgrow.block i (by have := hB2.size; omega) (fun e => by have := (hO2.lt i e.symm).1; omega)⟩
        clear hown hgrow hnn hloc hnews hblk hO2 hB2
        go_wp2_with fail
        go_roundw
        case rel => exact ⟨k + 1, by omega, by go_num, by rw [HWW.out]; exact hO3, hB3⟩
        case measure => simp [intOf]; omega
      · have HWW : Hid (codedOf (l.take (k + 1)) code = cs) := Lib.hid (by rw [HW.out, if_neg hc])
        have hcb : ((x.1.code : Int) == (code : Int)) = false := by simp; omega
        clear hO
        go_wp2_with fail
        go_roundw
        case rel => exact ⟨k + 1, by omega, by go_num, by rw [HWW.out]; exact hOb, hbb⟩
        case measure => simp [intOf]; omega
    · obtain rfl : k = l.length := by omega
      rw [List.take_length] at hO
      go_wp2_with fail
      go_ret
      exact ⟨_, rfl, hO, hB⟩
end Go.Proofs.YtgdgmegpacmgnaaGreatDoor

/- The plain theory of the stable sort: exchanges of neighbouring blocks and merges in place. -/
namespace Go.Proofs.YtgdgmegpacmgnaaGreatDoor
open Go.Sort
set_option linter.unusedVariables false
set_option linter.unusedSectionVars false
variable {α : Type} [Inhabited α]

/-- The blocks [a, a+n) and [b, b+n) exchanged. -/
def swpG (f : Nat → α) (a b n : Nat) : Nat → α := fun t => if a ≤ t ∧ t < a + n then f (t - a + b) else if b ≤ t ∧ t < b + n then f (t - b + a) else f t
/-- The blocks [a, m) and [m, b) moved past one another. -/
def rotG (f : Nat → α) (a m b : Nat) : Nat → α := fun t => if a ≤ t ∧ t < a + (b - m) then f (t + (m - a)) else if a + (b - m) ≤ t ∧ t < b then f (t - (b - m)) else f t
def SortedF (lt : α → α → Bool) (a b : Nat) (f : Nat → α) : Prop := ∀ i j, a ≤ i → i < j → j < b → lt (f j) (f i) = false

theorem rot_left (f f' : Nat → α) (m i j : Nat) (hi : i ≤ m) (hj : 0 < j) (hij : j < i) (h : ∀ t, f' t = swpG f (m - i) m j t) (t : Nat) :
    rotG f' (m - (i - j)) m (m + j) t = rotG f (m - i) m (m + j) t := by
  simp only [rotG, h, swpG]
  repeat' split
  all_goals first | (exfalso; omega) | (congr 1; omega) | rfl
theorem rot_right (f f' : Nat → α) (m i j : Nat) (hi : i ≤ m) (hi0 : 0 < i) (hij : i < j) (h : ∀ t, f' t = swpG f (m - i) (m + j - i) i t) (t : Nat) :
    rotG f' (m - i) m (m + (j - i)) t = rotG f (m - i) m (m + j) t := by
  simp only [rotG, h, swpG]
  repeat' split
  all_goals first | (exfalso; omega) | (congr 1; omega) | rfl
theorem rot_same (f : Nat → α) (m i : Nat) (hi : i ≤ m) (t : Nat) : swpG f (m - i) m i t = rotG f (m - i) m (m + i) t := by
  simp only [rotG, swpG]
  repeat' split
  all_goals first | (exfalso; omega) | (congr 1; omega) | rfl

theorem swpG_step (d d' : Array α) (a b n : Nat) (f : Nat → α) (hab : a + n < b) (hb : b + n < d'.size) (h : ∀ t, d'[t]! = swpG f a b n t) (t : Nat) :
    (swp d' (a + n) (b + n))[t]! = swpG f a b (n + 1) t := by
  rw [swp_get d' (by omega) hb]
  simp only [h, swpG]
  repeat' split
  all_goals first | (exfalso; omega) | (congr 1; omega) | rfl
theorem swpG_zero (f : Nat → α) (a b t : Nat) : f t = swpG f a b 0 t := by
  simp only [swpG]
  repeat' split
  all_goals first | (exfalso; omega) | rfl

theorem up_step (d' : Array α) (a k : Nat) (f : Nat → α) (hak : a ≤ k) (hk : k + 1 < d'.size) (h : ∀ t, d'[t]! = rotG f a (a + 1) (k + 1) t) (t : Nat) :
    (swp d' k (k + 1))[t]! = rotG f a (a + 1) (k + 2) t := by
  rw [swp_get d' (by omega) hk]
  simp only [h, rotG]
  repeat' split
  all_goals first | (exfalso; omega) | (congr 1; omega) | rfl
theorem up_zero (f : Nat → α) (a t : Nat) : f t = rotG f a (a + 1) (a + 1) t := by
  simp only [rotG]
  repeat' split
  all_goals first | (exfalso; omega) | (congr 1; omega) | rfl
theorem down_step (d' : Array α) (k m : Nat) (f : Nat → α) (hk : 0 < k) (hkm : k ≤ m) (hm : m < d'.size) (h : ∀ t, d'[t]! = rotG f k m (m + 1) t) (t : Nat) :
    (swp d' k (k - 1))[t]! = rotG f (k - 1) m (m + 1) t := by
  rw [swp_get d' (by omega) (by omega)]
  simp only [h, rotG]
  repeat' split
  all_goals first | (exfalso; omega) | (congr 1; omega) | rfl
theorem down_zero (f : Nat → α) (m t : Nat) : f t = rotG f m m (m + 1) t := by
  simp only [rotG]
  repeat' split
  all_goals first | (exfalso; omega) | (congr 1; omega) | rfl
theorem rot_none (f : Nat → α) (s m e t : Nat) (h : s = m ∨ e = m) (hs : s ≤ m) (he : m ≤ e) : f t = rotG f s m e t := by
  simp only [rotG]
  repeat' split
  all_goals first | (exfalso; omega) | (congr 1; omega) | rfl

section
variable {lt : α → α → Bool} (hO : SWO lt)
include hO
theorem swo_lt_of_le {x y z : α} (h1 : lt y x = false) (h2 : lt y z = true) : lt x z = true := by
  cases h : lt x z with
  | true => rfl
  | false => rw [hO.ntrans y x z h1 h] at h2; cases h2
theorem swo_asymm {x y : α} (h : lt x y = true) : lt y x = false := by
  cases h' : lt y x with
  | false => rfl
  | true => have := hO.trans x y x h h'; rw [hO.irrefl] at this; cases this
theorem sortedF_le {a b : Nat} {f : Nat → α} (h : SortedF lt a b f) {i j : Nat} (hi : a ≤ i) (hij : i ≤ j) (hj : j < b) : lt (f j) (f i) = false := by
  rcases Nat.lt_or_eq_of_le hij with h1 | h1
  · exact h i j hi h1 hj
  · subst h1; exact hO.irrefl _

/-- One element ahead of a sorted block, put where it belongs. -/
theorem merge_up {a b i : Nat} {f : Nat → α} (h : SortedF lt (a + 1) b f) (hi : a + 1 ≤ i) (hib : i ≤ b) (hl : ∀ c, a + 1 ≤ c → c < i → lt (f c) (f a) = true) (hr : ∀ c, i ≤ c → c < b → lt (f c) (f a) = false) :
    SortedF lt a b (rotG f a (a + 1) i) := by
  intro x y hx hxy hy
  simp only [rotG]
  repeat' split
  all_goals first
    | (exfalso; omega)
    | (refine sortedF_le hO h ?_ ?_ ?_ <;> omega)
    | (rw [show x - (i - (a + 1)) = a by omega]; exact hr _ (by omega) (by omega))
    | (rw [show y - (i - (a + 1)) = a by omega]; exact swo_asymm hO (hl _ (by omega) (by omega)))
/-- One element behind a sorted block, put where it belongs. -/
theorem merge_down {a m i : Nat} {f : Nat → α} (h : SortedF lt a m f) (hi : a ≤ i) (him : i ≤ m) (hl : ∀ c, a ≤ c → c < i → lt (f m) (f c) = false) (hr : ∀ c, i ≤ c → c < m → lt (f m) (f c) = true) :
    SortedF lt a (m + 1) (rotG f i m (m + 1)) := by
  intro x y hx hxy hy
  simp only [rotG]
  repeat' split
  all_goals first
    | (exfalso; omega)
    | (refine sortedF_le hO h ?_ ?_ ?_ <;> omega)
    | (rw [show y + (m - i) = m by omega]; exact hl _ (by omega) (by omega))
    | (rw [show x + (m - i) = m by omega]; exact swo_asymm hO (hr _ (by omega) (by omega)))

theorem cross {a m b mid s s0 r0 : Nat} {f : Nat → α} (hA : SortedF lt a m f) (hB : SortedF lt m b f) (ham : a < m) (hmb : m < b) (hmid : mid = (a + b) / 2)
    (hcase : (mid < m ∧ s0 = mid + m - b ∧ r0 = mid) ∨ (m ≤ mid ∧ s0 = a ∧ r0 = m)) (hs0 : s0 ≤ s) (hsr : s ≤ r0)
    (hl : ∀ c, s0 ≤ c → c < s → lt (f (mid + m - 1 - c)) (f c) = false) (hr : ∀ c, s ≤ c → c < r0 → lt (f (mid + m - 1 - c)) (f c) = true) :
    ∀ x y, a ≤ x → x < mid → mid ≤ y → y < b → lt (rotG f s m (mid + m - s) y) (rotG f s m (mid + m - s) x) = false := by
  have hse : s ≤ m ∧ s ≤ mid := by omega
  intro x y hx hxm hy hyb
  by_cases hxs : x < s
  · by_cases hye : y < mid + m - s
    · have e1 : rotG f s m (mid + m - s) x = f x := by simp only [rotG]; (repeat' split) <;> first | (exfalso; omega) | rfl
      have e2 : rotG f s m (mid + m - s) y = f (y - (mid - s)) := by simp only [rotG]; (repeat' split) <;> first | (exfalso; omega) | (congr 1; omega)
      rw [e1, e2]
      exact sortedF_le hO hA hx (by omega) (by omega)
    · have e1 : rotG f s m (mid + m - s) x = f x := by simp only [rotG]; (repeat' split) <;> first | (exfalso; omega) | rfl
      have e2 : rotG f s m (mid + m - s) y = f y := by simp only [rotG]; (repeat' split) <;> first | (exfalso; omega) | rfl
      rw [e1, e2]
      have h1 := hl (s - 1) (by omega) (by omega)
      rw [show mid + m - 1 - (s - 1) = mid + m - s by omega] at h1
      have h2 : lt (f y) (f (mid + m - s)) = false := sortedF_le hO hB (by omega) (by omega) hyb
      have h3 : lt (f (s - 1)) (f x) = false := sortedF_le hO hA hx (by omega) (by omega)
      exact hO.ntrans _ _ _ h2 (hO.ntrans _ _ _ h1 h3)
  · by_cases hye : y < mid + m - s
    · have e1 : rotG f s m (mid + m - s) x = f (x + (m - s)) := by simp only [rotG]; (repeat' split) <;> first | (exfalso; omega) | rfl
      have e2 : rotG f s m (mid + m - s) y = f (y - (mid - s)) := by simp only [rotG]; (repeat' split) <;> first | (exfalso; omega) | (congr 1; omega)
      rw [e1, e2]
      have h1 := swo_asymm hO (hr s (Nat.le_refl _) (by omega))
      have h2 : lt (f (y - (mid - s))) (f s) = false := sortedF_le hO hA (by omega) (by omega) (by omega)
      have h3 : lt (f (mid + m - 1 - s)) (f (x + (m - s))) = false := sortedF_le hO hB (by omega) (by omega) (by omega)
      exact hO.ntrans _ _ _ h2 (hO.ntrans _ _ _ h1 h3)
    · have e1 : rotG f s m (mid + m - s) x = f (x + (m - s)) := by simp only [rotG]; (repeat' split) <;> first | (exfalso; omega) | rfl
      have e2 : rotG f s m (mid + m - s) y = f y := by simp only [rotG]; (repeat' split) <;> first | (exfalso; omega) | rfl
      rw [e1, e2]
      exact sortedF_le hO hB (by omega) (by omega) hyb
omit hO in
theorem rot_parts {a m b mid s : Nat} {f : Nat → α} (hA : SortedF lt a m f) (hB : SortedF lt m b f) (has : a ≤ s) (hsm : s ≤ m) (hs : s ≤ mid) (he : mid + m - s ≤ b) :
    SortedF lt a s (rotG f s m (mid + m - s)) ∧ SortedF lt s mid (rotG f s m (mid + m - s)) ∧ SortedF lt mid (mid + m - s) (rotG f s m (mid + m - s)) ∧ SortedF lt (mid + m - s) b (rotG f s m (mid + m - s)) := by
  refine ⟨?_, ?_, ?_, ?_⟩ <;> intro x y hx hxy hy <;> simp only [rotG] <;> repeat' split
  all_goals first | (exfalso; omega) | (refine hA _ _ ?_ ?_ ?_ <;> omega) | (refine hB _ _ ?_ ?_ ?_ <;> omega)
end

/-- Halves that are sorted, none of the second less than one of the first. -/
theorem sorted_join {lt : α → α → Bool} {a mid b : Nat} {d : Array α} (h1 : SortedIn lt a mid d) (h2 : SortedIn lt mid b d) (hx : ∀ x y, a ≤ x → x < mid → mid ≤ y → y < b → lt d[y]! d[x]! = false) : SortedIn lt a b d := by
  intro i j hi hij hj
  by_cases h : j < mid
  · exact h1 i j hi hij h
  · by_cases h' : i < mid
    · exact hx i j hi h' (by omega) hj
    · exact h2 i j (by omega) hij hj
theorem cross_perm {lt : α → α → Bool} {a mid b : Nat} {d d1 d2 : Array α} (ham : a ≤ mid) (hmb : mid ≤ b) (hb : b ≤ d.size) (h1 : PermIn a mid d d1) (h2 : PermIn mid b d1 d2)
    (hx : ∀ x y, a ≤ x → x < mid → mid ≤ y → y < b → lt d[y]! d[x]! = false) : ∀ x y, a ≤ x → x < mid → mid ≤ y → y < b → lt d2[y]! d2[x]! = false := by
  intro x y hx1 hx2 hy1 hy2
  rw [h2.2.1 x (.inl hx2)]
  have s1 : d1.size = d.size := h1.1
  refine permIn_all d1 d2 mid b (fun v => lt v d1[x]! = false) (by omega) h2 (fun i hi1 hi2 => ?_) y hy1 hy2
  rw [h1.2.1 i (.inr hi1)]
  exact permIn_all d d1 a mid (fun v => lt d[i]! v = false) (by omega) h1 (fun j hj1 hj2 => hx j i hj1 hj2 hi1 hi2) x hx1 hx2
/-- A part that is sorted stays so where another part alone is turned. -/
theorem sorted_other {lt : α → α → Bool} {a b c e : Nat} {d d' : Array α} (h : SortedIn lt a b d) (hp : PermIn c e d d') (hd : b ≤ c ∨ e ≤ a) : SortedIn lt a b d' :=
  fun i j hi hij hj => by rw [hp.2.1 i (by omega), hp.2.1 j (by omega)]; exact h i j hi hij hj
end Go.Proofs.YtgdgmegpacmgnaaGreatDoor

/- The stable sort of elements of k cells: swapRange_func, rotate_func. -/
namespace Go.Proofs.YtgdgmegpacmgnaaGreatDoor
open Go.Shelf Go.RowKit Go.Lib Go.Sort
set_option linter.unusedVariables false
set_option linter.unusedSimpArgs false
attribute [local go_sem] setCell_drewN alloc_drewN
variable {α : Type} [Inhabited α]

theorem swk_trans {enc : α → List Value} {k : Nat} {w0 W W' : World} {blk off : Nat} {dk dk' : Array α} (h : SWK enc k w0 blk off dk W) (h' : SWK enc k W blk off dk' W') (hblk : blk < w0.heap.size) (hs : dk'.size = dk.size) : SWK enc k w0 blk off dk' W' := by
  obtain ⟨n, os, rfl⟩ := h'
  exact h.on hblk n dk' os hs
theorem swk_cell {enc : α → List Value} {k : Nat} {w0 W : World} {blk off : Nat} {dk : Array α} (h : SWK enc k w0 blk off dk W) {p : Addr} {v : Value} (hv : w0.cell? p = some v) (hb : p.block ≠ blk) : W.cell? p = some v := by
  obtain ⟨n, os, rfl⟩ := h
  have hlt := World.block_lt_of_cell? w0 p hv
  unfold sortWorldK
  rw [cell?_grow _ _ _ (by rw [size_putRowK]; exact hlt), cell?_putRowK_other enc k _ blk off dk _ hb]
  exact hv
theorem holdsK_alloc {enc : α → List Value} {k : Nat} {w : World} {blk off : Nat} {d : Array α} (h : HoldsK enc k w blk off d) (hblk : blk < w.heap.size) (o : Obj) : HoldsK enc k (w.alloc o) blk off d := by
  rw [alloc_eq_grow]; exact holdsK_grow enc k w _ blk off d hblk h
/-- From a world with a block more. -/
theorem swk_of_alloc {enc : α → List Value} {k : Nat} {w W : World} {o : Obj} {blk off : Nat} {dk d : Array α} (h : SWK enc k (w.alloc o) blk off dk W) (hblk : blk < w.heap.size) (hH : HoldsK enc k w blk off d) (hs : dk.size = d.size) : SWK enc k w blk off dk W :=
  swk_trans ((SWK.start hH).alloc o) h hblk hs

/-- What is asked of 'less': it tells how two elements stand, and leaves the memory but for draws and new blocks. -/
def LessG (g : Nat) (lb : Array Value) (enc : α → List Value) (k : Nat) (lt : α → α → Bool) (blk off size : Nat) (w : World) : Prop :=
  ∀ (dk : Array α) (W : World), dk.size = size → SWK enc k w blk off dk W → ∀ i j : Nat, i < size → j < size →
    Calls Tryz.prog g (#[.int .i64 i, .int .i64 j] ++ lb) W fun e w' => e = .returned (.bool (lt dk[i]! dk[j]!)) ∧ SWK enc k W blk off dk w'
theorem lessG_on {g : Nat} {lb : Array Value} {enc : α → List Value} {k : Nat} {lt : α → α → Bool} {blk off size : Nat} {w W : World} {d : Array α} (h : LessG g lb enc k lt blk off size w) (hS : SWK enc k w blk off d W) (hblk : blk < w.heap.size) (hs : d.size = size) : LessG g lb enc k lt blk off size W :=
  fun dk W' hs' h' i j hi hj => h dk W' hs' (swk_trans hS h' hblk (hs'.trans hs.symm)) i j hi hj

set_option maxHeartbeats 1600000 in
set_option maxRecDepth 100000 in
theorem swapRange_ok (enc : α → List Value) (k : Nat) (hk : ∀ x, (enc x).length = k) (lf : Fn) (la lb : Array Value) (sf : Nat) (sb : Array Value) (blk off a b n : Nat) (d : Array α) (w : World)
    (hswap : SwapSwapsK Tryz.prog sf sb enc k blk off d.size) (hH : HoldsK enc k w blk off d) (hblk : blk < w.heap.size) (hab : a + n ≤ b) (hb : b + n ≤ d.size) (hsz : d.size < 4611686018427387904) :
    Calls Tryz.prog 147 #[.agg #[.func lf la lb, .func (.func sf) #[] sb], .int .i64 a, .int .i64 b, .int .i64 n] w fun e w' => e = .returned (.tuple #[]) ∧ ∃ d', SWK enc k w blk off d' w' ∧ PermIn a (b + n) d d' ∧ ∀ t, d'[t]! = swpG (fun t => d[t]!) a b n t := by
  have hH1 := holdsK_alloc hH hblk (.cells #[.func lf la lb, .func (.func sf) #[] sb] 185)
  have hb1 : blk < (w.alloc (.cells #[.func lf la lb, .func (.func sf) #[] sb] 185)).heap.size := by simp; omega
  go_enter Tryz.func147, Tryz.ntmps147
  go_wp2
  go_loopw [8] (fun vi wr => ∃ (i : Nat) (dk : Array α), vi = .int .i64 (i : Int) ∧ i ≤ n ∧ SWK enc k (w.alloc (.cells #[.func lf la lb, .func (.func sf) #[] sb] 185)) blk off dk wr ∧ dk.size = d.size ∧ PermIn a (b + n) d dk ∧ ∀ t, dk[t]! = swpG (fun t => d[t]!) a b i t) (fun vi _ => n - (intOf vi).toNat)
  case atStart => exact ⟨0, d, rfl, Nat.zero_le _, SWK.start hH1, rfl, permIn_refl _ _ _, fun t => swpG_zero (fun t => d[t]!) a b t⟩
  case round =>
    obtain ⟨i, dk, rfl, hin, hS, hds, hP, hG⟩ := hrel
    by_cases hlt : i < n
    · have hHk := hS.holds hb1 hH1 hds
      have c1 := swk_cell hS (p := ⟨w.heap.size, 1, none⟩) (v := .func (.func sf) #[] sb) (by simp) (by show w.heap.size ≠ blk; omega)
      have hs := hswap wr dk hHk hds (a + i) (b + i) (by omega) (by omega)
      have hS2 := hS.swap hk hb1 (a + i) (b + i) (by omega) (by omega)
      have hP2 := permIn_trans _ _ _ _ _ hP (swp_permIn dk a (b + n) (a + i) (b + i) (by omega) (by omega) (by omega) (by omega) (by omega))
      have hG2 := fun t => swpG_step d dk a b i (fun t => d[t]!) (by omega) (by omega) hG t
      have HX := Lib.hid (And.intro hS2 (And.intro hP2 hG2))
      rw [show ((a + i : Nat) : Int) = (a : Int) + i by omega, show ((b + i : Nat) : Int) = (b : Int) + i by omega] at hs
      clear hS2 hP2 hG2 hS hP hG hHk hH hH1 hswap
      go_wp2
      go_roundw
      case rel => exact ⟨i + 1, swp dk (a + i) (b + i), by go_num, by omega, HX.out.1, by rw [size_swp]; exact hds, HX.out.2.1, HX.out.2.2⟩
      case measure => simp [intOf]; omega
    · obtain rfl : i = n := by omega
      go_wp2
      go_end0
      exact ⟨rfl, dk, swk_of_alloc hS hblk hH hds, hP, hG⟩

set_option maxHeartbeats 1600000 in
set_option maxRecDepth 100000 in
theorem rotate_ok (enc : α → List Value) (k : Nat) (hk : ∀ x, (enc x).length = k) (lf : Fn) (la lb : Array Value) (sf : Nat) (sb : Array Value) (blk off a m b : Nat) (d : Array α) (w : World)
    (hswap : SwapSwapsK Tryz.prog sf sb enc k blk off d.size) (hH : HoldsK enc k w blk off d) (hblk : blk < w.heap.size) (ham : a < m) (hmb : m < b) (hb : b ≤ d.size) (hsz : d.size < 4611686018427387904) :
    Calls Tryz.prog 138 #[.agg #[.func lf la lb, .func (.func sf) #[] sb], .int .i64 a, .int .i64 m, .int .i64 b] w fun e w' => e = .returned (.tuple #[]) ∧ ∃ d', SWK enc k w blk off d' w' ∧ PermIn a b d d' ∧ ∀ t, d'[t]! = rotG (fun t => d[t]!) a m b t := by
  have hH1 := holdsK_alloc hH hblk (.cells #[.func lf la lb, .func (.func sf) #[] sb] 185)
  have hb1 : blk < (w.alloc (.cells #[.func lf la lb, .func (.func sf) #[] sb] 185)).heap.size := by simp; omega
  have hx0 : (w.alloc (.cells #[.func lf la lb, .func (.func sf) #[] sb] 185)).cell? ⟨w.heap.size, 0, none⟩ = some (.func lf la lb) := by simp
  have hx1 : (w.alloc (.cells #[.func lf la lb, .func (.func sf) #[] sb] 185)).cell? ⟨w.heap.size, 1, none⟩ = some (.func (.func sf) #[] sb) := by simp
  have HH := Lib.hid hH
  clear hH
  go_enter Tryz.func138, Tryz.ntmps138
  go_wp2
  go_loopw [8, 9] (fun vi vj wr => ∃ (i j : Nat) (dk : Array α), vi = .int .i64 (i : Int) ∧ vj = .int .i64 (j : Int) ∧ 0 < i ∧ 0 < j ∧ i ≤ m - a ∧ j ≤ b - m ∧ SWK enc k (w.alloc (.cells #[.func lf la lb, .func (.func sf) #[] sb] 185)) blk off dk wr ∧ dk.size = d.size ∧ PermIn a b d dk ∧ ∀ t, rotG (fun t => dk[t]!) (m - i) m (m + j) t = rotG (fun t => d[t]!) a m b t) (fun vi vj _ => (intOf vi).toNat + (intOf vj).toNat)
  case atStart => exact ⟨m - a, b - m, d, by go_num, by go_num, by omega, by omega, Nat.le_refl _, Nat.le_refl _, SWK.start hH1, rfl, permIn_refl _ _ _, fun t => by rw [show m - (m - a) = a by omega, show m + (b - m) = b by omega]⟩
  case round =>
    obtain ⟨i, j, dk, rfl, rfl, hi0, hj0, hi, hj, hS, hds, hP, hG⟩ := hrel
    have hHk := hS.holds hb1 hH1 hds
    have hbk := hS.lt hb1
    have c0 := swk_cell hS hx0 (by show w.heap.size ≠ blk; omega)
    have c1 := swk_cell hS hx1 (by show w.heap.size ≠ blk; omega)
    have hsw : SwapSwapsK Tryz.prog sf sb enc k blk off dk.size := by rw [hds]; exact hswap
    rcases Nat.lt_trichotomy i j with hij | hij | hij
    · have hC := swapRange_ok enc k hk lf la lb sf sb blk off (m - i) (m + j - i) i dk wr hsw hHk hbk (by omega) (by omega) (by omega)
      rw [show ((m - i : Nat) : Int) = (m : Int) - i by omega, show ((m + j - i : Nat) : Int) = (m : Int) + j - i by omega] at hC
      have HX := Lib.hid (And.intro hS (And.intro hP hG))
      clear hS hP hG hHk hsw hswap
      go_wp2_with (refine hC.mono ?_; clear hC; rintro e w1 ⟨rfl, d1, hS1, hP1, hG1⟩)
      go_roundw
      case rel => exact ⟨i, j - i, d1, rfl, by go_num, hi0, by omega, hi, by omega, swk_trans HX.out.1 hS1 hb1 (by rw [hP1.1]), by rw [hP1.1, hds], permIn_trans _ _ _ _ _ HX.out.2.1 (permIn_mono _ _ _ _ _ _ (by omega) (by omega) (by omega) hP1), fun t => by rw [rot_right (fun t => dk[t]!) (fun t => d1[t]!) m i j (by omega) hi0 hij hG1 t]; exact HX.out.2.2 t⟩
      case measure => simp [intOf]; omega
    · subst hij
      have hC := swapRange_ok enc k hk lf la lb sf sb blk off (m - i) m i dk wr hsw hHk hbk (by omega) (by omega) (by omega)
      rw [show ((m - i : Nat) : Int) = (m : Int) - i by omega] at hC
      have HX := Lib.hid (And.intro hS (And.intro hP hG))
      clear hS hP hG hHk hsw hswap
      go_wp2_with (refine hC.mono ?_; clear hC; rintro e w1 ⟨rfl, d1, hS1, hP1, hG1⟩)
      go_end0
      exact ⟨rfl, d1, swk_of_alloc (swk_trans HX.out.1 hS1 hb1 (by rw [hP1.1])) hblk HH.out (by rw [hP1.1, hds]), permIn_trans _ _ _ _ _ HX.out.2.1 (permIn_mono _ _ _ _ _ _ (by omega) (by omega) (by omega) hP1), fun t => by rw [hG1 t, rot_same (fun t => dk[t]!) m i (by omega) t]; exact HX.out.2.2 t⟩
    · have hC := swapRange_ok enc k hk lf la lb sf sb blk off (m - i) m j dk wr hsw hHk hbk (by omega) (by omega) (by omega)
      rw [show ((m - i : Nat) : Int) = (m : Int) - i by omega] at hC
      have HX := Lib.hid (And.intro hS (And.intro hP hG))
      clear hS hP hG hHk hsw hswap
      go_wp2_with (refine hC.mono ?_; clear hC; rintro e w1 ⟨rfl, d1, hS1, hP1, hG1⟩)
      go_roundw
      case rel => exact ⟨i - j, j, d1, by go_num, rfl, by omega, hj0, by omega, hj, swk_trans HX.out.1 hS1 hb1 (by rw [hP1.1]), by rw [hP1.1, hds], permIn_trans _ _ _ _ _ HX.out.2.1 (permIn_mono _ _ _ _ _ _ (by omega) (by omega) (by omega) hP1), fun t => by rw [rot_left (fun t => dk[t]!) (fun t => d1[t]!) m i j (by omega) hj0 hij hG1 t]; exact HX.out.2.2 t⟩
      case measure => simp [intOf]; omega
end Go.Proofs.YtgdgmegpacmgnaaGreatDoor

/- The stable sort of elements of k cells: symMerge_func. -/
namespace Go.Proofs.YtgdgmegpacmgnaaGreatDoor
open Go.Shelf Go.RowKit Go.Lib Go.Sort
set_option linter.unusedVariables false
set_option linter.unusedSimpArgs false
set_option linter.unusedSectionVars false
attribute [local go_sem] setCell_drewN alloc_drewN
variable {α : Type} [Inhabited α]

/-- True up to a place, false from there on. -/
def Falls (q : Nat → Bool) (lo hi : Nat) : Prop := ∀ c c', lo ≤ c → c ≤ c' → c' < hi → q c' = true → q c = true
theorem Falls.up {q : Nat → Bool} {lo hi h : Nat} (hF : Falls q lo hi) (hh : h < hi) (e : q h = true) : ∀ c, lo ≤ c → c < h + 1 → q c = true := fun c h1 h2 => hF c h h1 (by omega) hh e
theorem Falls.down {q : Nat → Bool} {lo hi h : Nat} (hF : Falls q lo hi) (hh : lo ≤ h) (e : q h = false) : ∀ c, h ≤ c → c < hi → q c = false := fun c h1 h2 => by
  cases h' : q c with
  | false => rfl
  | true => rw [hF h c hh h1 h2 h'] at e; cases e

theorem half_facts {i j k : Nat} (hk : k = (i + j) / 2) (hb : i + j < 9223372036854775808) : IntKind.i64.wrap ((i : Int) + (j : Int)) = (i : Int) + (j : Int) ∧ ((i : Int) + (j : Int)) / 2 = (k : Int) := by
  refine ⟨by rw [IntKind.wrap_i64]; omega, by omega⟩

set_option maxHeartbeats 3200000 in
set_option maxRecDepth 100000 in
/-- One element ahead. -/
theorem symMerge_first (enc : α → List Value) (k : Nat) (hk : ∀ x, (enc x).length = k) (lt : α → α → Bool) (hO : SWO lt) (g : Nat) (lb : Array Value) (sf : Nat) (sb : Array Value) (blk off : Nat)
    (eg : ∀ args w, (callFunc g args).run Tryz.prog w = .ok (.enter g args) w) (a m b : Nat) (d : Array α) (w : World) (hm1 : m = a + 1)
    (hless : LessG g lb enc k lt blk off d.size w) (hswap : SwapSwapsK Tryz.prog sf sb enc k blk off d.size) (hH : HoldsK enc k w blk off d) (hblk : blk < w.heap.size) (hmb : m < b) (hb : b ≤ d.size) (hsz : d.size < 4611686018427387904)
    (hB : SortedIn lt m b d) :
    Calls Tryz.prog 118 #[.agg #[.func (.func g) #[] lb, .func (.func sf) #[] sb], .int .i64 a, .int .i64 m, .int .i64 b] w fun e w' => e = .returned (.tuple #[]) ∧ ∃ d', SWK enc k w blk off d' w' ∧ PermIn a b d d' ∧ SortedIn lt a b d' := by
  have hH1 := holdsK_alloc hH hblk (.cells #[.func (.func g) #[] lb, .func (.func sf) #[] sb] 185)
  have hb1 : blk < (w.alloc (.cells #[.func (.func g) #[] lb, .func (.func sf) #[] sb] 185)).heap.size := by simp; omega
  have hx0 : (w.alloc (.cells #[.func (.func g) #[] lb, .func (.func sf) #[] sb] 185)).cell? ⟨w.heap.size, 0, none⟩ = some (.func (.func g) #[] lb) := by simp
  have hx1 : (w.alloc (.cells #[.func (.func g) #[] lb, .func (.func sf) #[] sb] 185)).cell? ⟨w.heap.size, 1, none⟩ = some (.func (.func sf) #[] sb) := by simp
  have hl1 : LessG g lb enc k lt blk off d.size (w.alloc (.cells #[.func (.func g) #[] lb, .func (.func sf) #[] sb] 185)) := lessG_on hless ((SWK.start hH).alloc _) hblk rfl
  have HH := Lib.hid hH
  have hma : (m : Int) - (a : Int) = 1 := by omega
  have hF : Falls (fun c => lt d[c]! d[a]!) m b := by
    intro c c' h1 h2 h3 e
    exact swo_lt_of_le hO (sortedF_le hO (f := fun t => d[t]!) hB h1 h2 h3) e
  have ham : a < m := by omega
  have HM := Lib.hid hm1
  clear hH hless hm1
  go_enter Tryz.func118, Tryz.ntmps118
  go_wp2
  go_loopw [8, 9] (fun vi vj wr => ∃ (i j : Nat), vi = .int .i64 (i : Int) ∧ vj = .int .i64 (j : Int) ∧ m ≤ i ∧ i ≤ j ∧ j ≤ b ∧ SWK enc k (w.alloc (.cells #[.func (.func g) #[] lb, .func (.func sf) #[] sb] 185)) blk off d wr ∧
      (∀ c, m ≤ c → c < i → lt d[c]! d[a]! = true) ∧ (∀ c, j ≤ c → c < b → lt d[c]! d[a]! = false)) (fun vi vj _ => (intOf vj).toNat - (intOf vi).toNat)
  case atStart => exact ⟨m, b, rfl, rfl, Nat.le_refl _, by omega, Nat.le_refl _, SWK.start hH1, fun c h1 h2 => by omega, fun c h1 h2 => by omega⟩
  case round =>
    obtain ⟨i, j, rfl, rfl, hmi, hij, hjb, hS, hT, hFa⟩ := hrel
    have c0 := swk_cell hS hx0 (by show w.heap.size ≠ blk; omega)
    by_cases hlt : i < j
    · obtain ⟨h, hh⟩ : ∃ h, h = (i + j) / 2 := ⟨_, rfl⟩
      obtain ⟨hsum, hsh⟩ := half_facts hh (by omega)
      have hhr : i ≤ h ∧ h < j := by omega
      have hl := hl1 d wr rfl hS h a (by omega) (by omega)
      have HT := Lib.hid hT; have HF2 := Lib.hid hFa; have HF := Lib.hid hF; have HS := Lib.hid hS
      clear hT hFa hF hh hS
      cases hv : lt d[h]! d[a]! with
      | true =>
        rw [hv] at hl
        have HV := Lib.hid hv
        clear hv
        go_wp2_with (go_at_fn g; refine hl.mono ?_; rintro e w' ⟨rfl, hq⟩)
        go_roundw
        case rel => exact ⟨h + 1, j, by go_num, rfl, by omega, by omega, hjb, swk_trans HS.out hq hb1 rfl, HF.out.up (by omega) HV.out, HF2.out⟩
        case measure => simp [intOf]; omega
      | false =>
        rw [hv] at hl
        have HV := Lib.hid hv
        clear hv
        go_wp2_with (go_at_fn g; refine hl.mono ?_; rintro e w' ⟨rfl, hq⟩)
        go_roundw
        case rel => exact ⟨i, h, rfl, rfl, by omega, by omega, by omega, swk_trans HS.out hq hb1 rfl, HT.out, HF.out.down (by omega) HV.out⟩
        case measure => simp [intOf]; omega
    · obtain rfl : i = j := by omega
      have HT := Lib.hid hT; have HF2 := Lib.hid hFa
      clear hT hFa hF hij
      obtain ⟨wo, rfl⟩ : ∃ wo, wo = wr := ⟨_, rfl⟩
      go_wp2
      go_loopw [11] (fun vk wr2 => ∃ (x : Nat) (dk : Array α), vk = .int .i64 (x : Int) ∧ a ≤ x ∧ x + 1 ≤ i ∧ SWK enc k (w.alloc (.cells #[.func (.func g) #[] lb, .func (.func sf) #[] sb] 185)) blk off dk wr2 ∧ dk.size = d.size ∧ PermIn a b d dk ∧ ∀ t, dk[t]! = rotG (fun t => d[t]!) a (a + 1) (x + 1) t) (fun vk _ => i - (intOf vk).toNat)
      case atStart => exact ⟨a, d, rfl, Nat.le_refl _, by omega, hS, rfl, permIn_refl _ _ _, fun t => up_zero (fun t => d[t]!) a t⟩
      case round =>
        clear c0 hS
        obtain ⟨x, dk, rfl, hax, hxi, hS, hds, hP, hG⟩ := hrel
        by_cases hx : x < i - 1
        · have hHk := hS.holds hb1 hH1 hds
          have c1 := swk_cell hS hx1 (by show w.heap.size ≠ blk; omega)
          have hs := hswap wr dk hHk hds x (x + 1) (by omega) (by omega)
          have hS2 := hS.swap hk hb1 x (x + 1) (by omega) (by omega)
          have hP2 := permIn_trans _ _ _ _ _ hP (swp_permIn dk a b x (x + 1) (by omega) (by omega) (by omega) (by omega) (by omega))
          have hG2 := fun t => up_step dk a x (fun t => d[t]!) hax (by omega) hG t
          have HX := Lib.hid (And.intro hS2 (And.intro hP2 hG2))
          rw [show ((x + 1 : Nat) : Int) = (x : Int) + 1 by omega] at hs
          have hxc : (x : Int) < (i : Int) - 1 := by omega
          clear hS2 hP2 hG2 hS hP hG hHk hswap
          go_wp2
          go_roundw
          case rel => exact ⟨x + 1, swp dk x (x + 1), by go_num, by omega, by omega, HX.out.1, by rw [size_swp]; exact hds, HX.out.2.1, HX.out.2.2⟩
          case measure => simp [intOf]; omega
        · obtain rfl : i = x + 1 := by omega
          have hxc : ¬ (x : Int) < ((x + 1 : Nat) : Int) - 1 := by omega
          have HX := Lib.hid (And.intro hS (And.intro hP hG))
          clear hS hP hG
          go_wp2
          refine bodyPost_ret (v := .tuple #[]) (by simp [results, Tryz.results118, go_sem]) rfl ?_
          refine ⟨rfl, dk, swk_of_alloc HX.out.1 hblk HH.out hds, HX.out.2.1, ?_⟩
          have := merge_up hO (a := a) (b := b) (i := x + 1) (f := fun t => d[t]!) (by rw [← HM.out]; exact hB) (by have := HM.out; omega) (by omega) (by rw [← HM.out]; exact HT.out) HF2.out
          intro u v h1 h2 h3
          rw [HX.out.2.2 u, HX.out.2.2 v]
          exact this u v h1 h2 h3
set_option maxHeartbeats 3200000 in
set_option maxRecDepth 100000 in
/-- One element behind. -/
theorem symMerge_last (enc : α → List Value) (k : Nat) (hk : ∀ x, (enc x).length = k) (lt : α → α → Bool) (hO : SWO lt) (g : Nat) (lb : Array Value) (sf : Nat) (sb : Array Value) (blk off : Nat)
    (eg : ∀ args w, (callFunc g args).run Tryz.prog w = .ok (.enter g args) w) (a m b : Nat) (d : Array α) (w : World) (hm1 : b = m + 1) (hne : m ≠ a + 1)
    (hless : LessG g lb enc k lt blk off d.size w) (hswap : SwapSwapsK Tryz.prog sf sb enc k blk off d.size) (hH : HoldsK enc k w blk off d) (hblk : blk < w.heap.size) (ham : a < m) (hb : b ≤ d.size) (hsz : d.size < 4611686018427387904)
    (hA : SortedIn lt a m d) :
    Calls Tryz.prog 118 #[.agg #[.func (.func g) #[] lb, .func (.func sf) #[] sb], .int .i64 a, .int .i64 m, .int .i64 b] w fun e w' => e = .returned (.tuple #[]) ∧ ∃ d', SWK enc k w blk off d' w' ∧ PermIn a b d d' ∧ SortedIn lt a b d' := by
  have hH1 := holdsK_alloc hH hblk (.cells #[.func (.func g) #[] lb, .func (.func sf) #[] sb] 185)
  have hb1 : blk < (w.alloc (.cells #[.func (.func g) #[] lb, .func (.func sf) #[] sb] 185)).heap.size := by simp; omega
  have hx0 : (w.alloc (.cells #[.func (.func g) #[] lb, .func (.func sf) #[] sb] 185)).cell? ⟨w.heap.size, 0, none⟩ = some (.func (.func g) #[] lb) := by simp
  have hx1 : (w.alloc (.cells #[.func (.func g) #[] lb, .func (.func sf) #[] sb] 185)).cell? ⟨w.heap.size, 1, none⟩ = some (.func (.func sf) #[] sb) := by simp
  have hl1 : LessG g lb enc k lt blk off d.size (w.alloc (.cells #[.func (.func g) #[] lb, .func (.func sf) #[] sb] 185)) := lessG_on hless ((SWK.start hH).alloc _) hblk rfl
  have HH := Lib.hid hH
  have hma : ((m : Int) - (a : Int) == 1) = false := by simp; omega
  have hbm : (b : Int) - (m : Int) = 1 := by omega
  have hF : Falls (fun c => !lt d[m]! d[c]!) a m := by
    intro c c' h1 h2 h3 e
    simp only [Bool.not_eq_true', Bool.not_eq_eq_eq_not, Bool.not_true] at e ⊢
    exact hO.ntrans _ _ _ e (sortedF_le hO (f := fun t => d[t]!) hA h1 h2 h3)
  have HM := Lib.hid hm1
  clear hH hless hm1 hne
  go_enter Tryz.func118, Tryz.ntmps118
  go_wp2
  go_loopw [12, 13] (fun vi vj wr => ∃ (i j : Nat), vi = .int .i64 (i : Int) ∧ vj = .int .i64 (j : Int) ∧ a ≤ i ∧ i ≤ j ∧ j ≤ m ∧ SWK enc k (w.alloc (.cells #[.func (.func g) #[] lb, .func (.func sf) #[] sb] 185)) blk off d wr ∧
      (∀ c, a ≤ c → c < i → (!lt d[m]! d[c]!) = true) ∧ (∀ c, j ≤ c → c < m → (!lt d[m]! d[c]!) = false)) (fun vi vj _ => (intOf vj).toNat - (intOf vi).toNat)
  case atStart => exact ⟨a, m, rfl, rfl, Nat.le_refl _, by omega, Nat.le_refl _, SWK.start hH1, fun c h1 h2 => by omega, fun c h1 h2 => by omega⟩
  case round =>
    obtain ⟨i, j, rfl, rfl, hmi, hij, hjb, hS, hT, hFa⟩ := hrel
    have c0 := swk_cell hS hx0 (by show w.heap.size ≠ blk; omega)
    by_cases hlt : i < j
    · obtain ⟨h, hh⟩ : ∃ h, h = (i + j) / 2 := ⟨_, rfl⟩
      obtain ⟨hsum, hsh⟩ := half_facts hh (by omega)
      have hhr : i ≤ h ∧ h < j := by omega
      have hl := hl1 d wr rfl hS m h (by omega) (by omega)
      have HT := Lib.hid hT; have HF2 := Lib.hid hFa; have HF := Lib.hid hF; have HS := Lib.hid hS
      clear hT hFa hF hh hS
      cases hv : lt d[m]! d[h]! with
      | false =>
        rw [hv] at hl
        have HV : Hid ((!lt d[m]! d[h]!) = true) := Lib.hid (by rw [hv]; rfl)
        clear hv
        go_wp2_with (go_at_fn g; refine hl.mono ?_; rintro e w' ⟨rfl, hq⟩)
        go_roundw
        case rel => exact ⟨h + 1, j, by go_num, rfl, by omega, by omega, hjb, swk_trans HS.out hq hb1 rfl, HF.out.up (by omega) HV.out, HF2.out⟩
        case measure => simp [intOf]; omega
      | true =>
        rw [hv] at hl
        have HV : Hid ((!lt d[m]! d[h]!) = false) := Lib.hid (by rw [hv]; rfl)
        clear hv
        go_wp2_with (go_at_fn g; refine hl.mono ?_; rintro e w' ⟨rfl, hq⟩)
        go_roundw
        case rel => exact ⟨i, h, rfl, rfl, by omega, by omega, by omega, swk_trans HS.out hq hb1 rfl, HT.out, HF.out.down (by omega) HV.out⟩
        case measure => simp [intOf]; omega
    · obtain rfl : i = j := by omega
      have HT := Lib.hid hT; have HF2 := Lib.hid hFa
      clear hT hFa hF hij
      obtain ⟨wo, rfl⟩ : ∃ wo, wo = wr := ⟨_, rfl⟩
      go_wp2
      go_loopw [15] (fun vk wr2 => ∃ (x : Nat) (dk : Array α), vk = .int .i64 (x : Int) ∧ i ≤ x ∧ x ≤ m ∧ SWK enc k (w.alloc (.cells #[.func (.func g) #[] lb, .func (.func sf) #[] sb] 185)) blk off dk wr2 ∧ dk.size = d.size ∧ PermIn a b d dk ∧ ∀ t, dk[t]! = rotG (fun t => d[t]!) x m (m + 1) t) (fun vk _ => (intOf vk).toNat - i)
      case atStart => exact ⟨m, d, rfl, by omega, Nat.le_refl _, hS, rfl, permIn_refl _ _ _, fun t => down_zero (fun t => d[t]!) m t⟩
      case round =>
        clear c0 hS
        obtain ⟨x, dk, rfl, hax, hxi, hS, hds, hP, hG⟩ := hrel
        by_cases hx : i < x
        · have hHk := hS.holds hb1 hH1 hds
          have c1 := swk_cell hS hx1 (by show w.heap.size ≠ blk; omega)
          have hs := hswap wr dk hHk hds x (x - 1) (by omega) (by omega)
          have hS2 := hS.swap hk hb1 x (x - 1) (by omega) (by omega)
          have hP2 := permIn_trans _ _ _ _ _ hP (swp_permIn dk a b x (x - 1) (by omega) (by omega) (by omega) (by omega) (by omega))
          have hG2 := fun t => down_step dk x m (fun t => d[t]!) (by omega) hxi (by omega) hG t
          have HX := Lib.hid (And.intro hS2 (And.intro hP2 hG2))
          rw [show ((x - 1 : Nat) : Int) = (x : Int) - 1 by omega] at hs
          clear hS2 hP2 hG2 hS hP hG hHk hswap
          go_wp2
          go_roundw
          case rel => exact ⟨x - 1, swp dk x (x - 1), by go_num, by omega, by omega, HX.out.1, by rw [size_swp]; exact hds, HX.out.2.1, HX.out.2.2⟩
          case measure => simp [intOf]; omega
        · obtain rfl : i = x := by omega
          have HX := Lib.hid (And.intro hS (And.intro hP hG))
          clear hS hP hG
          go_wp2
          refine bodyPost_ret (v := .tuple #[]) (by simp [results, Tryz.results118, go_sem]) rfl ?_
          refine ⟨rfl, dk, swk_of_alloc HX.out.1 hblk HH.out hds, HX.out.2.1, ?_⟩
          have := merge_down hO (a := a) (m := m) (i := i) (f := fun t => d[t]!) hA (by omega) (by omega) (fun c h1 h2 => by simpa using HT.out c h1 h2) (fun c h1 h2 => by simpa using HF2.out c h1 h2)
          intro u v h1 h2 h3
          rw [HX.out.2.2 u, HX.out.2.2 v]
          exact this u v h1 h2 (by have := HM.out; omega)

/-- The memory while one array is sorted. -/
structure Fam (enc : α → List Value) (k : Nat) (lt : α → α → Bool) (g : Nat) (lb : Array Value) (blk off N : Nat) (d : Array α) (w : World) : Prop where
  less : LessG g lb enc k lt blk off N w
  holds : HoldsK enc k w blk off d
  blt : blk < w.heap.size
  size : d.size = N
theorem Fam.on {enc : α → List Value} {k : Nat} {lt : α → α → Bool} {g : Nat} {lb : Array Value} {blk off N : Nat} {d d' : Array α} {w w' : World} (h : Fam enc k lt g lb blk off N d w) (hS : SWK enc k w blk off d' w') (hs : d'.size = d.size) : Fam enc k lt g lb blk off N d' w' :=
  ⟨lessG_on h.less hS h.blt (hs.trans h.size), hS.holds h.blt h.holds hs, hS.lt h.blt, hs.trans h.size⟩

theorem merge_fin {lt : α → α → Bool} {a mid b : Nat} {d d1 d2 d3 : Array α} (ham : a ≤ mid) (hmb : mid ≤ b) (hb : b ≤ d.size) (hP : PermIn a b d d1) (h1 : PermIn a mid d1 d2) (h2 : PermIn mid b d2 d3) (s1 : SortedIn lt a mid d2) (s2 : SortedIn lt mid b d3)
    (hx : ∀ x y, a ≤ x → x < mid → mid ≤ y → y < b → lt d1[y]! d1[x]! = false) : PermIn a b d d3 ∧ SortedIn lt a b d3 := by
  have e1 : d1.size = d.size := hP.1
  have e2 : d2.size = d1.size := h1.1
  refine ⟨permIn_trans _ _ _ _ _ hP (permIn_trans _ _ _ _ _ (permIn_mono _ _ _ _ _ _ (Nat.le_refl _) hmb (by omega) h1) (permIn_mono _ _ _ _ _ _ ham (Nat.le_refl _) (by omega) h2)), ?_⟩
  exact sorted_join (sorted_other s1 h2 (.inl (Nat.le_refl _))) s2 (cross_perm ham hmb (by omega) h1 h2 hx)
theorem sorted_none {lt : α → α → Bool} {a b : Nat} {d : Array α} (h : b ≤ a) : SortedIn lt a b d := fun i j h1 h2 h3 => by omega
theorem sorted_fn {lt : α → α → Bool} {a b : Nat} {d : Array α} {f : Nat → α} (h : SortedF lt a b f) (hG : ∀ t, d[t]! = f t) : SortedIn lt a b d := fun i j h1 h2 h3 => by rw [hG i, hG j]; exact h i j h1 h2 h3
end Go.Proofs.YtgdgmegpacmgnaaGreatDoor
