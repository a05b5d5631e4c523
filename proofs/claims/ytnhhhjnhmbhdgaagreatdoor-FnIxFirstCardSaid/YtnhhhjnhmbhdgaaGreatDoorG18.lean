import Derived.Test.YtnhhhjnhmbhdgaaGreatDoorG14
import Derived.Test.YtnhhhjnhmbhdgaaGreatDoorG09
import Derived.Test.YtnhhhjnhmbhdgaaGreatDoorG08
import Derived.Test.YtnhhhjnhmbhdgaaGreatDoorG17
import Derived.Test.YtnhhhjnhmbhdgaaGreatDoorG10
import Derived.RegionCalls
/- ixOne: an index of one entry. -/
namespace Go.Proofs.YtnhhhjnhmbhdgaaGreatDoor
open Go.RowKit
set_option linter.unusedVariables false
set_option linter.unusedSimpArgs false
attribute [local go_sem] setCell_drewN alloc_drewN

theorem cmp_self : ∀ a : List UInt8, Lib.compareBytes a a = 0
  | [] => rfl
  | x :: a => by unfold Lib.compareBytes; simp [cmp_self a]
/-- What the index of one entry tells of its digest. -/
theorem tells_one {d : List UInt8} {off : Nat} (hoff : off < 18446744073709551616) {M : List Nat} (h : Tells [(d.length + 8, d ++ Lib.leBytes 8 off)] d M) : M = [off] := by
  have hd0 : rowDig (d.length + 8) (d ++ Lib.leBytes 8 off) 0 = d := by simp [rowDig]
  have ho0 : rowOff (d.length + 8) (d ++ Lib.leBytes 8 off) 0 = Lib.leBytes 8 off := by
    simp only [rowOff, Nat.zero_add, Nat.one_mul, Nat.add_sub_cancel, List.drop_left]
    exact List.take_of_length_le (by rw [le_length]; omega)
  rcases h with ⟨h, _⟩ | ⟨s, hs, hw, n, r, hn, ⟨h1, h2, h3⟩, hM⟩
  · exact absurd rfl (h _ List.mem_cons_self)
  · obtain rfl : s = (d.length + 8, d ++ Lib.leBytes 8 off) := by simpa using hs
    simp only [List.length_append, le_length] at hn h1 h2 h3 hM
    obtain rfl : n = 1 := by
      rcases Nat.lt_trichotomy n 1 with h | h | h
      · obtain rfl : n = 0 := by omega
        omega
      · exact h
      · have : 2 * (d.length + 8) ≤ n * (d.length + 8) := Nat.mul_le_mul_right _ h
        omega
    obtain rfl : r = 0 := by
      rcases Nat.lt_or_ge r 1 with h | h
      · omega
      · obtain rfl : r = 1 := by omega
        rcases h2 with h2 | h2
        · exact h2
        · rw [Nat.sub_self, hd0, cmp_self] at h2
          simp at h2
    rw [hM]
    simp only [Nat.sub_zero, runFrom, hd0, ho0, if_true]
    rw [Lib.leNat_leBytes 8 off (by omega)]
/-- The specification's bytes of the index of one entry. -/
theorem sorted_one (c : CidOf) (off : Nat) : Lib.uvarint 1024 ++ sortedSpec [(c, (off : Int))] [(c, (off : Int))] = oneSorted c.dig off := by
  have hw : sortN (widthsOf [(c, (off : Int))]) = [c.dig.length] := by
    have : widthsOf [(c, (off : Int))] = [c.dig.length] := by simp [widthsOf, widthStep]
    rw [this, sortN_tiny (by simp)]
  simp [sortedSpec, hw, widthSec, rowsOf, hasLen, oneSorted, mwBytes, secsBytes, secBytes]
theorem EntAt.rows {w : World} {g : Nat} {c : CidOf} {off : Nat} (h : EntAt w g c off) : RowsAt w (some ⟨g, 0, none⟩) [(c, (off : Int))] := by
  refine .inr ⟨g, 0, rfl, fun i x hx j v hj => ?_⟩
  match i, hx with
  | 0, hx =>
    simp only [List.getElem?_cons_zero, Option.some.injEq] at hx
    subst hx
    match j, hj with
    | 0, hj => cases hj; exact h.c0
    | 1, hj => cases hj; exact h.c1
    | 2, hj => cases hj; exact h.c2
    | 3, hj => cases hj; exact h.c3
    | 4, hj => cases hj; exact h.c4
  | i + 1, hx => simp at hx

set_option maxRecDepth 100000 in
set_option maxHeartbeats 1600000 in
theorem Fitting_id (s : ByteArray) (w : World) : Calls Tryz.prog 22 #[.int .u64 1, .int .u64 85, .int .u64 0, .string s] w fun e w' => e = .returned (.agg #[.int .u64 1, .int .u64 85, .int .u64 0, .string s]) ∧ Below w.heap.size w w' := by
  have hS : ∀ W, Calls Tryz.prog 41 #[.int .u64 0, .string s] W fun e w' => e = .returned (.tuple #[.string s, .bool true]) ∧ w' = W := by
    intro W
    go_enter Tryz.func41, Tryz.ntmps41
    go_wp2_with fail
    go_ret2
    exact ⟨rfl, rfl⟩
  go_enter Tryz.func22, Tryz.ntmps22
  go_wp2_with fail
  refine (hS _).mono ?_
  rintro e w1 ⟨rfl, rfl⟩
  go_wp2_with fail
  refine bodyPost_ret (v := .agg #[.int .u64 1, .int .u64 85, .int .u64 0, .string s]) (by simp [results, Tryz.results22, go_sem]) rfl ?_
  exact ⟨rfl, by (repeat (first | (with_reducible exact Below.refl _ _) | (with_reducible exact below_boxed _ _) | (with_reducible refine below_box ?_ _) | (with_reducible refine below_drew1 ?_) | (with_reducible refine below_drewn ?_ _) | (with_reducible refine below_bytes ?_ _ _) | (with_reducible refine below_next ?_ (by assumption)) | (with_reducible refine below_set ?_ (by first | (simp; done) | (simp; omega) | omega) _)))⟩
/-- The entry. -/
def oneC : CidOf := ⟨1, 85, 0, [97]⟩
theorem oneC_ok : oneC.Ok := ⟨.inr rfl, by decide, by decide, by decide⟩

set_option maxRecDepth 100000 in
set_option maxHeartbeats 3200000 in
theorem ixOne_sorted (p : Addr) (w : World) (hg5 : 0 < w.heap.size) (he : w.cell? ⟨0, 0, none⟩ = some (.iface 165 (.pointer (some p)))) :
    Calls Tryz.prog 11 #[.int .u64 1024] w fun e w' => e = .returned (.bool true) ∧ Below w.heap.size w w' := by
  go_enter Tryz.func11, Tryz.ntmps11
  go_wp2_with fail
  refine (Fitting_id _ _).mono ?_
  rintro e w1 ⟨rfl, hb1⟩
  go_wp2_with fail
  obtain ⟨w2, hw2⟩ : ∃ w2, w2 = w1.alloc (.cells #[.int .u64 1, .int .u64 85, .int .u64 0, .string ⟨#[97]⟩, .int .u64 7] 37) := ⟨_, rfl⟩
  have hblk : w2.heap[w1.heap.size]? = some (.cells #[.int .u64 1, .int .u64 85, .int .u64 0, .string ⟨#[97]⟩, .int .u64 7] 37 (0, 0)) := by rw [hw2]; exact heap_alloc_new w1 _
  have hE2 : EntAt w2 w1.heap.size oneC 7 := ⟨blk_cell' hblk 0, blk_cell' hblk 1, blk_cell' hblk 2, blk_cell' hblk 3, blk_cell' hblk 4⟩
  have hb2 : Below w.heap.size w w2 := by rw [hw2]; exact below_box hb1 _
  rw [← hw2]
  generalize hge : w1.heap.size = ge at *
  have hI := IxBytes_one ge 1 7 oneC oneC_ok (by decide) (by decide) w2 hE2
  have hol : (oneSorted oneC.dig 7).length = 27 := by
    simp [oneSorted, mwBytes, secsBytes, secBytes, le_length, uv1024, oneC]
  have hos : (sOf (oneSorted oneC.dig 7)).data.toList = Lib.uvarint 1024 ++ (mwBytes [(oneC.dig.length + 8, oneC.dig ++ Lib.leBytes 8 7)] ++ []) := by rw [List.append_nil]; simp [sOf, oneSorted]
  have hA : ∀ W, Below w.heap.size w W → Calls Tryz.prog 24 #[.string (sOf (oneSorted oneC.dig 7)), .agg #[.int .u64 1, .int .u64 85, .int .u64 0, .string ⟨#[97]⟩], .int .i64 9] W fun e w' =>
      ∃ q cq, e = .returned (.tuple #[.slice (some ⟨q, 0, none⟩) 1 cq, .int .u8 0]) ∧ w'.cell? ⟨q, 0, none⟩ = some (.int .u64 7) ∧ Below W.heap.size W w' := fun W hW => by
    refine (IxAll_sorted (sOf (oneSorted oneC.dig 7)) _ [] hos (by
      intro x hx
      obtain rfl : x = (oneC.dig.length + 8, oneC.dig ++ Lib.leBytes 8 7) := by simpa using hx
      exact ⟨by decide, by decide, 1, by decide, by omega⟩) (by simp) (by rw [show (sOf (oneSorted oneC.dig 7)).size = 27 from by simp [sOf, ByteArray.size]; exact hol]; omega) oneC oneC_ok 9 (by omega) p W (by have := hW.size; omega) ((hW.cell (p := ⟨0, 0, none⟩) hg5).trans he)).mono ?_
    rintro e w' ⟨v, M, rfl, hT, hO, hb⟩
    obtain rfl := tells_one (by decide) hT
    rcases hO.2 with ⟨_, h⟩ | ⟨q, cq, cur, rfl, hq, hcur, h1, _, _, htk⟩
    · simp at h
    · refine ⟨q, cq, rfl, ?_, hb⟩
      exact World.ownsRow.cells hO (g := q) rfl 0 _ rfl
  have hX : ∀ W, Below w2.heap.size w2 W → Calls Tryz.prog 10 #[.slice (some ⟨ge, 0, none⟩) 1 1, .int .u64 1024] W fun e w' => e = .returned (.string (sOf (oneSorted oneC.dig 7))) ∧ Below W.heap.size W w' := fun W hW => by
    refine (IndexBytes_sorted 1 stable_one [(oneC, ((7 : Nat) : Int))] (some ⟨ge, 0, none⟩) 1 W ((hE2.below hW).rows) (by decide) (by decide) (by decide) (by decide) (by
      intro x hx
      obtain rfl : x = (oneC, ((7 : Nat) : Int)) := by simpa using hx
      decide) (by
      intro x hx
      obtain rfl : x = (oneC, ((7 : Nat) : Int)) := by simpa using hx
      decide)).mono ?_
    rintro e w' ⟨l', hP, hSD, rfl, hb⟩
    obtain rfl := List.perm_singleton.1 hP
    exact ⟨by rw [sorted_one], hb⟩
  have HX := Lib.hid hX; have HA := Lib.hid hA
  generalize sOf (oneSorted oneC.dig 7) = S at *
  have hgelt := hE2.lt
  clear hX hA hos hol hge hw2 he
  refine hI.mono ?_
  clear hI
  rintro e w3 ⟨rfl, hb3⟩
  have hE3 := hE2.below hb3
  have k0 : w3.cell? ⟨ge, 0, none⟩ = some (.int .u64 1) := hE3.c0
  have k1 : w3.cell? ⟨ge, 1, none⟩ = some (.int .u64 85) := hE3.c1
  have k2 : w3.cell? ⟨ge, 2, none⟩ = some (.int .u64 0) := hE3.c2
  have k3 : w3.cell? ⟨ge, 3, none⟩ = some (.string ⟨#[97]⟩) := hE3.c3
  have hbw3 : Below w.heap.size w w3 := below_next hb2 hb3
  go_wp2_with fail
  refine (HA.out w3 hbw3).mono ?_
  rintro e w4 ⟨q, cq, rfl, hq, hb4⟩
  have hbw4 : Below w.heap.size w w4 := below_next hbw3 hb4
  have hb24 : Below w2.heap.size w2 w4 := below_next hb3 hb4
  have hqlt := World.block_lt_of_cell? w4 _ hq
  clear hb2 hb3 hb4 hblk hE2 hE3 k0 k1 k2 k3 hb1 hbw3
  go_wp2_with fail
  refine (HX.out w4 hb24).mono ?_
  rintro e w5 ⟨rfl, hb5⟩
  have hq5 := (hb5.cell (p := ⟨q, 0, none⟩) hqlt).trans hq
  have hbw5 : Below w.heap.size w w5 := below_next hbw4 hb5
  clear hq hb24 hbw4 hb5
  go_wp2_with fail
  go_ret
  exact ⟨rfl, hbw5⟩
end Go.Proofs.YtnhhhjnhmbhdgaaGreatDoor

/- What an index, as the specification writes it, tells of a digest. Plain. -/
namespace Go.Proofs.YtnhhhjnhmbhdgaaGreatDoor
open Go.RowKit
set_option linter.unusedVariables false

abbrev Ents := List (CidOf × Int)
/-- The widths of an index, and their rows. -/
def secsOf (l l' : Ents) : List (Nat × List UInt8) := (sortN (widthsOf l)).map fun n => (n + 8, rowsOf l' n)
theorem sortedSpec_eq (l l' : Ents) : sortedSpec l l' = mwBytes (secsOf l l') := by
  have h : ∀ ws : List Nat, ws.flatMap (widthSec l') = secsBytes (ws.map fun n => (n + 8, rowsOf l' n)) := by
    intro ws
    induction ws with
    | nil => rfl
    | cons n ws ih =>
      rw [List.flatMap_cons, ih]
      simp [secsBytes, secBytes, widthSec]
  rw [sortedSpec, mwBytes, secsOf, h, List.length_map]
def rowB (x : CidOf × Int) : List UInt8 := x.1.dig ++ Lib.leBytes 8 x.2.toNat
theorem rowB_len (x : CidOf × Int) : (rowB x).length = x.1.dig.length + 8 := by rw [rowB, List.length_append, le_length]
theorem rows_at (n : Nat) : ∀ F : Ents, (∀ x ∈ F, x.1.dig.length = n) → (F.flatMap rowB).length = F.length * (n + 8) ∧ ∀ i x, F[i]? = some x → rowDig (n + 8) (F.flatMap rowB) i = x.1.dig ∧ rowOff (n + 8) (F.flatMap rowB) i = Lib.leBytes 8 x.2.toNat
  | [], _ => ⟨by simp, fun i x h => by simp at h⟩
  | y :: F, h => by
    have hy := h y List.mem_cons_self
    obtain ⟨ih1, ih2⟩ := rows_at n F (fun x hx => h x (List.mem_cons_of_mem _ hx))
    have hl : (rowB y).length = n + 8 := by rw [rowB_len, hy]
    refine ⟨by rw [List.flatMap_cons, List.length_append, hl, ih1, List.length_cons, Nat.add_mul]; omega, fun i x hx => ?_⟩
    cases i with
    | zero =>
      simp only [List.getElem?_cons_zero, Option.some.injEq] at hx
      subst hx
      refine ⟨?_, ?_⟩
      · simp only [rowDig, Nat.zero_mul, List.drop_zero, Nat.add_sub_cancel, List.flatMap_cons, rowB, List.append_assoc]
        rw [← hy, List.take_left]
      · simp only [rowOff, Nat.zero_add, Nat.one_mul, Nat.add_sub_cancel, List.flatMap_cons, rowB, List.append_assoc]
        rw [← hy, List.drop_left, List.take_append_of_le_length (by rw [le_length]; omega), List.take_of_length_le (by rw [le_length]; omega)]
    | succ i =>
      have := ih2 i x (by simpa using hx)
      rw [← this.1, ← this.2]
      refine ⟨?_, ?_⟩
      · simp only [rowDig, List.flatMap_cons]
        rw [show (i + 1) * (n + 8) = (rowB y).length + i * (n + 8) by rw [hl, Nat.add_mul]; omega, ← List.drop_drop, List.drop_left]
      · simp only [rowOff, List.flatMap_cons]
        rw [show (i + 1 + 1) * (n + 8) - 8 = (rowB y).length + ((i + 1) * (n + 8) - 8) by rw [hl, Nat.add_mul (i + 1), Nat.add_mul i]; omega, ← List.drop_drop, List.drop_left]
theorem run_spec (n : Nat) (d : List UInt8) (F : Ents) (hF : ∀ x ∈ F, x.1.dig.length = n) (hoff : ∀ x ∈ F, 0 ≤ x.2 ∧ x.2 < 18446744073709551616) : ∀ k r, r + k = F.length →
    ((∀ x, F[r]? = some x → x.1.dig ≠ d) → runFrom (n + 8) (F.flatMap rowB) d k r = []) ∧ ∀ x, F[r]? = some x → x.1.dig = d → ∃ M, runFrom (n + 8) (F.flatMap rowB) d k r = x.2.toNat :: M := by
  intro k r hk
  have hR := (rows_at n F hF).2
  cases k with
  | zero => exact ⟨fun _ => rfl, fun x hx => by have := (List.getElem?_eq_some_iff.1 hx).1; omega⟩
  | succ k =>
    obtain ⟨y, hy⟩ : ∃ y, F[r]? = some y := ⟨_, List.getElem?_eq_getElem (by omega)⟩
    obtain ⟨h1, h2⟩ := hR r y hy
    refine ⟨fun h => ?_, fun x hx e => ?_⟩
    · rw [runFrom, h1, if_neg (fun e => h y hy e.symm)]
    · rw [hy] at hx; cases hx
      have ho := hoff y (List.mem_of_getElem? hy)
      rw [runFrom, h1, if_pos e.symm, h2, Lib.leNat_leBytes 8 _ (by omega)]
      exact ⟨_, rfl⟩
theorem rowsOf_eq (l : Ents) (n : Nat) : rowsOf l n = (l.filter (hasLen n)).flatMap rowB := rfl
theorem mem_hasLen {l : Ents} {n : Nat} {x : CidOf × Int} : x ∈ l.filter (hasLen n) ↔ x ∈ l ∧ x.1.dig.length = n := by
  rw [List.mem_filter]; simp [hasLen]
theorem widthsOf_all {l : Ents} : ∀ x ∈ l, x.1.dig.length ∈ widthsOf l := by
  have h1 : ∀ (l : Ents) (acc : List Nat) (n : Nat), n ∈ acc → n ∈ l.foldl widthStep acc := by
    intro l
    induction l with
    | nil => intro acc n h; exact h
    | cons y l ih => intro acc n h; exact ih _ n (by unfold widthStep; split <;> simp [h])
  have h2 : ∀ (l : Ents) (acc : List Nat) (x : CidOf × Int), x ∈ l → x.1.dig.length ∈ l.foldl widthStep acc := by
    intro l
    induction l with
    | nil => intro acc x h; simp at h
    | cons y l ih =>
      intro acc x h
      rcases List.mem_cons.1 h with rfl | h
      · exact h1 l _ _ (by unfold widthStep; split <;> simp [*])
      · exact ih _ x h
  exact fun x hx => h2 l [] x hx
theorem widthsOf_nodup (l : Ents) : (widthsOf l).Nodup := by
  have : ∀ (l : Ents) (acc : List Nat), acc.Nodup → (l.foldl widthStep acc).Nodup := by
    intro l
    induction l with
    | nil => intro acc h; exact h
    | cons y l ih =>
      intro acc h
      refine ih _ ?_
      unfold widthStep
      split
      · exact h
      · next hn =>
        refine List.nodup_append.2 ⟨h, by simp, fun a ha b hb => ?_⟩
        simp only [List.mem_singleton] at hb
        subst hb
        exact fun e => hn (e ▸ ha)
  exact this l [] List.nodup_nil

/-- THE LAW: of a digest an index tells nothing just if no entry has it; the first that it tells is the offset of an entry that has it. -/
theorem tells_sorted {l l' : Ents} (hP : l'.Perm l) (hS : SortedD l') (hoff : ∀ x ∈ l, 0 ≤ x.2 ∧ x.2 < 18446744073709551616) {d : List UInt8} {M : List Nat} (hT : Tells (secsOf l l') d M) :
    (M = [] ∧ ∀ x ∈ l, x.1.dig ≠ d) ∨ ∃ x ∈ l, x.1.dig = d ∧ ∃ M', M = x.2.toNat :: M' := by
  rcases hT with ⟨h, rfl⟩ | ⟨s, hs, hw, n, r, hn, ⟨h1, h2, h3⟩, hM⟩
  · refine .inl ⟨rfl, fun x hx e => ?_⟩
    refine h (x.1.dig.length + 8, rowsOf l' x.1.dig.length) (List.mem_map.2 ⟨x.1.dig.length, ?_, rfl⟩) (by rw [e])
    exact sortN_mem.2 (widthsOf_all x hx)
  · obtain ⟨m, hm, rfl⟩ := List.mem_map.1 hs
    simp only at hw hn hM h1 h2 h3
    obtain rfl : m = d.length := by omega
    rw [rowsOf_eq] at hn hM h2 h3
    generalize hF : l'.filter (hasLen d.length) = F at *
    have hFl : ∀ x ∈ F, x ∈ l ∧ x.1.dig.length = d.length := fun x hx => by rw [← hF] at hx; obtain ⟨a, b⟩ := mem_hasLen.1 hx; exact ⟨hP.mem_iff.1 a, b⟩
    have hFS : F.Pairwise fun x y => Lib.compareBytes x.1.dig y.1.dig ≤ 0 := by rw [← hF]; exact hS.filter _
    have hlF : ∀ x ∈ l, x.1.dig = d → x ∈ F := fun x hx e => by rw [← hF]; exact mem_hasLen.2 ⟨hP.mem_iff.2 hx, by rw [e]⟩
    obtain ⟨r1, r2⟩ := rows_at d.length F (fun x hx => (hFl x hx).2)
    obtain rfl : n = F.length := by
      rw [r1] at hn
      exact (Nat.eq_of_mul_eq_mul_right (by omega) hn).symm
    obtain ⟨g1, g2⟩ := run_spec d.length d F (fun x hx => (hFl x hx).2) (fun x hx => hoff x (hFl x hx).1) (F.length - r) r (by omega)
    have hp : ∀ i x, F[i]? = some x → decide (Lib.compareBytes d (rowDig (d.length + 8) (F.flatMap rowB) i) ≤ 0) = decide (Lib.compareBytes d x.1.dig ≤ 0) := fun i x hx => by rw [(r2 i x hx).1]
    by_cases hex : ∃ x, F[r]? = some x ∧ x.1.dig = d
    · obtain ⟨x, hx, e⟩ := hex
      obtain ⟨M', h⟩ := g2 x hx e
      exact .inr ⟨x, (hFl x (List.mem_of_getElem? hx)).1, e, M', by rw [hM, h]⟩
    · refine .inl ⟨by rw [hM]; exact g1 (fun x hx e => hex ⟨x, hx, e⟩), fun x hx e => ?_⟩
      obtain ⟨i, hi⟩ := List.getElem?_of_mem (hlF x hx e)
      have hil := (List.getElem?_eq_some_iff.1 hi).1
      rcases Nat.lt_or_ge i r with hlt | hge
      · rcases h2 with h2 | h2
        · omega
        · obtain ⟨y, hy⟩ : ∃ y, F[r - 1]? = some y := ⟨_, List.getElem?_eq_getElem (by omega)⟩
          rw [hp _ y hy] at h2
          simp only [decide_eq_false_iff_not] at h2
          have hxy : Lib.compareBytes x.1.dig y.1.dig ≤ 0 := by
            rcases Nat.lt_or_eq_of_le (show i ≤ r - 1 by omega) with h | h
            · have hxe := (List.getElem?_eq_some_iff.1 hi).2
              have hye := (List.getElem?_eq_some_iff.1 hy).2
              rw [← hxe, ← hye]
              exact List.pairwise_iff_getElem.1 hFS i (r - 1) _ _ h
            · subst h; rw [hi] at hy; cases hy; rw [co_self]; omega
          rw [e] at hxy
          exact h2 hxy
      · rcases h3 with h3 | h3
        · omega
        · obtain ⟨y, hy⟩ : ∃ y, F[r]? = some y := ⟨_, List.getElem?_eq_getElem (by omega)⟩
          rw [hp _ y hy] at h3
          simp only [decide_eq_true_eq] at h3
          have hyx : Lib.compareBytes y.1.dig x.1.dig ≤ 0 := by
            rcases Nat.lt_or_eq_of_le hge with h | h
            · have hxe := (List.getElem?_eq_some_iff.1 hi).2
              have hye := (List.getElem?_eq_some_iff.1 hy).2
              rw [← hxe, ← hye]
              exact List.pairwise_iff_getElem.1 hFS r i _ _ h
            · subst h; rw [hi] at hy; cases hy; rw [co_self]; omega
          rw [e] at hyx
          have := co_neg d y.1.dig
          exact hex ⟨y, hy, co_eq _ _ (by omega)⟩

/-- What stands in the parts of an index. -/
theorem secsOf_ok {l l' : Ents} (hP : l'.Perm l) (hd : ∀ x ∈ l, x.1.dig.length ≤ 1000) (hl : l.length ≤ 10000) : (∀ x ∈ secsOf l l', 8 ≤ x.1 ∧ x.1 ≤ 33554432 ∧ ∃ n, x.2.length = n * x.1 ∧ n ≤ 1000000) ∧ ((secsOf l l').map (·.1)).Nodup := by
  refine ⟨fun s hs => ?_, ?_⟩
  · obtain ⟨m, hm, rfl⟩ := List.mem_map.1 hs
    obtain ⟨x, hx, rfl⟩ := widthsOf_mem (sortN_mem.1 hm)
    have := hd x hx
    refine ⟨by show 8 ≤ x.1.dig.length + 8; omega, by show x.1.dig.length + 8 ≤ _; omega, (l'.filter (hasLen x.1.dig.length)).length, ?_, ?_⟩
    · show (rowsOf l' _).length = _
      rw [rowsOf_eq]
      exact (rows_at _ _ (fun y hy => (mem_hasLen.1 hy).2)).1
    · have h1 := List.length_filter_le (hasLen x.1.dig.length) l'
      have h2 := hP.length_eq
      omega
  · rw [secsOf, List.map_map]
    have h : ((sortN (widthsOf l)).map ((fun x => x.1) ∘ fun n => (n + 8, rowsOf l' n))) = (sortN (widthsOf l)).map (· + 8) := rfl
    rw [h]
    refine (List.pairwise_map).2 ?_
    have hn : (sortN (widthsOf l)).Nodup := (List.mergeSort_perm _ _).nodup_iff.2 (widthsOf_nodup l)
    exact hn.imp fun h e => h (by omega)
end Go.Proofs.YtnhhhjnhmbhdgaaGreatDoor

/- spec.IndexBytes of any entries, both kinds. -/
namespace Go.Proofs.YtnhhhjnhmbhdgaaGreatDoor
open Go.RowKit
set_option linter.unusedVariables false
set_option linter.unusedSimpArgs false
attribute [local go_sem] setCell_drewN alloc_drewN

theorem sortedSpec_small {l l' : List (CidOf × Int)} (hP : l'.Perm l) (hlen : l.length ≤ 100) (hd : ∀ x ∈ l, x.1.dig.length ≤ 1000) : (sortedSpec l l').length ≤ 4 + l.length * 100812 := by
  have h1 := widthSecs_le l' (fun x hx => hd x (hP.mem_iff.1 hx)) (sortN (widthsOf l))
  have h2 := widthsOf_le l
  have h3 := sortN_len (widthsOf l)
  have h4 := hP.length_eq
  have h5 : (sortN (widthsOf l)).length * (12 + l'.length * 1008) ≤ l.length * 100812 := Nat.mul_le_mul (by omega) (by omega)
  rw [sortedSpec, List.length_append, le_length]; omega

theorem sortedBytes_all (most : Nat) (hS : StableEnts most) (B : Nat) (v : Value) (ob : List UInt8) (l : List (CidOf × Int)) (A : Option Addr) (cap : Nat) (hA : A = none → cap = 0) (w : World) (hR : RowsAt w A l) (hlen : l.length ≤ 10000) (hle : l.length ≤ most) (hcap : l.length ≤ cap)
    (hd : ∀ x ∈ l, x.1.dig.length ≤ 1000) (ho : ∀ x ∈ l, 0 ≤ x.2 ∧ x.2 < 18446744073709551616) (hob : ob.length ≤ 900000000000) (hB : B ≤ w.heap.size) (hv : RowU w B v ob) (hvA : ∀ g o, A = some ⟨g, o, none⟩ → v.ownBlock ≠ some g) :
    Calls Tryz.prog 37 #[v, .slice A l.length cap] w fun e w' => ∃ l' v', l'.Perm l ∧ SortedD l' ∧ e = .returned v' ∧ RowU w' B v' (ob ++ sortedSpec l l') ∧ AppK w w' v v' := by
  by_cases h0 : l = []
  · subst h0
    refine (sortedBytes_empty B v ob A cap hA w hob hB hv).mono ?_
    rintro e w' ⟨v', rfl, h1, h2⟩
    exact ⟨[], v', List.Perm.refl _, List.Pairwise.nil, rfl, h1, h2⟩
  · exact sortedBytes_ok most hS B v ob l A cap w hR (by cases l with | nil => exact absurd rfl h0 | cons _ _ => simp) hlen hle hcap hd ho hob hB hv hvA

/-- The parts of an index 0x0401. -/
def Parts (l : List (CidOf × Int)) (ss : List (Nat × List (Nat × List UInt8))) : Prop := ∀ p ∈ ss, ∃ l', l'.Perm (codedOf l p.1) ∧ SortedD l' ∧ p.2 = secsOf (codedOf l p.1) l'
theorem codesOf_mem {l : List (CidOf × Int)} {n : Nat} (h : n ∈ codesOf l) : ∃ x ∈ l, x.1.code = n := by
  have : ∀ (l : List (CidOf × Int)) (acc : List Nat) (n : Nat), n ∈ l.foldl codeStep acc → n ∈ acc ∨ ∃ x ∈ l, x.1.code = n := by
    intro l
    induction l with
    | nil => intro acc n h; exact .inl h
    | cons y l ih =>
      intro acc n h
      rcases ih _ n h with h | ⟨x, hx, e⟩
      · unfold codeStep at h
        split at h
        · exact .inl h
        · rcases List.mem_append.1 h with h | h
          · exact .inl h
          · simp only [List.mem_singleton] at h
            exact .inr ⟨y, List.mem_cons_self, h.symm⟩
      · exact .inr ⟨x, List.mem_cons_of_mem _ hx, e⟩
  rcases this l [] n h with h | h
  · simp at h
  · exact h
theorem codesOf_all {l : List (CidOf × Int)} : ∀ x ∈ l, x.1.code ∈ codesOf l := by
  have h1 : ∀ (l : List (CidOf × Int)) (acc : List Nat) (n : Nat), n ∈ acc → n ∈ l.foldl codeStep acc := by
    intro l
    induction l with
    | nil => intro acc n h; exact h
    | cons y l ih => intro acc n h; exact ih _ n (by unfold codeStep; split <;> simp [h])
  have h2 : ∀ (l : List (CidOf × Int)) (acc : List Nat) (x : CidOf × Int), x ∈ l → x.1.code ∈ l.foldl codeStep acc := by
    intro l
    induction l with
    | nil => intro acc x h; simp at h
    | cons y l ih =>
      intro acc x h
      rcases List.mem_cons.1 h with rfl | h
      · exact h1 l _ _ (by unfold codeStep; split <;> simp [*])
      · exact ih _ x h
  exact fun x hx => h2 l [] x hx
theorem codesOf_nodup (l : List (CidOf × Int)) : (codesOf l).Nodup := by
  have : ∀ (l : List (CidOf × Int)) (acc : List Nat), acc.Nodup → (l.foldl codeStep acc).Nodup := by
    intro l
    induction l with
    | nil => intro acc h; exact h
    | cons y l ih =>
      intro acc h
      refine ih _ ?_
      unfold codeStep
      split
      · exact h
      · next hn =>
        refine List.nodup_append.2 ⟨h, by simp, fun a ha b hb => ?_⟩
        simp only [List.mem_singleton] at hb
        subst hb
        exact fun e => hn (e ▸ ha)
  exact this l [] List.nodup_nil
theorem mem_coded {l : List (CidOf × Int)} {code : Nat} {x : CidOf × Int} : x ∈ codedOf l code ↔ x ∈ l ∧ x.1.code = code := by
  rw [codedOf, List.mem_filter]; simp [hasCode]
/-- How many entries some hash functions have. -/
def sumC (l : List (CidOf × Int)) (cs : List Nat) : Nat := (cs.map fun c => (codedOf l c).length).sum
theorem coded_split (c : Nat) (cs : List Nat) (h : c ∉ cs) : ∀ l : List (CidOf × Int), (codedOf l c).length + (l.filter fun x => decide (x.1.code ∈ cs)).length ≤ (l.filter fun x => decide (x.1.code ∈ c :: cs)).length
  | [] => by simp [codedOf]
  | x :: l => by
    have ih := coded_split c cs h l
    unfold codedOf at ih ⊢
    by_cases h1 : x.1.code = c
    · have h2 : x.1.code ∉ cs := by rw [h1]; exact h
      have h3 : x.1.code ∈ c :: cs := by rw [h1]; exact List.mem_cons_self
      rw [List.filter_cons_of_pos (by simpa [hasCode] using h1), List.filter_cons_of_neg (by simpa using h2), List.filter_cons_of_pos (by simpa using h3)]
      simp only [List.length_cons]; omega
    · rw [List.filter_cons_of_neg (by simpa [hasCode] using h1)]
      by_cases h2 : x.1.code ∈ cs
      · have h3 : x.1.code ∈ c :: cs := List.mem_cons_of_mem _ h2
        rw [List.filter_cons_of_pos (by simpa using h2), List.filter_cons_of_pos (by simpa using h3)]
        simp only [List.length_cons]; omega
      · have h3 : x.1.code ∉ c :: cs := by simp [h1, h2]
        rw [List.filter_cons_of_neg (by simpa using h2), List.filter_cons_of_neg (by simpa using h3)]
        exact ih
theorem sumC_le (l : List (CidOf × Int)) : ∀ cs : List Nat, cs.Nodup → sumC l cs ≤ l.length := by
  have : ∀ cs : List Nat, cs.Nodup → sumC l cs ≤ (l.filter fun x => decide (x.1.code ∈ cs)).length := by
    intro cs
    induction cs with
    | nil => intro _; simp [sumC]
    | cons c cs ih =>
      intro h
      obtain ⟨h1, h2⟩ := List.nodup_cons.1 h
      have h3 := coded_split c cs h1 l
      have h4 := ih h2
      simp only [sumC, List.map_cons, List.sum_cons] at h4 ⊢
      omega
  exact fun cs h => Nat.le_trans (this cs h) (List.length_filter_le _ _)
theorem codesBytes_snoc (ss : List (Nat × List (Nat × List UInt8))) (p : Nat × List (Nat × List UInt8)) : codsBytes (ss ++ [p]) = codsBytes ss ++ codBytes p := by simp [codsBytes]

set_option maxRecDepth 100000 in
set_option maxHeartbeats 3200000 in
theorem IndexBody_mh (most : Nat) (hS : StableEnts most) (l : List (CidOf × Int)) (A : Option Addr) (cap : Nat) (w : World) (hR : RowsAt w A l) (hlen : l.length ≤ 100) (hle : l.length ≤ most) (hcap : l.length ≤ cap)
    (hd : ∀ x ∈ l, x.1.dig.length ≤ 1000) (ho : ∀ x ∈ l, 0 ≤ x.2 ∧ x.2 < 18446744073709551616) (hc : ∀ x ∈ l, x.1.code < 18446744073709551616) :
    Calls Tryz.prog 21 #[.slice A l.length cap, .int .u64 1025] w fun e w' => ∃ ss, ss.map (·.1) = sortN (codesOf l) ∧ Parts l ss ∧ (mhBytes ss).length ≤ 10090000 ∧ e = .returned (.string (sOf (mhBytes ss))) ∧ Below w.heap.size w w' := by
  have hAlt : ∀ g o, A = some ⟨g, o, none⟩ → l = [] ∨ g < w.heap.size := fun g o e => by
    rcases hR with h | ⟨g', o', e', hcell⟩
    · exact .inl h
    · rw [e] at e'; cases e'
      by_cases h0 : l = []
      · exact .inl h0
      · obtain ⟨x, hx⟩ : ∃ x, l[0]? = some x := ⟨_, List.getElem?_eq_getElem (by cases l with | nil => exact absurd rfl h0 | cons _ _ => simp)⟩
        exact .inr (World.block_lt_of_cell? w _ (hcell 0 x hx 0 _ rfl))
  have hCo := Codes_ok l A cap w hR (by omega) hcap
  have hnc := codesOf_le l
  have hslen := sortN_len (codesOf l)
  have hmemC : ∀ c ∈ sortN (codesOf l), ∃ x ∈ l, x.1.code = c := fun c hc => codesOf_mem (sortN_mem.1 hc)
  obtain ⟨cs, hcs⟩ : ∃ cs, cs = sortN (codesOf l) := ⟨_, rfl⟩
  rw [← hcs] at hCo hslen hmemC
  have HCS := Lib.hid hcs; have HM := Lib.hid hmemC; have HAL := Lib.hid hAlt
  have HD := Lib.hid hd; have HO := Lib.hid ho; have HC := Lib.hid hc
  have hclen : cs.length ≤ 100 := by omega
  have hnd : cs.Nodup := by rw [hcs]; exact (List.mergeSort_perm _ _).nodup_iff.2 (codesOf_nodup l)
  have HND := Lib.hid hnd
  rw [← hcs]
  clear hcs hmemC hAlt hd ho hc hslen hnc hnd
  go_enter Tryz.func21, Tryz.ntmps21
  go_wp2_with fail
  refine hCo.mono ?_
  clear hCo
  rintro e w1 ⟨vC, rfl, hOC, hB1⟩
  obtain ⟨pC, capC, rfl⟩ : ∃ p c, vC = .slice p cs.length c := by
    rcases hOC.2 with ⟨h, h'⟩ | ⟨g, c, _, h, _⟩
    · exact ⟨none, 0, by rw [h, h']⟩
    · exact ⟨_, c, h⟩
  have hz1 := hB1.size
  have hl1 := low_ok w.heap.size cs.length 4 (.slice none 0 0) [] (by omega) (by omega) (by simp) w1 hz1 ⟨rfl, .inl ⟨rfl, rfl⟩⟩
  have hR1 := hR.below hB1
  have hClo : ∀ i, (Value.slice pC cs.length capC).ownBlock = some i → w.heap.size ≤ i ∧ i < w1.heap.size := fun i e => World.ownsRow.lt hOC i e
  go_wp2_with fail
  refine hl1.mono ?_
  clear hl1
  rintro e w2 ⟨v2, rfl, hV2, hA2⟩
  have hz2 := hA2.kp.size
  have hno : ∀ i, ¬ (some i = (Value.slice none 0 0).ownBlock) := fun i h => absurd h (by show ¬ some i = none; simp)
  have hv2lo : ∀ i, v2.ownBlock = some i → w1.heap.size ≤ i := fun i e => by
    rcases hA2.loc with h | ⟨n, h, hn⟩
    · exact absurd (e.symm.trans h) (hno i)
    · rw [h] at e; exact (Option.some.inj e) ▸ hn
  have hOC2 : OutOf w2 w.heap.size (.slice pC cs.length capC) cs := own_kp hOC hA2.kp (fun g e h => hno g h)
  have hR2 : RowsAt w2 A l := hR1.kp hA2.kp (fun g o e h => hno g h)
  have hB2 : Below w.heap.size w w2 := hB1.trans ⟨hA2.kp.os, hA2.kp.tape, hA2.kp.output, hA2.kp.size, fun i hi => hA2.kp.block i (by omega) (hno i)⟩
  clear hA2 hOC hR1 hB1 hR
  go_wp2_with fail
  go_loopw [6, 22] (fun vo vi wr => ∃ (k : Nat) (ss : List (Nat × List (Nat × List UInt8))), k ≤ cs.length ∧ vi = .int .i64 (k : Int) ∧ ss.map (·.1) = cs.take k ∧ Parts l ss ∧ (codsBytes ss).length ≤ 12 * k + 100812 * sumC l (cs.take k) ∧ RowU wr w.heap.size vo (Lib.leBytes 4 cs.length ++ codsBytes ss) ∧
    (∀ i, vo.ownBlock = some i → w1.heap.size ≤ i) ∧ OutOf wr w.heap.size (.slice pC cs.length capC) cs ∧ RowsAt wr A l ∧ Below w.heap.size w wr ∧ w1.heap.size ≤ wr.heap.size) (fun _ vi _ => cs.length - (intOf vi).toNat)
  case atStart => exact ⟨0, [], Nat.zero_le _, rfl, rfl, (fun p hp => by simp at hp), by simp [codsBytes, sumC], by simpa [codsBytes] using hV2, hv2lo, hOC2, hR2, hB2, hz2⟩
  case round =>
    clear hV2 hv2lo hOC2 hR2 hB2
    obtain ⟨k, ss, hk, rfl, hss, hPa, hsz, hV, hvlo, hOC, hR, hB, hz⟩ := hrel
    by_cases hlt : k < cs.length
    · obtain ⟨c, hcx⟩ : ∃ c, cs[k]? = some c := ⟨_, List.getElem?_eq_getElem hlt⟩
      obtain ⟨x0, hx0, hx0c⟩ := HM.out c (List.mem_of_getElem? hcx)
      have hc64 : c < 18446744073709551616 := by rw [← hx0c]; exact HC.out x0 hx0
      obtain ⟨bC, rfl⟩ : ∃ b, pC = some ⟨b, 0, none⟩ := by
        rcases hOC.2 with ⟨h, h'⟩ | ⟨b, _, _, h, _⟩
        · omega
        · cases h; exact ⟨b, rfl⟩
      have hcell : wr.cell? ⟨bC, k, none⟩ = some (.int .u64 (c : Int)) := by
        have h1 := World.ownsRow.cells hOC (g := bC) rfl k (offVal c) (by rw [List.getElem?_map, hcx]; rfl)
        by_cases h0 : k = 0
        · subst h0; simpa [Addr.add, offVal] using h1
        · simpa [Addr.add, h0, offVal] using h1
      have hsk := sumC_le l (cs.take k) (HND.out.sublist (List.take_sublist _ _))
      have hob : (Lib.leBytes 4 cs.length ++ codsBytes ss).length ≤ 10090000 := by
        rw [List.length_append, le_length]
        omega
      have HSK := Lib.hid hsk
      clear hsk
      have hl2 := low_ok w.heap.size c 8 u6 (Lib.leBytes 4 cs.length ++ codsBytes ss) hc64 (by omega) (by omega) wr hB.size hV
      have htk : cs.take (k + 1) = cs.take k ++ [c] := by rw [List.take_succ_eq_append_getElem hlt, (List.getElem?_eq_some_iff.1 hcx).2]
      have HTK := Lib.hid htk; have HPA := Lib.hid hPa; have HSS := Lib.hid hss; have HX0 := Lib.hid (And.intro hx0 hx0c)
      have HV := Lib.hid hV
      generalize hobx : Lib.leBytes 4 cs.length ++ codsBytes ss = obx at hl2 hob
      have HOB := Lib.hid hobx
      have hAb : ∀ g o, A = some ⟨g, o, none⟩ → g < w.heap.size := fun g o e => by
        rcases HAL.out g o e with h | h
        · rw [h] at hx0; simp at hx0
        · exact h
      have HAB := Lib.hid hAb
      clear hcx hx0 hx0c htk hPa hss hobx hAb hV
      go_wp2_with fail
      refine hl2.mono ?_
      clear hl2
      rintro e w3 ⟨v3, rfl, hV3, hA3⟩
      have hz3 := hA3.kp.size
      have hv3lo : ∀ i, v3.ownBlock = some i → w1.heap.size ≤ i := fun i e => by
        rcases hA3.loc with h | ⟨n, h, hn⟩
        · exact hvlo i (h.symm.trans e)
        · have := Option.some.inj (h.symm.trans e); omega
      have hOC3 : OutOf w3 w.heap.size (.slice (some ⟨bC, 0, none⟩) cs.length capC) cs := own_kp hOC hA3.kp (fun g e h => by have h1 := (hClo g e).2; have h2 := hvlo g h.symm; omega)
      have hR3 : RowsAt w3 A l := hR.kp hA3.kp (fun g o e h => by have h1 := HAB.out g o e; have h2 := hvlo g h.symm; omega)
      have hB3 : Below w.heap.size w w3 := hB.trans (hA3.below hB.size (fun i e => by have := hvlo i e; omega))
      have hCd := Coded_ok l A cap c w3 hR3 (by omega) hcap
      clear hA3 hOC hR hB hcell hvlo
      go_wp2_with fail
      refine hCd.mono ?_
      clear hCd
      rintro e w4 ⟨vD, rfl, hE4, hB4⟩
      obtain ⟨A4, cap4, rfl, hcap4, hR4, hA4lo⟩ := hE4.rows
      have hV4 := hV3.keep hB4
      have hz4 := hB4.size
      have hcl : (codedOf l c).length ≤ l.length := by unfold codedOf; exact List.length_filter_le _ _
      have hpos : 0 < (codedOf l c).length := by
        have := mem_coded.2 ⟨HX0.out.1, HX0.out.2⟩
        exact List.length_pos_of_mem this
      have hd4 : ∀ x ∈ codedOf l c, x.1.dig.length ≤ 1000 := fun x hx => HD.out x (mem_coded.1 hx).1
      have ho4 : ∀ x ∈ codedOf l c, 0 ≤ x.2 ∧ x.2 < 18446744073709551616 := fun x hx => HO.out x (mem_coded.1 hx).1
      have hSb := sortedBytes_ok most hS w.heap.size v3 (obx ++ Lib.leBytes 8 c) (codedOf l c) A4 cap4 w4 hR4 hpos (by omega) (by omega) hcap4 hd4 ho4 (by rw [List.length_append, le_length]; omega) (by have := hB3.size; omega) hV4 (fun g o e h => by have h1 := (hA4lo g o e).1; have h2 := hV3.hi g h; omega)
      have hOC4 : OutOf w4 w.heap.size (.slice (some ⟨bC, 0, none⟩) cs.length capC) cs := own_kp hOC3 (Kp.of_below (S := fun _ => False) hB4) (fun _ _ => id)
      have hR4' : RowsAt w4 A l := hR3.below hB4
      have hB4' : Below w.heap.size w w4 := hB3.trans (hB4.mono hB3.size)
      have HD4 := Lib.hid hd4
      clear hd4 ho4 hE4 hV3 hV4 hOC3 hR3 hB3 hB4 hR4 hA4lo
      go_wp2_with fail
      refine hSb.mono ?_
      clear hSb
      rintro e w5 ⟨l', v5, hP, hSD, rfl, hV5, hA5⟩
      have hz5 := hA5.kp.size
      have hss5 := sortedSpec_small hP (by omega) HD4.out
      have hv5lo : ∀ i, v5.ownBlock = some i → w1.heap.size ≤ i := fun i e => by
        rcases hA5.loc with h | ⟨n, h, hn⟩
        · exact hv3lo i (h.symm.trans e)
        · have := Option.some.inj (h.symm.trans e); omega
      have hOC5 : OutOf w5 w.heap.size (.slice (some ⟨bC, 0, none⟩) cs.length capC) cs := own_kp hOC4 hA5.kp (fun g e h => by have h1 := (hClo g e).2; have h2 := hv3lo g h.symm; omega)
      have hR5 : RowsAt w5 A l := hR4'.kp hA5.kp (fun g o e h => by have h1 := HAB.out g o e; have h2 := hv3lo g h.symm; omega)
      have hB5 : Below w.heap.size w w5 := hB4'.trans (hA5.below hB4'.size (fun i e => by have := hv3lo i e; omega))
      have HP := Lib.hid (And.intro hP hSD)
      clear hP hSD hA5 hOC4 hR4' hB4'
      go_wp2_with fail
      go_roundw
      case rel =>
        have hbytes : obx ++ Lib.leBytes 8 c ++ sortedSpec (codedOf l c) l' = Lib.leBytes 4 cs.length ++ codsBytes (ss ++ [(c, secsOf (codedOf l c) l')]) := by
          rw [codesBytes_snoc, codBytes, sortedSpec_eq, ← HOB.out]; simp
        refine ⟨k + 1, ss ++ [(c, secsOf (codedOf l c) l')], by omega, by go_num, by rw [List.map_append, HSS.out, HTK.out]; rfl, ?_, ?_, by rw [← hbytes]; exact hV5, hv5lo, hOC5, hR5, hB5, by omega⟩
        · intro p hp
          rcases List.mem_append.1 hp with h | h
          · exact HPA.out p h
          · simp only [List.mem_singleton] at h
            subst h
            exact ⟨l', HP.out.1, HP.out.2, rfl⟩
        · have hsum : sumC l (cs.take (k + 1)) = sumC l (cs.take k) + (codedOf l c).length := by rw [HTK.out]; simp [sumC]
          rw [codesBytes_snoc, codBytes, ← sortedSpec_eq, List.length_append, List.length_append, le_length, hsum]
          omega
      case measure => simp [intOf]; omega
    · obtain rfl : k = cs.length := by omega
      rw [List.take_length] at hss
      have hsl : ss.length = cs.length := by rw [← hss, List.length_map]
      have hmh : Lib.leBytes 4 cs.length ++ codsBytes ss = mhBytes ss := by rw [mhBytes, hsl]
      have hml : (mhBytes ss).length ≤ 10090000 := by
        rw [← hmh, List.length_append, le_length]
        have := sumC_le l cs HND.out
        rw [List.take_length] at hsz
        omega
      have hmp : 0 < (mhBytes ss).length := by rw [← hmh, List.length_append, le_length]; omega
      rw [hmh] at hV
      obtain ⟨g, c, rfl, hby⟩ := own_bytes (bs := mhBytes ss) hV hmp rfl
      have hcv := bytes_string (P := Tryz.prog) Tryz.underlying49 Tryz.underlying5 Tryz.underlying9 wr _ (mhBytes ss) c hby
      have HX := Lib.hid (And.intro hss (And.intro hPa hml))
      clear hss hsl hmh hV hPa hby hOC hR hvlo
      go_wp2_with fail
      go_ret
      exact ⟨ss, HX.out.1, HX.out.2.1, HX.out.2.2, rfl, hB⟩
end Go.Proofs.YtnhhhjnhmbhdgaaGreatDoor

/- spec.IndexBytes of any entries, both kinds. -/
namespace Go.Proofs.YtnhhhjnhmbhdgaaGreatDoor
open Go.RowKit
set_option linter.unusedVariables false
set_option linter.unusedSimpArgs false
attribute [local go_sem] setCell_drewN alloc_drewN

set_option maxRecDepth 100000 in
set_option maxHeartbeats 1600000 in
theorem IndexBody_srt (most : Nat) (hS : StableEnts most) (l : List (CidOf × Int)) (A : Option Addr) (cap : Nat) (w : World) (hR : RowsAt w A l) (hA : A = none → cap = 0) (hlen : l.length ≤ 10000) (hle : l.length ≤ most) (hcap : l.length ≤ cap)
    (hd : ∀ x ∈ l, x.1.dig.length ≤ 1000) (ho : ∀ x ∈ l, 0 ≤ x.2 ∧ x.2 < 18446744073709551616) :
    Calls Tryz.prog 21 #[.slice A l.length cap, .int .u64 1024] w fun e w' => ∃ l', l'.Perm l ∧ SortedD l' ∧ e = .returned (.string (sOf (sortedSpec l l'))) ∧ Below w.heap.size w w' := by
  have hB := sortedBytes_all most hS w.heap.size (.slice none 0 0) [] l A cap hA w hR hlen hle hcap hd ho (by simp) (Nat.le_refl _) ⟨rfl, .inl ⟨rfl, rfl⟩⟩ (fun _ _ _ e => by cases e)
  clear hR hd ho
  go_enter Tryz.func21, Tryz.ntmps21
  go_wp2_with fail
  refine hB.mono ?_
  rintro e w1 ⟨l', v', hP, hSD, rfl, hU, hA⟩
  have hb : Below w.heap.size w w1 := hA.below (Nat.le_refl _) (fun i e => by cases e)
  obtain ⟨g, c, rfl, hby⟩ := own_bytes (bs := sortedSpec l l') hU (by simpa using sortedSpec_pos l l') (by simp)
  have hp := sortedSpec_pos l l'
  have HP := Lib.hid hP; have HSD := Lib.hid hSD
  have hcv := bytes_string (P := Tryz.prog) Tryz.underlying49 Tryz.underlying5 Tryz.underlying9 w1 _ (sortedSpec l l') c hby
  have hnl : ([] ++ sortedSpec l l').length = (sortedSpec l l').length := rfl
  rw [hnl]
  clear hP hSD hU hA hby hB
  go_wp2_with fail
  go_ret
  exact ⟨l', HP.out, HSD.out, rfl, hb⟩

set_option maxRecDepth 100000 in
set_option maxHeartbeats 1600000 in
theorem IndexBytes_srt (most : Nat) (hS : StableEnts most) (l : List (CidOf × Int)) (A : Option Addr) (cap : Nat) (w : World) (hR : RowsAt w A l) (hA : A = none → cap = 0) (hlen : l.length ≤ 10000) (hle : l.length ≤ most) (hcap : l.length ≤ cap)
    (hd : ∀ x ∈ l, x.1.dig.length ≤ 1000) (ho : ∀ x ∈ l, 0 ≤ x.2 ∧ x.2 < 18446744073709551616) :
    Calls Tryz.prog 10 #[.slice A l.length cap, .int .u64 1024] w fun e w' => ∃ l', l'.Perm l ∧ SortedD l' ∧ e = .returned (.string (sOf (Lib.uvarint 1024 ++ sortedSpec l l'))) ∧ Below w.heap.size w w' := by
  have hlv : (Lib.uvarint 1024).length ≤ 10 := Lib.uvarint_length 9 1024 (by decide)
  have hwl := widthsOf_le l
  go_enter Tryz.func10, Tryz.ntmps10
  go_wp2_with fail
  have HD := Lib.hid hd; have HO := Lib.hid ho; have HR := Lib.hid hR
  clear hd ho hR
  go_region_with (first | (go_at_call 20; refine (Varint_bytes 1024 (by omega) _).mono ?_; rintro e w1 ⟨g1, c1, rfl, hby1, hg1, hb1⟩; have hv1 := bytes_string (P := Tryz.prog) Tryz.underlying49 Tryz.underlying5 Tryz.underlying9 w1 _ _ c1 hby1; have hR1 : RowsAt w1 A l := RowsAt.below HR.out (Below.trans (b := w.drew) ⟨rfl, rfl, rfl, Nat.le_refl _, fun _ _ => rfl⟩ hb1)) | (go_at_call 21; (refine (IndexBody_srt most hS l A cap _ hR1 hA hlen hle hcap HD.out HO.out).mono ?_; rintro e w2 ⟨l', hP, hSD, rfl, hb2⟩; have hv2 := bytes_string (P := Tryz.prog) Tryz.underlying49 Tryz.underlying5 Tryz.underlying9 w2 _ _ c1 (hby1.below hb2); have hls := sortedSpec_le hP hlen HD.out; have hl1 : ¬ 9223372036854775807 < (Lib.uvarint 1024).length + (sortedSpec l l').length := (by omega); have HP := Lib.hid hP; have HSD := Lib.hid hSD; clear hP hSD)))
  all_goals (go_wp2_with fail; go_ret; exact ⟨l', HP.out, HSD.out, by simp [sOf, sOf_append, Act.put], by (repeat (first | (with_reducible exact Below.refl _ _) | (with_reducible exact below_boxed _ _) | (with_reducible refine below_box ?_ _) | (with_reducible refine below_drew1 ?_) | (with_reducible refine below_drewn ?_ _) | (with_reducible refine below_bytes ?_ _ _) | (with_reducible refine below_next ?_ (by assumption)) | (with_reducible refine below_set ?_ (by first | (simp; done) | (simp; omega) | omega) _)))⟩)
set_option maxRecDepth 100000 in
set_option maxHeartbeats 1600000 in
theorem IndexBytes_mh (most : Nat) (hS : StableEnts most) (l : List (CidOf × Int)) (A : Option Addr) (cap : Nat) (w : World) (hR : RowsAt w A l) (hlen : l.length ≤ 100) (hle : l.length ≤ most) (hcap : l.length ≤ cap)
    (hd : ∀ x ∈ l, x.1.dig.length ≤ 1000) (ho : ∀ x ∈ l, 0 ≤ x.2 ∧ x.2 < 18446744073709551616) (hc : ∀ x ∈ l, x.1.code < 18446744073709551616) :
    Calls Tryz.prog 10 #[.slice A l.length cap, .int .u64 1025] w fun e w' => ∃ ss, ss.map (·.1) = sortN (codesOf l) ∧ Parts l ss ∧ (mhBytes ss).length ≤ 10090000 ∧ e = .returned (.string (sOf (Lib.uvarint 1025 ++ mhBytes ss))) ∧ Below w.heap.size w w' := by
  have hlv : (Lib.uvarint 1025).length ≤ 10 := Lib.uvarint_length 9 1025 (by decide)
  have hwl := widthsOf_le l
  go_enter Tryz.func10, Tryz.ntmps10
  go_wp2_with fail
  have HD := Lib.hid hd; have HO := Lib.hid ho; have HC := Lib.hid hc; have HR := Lib.hid hR
  clear hd ho hc hR
  go_region_with (first | (go_at_call 20; refine (Varint_bytes 1025 (by omega) _).mono ?_; rintro e w1 ⟨g1, c1, rfl, hby1, hg1, hb1⟩; have hv1 := bytes_string (P := Tryz.prog) Tryz.underlying49 Tryz.underlying5 Tryz.underlying9 w1 _ _ c1 hby1; have hR1 : RowsAt w1 A l := RowsAt.below HR.out (Below.trans (b := w.drew) ⟨rfl, rfl, rfl, Nat.le_refl _, fun _ _ => rfl⟩ hb1)) | (go_at_call 21; (refine (IndexBody_mh most hS l A cap _ hR1 hlen hle hcap HD.out HO.out HC.out).mono ?_; rintro e w2 ⟨ss, hss, hPa, hls, rfl, hb2⟩; have hv2 := bytes_string (P := Tryz.prog) Tryz.underlying49 Tryz.underlying5 Tryz.underlying9 w2 _ _ c1 (hby1.below hb2); have hl1 : ¬ 9223372036854775807 < (Lib.uvarint 1025).length + (mhBytes ss).length := (by omega); have HX := Lib.hid (And.intro hss (And.intro hPa hls)); clear hss hPa)))
  all_goals (go_wp2_with fail; go_ret; exact ⟨ss, HX.out.1, HX.out.2.1, HX.out.2.2, by simp [sOf, sOf_append, Act.put], by (repeat (first | (with_reducible exact Below.refl _ _) | (with_reducible exact below_boxed _ _) | (with_reducible refine below_box ?_ _) | (with_reducible refine below_drew1 ?_) | (with_reducible refine below_drewn ?_ _) | (with_reducible refine below_bytes ?_ _ _) | (with_reducible refine below_next ?_ (by assumption)) | (with_reducible refine below_set ?_ (by first | (simp; done) | (simp; omega) | omega) _)))⟩)
end Go.Proofs.YtnhhhjnhmbhdgaaGreatDoor
