/- ixOne: an index of one entry. -/
import Derived.Test.YtfjclhfhbclbhaaGreatDoorIb
import Derived.Test.YtfjclhfhbclbhaaGreatDoorIx
import Derived.Test.YtfjclhfhbclbhaaGreatDoorRs
namespace Go.Proofs.YtfjclhfhbclbhaaGreatDoor
open Go.RowKit
set_option linter.unusedVariables false
set_option linter.unusedSimpArgs false
attribute [local go_sem] setCell_drewN alloc_drewN

theorem cmp_self : ∀ a : List UInt8, Lib.compareBytes a a = 0
  | [] => rfl
  | x :: a => by unfold Lib.compareBytes; simp [cmp_self a]
/-- What the index of one entry tells of its digest. -/
theorem tells_one {d : List UInt8} {off : Nat} (hoff : off < 18446744073709551616) {M : List Nat} (h : Tells [(d.length + 8, d ++ Lib.leBytes 8 off)] d M) : M = [off] := by
  have hd0 : rowDig (d.length + 8) (d ++ Lib.leBytes 8 off) 0 = d := by simp [rowDig]
  have ho0 : rowOff (d.length + 8) (d ++ Lib.leBytes 8 off) 0 = Lib.leBytes 8 off := by
    simp only [rowOff, Nat.zero_add, Nat.one_mul, Nat.add_sub_cancel, List.drop_left]
    exact List.take_of_length_le (by rw [le_length]; omega)
  rcases h with ⟨h, _⟩ | ⟨s, hs, hw, n, r, hn, ⟨h1, h2, h3⟩, hM⟩
  · exact absurd rfl (h _ List.mem_cons_self)
  · obtain rfl : s = (d.length + 8, d ++ Lib.leBytes 8 off) := by simpa using hs
    simp only [List.length_append, le_length] at hn h1 h2 h3 hM
    obtain rfl : n = 1 := by
      rcases Nat.lt_trichotomy n 1 with h | h | h
      · obtain rfl : n = 0 := by omega
        omega
      · exact h
      · have : 2 * (d.length + 8) ≤ n * (d.length + 8) := Nat.mul_le_mul_right _ h
        omega
    obtain rfl : r = 0 := by
      rcases Nat.lt_or_ge r 1 with h | h
      · omega
      · obtain rfl : r = 1 := by omega
        rcases h2 with h2 | h2
        · exact h2
        · rw [Nat.sub_self, hd0, cmp_self] at h2
          simp at h2
    rw [hM]
    simp only [Nat.sub_zero, runFrom, hd0, ho0, if_true]
    rw [Lib.leNat_leBytes 8 off (by omega)]
/-- The specification's bytes of the index of one entry. -/
theorem sorted_one (c : CidOf) (off : Nat) : Lib.uvarint 1024 ++ sortedSpec [(c, (off : Int))] [(c, (off : Int))] = oneSorted c.dig off := by
  have hw : sortN (widthsOf [(c, (off : Int))]) = [c.dig.length] := by
    have : widthsOf [(c, (off : Int))] = [c.dig.length] := by simp [widthsOf, widthStep]
    rw [this, sortN_tiny (by simp)]
  simp [sortedSpec, hw, widthSec, rowsOf, hasLen, oneSorted, mwBytes, secsBytes, secBytes]
theorem EntAt.rows {w : World} {g : Nat} {c : CidOf} {off : Nat} (h : EntAt w g c off) : RowsAt w (some ⟨g, 0, none⟩) [(c, (off : Int))] := by
  refine .inr ⟨g, 0, rfl, fun i x hx j v hj => ?_⟩
  match i, hx with
  | 0, hx =>
    simp only [List.getElem?_cons_zero, Option.some.injEq] at hx
    subst hx
    match j, hj with
    | 0, hj => cases hj; exact h.c0
    | 1, hj => cases hj; exact h.c1
    | 2, hj => cases hj; exact h.c2
    | 3, hj => cases hj; exact h.c3
    | 4, hj => cases hj; exact h.c4
  | i + 1, hx => simp at hx

set_option maxRecDepth 100000 in
set_option maxHeartbeats 1600000 in
theorem Fitting_id (s : ByteArray) (w : World) : Calls Tryz.prog 14 #[.int .u64 1, .int .u64 85, .int .u64 0, .string s] w fun e w' => e = .returned (.agg #[.int .u64 1, .int .u64 85, .int .u64 0, .string s]) ∧ Below w.heap.size w w' := by
  have hS : ∀ W, Calls Tryz.prog 22 #[.int .u64 0, .string s] W fun e w' => e = .returned (.tuple #[.string s, .bool true]) ∧ w' = W := by
    intro W
    go_enter Tryz.func22, Tryz.ntmps22
    go_wp2_with fail
    go_ret2
    exact ⟨rfl, rfl⟩
  go_enter Tryz.func14, Tryz.ntmps14
  go_wp2_with fail
  refine (hS _).mono ?_
  rintro e w1 ⟨rfl, rfl⟩
  go_wp2_with fail
  refine bodyPost_ret (v := .agg #[.int .u64 1, .int .u64 85, .int .u64 0, .string s]) (by simp [results, Tryz.results14, go_sem]) rfl ?_
  exact ⟨rfl, by (repeat (first | (with_reducible exact Below.refl _ _) | (with_reducible exact below_boxed _ _) | (with_reducible refine below_box ?_ _) | (with_reducible refine below_drew1 ?_) | (with_reducible refine below_drewn ?_ _) | (with_reducible refine below_bytes ?_ _ _) | (with_reducible refine below_next ?_ (by assumption)) | (with_reducible refine below_set ?_ (by first | (simp; done) | (simp; omega) | omega) _)))⟩
/-- The entry. -/
def oneC : CidOf := ⟨1, 85, 0, [97]⟩
theorem oneC_ok : oneC.Ok := ⟨.inr rfl, by decide, by decide, by decide⟩

set_option maxRecDepth 100000 in
set_option maxHeartbeats 3200000 in
theorem ixOne_sorted (p : Addr) (w : World) (hg5 : 4 < w.heap.size) (he : w.cell? ⟨4, 0, none⟩ = some (.iface 117 (.pointer (some p)))) :
    Calls Tryz.prog 7 #[.int .u64 1024] w fun e w' => e = .returned (.bool true) ∧ Below w.heap.size w w' := by
  go_enter Tryz.func7, Tryz.ntmps7
  go_wp2_with fail
  refine (Fitting_id _ _).mono ?_
  rintro e w1 ⟨rfl, hb1⟩
  go_wp2_with fail
  obtain ⟨w2, hw2⟩ : ∃ w2, w2 = w1.alloc (.cells #[.int .u64 1, .int .u64 85, .int .u64 0, .string ⟨#[97]⟩, .int .u64 7] 54) := ⟨_, rfl⟩
  have hblk : w2.heap[w1.heap.size]? = some (.cells #[.int .u64 1, .int .u64 85, .int .u64 0, .string ⟨#[97]⟩, .int .u64 7] 54 (0, 0)) := by rw [hw2]; exact heap_alloc_new w1 _
  have hE2 : EntAt w2 w1.heap.size oneC 7 := ⟨blk_cell' hblk 0, blk_cell' hblk 1, blk_cell' hblk 2, blk_cell' hblk 3, blk_cell' hblk 4⟩
  have hb2 : Below w.heap.size w w2 := by rw [hw2]; exact below_box hb1 _
  rw [← hw2]
  generalize hge : w1.heap.size = ge at *
  have hI := IxBytes_one ge 1 7 oneC oneC_ok (by decide) (by decide) w2 hE2
  have hol : (oneSorted oneC.dig 7).length = 27 := by
    simp [oneSorted, mwBytes, secsBytes, secBytes, le_length, uv1024, oneC]
  have hos : (sOf (oneSorted oneC.dig 7)).data.toList = Lib.uvarint 1024 ++ (mwBytes [(oneC.dig.length + 8, oneC.dig ++ Lib.leBytes 8 7)] ++ []) := by rw [List.append_nil]; simp [sOf, oneSorted]
  have hA : ∀ W, Below w.heap.size w W → Calls Tryz.prog 15 #[.string (sOf (oneSorted oneC.dig 7)), .agg #[.int .u64 1, .int .u64 85, .int .u64 0, .string ⟨#[97]⟩], .int .i64 9] W fun e w' =>
      ∃ q cq, e = .returned (.tuple #[.slice (some ⟨q, 0, none⟩) 1 cq, .int .u8 0]) ∧ w'.cell? ⟨q, 0, none⟩ = some (.int .u64 7) ∧ Below W.heap.size W w' := fun W hW => by
    refine (IxAll_sorted (sOf (oneSorted oneC.dig 7)) _ [] hos (by
      intro x hx
      obtain rfl : x = (oneC.dig.length + 8, oneC.dig ++ Lib.leBytes 8 7) := by simpa using hx
      exact ⟨by decide, by decide, 1, by decide, by omega⟩) (by simp) (by rw [show (sOf (oneSorted oneC.dig 7)).size = 27 from by simp [sOf, ByteArray.size]; exact hol]; omega) oneC oneC_ok 9 (by omega) p W (by have := hW.size; omega) ((hW.cell (p := ⟨4, 0, none⟩) hg5).trans he)).mono ?_
    rintro e w' ⟨v, M, rfl, hT, hO, hb⟩
    obtain rfl := tells_one (by decide) hT
    rcases hO.2 with ⟨_, h⟩ | ⟨q, cq, cur, rfl, hq, hcur, h1, _, _, htk⟩
    · simp at h
    · refine ⟨q, cq, rfl, ?_, hb⟩
      exact World.ownsRow.cells hO (g := q) rfl 0 _ rfl
  have hX : ∀ W, Below w2.heap.size w2 W → Calls Tryz.prog 16 #[.slice (some ⟨ge, 0, none⟩) 1 1, .int .u64 1024] W fun e w' => e = .returned (.string (sOf (oneSorted oneC.dig 7))) ∧ Below W.heap.size W w' := fun W hW => by
    refine (IndexBytes_sorted 1 stable_one [(oneC, ((7 : Nat) : Int))] (some ⟨ge, 0, none⟩) 1 W ((hE2.below hW).rows) (by decide) (by decide) (by decide) (by decide) (by
      intro x hx
      obtain rfl : x = (oneC, ((7 : Nat) : Int)) := by simpa using hx
      decide) (by
      intro x hx
      obtain rfl : x = (oneC, ((7 : Nat) : Int)) := by simpa using hx
      decide)).mono ?_
    rintro e w' ⟨l', hP, hSD, rfl, hb⟩
    obtain rfl := List.perm_singleton.1 hP
    exact ⟨by rw [sorted_one], hb⟩
  have HX := Lib.hid hX; have HA := Lib.hid hA
  generalize sOf (oneSorted oneC.dig 7) = S at *
  have hgelt := hE2.lt
  clear hX hA hos hol hge hw2 he
  refine hI.mono ?_
  clear hI
  rintro e w3 ⟨rfl, hb3⟩
  have hE3 := hE2.below hb3
  have k0 : w3.cell? ⟨ge, 0, none⟩ = some (.int .u64 1) := hE3.c0
  have k1 : w3.cell? ⟨ge, 1, none⟩ = some (.int .u64 85) := hE3.c1
  have k2 : w3.cell? ⟨ge, 2, none⟩ = some (.int .u64 0) := hE3.c2
  have k3 : w3.cell? ⟨ge, 3, none⟩ = some (.string ⟨#[97]⟩) := hE3.c3
  have hbw3 : Below w.heap.size w w3 := below_next hb2 hb3
  go_wp2_with fail
  refine (HA.out w3 hbw3).mono ?_
  rintro e w4 ⟨q, cq, rfl, hq, hb4⟩
  have hbw4 : Below w.heap.size w w4 := below_next hbw3 hb4
  have hb24 : Below w2.heap.size w2 w4 := below_next hb3 hb4
  have hqlt := World.block_lt_of_cell? w4 _ hq
  clear hb2 hb3 hb4 hblk hE2 hE3 k0 k1 k2 k3 hb1 hbw3
  go_wp2_with fail
  refine (HX.out w4 hb24).mono ?_
  rintro e w5 ⟨rfl, hb5⟩
  have hq5 := (hb5.cell (p := ⟨q, 0, none⟩) hqlt).trans hq
  have hbw5 : Below w.heap.size w w5 := below_next hbw4 hb5
  clear hq hb24 hbw4 hb5
  go_wp2_with fail
  go_ret
  exact ⟨rfl, hbw5⟩
end Go.Proofs.YtfjclhfhbclbhaaGreatDoor
