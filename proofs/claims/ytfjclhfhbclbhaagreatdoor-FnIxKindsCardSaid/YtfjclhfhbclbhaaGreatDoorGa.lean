/- A width's rows, searched by their digests. -/
import Derived.Test.YtfjclhfhbclbhaaGreatDoorMu
import Derived.Test.YtfjclhfhbclbhaaGreatDoorCmp
import Derived.Deep.QuietTactic
import Derived.BigQuiet
namespace Go.Proofs.YtfjclhfhbclbhaaGreatDoor
open Go.RowKit
set_option linter.unusedVariables false
set_option linter.unusedSimpArgs false
attribute [local go_sem] setCell_drewN alloc_drewN

theorem row_bytes {w : World} {gd : Nat} {data : List UInt8} {t : TypeId} {fz : Nat × Nat} (h : w.heap[gd]? = some (.cells (bcells data).toArray t fz)) (lo m : Nat) : BytesAt w (some ⟨gd, lo, none⟩) ((data.drop lo).take m) := by
  refine .inr ⟨gd, lo, rfl, fun j x hj => ?_⟩
  rw [List.getElem?_take] at hj
  split at hj
  · rw [List.getElem?_drop] at hj
    exact (blk_cell' h (lo + j)).trans (bcells_get hj)
  · cases hj

/-- The digest of the row numbered i, its offset's bytes. -/
def rowDig (width : Nat) (data : List UInt8) (i : Nat) : List UInt8 := (data.drop (i * width)).take (width - 8)
def rowOff (width : Nat) (data : List UInt8) (i : Nat) : List UInt8 := (data.drop ((i + 1) * width - 8)).take 8
theorem row_bounds {width n i : Nat} {data : List UInt8} (h8 : 8 ≤ width) (hn : data.length = n * width) (hi : i < n) : i * width + width ≤ data.length ∧ (i + 1) * width = i * width + width := by
  have h1 : (i + 1) * width = i * width + width := Nat.succ_mul i width
  have h2 : (i + 1) * width ≤ n * width := Nat.mul_le_mul_right _ hi
  omega
theorem rowDig_len {width n i : Nat} {data : List UInt8} (h8 : 8 ≤ width) (hn : data.length = n * width) (hi : i < n) : (rowDig width data i).length = width - 8 := by
  have := row_bounds h8 hn hi
  simp only [rowDig, List.length_take, List.length_drop]; omega

theorem u8_size (W : World) : (sizeOf 5).run Tryz.prog W = .ok 1 W := by simp [sizeOf, typeInfo]; kernel_rfl
/-- 'xs[lo:hi]' of a whole row of bytes. -/
theorem cut_lh (gd lo hi L : Nat) (h1 : lo ≤ hi) (h2 : hi ≤ L) (hne : lo < L) (x y : Int) (hx : x = lo) (hy : y = hi) (W : World) :
    (Instr.slice 27 (.slice (some ⟨gd, 0, none⟩) L L) (some (.int .i64 x)) (some (.int .i64 y)) none).run Tryz.prog W = .ok (.slice (some ⟨gd, lo, none⟩) (hi - lo) (L - lo)) W := by
  subst hx; subst hy
  have hel : Tryz.prog.elem 27 = 5 := by kernel_rfl
  rw [run_slice_lh W 27 (some ⟨gd, 0, none⟩) L L (by rw [hel]; exact Tryz.underlying27) .i64 .i64 (lo : Int) (hi : Int) (Int.natCast_nonneg _) (by omega) (by omega), hel, u8_size]
  have hne' : ¬ L = lo := by omega
  simp only [Result.andThen, sliced, Int.toNat_natCast, Nat.mul_one, Option.map_some]
  simp only [hne', if_false]
  simp only [show (⟨gd, 0, none⟩ : Addr).add lo = ⟨gd, lo, none⟩ from by rw [Addr.add_mid]; simp]
theorem cut_all (A : Option Addr) (n c : Nat) (W : World) :
    (Instr.slice 27 (.slice A n c) none none none).run Tryz.prog W = .ok (.slice A n c) W := by
  have hel : Tryz.prog.elem 27 = 5 := by kernel_rfl
  rw [run_slice_all W 27 A n c (by rw [hel]; exact Tryz.underlying27), hel, u8_size]
  simp only [Result.andThen, sliced]
  cases A with
  | none => simp
  | some a =>
    have : a.add 0 = a := by unfold Addr.add; split <;> simp_all
    simp [this]

/-- A width, at block g, its rows at block gd. -/
structure SecAt (w : World) (g gd width n : Nat) (data : List UInt8) : Prop where
  blk : SwAt w g width n (.slice (some ⟨gd, 0, none⟩) data.length data.length)
  row : w.heap[gd]? = some (.cells (bcells data).toArray 5 (0, 0))
  w8 : 8 ≤ width
  wle : width ≤ 33554432
  len : data.length = n * width
  big : data.length ≤ 1099511627776

theorem mul_wrap {a b p : Nat} (hp : p = a * b) (h : p ≤ 1099511627776) : IntKind.i64.wrap ((a : Int) * (b : Int)) = (p : Int) := by
  have : ((a : Int) * (b : Int)) = (p : Int) := by rw [hp]; simp
  rw [this, IntKind.wrap_i64]; omega

set_option maxRecDepth 100000 in
set_option maxHeartbeats 1600000 in
theorem swLess_ok (g gd width n i : Nat) (data d : List UInt8) (A : Option Addr) (c : Nat) (w : World) (h : SecAt w g gd width n data) (hi : i < n) (hd : BytesAt w A d) :
    Calls Tryz.prog 203 #[.pointer (some ⟨g, 0, none⟩), .int .i64 (i : Int), .slice A d.length c] w fun e w' => e = .returned (.bool (decide (Lib.compareBytes d (rowDig width data i) ≤ 0))) ∧ ∃ m, w' = w.drewN m := by
  obtain ⟨hb, hr, h8, hwl, hn, hbig⟩ := h
  obtain ⟨b1, b2⟩ := row_bounds h8 hn hi
  have hrd := rowDig_len h8 hn hi
  have c0 := (blk_cell' hb 0).trans (show _ = some (Value.int .u32 (width : Int)) from rfl)
  have c2 := (blk_cell' hb 2).trans (show _ = some (Value.slice (some ⟨gd, 0, none⟩) data.length data.length) from rfl)
  have hin : i * 8 ≤ i * width := Nat.mul_le_mul_left _ h8
  obtain ⟨p, hp⟩ : ∃ p, p = i * width := ⟨_, rfl⟩
  rw [← hp] at b1 b2 hin
  have hm1 := mul_wrap hp (by omega)
  have hm2 : IntKind.i64.wrap (((i : Int) + 1) * (width : Int)) = ((p + width : Nat) : Int) := by
    have := mul_wrap (a := i + 1) (b := width) (p := p + width) b2.symm (by omega)
    simpa using this
  have hs1 := fun W => cut_lh gd p (p + width - 8) data.length (by omega) (by omega) (by omega) (p : Int) (((p + width : Nat) : Int) - 8) rfl (by omega) W
  have hs2 := fun W => cut_all A d.length c W
  have hrow := row_bytes hr p (width - 8)
  have hC := fun n' => Compare_ok A (some ⟨gd, p, none⟩) d (rowDig width data i) d.length (p + width - 8 - p) c (data.length - p) (w.drewN n') hd (by unfold rowDig; rw [← hp]; exact hrow) rfl (by rw [hrd]; omega)
  have hib : (i : Int) < 1099511627776 := by omega
  have hpw : IntKind.i64.wrap (((p + width : Nat) : Int) - 8) = ((p + width : Nat) : Int) - 8 := by rw [IntKind.wrap_i64]; omega
  have hiw : IntKind.i64.wrap ((i : Int) + 1) = (i : Int) + 1 := by rw [IntKind.wrap_i64]; omega
  have hww : IntKind.i64.wrap (width : Int) = (width : Int) := by rw [IntKind.wrap_i64]; omega
  generalize p + width = pw at *
  have HB := Lib.hid b1; have HB2 := Lib.hid b2; have HP := Lib.hid hp
  clear b1 b2 hp hn hr hb hrow hrd
  generalize rowDig width data i = rd at *
  go_enter Tryz.func203, Tryz.ntmps203
  go_wp2_with fail
  go_quiet ((go_at_call 213; exact Calls.quiet_of_same ((hC _).mono fun e w1 h => ⟨h.1, h.2.symm⟩)))
  go_wp2_with fail
  go_ret
  exact ⟨rfl, _, rfl⟩
set_option maxRecDepth 100000 in
set_option maxHeartbeats 800000 in
theorem lessAt_ok (sb db g gd width n i : Nat) (data d : List UInt8) (A : Option Addr) (c : Nat) (w : World) (h : SecAt w g gd width n data) (hi : i < n) (hd : BytesAt w A d)
    (hs : w.cell? ⟨sb, 0, none⟩ = some (.pointer (some ⟨g, 0, none⟩))) (hdc : w.cell? ⟨db, 0, none⟩ = some (.slice A d.length c)) :
    Calls Tryz.prog 202 #[.int .i64 (i : Int), .pointer (some ⟨sb, 0, none⟩), .pointer (some ⟨db, 0, none⟩)] w fun e w' => e = .returned (.bool (decide (Lib.compareBytes d (rowDig width data i) ≤ 0))) ∧ ∃ m, w' = w.drewN m := by
  have hL := swLess_ok g gd width n i data d A c w h hi hd
  clear h hd
  generalize decide (Lib.compareBytes d (rowDig width data i) ≤ 0) = b at *
  go_enter Tryz.func202, Tryz.ntmps202
  go_wp2_with fail
  refine hL.mono ?_
  rintro e w1 ⟨rfl, m, rfl⟩
  go_wp2_with fail
  go_ret
  exact ⟨rfl, m, rfl⟩

/-- What a search in halves says: where p holds first, if p stays once it holds. -/
def Halves (p : Nat → Bool) (n r : Nat) : Prop := r ≤ n ∧ (r = 0 ∨ p (r - 1) = false) ∧ (r = n ∨ p r = true)

set_option maxRecDepth 100000 in
set_option maxHeartbeats 800000 in
theorem Search_ok (sb db n : Nat) (p : Nat → Bool) (w : World) (hn : n ≤ 1099511627776)
    (hp : ∀ i q, i < n → Calls Tryz.prog 202 #[.int .i64 (i : Int), .pointer (some ⟨sb, 0, none⟩), .pointer (some ⟨db, 0, none⟩)] (w.drewN q) fun e w' => e = .returned (.bool (p i)) ∧ ∃ m, w' = (w.drewN q).drewN m) :
    Calls Tryz.prog 201 #[.int .i64 (n : Int), .func (.func 202) #[] #[.pointer (some ⟨sb, 0, none⟩), .pointer (some ⟨db, 0, none⟩)]] w fun e w' => (∃ r : Nat, e = .returned (.int .i64 (r : Int)) ∧ Halves p n r) ∧ ∃ m, w' = w.drewN m := by
  go_enter Tryz.func201, Tryz.ntmps201
  go_wp2_with fail
  go_loopw [5, 6] (fun vi vj wr => ∃ i j q : Nat, vi = .int .i64 (i : Int) ∧ vj = .int .i64 (j : Int) ∧ i ≤ j ∧ j ≤ n ∧ (i = 0 ∨ p (i - 1) = false) ∧ (j = n ∨ p j = true) ∧ wr = w.drewN q) (fun vi vj _ => (intOf vj).toNat - (intOf vi).toNat)
  case atStart => exact ⟨0, n, 0, rfl, rfl, Nat.zero_le _, Nat.le_refl _, .inl rfl, .inl rfl, rfl⟩
  case round =>
    obtain ⟨i, j, q, rfl, rfl, hij, hjn, h1, h2, rfl⟩ := hrel
    by_cases hlt : i < j
    · obtain ⟨k, hk⟩ : ∃ k, k = (i + j) / 2 := ⟨_, rfl⟩
      have hki : i ≤ k ∧ k < j := by omega
      have hsum : IntKind.i64.wrap ((i : Int) + (j : Int)) = (i : Int) + (j : Int) := by rw [IntKind.wrap_i64]; omega
      have hsh : ((i : Int) + (j : Int)) / 2 = (k : Int) := by omega
      have hP := hp k q (by omega)
      have H1 := Lib.hid h1; have H2 := Lib.hid h2; have HK := Lib.hid hk
      clear h1 h2 hk
      cases hb : p k with
      | true =>
        rw [hb] at hP
        have HBB := Lib.hid hb; clear hb
        go_wp2_with fail
        refine hP.mono ?_
        rintro e w1 ⟨rfl, m, rfl⟩
        go_wp2_with fail
        go_roundw
        case rel => exact ⟨i, k, q + m, rfl, rfl, by omega, by omega, H1.out, .inr HBB.out, rfl⟩
        case measure => simp [intOf]; omega
      | false =>
        rw [hb] at hP
        have HBB := Lib.hid hb; clear hb
        go_wp2_with fail
        refine hP.mono ?_
        rintro e w1 ⟨rfl, m, rfl⟩
        go_wp2_with fail
        go_roundw
        case rel => exact ⟨k + 1, j, q + m, by go_num, rfl, by omega, by omega, .inr (by simpa using HBB.out), H2.out, rfl⟩
        case measure => simp [intOf]; omega
    · obtain rfl : i = j := by omega
      have HH : Hid (Halves p n i) := Lib.hid ⟨hjn, h1, h2⟩
      clear h1 h2
      go_wp2_with fail
      go_ret
      exact ⟨⟨i, rfl, HH.out⟩, q, rfl⟩
end Go.Proofs.YtfjclhfhbclbhaaGreatDoor
