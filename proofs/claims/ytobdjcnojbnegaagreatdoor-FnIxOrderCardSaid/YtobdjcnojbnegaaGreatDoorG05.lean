import Derived.Test.YtobdjcnojbnegaaGreatDoorG04
import Derived.Deep.QuietTactic
import Derived.BigQuiet
import Derived.Test.YtobdjcnojbnegaaGreatDoorG03
import Derived.Lib.OthersKept
import Derived.Lib.Buffer
import Derived.RegionCalls
import Derived.Deep.RegionWith
/- A width's rows, searched by their digests. -/
namespace Go.Proofs.YtobdjcnojbnegaaGreatDoor
open Go.RowKit
set_option linter.unusedVariables false
set_option linter.unusedSimpArgs false
attribute [local go_sem] setCell_drewN alloc_drewN

theorem row_bytes {w : World} {gd : Nat} {data : List UInt8} {t : TypeId} {fz : Nat × Nat} (h : w.heap[gd]? = some (.cells (bcells data).toArray t fz)) (lo m : Nat) : BytesAt w (some ⟨gd, lo, none⟩) ((data.drop lo).take m) := by
  refine .inr ⟨gd, lo, rfl, fun j x hj => ?_⟩
  rw [List.getElem?_take] at hj
  split at hj
  · rw [List.getElem?_drop] at hj
    exact (blk_cell' h (lo + j)).trans (bcells_get hj)
  · cases hj

/-- The digest of the row numbered i, its offset's bytes. -/
def rowDig (width : Nat) (data : List UInt8) (i : Nat) : List UInt8 := (data.drop (i * width)).take (width - 8)
def rowOff (width : Nat) (data : List UInt8) (i : Nat) : List UInt8 := (data.drop ((i + 1) * width - 8)).take 8
theorem row_bounds {width n i : Nat} {data : List UInt8} (h8 : 8 ≤ width) (hn : data.length = n * width) (hi : i < n) : i * width + width ≤ data.length ∧ (i + 1) * width = i * width + width := by
  have h1 : (i + 1) * width = i * width + width := Nat.succ_mul i width
  have h2 : (i + 1) * width ≤ n * width := Nat.mul_le_mul_right _ hi
  omega
theorem rowDig_len {width n i : Nat} {data : List UInt8} (h8 : 8 ≤ width) (hn : data.length = n * width) (hi : i < n) : (rowDig width data i).length = width - 8 := by
  have := row_bounds h8 hn hi
  simp only [rowDig, List.length_take, List.length_drop]; omega

theorem u8_size (W : World) : (sizeOf 5).run Tryz.prog W = .ok 1 W := by simp [sizeOf, typeInfo]; kernel_rfl
/-- 'xs[lo:hi]' of a whole row of bytes. -/
theorem cut_lh (gd lo hi L : Nat) (h1 : lo ≤ hi) (h2 : hi ≤ L) (hne : lo < L) (x y : Int) (hx : x = lo) (hy : y = hi) (W : World) :
    (Instr.slice 65 (.slice (some ⟨gd, 0, none⟩) L L) (some (.int .i64 x)) (some (.int .i64 y)) none).run Tryz.prog W = .ok (.slice (some ⟨gd, lo, none⟩) (hi - lo) (L - lo)) W := by
  subst hx; subst hy
  have hel : Tryz.prog.elem 65 = 5 := by kernel_rfl
  rw [run_slice_lh W 65 (some ⟨gd, 0, none⟩) L L (by rw [hel]; exact Tryz.underlying65) .i64 .i64 (lo : Int) (hi : Int) (Int.natCast_nonneg _) (by omega) (by omega), hel, u8_size]
  have hne' : ¬ L = lo := by omega
  simp only [Result.andThen, sliced, Int.toNat_natCast, Nat.mul_one, Option.map_some]
  simp only [hne', if_false]
  simp only [show (⟨gd, 0, none⟩ : Addr).add lo = ⟨gd, lo, none⟩ from by rw [Addr.add_mid]; simp]
theorem cut_all (A : Option Addr) (n c : Nat) (W : World) :
    (Instr.slice 65 (.slice A n c) none none none).run Tryz.prog W = .ok (.slice A n c) W := by
  have hel : Tryz.prog.elem 65 = 5 := by kernel_rfl
  rw [run_slice_all W 65 A n c (by rw [hel]; exact Tryz.underlying65), hel, u8_size]
  simp only [Result.andThen, sliced]
  cases A with
  | none => simp
  | some a =>
    have : a.add 0 = a := by unfold Addr.add; split <;> simp_all
    simp [this]

/-- A width, at block g, its rows at block gd. -/
structure SecAt (w : World) (g gd width n : Nat) (data : List UInt8) : Prop where
  blk : SwAt w g width n (.slice (some ⟨gd, 0, none⟩) data.length data.length)
  row : w.heap[gd]? = some (.cells (bcells data).toArray 5 (0, 0))
  w8 : 8 ≤ width
  wle : width ≤ 33554432
  len : data.length = n * width
  big : data.length ≤ 1099511627776

theorem mul_wrap {a b p : Nat} (hp : p = a * b) (h : p ≤ 1099511627776) : IntKind.i64.wrap ((a : Int) * (b : Int)) = (p : Int) := by
  have : ((a : Int) * (b : Int)) = (p : Int) := by rw [hp]; simp
  rw [this, IntKind.wrap_i64]; omega

set_option maxRecDepth 100000 in
set_option maxHeartbeats 1600000 in
theorem swLess_ok (g gd width n i : Nat) (data d : List UInt8) (A : Option Addr) (c : Nat) (w : World) (h : SecAt w g gd width n data) (hi : i < n) (hd : BytesAt w A d) :
    Calls Tryz.prog 221 #[.pointer (some ⟨g, 0, none⟩), .int .i64 (i : Int), .slice A d.length c] w fun e w' => e = .returned (.bool (decide (Lib.compareBytes d (rowDig width data i) ≤ 0))) ∧ ∃ m, w' = w.drewN m := by
  obtain ⟨hb, hr, h8, hwl, hn, hbig⟩ := h
  obtain ⟨b1, b2⟩ := row_bounds h8 hn hi
  have hrd := rowDig_len h8 hn hi
  have c0 := (blk_cell' hb 0).trans (show _ = some (Value.int .u32 (width : Int)) from rfl)
  have c2 := (blk_cell' hb 2).trans (show _ = some (Value.slice (some ⟨gd, 0, none⟩) data.length data.length) from rfl)
  have hin : i * 8 ≤ i * width := Nat.mul_le_mul_left _ h8
  obtain ⟨p, hp⟩ : ∃ p, p = i * width := ⟨_, rfl⟩
  rw [← hp] at b1 b2 hin
  have hm1 := mul_wrap hp (by omega)
  have hm2 : IntKind.i64.wrap (((i : Int) + 1) * (width : Int)) = ((p + width : Nat) : Int) := by
    have := mul_wrap (a := i + 1) (b := width) (p := p + width) b2.symm (by omega)
    simpa using this
  have hs1 := fun W => cut_lh gd p (p + width - 8) data.length (by omega) (by omega) (by omega) (p : Int) (((p + width : Nat) : Int) - 8) rfl (by omega) W
  have hs2 := fun W => cut_all A d.length c W
  have hrow := row_bytes hr p (width - 8)
  have hC := fun n' => Compare_ok A (some ⟨gd, p, none⟩) d (rowDig width data i) d.length (p + width - 8 - p) c (data.length - p) (w.drewN n') hd (by unfold rowDig; rw [← hp]; exact hrow) rfl (by rw [hrd]; omega)
  have hib : (i : Int) < 1099511627776 := by omega
  have hpw : IntKind.i64.wrap (((p + width : Nat) : Int) - 8) = ((p + width : Nat) : Int) - 8 := by rw [IntKind.wrap_i64]; omega
  have hiw : IntKind.i64.wrap ((i : Int) + 1) = (i : Int) + 1 := by rw [IntKind.wrap_i64]; omega
  have hww : IntKind.i64.wrap (width : Int) = (width : Int) := by rw [IntKind.wrap_i64]; omega
  generalize p + width = pw at *
  have HB := Lib.hid b1; have HB2 := Lib.hid b2; have HP := Lib.hid hp
  clear b1 b2 hp hn hr hb hrow hrd
  generalize rowDig width data i = rd at *
  go_enter Tryz.func221, Tryz.ntmps221
  go_wp2_with fail
  go_quiet ((go_at_call 231; exact Calls.quiet_of_same ((hC _).mono fun e w1 h => ⟨h.1, h.2.symm⟩)))
  go_wp2_with fail
  go_ret
  exact ⟨rfl, _, rfl⟩
set_option maxRecDepth 100000 in
set_option maxHeartbeats 800000 in
theorem lessAt_ok (sb db g gd width n i : Nat) (data d : List UInt8) (A : Option Addr) (c : Nat) (w : World) (h : SecAt w g gd width n data) (hi : i < n) (hd : BytesAt w A d)
    (hs : w.cell? ⟨sb, 0, none⟩ = some (.pointer (some ⟨g, 0, none⟩))) (hdc : w.cell? ⟨db, 0, none⟩ = some (.slice A d.length c)) :
    Calls Tryz.prog 220 #[.int .i64 (i : Int), .pointer (some ⟨sb, 0, none⟩), .pointer (some ⟨db, 0, none⟩)] w fun e w' => e = .returned (.bool (decide (Lib.compareBytes d (rowDig width data i) ≤ 0))) ∧ ∃ m, w' = w.drewN m := by
  have hL := swLess_ok g gd width n i data d A c w h hi hd
  clear h hd
  generalize decide (Lib.compareBytes d (rowDig width data i) ≤ 0) = b at *
  go_enter Tryz.func220, Tryz.ntmps220
  go_wp2_with fail
  refine hL.mono ?_
  rintro e w1 ⟨rfl, m, rfl⟩
  go_wp2_with fail
  go_ret
  exact ⟨rfl, m, rfl⟩

/-- What a search in halves says: where p holds first, if p stays once it holds. -/
def Halves (p : Nat → Bool) (n r : Nat) : Prop := r ≤ n ∧ (r = 0 ∨ p (r - 1) = false) ∧ (r = n ∨ p r = true)

set_option maxRecDepth 100000 in
set_option maxHeartbeats 800000 in
theorem Search_ok (sb db n : Nat) (p : Nat → Bool) (w : World) (hn : n ≤ 1099511627776)
    (hp : ∀ i q, i < n → Calls Tryz.prog 220 #[.int .i64 (i : Int), .pointer (some ⟨sb, 0, none⟩), .pointer (some ⟨db, 0, none⟩)] (w.drewN q) fun e w' => e = .returned (.bool (p i)) ∧ ∃ m, w' = (w.drewN q).drewN m) :
    Calls Tryz.prog 219 #[.int .i64 (n : Int), .func (.func 220) #[] #[.pointer (some ⟨sb, 0, none⟩), .pointer (some ⟨db, 0, none⟩)]] w fun e w' => (∃ r : Nat, e = .returned (.int .i64 (r : Int)) ∧ Halves p n r) ∧ ∃ m, w' = w.drewN m := by
  go_enter Tryz.func219, Tryz.ntmps219
  go_wp2_with fail
  go_loopw [5, 6] (fun vi vj wr => ∃ i j q : Nat, vi = .int .i64 (i : Int) ∧ vj = .int .i64 (j : Int) ∧ i ≤ j ∧ j ≤ n ∧ (i = 0 ∨ p (i - 1) = false) ∧ (j = n ∨ p j = true) ∧ wr = w.drewN q) (fun vi vj _ => (intOf vj).toNat - (intOf vi).toNat)
  case atStart => exact ⟨0, n, 0, rfl, rfl, Nat.zero_le _, Nat.le_refl _, .inl rfl, .inl rfl, rfl⟩
  case round =>
    obtain ⟨i, j, q, rfl, rfl, hij, hjn, h1, h2, rfl⟩ := hrel
    by_cases hlt : i < j
    · obtain ⟨k, hk⟩ : ∃ k, k = (i + j) / 2 := ⟨_, rfl⟩
      have hki : i ≤ k ∧ k < j := by omega
      have hsum : IntKind.i64.wrap ((i : Int) + (j : Int)) = (i : Int) + (j : Int) := by rw [IntKind.wrap_i64]; omega
      have hsh : ((i : Int) + (j : Int)) / 2 = (k : Int) := by omega
      have hP := hp k q (by omega)
      have H1 := Lib.hid h1; have H2 := Lib.hid h2; have HK := Lib.hid hk
      clear h1 h2 hk
      cases hb : p k with
      | true =>
        rw [hb] at hP
        have HBB := Lib.hid hb; clear hb
        go_wp2_with fail
        refine hP.mono ?_
        rintro e w1 ⟨rfl, m, rfl⟩
        go_wp2_with fail
        go_roundw
        case rel => exact ⟨i, k, q + m, rfl, rfl, by omega, by omega, H1.out, .inr HBB.out, rfl⟩
        case measure => simp [intOf]; omega
      | false =>
        rw [hb] at hP
        have HBB := Lib.hid hb; clear hb
        go_wp2_with fail
        refine hP.mono ?_
        rintro e w1 ⟨rfl, m, rfl⟩
        go_wp2_with fail
        go_roundw
        case rel => exact ⟨k + 1, j, q + m, by go_num, rfl, by omega, by omega, .inr (by simpa using HBB.out), H2.out, rfl⟩
        case measure => simp [intOf]; omega
    · obtain rfl : i = j := by omega
      have HH : Hid (Halves p n i) := Lib.hid ⟨hjn, h1, h2⟩
      clear h1 h2
      go_wp2_with fail
      go_ret
      exact ⟨⟨i, rfl, HH.out⟩, q, rfl⟩
end Go.Proofs.YtobdjcnojbnegaaGreatDoor

/- A bytes.Buffer that is written. -/
namespace Go.Proofs.YtobdjcnojbnegaaGreatDoor
open Go.RowKit
set_option linter.unusedVariables false
set_option linter.unusedSimpArgs false
attribute [local go_sem] setCell_drewN alloc_drewN

/-- A buffer at block b, its row from block B on, that holds bs. -/
def BufAt (w : World) (B b : Nat) (bs : List UInt8) : Prop := Lib.IsBuffer 75 5 B b (bcells bs) w
/-- What a write keeps. -/
structure WrK (B b : Nat) (w w' : World) : Prop where
  bel : Below B w w'
  oth : Lib.OthersKept 5 (some b) w w'
theorem WrK.refl (B b : Nat) (w : World) : WrK B b w w := ⟨Below.refl _ _, Lib.OthersKept.refl _ _ _⟩
theorem WrK.trans {B b : Nat} {x y z : World} (h : WrK B b x y) (k : WrK B b y z) : WrK B b x z := ⟨h.bel.trans k.bel, h.oth.trans k.oth⟩
theorem WrK.of_below {B b : Nat} {w w' : World} (h : Below w.heap.size w w') (hl : B ≤ w.heap.size) : WrK B b w w' :=
  ⟨h.mono hl, fun k o hk _ _ => (h.block k (Array.getElem?_eq_some_iff.1 hk).1).trans hk⟩
theorem WrK.drewN {B b : Nat} {x y : World} (h : WrK B b x y) (n : Nat) : WrK B b x (y.drewN n) := ⟨⟨h.bel.os, h.bel.tape, h.bel.output, h.bel.size, h.bel.block⟩, h.oth⟩
theorem WrK.cells {B b : Nat} {w w' : World} (h : WrK B b w w') {g : Nat} {o : Obj} (hg : w.heap[g]? = some o) (hn : g ≠ b) (ht : ∀ c fz, o ≠ .cells c 5 fz) : w'.heap[g]? = some o :=
  h.oth g _ hg (fun e => hn (by simpa using e)) ht
theorem BufAt.lt {w : World} {B b : Nat} {bs : List UInt8} (h : BufAt w B b bs) : b < w.heap.size := Lib.IsBuffer.lt h
theorem BufAt.below {w w' : World} {B b : Nat} {bs : List UInt8} (h : BufAt w B b bs) (hb : Below w.heap.size w w') : BufAt w' B b bs := by
  have hl := h.lt
  obtain ⟨h1, v, lr, h2, h3, h4⟩ := h
  refine ⟨h1, v, lr, (hb.block _ hl).trans h2, ⟨h3.1, ?_⟩, h4⟩
  rcases h3.2 with h | ⟨g, cap, cur, e1, e2, e3, e4⟩
  · exact .inl h
  · exact .inr ⟨g, cap, cur, e1, e2, (hb.block _ (Array.getElem?_eq_some_iff.1 e3).1).trans e3, e4⟩
theorem BufAt.same {w w' : World} {B b : Nat} {bs : List UInt8} (h : BufAt w B b bs) (hw : w'.heap = w.heap) : BufAt w' B b bs := by
  obtain ⟨h1, v, lr, h2, h3, h4⟩ := h
  refine ⟨h1, v, lr, by rw [hw]; exact h2, ⟨h3.1, ?_⟩, h4⟩
  rcases h3.2 with h | ⟨g, cap, cur, e1, e2, e3, e4⟩
  · exact .inl h
  · exact .inr ⟨g, cap, cur, e1, e2, by rw [hw]; exact e3, e4⟩
theorem BufAt.kp {S : Nat → Prop} {w w' : World} {B b : Nat} {bs : List UInt8} (h : BufAt w B b bs) (hk : Kp S w w') (h1 : ¬ S b) (h2 : ∀ g cs fz, S g → w.heap[g]? ≠ some (.cells cs 5 fz)) : BufAt w' B b bs := by
  have hl := h.lt
  obtain ⟨h3, v, lr, h4, h5, h6⟩ := h
  refine ⟨h3, v, lr, (hk.block _ hl h1).trans h4, ⟨h5.1, ?_⟩, h6⟩
  rcases h5.2 with h | ⟨g, cap, cur, e1, e2, e3, e4⟩
  · exact .inl h
  · exact .inr ⟨g, cap, cur, e1, e2, (hk.block _ (Array.getElem?_eq_some_iff.1 e3).1 (fun hs => h2 g _ _ hs e3)).trans e3, e4⟩
theorem bcells_one (l : List UInt8) : ∀ v ∈ bcells l, v.oneCell' = true := by
  intro v hv
  unfold bcells at hv
  obtain ⟨x, _, rfl⟩ := List.mem_map.1 hv
  rfl
theorem bcells_append (a b : List UInt8) : bcells a ++ bcells b = bcells (a ++ b) := by simp [bcells]

theorem bufWrite_ok (B b : Nat) (bs cs : List UInt8) (A : Addr) (n c : Nat) (w : World) (h : BufAt w B b bs) (hB : B ≤ w.heap.size) (hA : BytesAt w (some A) cs) (hn : cs.length = n) (hab : A.block ≠ b) (hlim : bs.length + n ≤ 1099511627776) :
    Calls Tryz.prog 179 #[.pointer (some ⟨b, 0, none⟩), .slice (some A) n c] w fun e w' => e = .returned (.tuple #[.int .i64 n, .nilIface]) ∧ BufAt w' B b (bs ++ cs) ∧ WrK B b w w' := by
  have hsrc : ∀ j v, (bcells cs)[j]? = some v → w.cell? (A.add j) = some v := by
    intro j v hj
    rcases hA with hA | ⟨g, o, e, hc⟩
    · subst hA; simp [bcells] at hj
    · cases e
      rw [Addr.add_mid]
      simp only [bcells, List.getElem?_map] at hj
      cases hq : cs[j]? with
      | none => rw [hq] at hj; cases hj
      | some x => rw [hq] at hj; cases hj; exact hc j x hq
  refine (Tryz.Buffer_Write_any B b (bcells bs) (bcells cs) A n c w h hB (bcells_one _) (by rw [bcells_len]; exact hn) hab hsrc (bcells_one _) (by rw [bcells_len]; omega)).mono ?_
  rintro e w' ⟨rfl, h1, h2, h3⟩
  rw [bcells_append] at h1
  exact ⟨rfl, h1, h2, h3⟩

theorem method_bufWrite (v : Value) (w : World) : (method 471 78 v "Write").run Tryz.prog w = .ok (179, v) w := by kernel_rfl
theorem ahead_bufWrite (p : Addr) (w : World) : (nilAhead 471 78 (.pointer (some p)) "Write").run Tryz.prog w = .ok (some false) w := by kernel_rfl

set_option maxRecDepth 100000 in
set_option maxHeartbeats 1600000 in
theorem zzWrite32_ok (B b : Nat) (bs : List UInt8) (v : Nat) (hv : v < 4294967296) (w : World) (h : BufAt w B b bs) (hB : B ≤ w.heap.size) (hlim : bs.length + 4 ≤ 1099511627776) :
    Calls Tryz.prog 199 #[.iface 78 (.pointer (some ⟨b, 0, none⟩)), .int .u32 (v : Int)] w fun e w' => e = .returned .nilIface ∧ BufAt w' B b (bs ++ Lib.leBytes 4 v) ∧ WrK B b w w' := by
  have hme := method_bufWrite
  have hmk : ∀ W : World, (Instr.makeSlice 65 (.int .i64 4) (.int .i64 4)).run Tryz.prog W = .ok (.slice (some ⟨W.heap.size, 0, none⟩) 4 4) (W.alloc (.cells (zeros8 4).toArray 5)) := fun W => make8 4 4 rfl (by omega) W
  have hbl := h.lt
  have hg : (w.alloc (.cells (zeros8 4).toArray 5)).heap[w.heap.size]? = some (.cells (zeros8 4).toArray 5 (0, 0)) := heap_alloc_last _ _
  have z0 := (blk_cell' hg 0).trans (show _ = some (Value.int .u8 0) from rfl)
  have z1 := (blk_cell' hg (0 + 1)).trans (show _ = some (Value.int .u8 0) from rfl)
  have z2 := (blk_cell' hg (0 + 2)).trans (show _ = some (Value.int .u8 0) from rfl)
  have z3 := (blk_cell' hg (0 + 3)).trans (show _ = some (Value.int .u8 0) from rfl)
  have f0 := blk_free' hg 0
  have f1 := blk_free' hg (0 + 1)
  have f2 := blk_free' hg (0 + 2)
  have f3 := blk_free' hg (0 + 3)
  have hP := Tryz.binary_LE_PutUint32 w.heap.size 0 4 4 v hv _ _ _ _ (w.alloc (.cells (zeros8 4).toArray 5)) (by omega) z0 z1 z2 z3 f0 f1 f2 f3
  have hb0 : Below w.heap.size w (((w.alloc (.cells (zeros8 4).toArray 5)).alloc (.cells #[] 307)).setCells w.heap.size 0 (Lib.byteCells (Lib.leBytes 4 v))) :=
    (by (repeat (first | (with_reducible exact Below.refl _ _) | (with_reducible exact below_boxed _ _) | (with_reducible refine below_box ?_ _) | (with_reducible refine below_drew1 ?_) | (with_reducible refine below_drewn ?_ _) | (with_reducible refine below_bytes ?_ _ _) | (with_reducible refine below_next ?_ (by assumption)) | (with_reducible refine below_set ?_ (by first | (simp; done) | (simp; omega) | omega) _))) : Below w.heap.size w ((w.alloc (.cells (zeros8 4).toArray 5)).alloc (.cells #[] 307))).trans (below_setCells _ _ (Nat.le_refl _) _ _ _)
  have hrow := heap_setCells w.heap.size 5 (Lib.byteCells (Lib.leBytes 4 v)) 0 (zeros8 4) ((w.alloc (.cells (zeros8 4).toArray 5)).alloc (.cells #[] 307)) ((heap_alloc_old _ _ (by simp)).trans hg) (by simp [zeros8_length, Lib.byteCells, le4_len])
  clear z0 z1 z2 z3 f0 f1 f2 f3 hg
  obtain ⟨W, hW⟩ : ∃ W, W = (((w.alloc (.cells (zeros8 4).toArray 5)).alloc (.cells #[] 307)).setCells w.heap.size 0 (Lib.byteCells (Lib.leBytes 4 v))) := ⟨_, rfl⟩
  rw [← hW] at hb0 hrow hP
  have HW := Lib.hid hW; clear hW
  have hrow' : W.heap[w.heap.size]? = some (.cells (bcells (Lib.leBytes 4 v)).toArray 5 (0, 0)) := hrow
  have hWr := bufWrite_ok B b bs (Lib.leBytes 4 v) ⟨w.heap.size, 0, none⟩ 4 4 W (h.below hb0) (Nat.le_trans hB hb0.size) (by have := row_bytes hrow' 0 4; rwa [List.drop_zero, List.take_of_length_le (Nat.le_of_eq (le4_len v))] at this) (le4_len v) (by show w.heap.size ≠ b; omega) hlim
  clear hrow hrow'
  go_enter Tryz.func199, Tryz.ntmps199
  go_wp2_with fail
  refine hP.mono ?_
  clear hP
  rintro e w1 ⟨rfl, rfl⟩
  go_wp2_with fail
  refine hWr.mono ?_
  clear hWr
  rintro e w1 ⟨rfl, hB1, hK1⟩
  go_wp2_with fail
  go_ret
  exact ⟨rfl, hB1, (WrK.of_below hb0 hB).trans hK1⟩
set_option maxRecDepth 100000 in
set_option maxHeartbeats 1600000 in
theorem zzWrite64_ok (B b : Nat) (bs : List UInt8) (v : Nat) (hv : v < 18446744073709551616) (w : World) (h : BufAt w B b bs) (hB : B ≤ w.heap.size) (hlim : bs.length + 8 ≤ 1099511627776) :
    Calls Tryz.prog 212 #[.iface 78 (.pointer (some ⟨b, 0, none⟩)), .int .u64 (v : Int)] w fun e w' => e = .returned .nilIface ∧ BufAt w' B b (bs ++ Lib.leBytes 8 v) ∧ WrK B b w w' := by
  have hme := method_bufWrite
  have hmk : ∀ W : World, (Instr.makeSlice 65 (.int .i64 8) (.int .i64 8)).run Tryz.prog W = .ok (.slice (some ⟨W.heap.size, 0, none⟩) 8 8) (W.alloc (.cells (zeros8 8).toArray 5)) := fun W => make8 8 8 rfl (by omega) W
  have hbl := h.lt
  have hg : (w.alloc (.cells (zeros8 8).toArray 5)).heap[w.heap.size]? = some (.cells (zeros8 8).toArray 5 (0, 0)) := heap_alloc_last _ _
  have z0 := (blk_cell' hg 0).trans (show _ = some (Value.int .u8 0) from rfl)
  have z1 := (blk_cell' hg (0 + 1)).trans (show _ = some (Value.int .u8 0) from rfl)
  have z2 := (blk_cell' hg (0 + 2)).trans (show _ = some (Value.int .u8 0) from rfl)
  have z3 := (blk_cell' hg (0 + 3)).trans (show _ = some (Value.int .u8 0) from rfl)
  have z4 := (blk_cell' hg (0 + 4)).trans (show _ = some (Value.int .u8 0) from rfl)
  have z5 := (blk_cell' hg (0 + 5)).trans (show _ = some (Value.int .u8 0) from rfl)
  have z6 := (blk_cell' hg (0 + 6)).trans (show _ = some (Value.int .u8 0) from rfl)
  have z7 := (blk_cell' hg (0 + 7)).trans (show _ = some (Value.int .u8 0) from rfl)
  have f0 := blk_free' hg 0
  have f1 := blk_free' hg (0 + 1)
  have f2 := blk_free' hg (0 + 2)
  have f3 := blk_free' hg (0 + 3)
  have f4 := blk_free' hg (0 + 4)
  have f5 := blk_free' hg (0 + 5)
  have f6 := blk_free' hg (0 + 6)
  have f7 := blk_free' hg (0 + 7)
  have hP := Tryz.binary_LE_PutUint64 w.heap.size 0 8 8 v hv _ _ _ _ _ _ _ _ (w.alloc (.cells (zeros8 8).toArray 5)) (by omega) z0 z1 z2 z3 z4 z5 z6 z7 f0 f1 f2 f3 f4 f5 f6 f7
  have hb0 : Below w.heap.size w (((w.alloc (.cells (zeros8 8).toArray 5)).alloc (.cells #[] 307)).setCells w.heap.size 0 (Lib.byteCells (Lib.leBytes 8 v))) :=
    (by (repeat (first | (with_reducible exact Below.refl _ _) | (with_reducible exact below_boxed _ _) | (with_reducible refine below_box ?_ _) | (with_reducible refine below_drew1 ?_) | (with_reducible refine below_drewn ?_ _) | (with_reducible refine below_bytes ?_ _ _) | (with_reducible refine below_next ?_ (by assumption)) | (with_reducible refine below_set ?_ (by first | (simp; done) | (simp; omega) | omega) _))) : Below w.heap.size w ((w.alloc (.cells (zeros8 8).toArray 5)).alloc (.cells #[] 307))).trans (below_setCells _ _ (Nat.le_refl _) _ _ _)
  have hrow := heap_setCells w.heap.size 5 (Lib.byteCells (Lib.leBytes 8 v)) 0 (zeros8 8) ((w.alloc (.cells (zeros8 8).toArray 5)).alloc (.cells #[] 307)) ((heap_alloc_old _ _ (by simp)).trans hg) (by simp [zeros8_length, Lib.byteCells, le8_len])
  clear z0 z1 z2 z3 z4 z5 z6 z7 f0 f1 f2 f3 f4 f5 f6 f7 hg
  obtain ⟨W, hW⟩ : ∃ W, W = (((w.alloc (.cells (zeros8 8).toArray 5)).alloc (.cells #[] 307)).setCells w.heap.size 0 (Lib.byteCells (Lib.leBytes 8 v))) := ⟨_, rfl⟩
  rw [← hW] at hb0 hrow hP
  have HW := Lib.hid hW; clear hW
  have hrow' : W.heap[w.heap.size]? = some (.cells (bcells (Lib.leBytes 8 v)).toArray 5 (0, 0)) := hrow
  have hWr := bufWrite_ok B b bs (Lib.leBytes 8 v) ⟨w.heap.size, 0, none⟩ 8 8 W (h.below hb0) (Nat.le_trans hB hb0.size) (by have := row_bytes hrow' 0 8; rwa [List.drop_zero, List.take_of_length_le (Nat.le_of_eq (le8_len v))] at this) (le8_len v) (by show w.heap.size ≠ b; omega) hlim
  clear hrow hrow'
  go_enter Tryz.func212, Tryz.ntmps212
  go_wp2_with fail
  refine hP.mono ?_
  clear hP
  rintro e w1 ⟨rfl, rfl⟩
  go_wp2_with fail
  refine hWr.mono ?_
  clear hWr
  rintro e w1 ⟨rfl, hB1, hK1⟩
  go_wp2_with fail
  go_ret
  exact ⟨rfl, hB1, (WrK.of_below hb0 hB).trans hK1⟩
end Go.Proofs.YtobdjcnojbnegaaGreatDoor

/- An index sorted by digests, written. -/
namespace Go.Proofs.YtobdjcnojbnegaaGreatDoor
open Go.RowKit
set_option linter.unusedVariables false
set_option linter.unusedSimpArgs false
attribute [local go_sem] setCell_drewN alloc_drewN

set_option maxRecDepth 100000 in
set_option maxHeartbeats 1600000 in
theorem SwMarshal_ok (B b g gd width n : Nat) (bs data : List UInt8) (w : World) (h : BufAt w B b bs) (hB : B ≤ w.heap.size) (hs : SwAt w g width n (.slice (some ⟨gd, 0, none⟩) data.length data.length)) (hr : w.heap[gd]? = some (.cells (bcells data).toArray 5 (0, 0)))
    (hg : g ≠ b) (hgd : gd < B) (hw : width < 4294967296) (hlim : bs.length + 12 + data.length ≤ 1099511627776) :
    Calls Tryz.prog 228 #[.pointer (some ⟨g, 0, none⟩), .iface 78 (.pointer (some ⟨b, 0, none⟩))] w fun e w' => e = .returned (.tuple #[.int .u64 (12 + (data.length : Int)), .nilIface]) ∧ BufAt w' B b (bs ++ secBytes (width, data)) ∧ WrK B b w w' := by
  have hme := method_bufWrite
  have hna := ahead_bufWrite
  have hmf : ∀ (fn : Fn) (first cap : Array Value) (w : World), (Instr.makeFunc fn first cap).run Tryz.prog w = .ok (.func fn first cap) w := fun _ _ _ _ => rfl
  have hBb : B ≤ b := h.1
  have c0 := (blk_cell' hs 0).trans (show _ = some (Value.int .u32 (width : Int)) from rfl)
  have hdw : IntKind.u64.wrap (data.length : Int) = (data.length : Int) := by rw [IntKind.wrap_u64]; omega
  go_enter Tryz.func228, Tryz.ntmps228
  go_wp2_with fail
  refine (zzWrite32_ok B b bs width hw w h hB (by omega)).mono ?_
  rintro e w1 ⟨rfl, hB1, hK1⟩
  have hs1 : SwAt w1 g width n (.slice (some ⟨gd, 0, none⟩) data.length data.length) := hK1.cells hs hg (fun c fz e => by cases e)
  have hr1 := (hK1.bel.block gd hgd).trans hr
  have hz1 := hK1.bel.size
  have c2 := (blk_cell' hs1 2).trans (show _ = some (Value.slice (some ⟨gd, 0, none⟩) data.length data.length) from rfl)
  clear c0 h hs hr
  go_wp2_with fail
  refine (zzWrite64_ok B b (bs ++ Lib.leBytes 4 width) data.length (by omega) w1 hB1 (by omega) (by rw [List.length_append, le4_len]; omega)).mono ?_
  rintro e w2 ⟨rfl, hB2, hK2⟩
  have hs2 : SwAt w2 g width n (.slice (some ⟨gd, 0, none⟩) data.length data.length) := hK2.cells hs1 hg (fun c fz e => by cases e)
  have hr2 := (hK2.bel.block gd hgd).trans hr1
  have hz2 := hK2.bel.size
  have k2 := (blk_cell' hs2 2).trans (show _ = some (Value.slice (some ⟨gd, 0, none⟩) data.length data.length) from rfl)
  have hW := fun W (hW1 : BufAt W B b (bs ++ Lib.leBytes 4 width ++ Lib.leBytes 8 data.length)) (hW2 : B ≤ W.heap.size) (hW3 : BytesAt W (some ⟨gd, 0, none⟩) data) => bufWrite_ok B b _ data ⟨gd, 0, none⟩ data.length data.length W hW1 hW2 hW3 rfl (by show gd ≠ b; omega) (by rw [List.length_append, List.length_append, le4_len, le8_len]; omega)
  have hrb : BytesAt w2 (some ⟨gd, 0, none⟩) data := by have := row_bytes hr2 0 data.length; rwa [List.drop_zero, List.take_length] at this
  have hK3 := hK1.trans hK2
  have hWd := hW w2.drew (hB2.same rfl) (by show B ≤ w2.heap.size; omega) hrb
  clear c2 hs1 hr1 hB1 hK1 hK2 hr2 hs2 hW
  go_wp2_with fail
  refine wp_region_noPanic ?_
  go_region_with (go_at_call 179; refine hWd.mono ?_; rintro e w3 ⟨rfl, hB4, hK4⟩)
  all_goals
    refine NoPanic.normal ?_
    go_wp2_with fail
    go_ret2
    exact ⟨rfl, by rw [secBytes]; simpa [List.append_assoc] using hB4, (hK3.drewN 1 : WrK B b w w2.drew).trans hK4⟩
end Go.Proofs.YtobdjcnojbnegaaGreatDoor

/- slices.Sort of at most one element. -/
namespace Go.Proofs.YtobdjcnojbnegaaGreatDoor
open Go.RowKit
set_option linter.unusedVariables false
set_option linter.unusedSimpArgs false
attribute [local go_sem] setCell_drewN alloc_drewN

def numV (q : IntKind) (n : Nat) : Value := .int q (n : Int)
def sortN (zs : List Nat) : List Nat := zs.mergeSort fun a b => decide (a ≤ b)
/-- A function that sorts rows of at most n numbers. -/
def SortsTo (f : FuncId) (q : IntKind) (t : TypeId) (n : Nat) : Prop := ∀ (g cap : Nat) (zs : List Nat) (tail : List Value) (w : World), zs.length ≤ n → w.heap[g]? = some (.cells (zs.map (numV q) ++ tail).toArray t (0, 0)) →
  Calls Tryz.prog f #[.slice (some ⟨g, 0, none⟩) zs.length cap] w fun e w' => e = .returned (.tuple #[]) ∧ w'.heap[g]? = some (.cells ((sortN zs).map (numV q) ++ tail).toArray t (0, 0)) ∧ Kp (fun i => i = g) w w'
theorem sortN_tiny {zs : List Nat} (h : zs.length ≤ 1) : sortN zs = zs := by
  match zs, h with
  | [], _ => simp [sortN]
  | [x], _ => simp [sortN]

set_option maxRecDepth 100000 in
set_option maxHeartbeats 800000 in
theorem tinySort_32 : SortsTo 227 .u32 138 1 := by
  intro g cap zs tail w hz hg
  rw [sortN_tiny hz]
  have hn : zs.length = 0 ∨ zs.length = 1 := by omega
  generalize zs.length = n at hn
  clear hz
  have hI : Calls Tryz.prog 259 #[.slice (some ⟨g, 0, none⟩) n cap, .int .i64 0, .int .i64 (n : Int)] w fun e w' => e = .returned (.tuple #[]) ∧ w = w' := by
    rcases hn with rfl | rfl
    all_goals
      go_enter Tryz.func259, Tryz.ntmps259
      go_wp2_with fail
      refine wp_loop_rounds 1 ?_
      rw [rounds_succ]
      go_wp2_with fail
      go_end0
      exact ⟨rfl, rfl⟩
  have hP : ∀ L : Int, Calls Tryz.prog 249 #[.slice (some ⟨g, 0, none⟩) n cap, .int .i64 0, .int .i64 (n : Int), .int .i64 L] w fun e w' => e = .returned (.tuple #[]) ∧ w = w' := by
    intro L
    rcases hn with rfl | rfl
    all_goals
      go_enter Tryz.func249, Tryz.ntmps249
      go_wp2_with fail
      refine wp_loop_rounds 1 ?_
      rw [rounds_succ]
      go_wp2_with fail
      refine hI.mono ?_
      rintro e w' ⟨rfl, rfl⟩
      go_wp2_with fail
      exact bodyPost_ret (v := .tuple #[]) (by simp [results, Tryz.results249, go_sem]) rfl ⟨rfl, rfl⟩
  have hd : Calls Tryz.prog 227 #[.slice (some ⟨g, 0, none⟩) n cap] w fun e w' => e = .returned (.tuple #[]) ∧ w = w' := by
    rcases hn with rfl | rfl
    all_goals
      go_enter Tryz.func227, Tryz.ntmps227
      go_wp2_with fail
      refine (Tryz.bits_Len _ _ (by omega) (by omega)).mono ?_
      rintro e w' ⟨rfl, rfl⟩
      generalize ((Lib.bitLen _ : Nat) : Int) = L
      go_wp2_with fail
      refine (hP L).mono ?_
      rintro e w' ⟨rfl, rfl⟩
      go_wp2_with fail
      go_end0
      exact ⟨rfl, rfl⟩
  refine hd.mono ?_
  rintro e w' ⟨rfl, rfl⟩
  exact ⟨rfl, hg, Kp.refl _ _⟩

set_option maxRecDepth 100000 in
set_option maxHeartbeats 800000 in
theorem tinySort_64 : SortsTo 211 .u64 23 1 := by
  intro g cap zs tail w hz hg
  rw [sortN_tiny hz]
  have hn : zs.length = 0 ∨ zs.length = 1 := by omega
  generalize zs.length = n at hn
  clear hz
  have hI : Calls Tryz.prog 240 #[.slice (some ⟨g, 0, none⟩) n cap, .int .i64 0, .int .i64 (n : Int)] w fun e w' => e = .returned (.tuple #[]) ∧ w = w' := by
    rcases hn with rfl | rfl
    all_goals
      go_enter Tryz.func240, Tryz.ntmps240
      go_wp2_with fail
      refine wp_loop_rounds 1 ?_
      rw [rounds_succ]
      go_wp2_with fail
      go_end0
      exact ⟨rfl, rfl⟩
  have hP : ∀ L : Int, Calls Tryz.prog 226 #[.slice (some ⟨g, 0, none⟩) n cap, .int .i64 0, .int .i64 (n : Int), .int .i64 L] w fun e w' => e = .returned (.tuple #[]) ∧ w = w' := by
    intro L
    rcases hn with rfl | rfl
    all_goals
      go_enter Tryz.func226, Tryz.ntmps226
      go_wp2_with fail
      refine wp_loop_rounds 1 ?_
      rw [rounds_succ]
      go_wp2_with fail
      refine hI.mono ?_
      rintro e w' ⟨rfl, rfl⟩
      go_wp2_with fail
      exact bodyPost_ret (v := .tuple #[]) (by simp [results, Tryz.results226, go_sem]) rfl ⟨rfl, rfl⟩
  have hd : Calls Tryz.prog 211 #[.slice (some ⟨g, 0, none⟩) n cap] w fun e w' => e = .returned (.tuple #[]) ∧ w = w' := by
    rcases hn with rfl | rfl
    all_goals
      go_enter Tryz.func211, Tryz.ntmps211
      go_wp2_with fail
      refine (Tryz.bits_Len _ _ (by omega) (by omega)).mono ?_
      rintro e w' ⟨rfl, rfl⟩
      generalize ((Lib.bitLen _ : Nat) : Int) = L
      go_wp2_with fail
      refine (hP L).mono ?_
      rintro e w' ⟨rfl, rfl⟩
      go_wp2_with fail
      go_end0
      exact ⟨rfl, rfl⟩
  refine hd.mono ?_
  rintro e w' ⟨rfl, rfl⟩
  exact ⟨rfl, hg, Kp.refl _ _⟩
end Go.Proofs.YtobdjcnojbnegaaGreatDoor
