import Derived.Test.YtgdgmegpacmgnaaGreatDoorG01
import Derived.Test.YtgdgmegpacmgnaaGreatDoorShelf
import Derived.Laws.CopyOwn
import Derived.Laws.IdiomCopy
import Derived.Lib.BitFns
import Derived.Lib.ItoaNum
import Derived.Deep.Cut
/- Multihashes written: UvarintSize, PutUvarint, Encode. -/
namespace Go.Proofs.YtgdgmegpacmgnaaGreatDoor
open Go.RowKit
set_option linter.unusedVariables false
set_option linter.unusedSimpArgs false
attribute [local go_sem] setCell_drewN alloc_drewN

def usize (b : Nat) : Nat := if 0 < b % 7 ∨ b / 7 = 0 then b / 7 + 1 else b / 7

theorem bitLen_pos {x : Nat} (h : x < 18446744073709551616) (h0 : x ≠ 0) : 1 ≤ Lib.bitLen x := by
  rw [Lib.bitLen_half x h0 h]; omega

theorem usize_eq : ∀ (k x : Nat), x < 128 ^ k → x < 18446744073709551616 → (Lib.uvarint x).length = usize (Lib.bitLen x)
  | 0, x, h, _ => by
    have : x = 0 := by simpa using h
    subst this
    rw [Lib.uvarint_small (by omega)]
    rfl
  | k + 1, x, h, hx => by
    by_cases hs : x < 128
    · rw [Lib.uvarint_small hs]
      have := Lib.bitLen_le x 7 (by omega) (by omega)
      show 1 = _
      unfold usize
      split <;> omega
    · have h1 : x / 128 < 128 ^ k := by rw [Nat.div_lt_iff_lt_mul (by omega)]; rw [Nat.pow_succ] at h; exact h
      have ih := usize_eq k (x / 128) h1 (by omega)
      have hb := Lib.bitLen_shift 7 x (by omega) hx
      have e7 : (2 : Nat) ^ 7 = 128 := by decide
      rw [e7] at hb
      have hp := bitLen_pos (x := x / 128) (by omega) (by omega)
      rw [Lib.uvarint_big (by omega), List.length_cons, ih, hb]
      unfold usize
      split <;> split <;> omega

set_option maxRecDepth 100000 in
set_option maxHeartbeats 800000 in
theorem UvarintSize_ok (x : Nat) (hx : x < 18446744073709551616) (w : World) :
    Calls Tryz.prog 70 #[.int .u64 x] w fun e w' => e = .returned (.int .i64 (Lib.uvarint x).length) ∧ w = w' := by
  have hu := usize_eq 10 x (by have : (128 : Nat) ^ 10 = 1180591620717411303424 := by decide
                               omega) hx
  have hb := Lib.bitLen_le x 64 (by omega) (by have : (2 : Nat) ^ 64 = 18446744073709551616 := by decide
                                               omega)
  have HU := Lib.hid hu; clear hu
  go_enter Tryz.func70, Tryz.ntmps70
  go_wp2_with fail
  refine (Tryz.bits_Len64 x _ (by omega) (by omega)).mono ?_
  rintro e w1 ⟨rfl, rfl⟩
  rw [Int.toNat_natCast]
  generalize Lib.bitLen x = b at *
  by_cases h1 : 0 < b % 7
  · have h1' : (0 : Int) < (b : Int) % 7 := by omega
    have e : ((b : Int) / 7 + 1) = ((Lib.uvarint x).length : Int) := by rw [HU.out, usize, if_pos (.inl h1)]; omega
    have HE := Lib.hid e; clear e
    go_wp2_with fail
    go_ret
    exact ⟨by first | exact congrArg _ (int_eq HE.out) | (rw [← HE.out]; rfl), rfl⟩
  · have h1' : decide ((0 : Int) < (b : Int) % 7) = false := decide_eq_false (by omega)
    by_cases h2 : b / 7 = 0
    · have h2' : (((b : Int) / 7) == 0) = true := beq_iff_eq.2 (by omega)
      have e : ((b : Int) / 7 + 1) = ((Lib.uvarint x).length : Int) := by rw [HU.out, usize, if_pos (.inr h2)]; omega
      have HE := Lib.hid e; clear e
      clear h2
      go_wp2_with fail
      go_ret
      exact ⟨by first | exact congrArg _ (int_eq HE.out) | (rw [← HE.out]; rfl), rfl⟩
    · have h2' : (((b : Int) / 7) == 0) = false := beq_eq_false_iff_ne.2 (by omega)
      have e : ((b : Int) / 7) = ((Lib.uvarint x).length : Int) := by rw [HU.out, usize, if_neg (by omega)]; omega
      have HE := Lib.hid e; clear e
      clear h2
      go_wp2_with fail
      go_ret
      exact ⟨by first | exact congrArg _ (int_eq HE.out) | (rw [← HE.out]; rfl), rfl⟩

theorem splice_set (cur : List Value) (o : Nat) (v : Value) (r : List Value) (h : o < cur.length) : splice (cur.set o v) (o + 1) r = splice cur o (v :: r) := by
  unfold splice
  rw [List.take_set, List.drop_set_of_lt (by omega)]
  have e : (cur.take (o + 1)).set o v = cur.take o ++ [v] := by
    rw [List.take_succ_eq_append_getElem h, List.set_append_right _ _ (by simp; omega)]
    simp [List.length_take, Nat.min_eq_left (Nat.le_of_lt h)]
  rw [e]
  have e2 : o + 1 + r.length = o + (v :: r).length := by simp; omega
  rw [e2]
  simp

theorem heap_setCells (g : Nat) (t : TypeId) : ∀ (vs : List Value) (o : Nat) (cur : List Value) (w : World), w.heap[g]? = some (.cells cur.toArray t (0, 0)) → o + vs.length ≤ cur.length →
    (w.setCells g o vs).heap[g]? = some (.cells (splice cur o vs).toArray t (0, 0))
  | [], o, cur, w, h, _ => by rw [World.setCells, h]; simp [splice]
  | v :: r, o, cur, w, h, hl => by
    rw [World.setCells]
    have h1 : (w.setCell ⟨g, o, none⟩ v).heap[g]? = some (.cells (cur.set o v).toArray t (0, 0)) := by
      simp [World.setCell, Array.getElem?_modify, h]
    rw [heap_setCells g t r (o + 1) (cur.set o v) _ h1 (by simp at hl ⊢; omega), splice_set _ _ _ _ (by simp at hl; omega)]

theorem below_setCells (g : Nat) (B : Nat) (hB : B ≤ g) : ∀ (vs : List Value) (o : Nat) (w : World), Below B w (w.setCells g o vs)
  | [], _, w => Below.refl _ _
  | v :: r, o, w => ((Below.refl B w).setCell (p := ⟨g, o, none⟩) hB v).trans (below_setCells g B hB r (o + 1) _)

theorem PutUvarint_ok (g o n c x : Nat) (hx : x < 18446744073709551616) (cur : List Value) (t : TypeId) (w : World) (hg : w.heap[g]? = some (.cells cur.toArray t (0, 0))) (hn : (Lib.uvarint x).length ≤ n) (hfit : o + (Lib.uvarint x).length ≤ cur.length) :
    Calls Tryz.prog 23 #[.slice (some ⟨g, o, none⟩) n c, .int .u64 x] w fun e w' => e = .returned (.int .i64 (Lib.uvarint x).length) ∧
      w'.heap[g]? = some (.cells (splice cur o (Lib.byteCells (Lib.uvarint x))).toArray t (0, 0)) ∧ (∀ B, B ≤ g → Below B w w') := by
  have hcell : ∀ j, j < (Lib.uvarint x).length → (w.cell? ⟨g, o + j, none⟩).isSome = true ∧ w.frozen? ⟨g, o + j, none⟩ = false := by
    intro j hj
    have hl : o + j < cur.length := by omega
    simp [World.cell?, World.frozen?, hg, hl]
  have hlen : (Lib.byteCells (Lib.uvarint x)).length = (Lib.uvarint x).length := Lib.byteCells_length _
  go_enter Tryz.func23, Tryz.ntmps23
  go_wp2_with fail
  refine (Tryz.binary_PutUvarint g o n c x hx w hn hcell).mono ?_
  rintro e w1 ⟨rfl, rfl⟩
  go_wp2_with fail
  go_ret
  exact ⟨rfl, heap_setCells g t _ o cur w hg (by omega), fun B hB => below_setCells g B hB _ _ _⟩

/-- 'xs[i:]' of a slice whose place is known. -/
theorem cut8a (g o n c m k : Nat) (x : Int) (hx : x = m) (hn : n = m + k) (hc : n ≤ c) :
    ∃ A' : Option Addr, (∀ (kl : IntKind) (W : World), (Instr.slice 42 (.slice (some ⟨g, o, none⟩) n c) (some (.int kl x)) none none).run Tryz.prog W = .ok (.slice A' k (c - m)) W) ∧ (m < c → A' = some ⟨g, o + m, none⟩) := by
  obtain ⟨i, hi, hs⟩ := Option.map_eq_some_iff.1 info_u8
  subst hx
  refine ⟨if c = m then some ⟨g, o, none⟩ else (some (⟨g, o, none⟩ : Addr)).map (·.add m), fun kl W => ?_, fun h => ?_⟩
  · have hel : Tryz.prog.elem 42 = 5 := by simp [Program.elem, Tryz.underlying42]
    have hu : Tryz.prog.underlying 42 = some (.slice (Tryz.prog.elem 42)) := by rw [hel]; exact Tryz.underlying42
    rw [run_slice_l W 42 _ n c hu kl (m : Int) (Int.natCast_nonneg _) (by omega), hel]
    simp [sizeOf, typeInfo, hi, hs, sliced, Result.andThen]
    omega
  · rw [if_neg (by omega)]
    show some ((⟨g, o, none⟩ : Addr).add m) = _
    unfold Addr.add
    split
    · simp_all
    · rfl

theorem madeCells_one (v : Value) (n : Nat) : madeCells #[v] n = (List.replicate n v).toArray := by
  apply Array.ext
  · simp [madeCells]
  · intro i h1 h2
    simp [madeCells, Nat.mod_one]

theorem info3_u8 : (Tryz.prog.info? 5).map (fun i => (i.zero, i.size, i.bytes)) = some (some (.int .u8 0), 1, 1) := by kernel_rfl

def zeros8 (n : Nat) : List Value := List.replicate n (Value.int .u8 0)
theorem zeros8_length (n : Nat) : (zeros8 n).length = n := by simp [zeros8]

theorem make8 (n : Nat) (x : Int) (hx : x = n) (hn : n ≤ 281474976710656) (W : World) : (Instr.makeSlice 42 (.int .i64 x) (.int .i64 x)).run Tryz.prog W = .ok (.slice (some ⟨W.heap.size, 0, none⟩) n n) (W.alloc (.cells (zeros8 n).toArray 5)) := by
  obtain ⟨i0, hi, hz0, hz1, hz2⟩ := info_parts info3_u8
  subst hx
  have h := run_make (P := Tryz.prog) W 42 5 i0 (.int .u8 0) Tryz.underlying42 hi hz0 .i64 .i64 (n : Int) (n : Int) (by omega) (by omega) (by rw [hz2]; omega) (by omega)
  rw [hz1] at h
  simp only [Int.toNat_natCast, Nat.mul_one] at h
  rw [h, show (Value.int .u8 0).cells = #[Value.int .u8 0] from rfl, madeCells_one]; rfl

set_option maxRecDepth 100000 in
set_option maxHeartbeats 1600000 in
theorem Encode_ok (code : Nat) (hcode : code < 9223372036854775808) (dig : List UInt8) (hdig : dig.length ≤ 2147483647) (A : Option Addr) (c : Nat) (w : World) (h : BytesAt w A dig) (hc : dig.length ≤ c) :
    Calls Tryz.prog 60 #[.slice A dig.length c, .int .u64 code] w fun e w' => ∃ g, e = .returned (.tuple #[.slice (some ⟨g, 0, none⟩) (mhOf code dig).length (mhOf code dig).length, .nilIface]) ∧
      w'.heap[g]? = some (.cells (Lib.byteCells (mhOf code dig)).toArray 5 (0, 0)) ∧ Below w.heap.size w w' ∧ w.heap.size ≤ g := by
  have h1 := uvarint_le9 hcode
  have h2 := uvarint_le9 (n := dig.length) (by omega)
  have h3 := Lib.uvarint_pos code
  have h4 := Lib.uvarint_pos dig.length
  have hT : (mhOf code dig).length = (Lib.uvarint code).length + ((Lib.uvarint dig.length).length + dig.length) := by simp
  generalize hTT : (mhOf code dig).length = T at *
  have HTT := Lib.hid hTT; clear hTT
  have HT := Lib.hid hT; clear hT
  go_enter Tryz.func60, Tryz.ntmps60
  go_wp2_with fail
  refine (UvarintSize_ok code (by omega) _).mono ?_
  rintro e w1 ⟨rfl, rfl⟩
  go_wp2_with fail
  refine (UvarintSize_ok dig.length (by omega) _).mono ?_
  rintro e w1 ⟨rfl, rfl⟩
  have hmk := fun W => make8 T (((Lib.uvarint code).length : Int) + ((Lib.uvarint dig.length).length : Int) + (dig.length : Int)) (by rw [HT.out]; omega) (by rw [HT.out]; omega) W
  go_wp2_with fail
  have hpu := PutUvarint_ok w.heap.size 0 T T code (by omega) (zeros8 T) 5 (w.alloc (.cells (zeros8 T).toArray 5)) (heap_alloc_new _ _) (by rw [HT.out]; omega) (by rw [zeros8_length, HT.out]; omega)
  refine hpu.mono ?_
  clear hpu hmk
  rintro e w1 ⟨rfl, hg1, hb1⟩
  have hb1' := hb1 w.heap.size (Nat.le_refl _)
  obtain ⟨A2, hcut2, hA2⟩ := cut8a w.heap.size 0 T T (Lib.uvarint code).length ((Lib.uvarint dig.length).length + dig.length) ((Lib.uvarint code).length : Int) rfl HT.out (Nat.le_refl _)
  obtain rfl := hA2 (by rw [HT.out]; omega)
  clear hA2
  rw [Nat.zero_add] at *
  have HG1 := Lib.hid hg1; clear hg1
  go_wp2_with fail
  have hpu := PutUvarint_ok w.heap.size (Lib.uvarint code).length ((Lib.uvarint dig.length).length + dig.length) (T - (Lib.uvarint code).length) dig.length (by omega) _ 5 w1 HG1.out (by omega) (by rw [length_splice _ _ _ (by rw [zeros8_length, Lib.byteCells_length, HT.out]; omega), zeros8_length, HT.out]; omega)
  refine hpu.mono ?_
  clear hpu
  rintro e w2 ⟨rfl, hg2, hb2⟩
  have hb2' := hb2 w.heap.size (Nat.le_refl _)
  obtain ⟨A3, hcut3, hA3⟩ := cut8a w.heap.size 0 T T ((Lib.uvarint code).length + (Lib.uvarint dig.length).length) dig.length (((Lib.uvarint code).length : Int) + ((Lib.uvarint dig.length).length : Int)) (by omega) (by rw [HT.out]; omega) (Nat.le_refl _)
  have HG2 := Lib.hid hg2; clear hg2
  have hbw : Below w.heap.size w w2 := ((below_boxed w _).trans hb1').trans hb2'
  have hA4 := h.below hbw
  have hl2 : (splice (splice (zeros8 T) 0 (Lib.byteCells (Lib.uvarint code))) (Lib.uvarint code).length (Lib.byteCells (Lib.uvarint dig.length))).length = T := by
    rw [length_splice, length_splice, zeros8_length]
    · rw [zeros8_length, Lib.byteCells_length, HT.out]; omega
    · rw [length_splice _ _ _ (by rw [zeros8_length, Lib.byteCells_length, HT.out]; omega), zeros8_length, Lib.byteCells_length, HT.out]; omega
  have HL2 := Lib.hid hl2; clear hl2
  go_wp2_with (with_reducible refine wpList_copy_splice rfl (.tmp 33) (.tmp 34) 42 42 rfl 5 Tryz.underlying42 info_u8 A3 A dig.length (T - ((Lib.uvarint code).length + (Lib.uvarint dig.length).length)) dig.length c rfl rfl w.heap.size ((Lib.uvarint code).length + (Lib.uvarint dig.length).length) _ 5 HG2.out (Lib.byteCells dig) ?hn ?hpos ?hfit ?h1 w.heap.size w hbw (Nat.le_refl _) ?_)
  case hn => rw [Lib.byteCells_length]; simp
  case hpos =>
    rw [Lib.byteCells_length]
    intro hp
    refine ⟨?_, ?_⟩
    · rw [hA3 (by rw [HT.out]; omega), Nat.zero_add]
    · rcases hA4 with hA4 | ⟨g, o, e, hcell⟩
      · rw [hA4] at hp; simp at hp
      · refine ⟨⟨g, o, none⟩, e, fun j v hj => ?_⟩
        rw [show (⟨g, o, none⟩ : Addr).add j = ⟨g, o + j, none⟩ from by unfold Addr.add; split <;> simp_all]
        unfold Lib.byteCells at hj
        rw [List.getElem?_map] at hj
        obtain ⟨x, hx, rfl⟩ := Option.map_eq_some_iff.1 hj
        exact hcell j x hx
  case hfit => rw [Lib.byteCells_length, HL2.out, HT.out]; omega
  case h1 => intro v hv; unfold Lib.byteCells at hv; obtain ⟨x, _, rfl⟩ := List.mem_map.1 hv; rfl
  intro w3 hg3 hb3
  go_wp2_with fail
  go_ret2
  refine ⟨_, rfl, ?_, hb3, Nat.le_refl _⟩
  rw [hg3.out, splice_splice_splice _ _ _ _ _ _ (Lib.byteCells_length _) (Lib.byteCells_length _) (by rw [zeros8_length, Lib.byteCells_length, HT.out]; omega), ← Lib.byteCells_append, ← Lib.byteCells_append]
end Go.Proofs.YtgdgmegpacmgnaaGreatDoor

/- zzRead32, zzRead64, Seek over a bytes.Reader. -/
namespace Go.Proofs.YtgdgmegpacmgnaaGreatDoor
open Go.RowKit
set_option linter.unusedVariables false
set_option linter.unusedSimpArgs false
attribute [local go_sem] setCell_drewN alloc_drewN

set_option maxRecDepth 100000 in
set_option maxHeartbeats 800000 in
/-- Seek to where the reader stands. -/
theorem Seek_ok (b : Nat) (A : Option Addr) (cap : Nat) (bs : List UInt8) (pos : Nat) (w : World) (h : RdAt w b A cap bs pos) :
    Calls Tryz.prog 289 #[.pointer (some ⟨b, 0, none⟩), .int .i64 0, .int .i64 1] w fun e w' => e = .returned (.tuple #[.int .i64 (pos : Int), .nilIface]) ∧ RdAt w' b A cap bs pos ∧ Kp (fun i => i = b) w w' := by
  have hm := h.moved pos h.le (pos : Int) rfl
  have HM := Lib.hid hm; clear hm
  have hbig : (pos : Int) ≤ 1099511627776 := by have := h.le; have := h.big; omega
  obtain ⟨⟨pr, hp⟩, hr, h1, h2, h3, h4⟩ := h
  have c1 := (blk_cell' hp 1).trans (show _ = some (Value.int .i64 (pos : Int)) from rfl)
  have c2 := (blk_cell' hp 2).trans (show _ = some (Value.int .i64 pr) from rfl)
  have f1 := blk_free' hp 1
  have f2 := blk_free' hp 2
  go_enter Tryz.func289, Tryz.ntmps289
  go_wp2_with fail
  go_ret2
  exact ⟨rfl, HM.out, rd_kp _ _ _ _⟩

theorem method_Seek (v : Value) (w : World) : (method 463 40 v "Seek").run Tryz.prog w = .ok (289, v) w := by kernel_rfl
theorem reader_brs (v : Value) (w : World) : (Instr.typeAssert (.iface 40 v) 78 278 true).run Tryz.prog w = .ok (.tuple #[.iface 40 v, .bool true]) w := by kernel_rfl

set_option maxRecDepth 100000 in
theorem ToByteReadSeeker_ok (v : Value) (w : World) :
    Calls Tryz.prog 189 #[.iface 40 v] w fun e w' => e = .returned (.iface 40 v) ∧ w = w' := by
  have h := reader_brs
  go_enter Tryz.func189, Tryz.ntmps189
  go_wp2_with fail
  go_ret
  exact ⟨rfl, rfl⟩

theorem Kp.frozen {S : Nat → Prop} {w w' : World} (h : Kp S w w') {p : Addr} (hp : p.block < w.heap.size) (hs : ¬ S p.block) : w'.frozen? p = w.frozen? p := by simp only [World.frozen?, h.block _ hp hs]
theorem bcells_len (l : List UInt8) : (bcells l).length = l.length := by simp [bcells]
theorem bcells_get {l : List UInt8} {j : Nat} {x : UInt8} (h : l[j]? = some x) : (bcells l).toArray[j]? = some (.int .u8 (x.toNat : Int)) := by simp [bcells, h]
theorem rd_alloc {w : World} {b : Nat} {A : Option Addr} {cap : Nat} {bs : List UInt8} {pos : Nat} (h : RdAt w b A cap bs pos) (o : Obj) : RdAt (w.alloc o) b A cap bs pos :=
  h.keep (S := fun _ => False) (Kp.of_below (below_boxed w o)) id (fun _ _ _ => id)
theorem kp_alloc (w : World) (o : Obj) : Kp (fun _ => False) w (w.alloc o) := Kp.of_below (below_boxed w o)
theorem le4_cases (v : Nat) : Lib.leBytes 4 v = [(v % 256).toUInt8, (v / 256 % 256).toUInt8, (v / 256 / 256 % 256).toUInt8, (v / 256 / 256 / 256 % 256).toUInt8] := rfl
theorem le8_cases (v : Nat) : Lib.leBytes 8 v = [(v % 256).toUInt8, (v / 256 % 256).toUInt8, (v / 256 / 256 % 256).toUInt8, (v / 256 / 256 / 256 % 256).toUInt8, (v / 256 / 256 / 256 / 256 % 256).toUInt8, (v / 256 / 256 / 256 / 256 / 256 % 256).toUInt8, (v / 256 / 256 / 256 / 256 / 256 / 256 % 256).toUInt8, (v / 256 / 256 / 256 / 256 / 256 / 256 / 256 % 256).toUInt8] := rfl

set_option maxRecDepth 100000 in
set_option maxHeartbeats 1600000 in
theorem zzRead32_ok (b : Nat) (A : Option Addr) (cap : Nat) (bs : List UInt8) (pos : Nat) (v : Nat) (hv : v < 4294967296) (rest : List UInt8) (q : Addr) (old : Value) (w : World) (h : RdAt w b A cap bs pos) (hbs : bs.drop pos = Lib.leBytes 4 v ++ rest)
    (hq : w.cell? q = some old) (hqf : w.frozen? q = false) (hqb : q.block ≠ b) (hA : ∀ g o, A = some ⟨g, o, none⟩ → g < w.heap.size ∧ g ≠ q.block) :
    Calls Tryz.prog 190 #[.iface 40 (.pointer (some ⟨b, 0, none⟩)), .pointer (some q)] w fun e w' => e = .returned .nilIface ∧ RdAt w' b A cap bs (pos + 4) ∧ w'.cell? q = some (.int .u32 v) ∧ Kp (fun i => i = b ∨ i = q.block) w w' := by
  have hmk : ∀ W : World, (Instr.makeSlice 42 (.int .i64 4) (.int .i64 4)).run Tryz.prog W = .ok (.slice (some ⟨W.heap.size, 0, none⟩) 4 4) (W.alloc (.cells (zeros8 4).toArray 5)) := fun W => make8 4 4 rfl (by omega) W
  have hql : q.block < w.heap.size := World.block_lt_of_cell? w _ hq
  have hbw : b < w.heap.size := by obtain ⟨pr, hp⟩ := h.blk; exact (Array.getElem?_eq_some_iff.1 hp).1
  have hlen : pos + 4 ≤ bs.length := by
    have := congrArg List.length hbs
    simp only [List.length_drop, List.length_append, le4_cases, List.length_cons, List.length_nil] at this
    omega
  have htake : (bs.drop pos).take 4 = Lib.leBytes 4 v := by rw [hbs, le4_cases]; rfl
  have hnat : Lib.leNat [(v % 256).toUInt8, (v / 256 % 256).toUInt8, (v / 256 / 256 % 256).toUInt8, (v / 256 / 256 / 256 % 256).toUInt8] = v := by rw [← le4_cases]; exact Lib.leNat_leBytes 4 v (by omega)
  have hR := ReadFull_ok b A cap bs pos w.heap.size 4 (zeros8 4).toArray (w.alloc (.cells (zeros8 4).toArray 5)) (rd_alloc h _) (by omega) hlen (heap_alloc_last _ _) (by simp [zeros8_length]) (by omega) (fun g o e => by have := hA g o e; omega)
  rw [htake] at hR
  have HB := Lib.hid hbs; clear hbs htake h
  go_enter Tryz.func190, Tryz.ntmps190
  go_wp2_with fail
  refine hR.mono ?_
  clear hR
  rintro e w1 ⟨rfl, hR1, hg1, hK1⟩
  have k0 := (cell_of_row w1 w.heap.size 0 _ _ _ hg1).trans (bcells_get (j := 0) (l := Lib.leBytes 4 v) rfl)
  have k1 := (cell_of_row w1 w.heap.size (0 + 1) _ _ _ hg1).trans (bcells_get (j := 1) (l := Lib.leBytes 4 v) rfl)
  have k2 := (cell_of_row w1 w.heap.size (0 + 2) _ _ _ hg1).trans (bcells_get (j := 2) (l := Lib.leBytes 4 v) rfl)
  have k3 := (cell_of_row w1 w.heap.size (0 + 3) _ _ _ hg1).trans (bcells_get (j := 3) (l := Lib.leBytes 4 v) rfl)
  go_wp2_with fail
  refine (Tryz.binary_LE_Uint32 w.heap.size 0 4 4 _ _ _ _ _ (by omega) k0 k1 k2 k3).mono ?_
  rintro e w2 ⟨rfl, hb2⟩
  rw [hnat]
  have hKa : Kp (fun i => i = b) w w1 := ((kp_alloc w _).mono (S' := fun i => i = b) (fun i hi => hi.elim)).trans hK1 (fun i hi => hi.elim .inl (fun e => .inr (by omega)))
  have hK2 : Kp (fun i => i = b) w w2 := hKa.trans (Kp.of_below (S := fun _ => False) hb2) (fun i hi => hi.elim)
  have hR2 : RdAt w2 b A cap bs (pos + 4) := hR1.keep (S := fun _ => False) (Kp.of_below hb2) id (fun _ _ _ => id)
  have q1 := (hK2.cell hql hqb).trans hq
  have q2 := (hK2.frozen hql hqb).trans hqf
  clear hK1 hR1 hKa hg1 k0 k1 k2 k3 hb2
  go_wp2_with fail
  go_ret
  refine ⟨rfl, hR2.keep (S := fun i => i = q.block) (Kp.set (S := fun i => i = q.block) (Kp.refl _ _) (.inl rfl) _) (fun e => hqb e.symm) (fun g o e => (hA g o e).2), World.cell?_setCell_same' w2 q _ (by rw [q1]; rfl), ?_⟩
  exact Kp.set (S := fun i => i = b ∨ i = q.block) (hK2.mono (fun i hi => .inl (.inl hi))) (.inl (.inr rfl)) _
set_option maxRecDepth 100000 in
set_option maxHeartbeats 1600000 in
theorem zzRead64_more (b : Nat) (A : Option Addr) (cap : Nat) (bs : List UInt8) (pos : Nat) (v : Nat) (hv : v < 18446744073709551616) (rest : List UInt8) (q : Addr) (old : Value) (w : World) (h : RdAt w b A cap bs pos) (hbs : bs.drop pos = Lib.leBytes 8 v ++ rest)
    (hq : w.cell? q = some old) (hqf : w.frozen? q = false) (hqb : q.block ≠ b) (hA : ∀ g o, A = some ⟨g, o, none⟩ → g < w.heap.size ∧ g ≠ q.block) :
    Calls Tryz.prog 203 #[.iface 40 (.pointer (some ⟨b, 0, none⟩)), .pointer (some q)] w fun e w' => e = .returned .nilIface ∧ RdAt w' b A cap bs (pos + 8) ∧ (w'.cell? q = some (.int .u64 v) ∧ ∀ p : Addr, p.block = q.block → p ≠ q → w'.cell? p = w.cell? p ∧ w'.frozen? p = w.frozen? p) ∧ Kp (fun i => i = b ∨ i = q.block) w w' := by
  have hmk : ∀ W : World, (Instr.makeSlice 42 (.int .i64 8) (.int .i64 8)).run Tryz.prog W = .ok (.slice (some ⟨W.heap.size, 0, none⟩) 8 8) (W.alloc (.cells (zeros8 8).toArray 5)) := fun W => make8 8 8 rfl (by omega) W
  have hql : q.block < w.heap.size := World.block_lt_of_cell? w _ hq
  have hbw : b < w.heap.size := by obtain ⟨pr, hp⟩ := h.blk; exact (Array.getElem?_eq_some_iff.1 hp).1
  have hlen : pos + 8 ≤ bs.length := by
    have := congrArg List.length hbs
    simp only [List.length_drop, List.length_append, le8_cases, List.length_cons, List.length_nil] at this
    omega
  have htake : (bs.drop pos).take 8 = Lib.leBytes 8 v := by rw [hbs, le8_cases]; rfl
  have hnat : Lib.leNat [(v % 256).toUInt8, (v / 256 % 256).toUInt8, (v / 256 / 256 % 256).toUInt8, (v / 256 / 256 / 256 % 256).toUInt8, (v / 256 / 256 / 256 / 256 % 256).toUInt8, (v / 256 / 256 / 256 / 256 / 256 % 256).toUInt8, (v / 256 / 256 / 256 / 256 / 256 / 256 % 256).toUInt8, (v / 256 / 256 / 256 / 256 / 256 / 256 / 256 % 256).toUInt8] = v := by rw [← le8_cases]; exact Lib.leNat_leBytes 8 v (by omega)
  have hR := ReadFull_ok b A cap bs pos w.heap.size 8 (zeros8 8).toArray (w.alloc (.cells (zeros8 8).toArray 5)) (rd_alloc h _) (by omega) hlen (heap_alloc_last _ _) (by simp [zeros8_length]) (by omega) (fun g o e => by have := hA g o e; omega)
  rw [htake] at hR
  have HB := Lib.hid hbs; clear hbs htake h
  go_enter Tryz.func203, Tryz.ntmps203
  go_wp2_with fail
  refine hR.mono ?_
  clear hR
  rintro e w1 ⟨rfl, hR1, hg1, hK1⟩
  have k0 := (cell_of_row w1 w.heap.size 0 _ _ _ hg1).trans (bcells_get (j := 0) (l := Lib.leBytes 8 v) rfl)
  have k1 := (cell_of_row w1 w.heap.size (0 + 1) _ _ _ hg1).trans (bcells_get (j := 1) (l := Lib.leBytes 8 v) rfl)
  have k2 := (cell_of_row w1 w.heap.size (0 + 2) _ _ _ hg1).trans (bcells_get (j := 2) (l := Lib.leBytes 8 v) rfl)
  have k3 := (cell_of_row w1 w.heap.size (0 + 3) _ _ _ hg1).trans (bcells_get (j := 3) (l := Lib.leBytes 8 v) rfl)
  have k4 := (cell_of_row w1 w.heap.size (0 + 4) _ _ _ hg1).trans (bcells_get (j := 4) (l := Lib.leBytes 8 v) rfl)
  have k5 := (cell_of_row w1 w.heap.size (0 + 5) _ _ _ hg1).trans (bcells_get (j := 5) (l := Lib.leBytes 8 v) rfl)
  have k6 := (cell_of_row w1 w.heap.size (0 + 6) _ _ _ hg1).trans (bcells_get (j := 6) (l := Lib.leBytes 8 v) rfl)
  have k7 := (cell_of_row w1 w.heap.size (0 + 7) _ _ _ hg1).trans (bcells_get (j := 7) (l := Lib.leBytes 8 v) rfl)
  go_wp2_with fail
  refine (Tryz.binary_LE_Uint64 w.heap.size 0 8 8 _ _ _ _ _ _ _ _ _ (by omega) k0 k1 k2 k3 k4 k5 k6 k7).mono ?_
  rintro e w2 ⟨rfl, hb2⟩
  rw [hnat]
  have hKa : Kp (fun i => i = b) w w1 := ((kp_alloc w _).mono (S' := fun i => i = b) (fun i hi => hi.elim)).trans hK1 (fun i hi => hi.elim .inl (fun e => .inr (by omega)))
  have hK2 : Kp (fun i => i = b) w w2 := hKa.trans (Kp.of_below (S := fun _ => False) hb2) (fun i hi => hi.elim)
  have hR2 : RdAt w2 b A cap bs (pos + 8) := hR1.keep (S := fun _ => False) (Kp.of_below hb2) id (fun _ _ _ => id)
  have q1 := (hK2.cell hql hqb).trans hq
  have q2 := (hK2.frozen hql hqb).trans hqf
  clear hK1 hR1 hKa hg1 k0 k1 k2 k3 k4 k5 k6 k7 hb2
  go_wp2_with fail
  go_ret
  refine ⟨rfl, hR2.keep (S := fun i => i = q.block) (Kp.set (S := fun i => i = q.block) (Kp.refl _ _) (.inl rfl) _) (fun e => hqb e.symm) (fun g o e => (hA g o e).2), ⟨World.cell?_setCell_same' w2 q _ (by rw [q1]; rfl), fun p hp hne => ⟨(World.cell?_setCell_other w2 q p _ (fun e => hne e.symm)).trans (hK2.cell (by rw [hp]; exact hql) (by rw [hp]; exact hqb)), ?_⟩⟩, ?_⟩
  · rw [World.frozen?_setCell]; exact hK2.frozen (by rw [hp]; exact hql) (by rw [hp]; exact hqb)
  · exact Kp.set (S := fun i => i = b ∨ i = q.block) (hK2.mono (fun i hi => .inl (.inl hi))) (.inl (.inr rfl)) _
theorem zzRead64_ok (b : Nat) (A : Option Addr) (cap : Nat) (bs : List UInt8) (pos : Nat) (v : Nat) (hv : v < 18446744073709551616) (rest : List UInt8) (q : Addr) (old : Value) (w : World) (h : RdAt w b A cap bs pos) (hbs : bs.drop pos = Lib.leBytes 8 v ++ rest)
    (hq : w.cell? q = some old) (hqf : w.frozen? q = false) (hqb : q.block ≠ b) (hA : ∀ g o, A = some ⟨g, o, none⟩ → g < w.heap.size ∧ g ≠ q.block) :
    Calls Tryz.prog 203 #[.iface 40 (.pointer (some ⟨b, 0, none⟩)), .pointer (some q)] w fun e w' => e = .returned .nilIface ∧ RdAt w' b A cap bs (pos + 8) ∧ w'.cell? q = some (.int .u64 v) ∧ Kp (fun i => i = b ∨ i = q.block) w w' :=
  (zzRead64_more b A cap bs pos v hv rest q old w h hbs hq hqf hqb hA).mono fun _ _ h => ⟨h.1, h.2.1, h.2.2.1.1, h.2.2.2⟩
end Go.Proofs.YtgdgmegpacmgnaaGreatDoor

/- A row of an index of one width, read. -/
namespace Go.Proofs.YtgdgmegpacmgnaaGreatDoor
open Go.RowKit
set_option linter.unusedVariables false
set_option linter.unusedSimpArgs false
attribute [local go_sem] setCell_drewN alloc_drewN

/-- The struct of one width, at block g. -/
def SwAt (w : World) (g : Nat) (width len : Nat) (idx : Value) : Prop := w.heap[g]? = some (.cells #[.int .u32 (width : Int), .int .u64 (len : Int), idx] 287 (0, 0))

theorem row3_set0 {w : World} {g : Nat} {a b c : Value} {t : TypeId} (h : w.heap[g]? = some (.cells #[a, b, c] t (0, 0))) (v : Value) : (w.setCell ⟨g, 0, none⟩ v).heap[g]? = some (.cells #[v, b, c] t (0, 0)) := by
  rw [setCell_eq_setRow w g 0 _ _ _ _ h, setRow_heap w g _ _ _ _ h]; rfl
theorem row3_set1 {w : World} {g : Nat} {a b c : Value} {t : TypeId} (h : w.heap[g]? = some (.cells #[a, b, c] t (0, 0))) (v : Value) : (w.setCell ⟨g, 1, none⟩ v).heap[g]? = some (.cells #[a, v, c] t (0, 0)) := by
  rw [setCell_eq_setRow w g 1 _ _ _ _ h, setRow_heap w g _ _ _ _ h]; rfl
theorem row3_set2 {w : World} {g : Nat} {a b c : Value} {t : TypeId} (h : w.heap[g]? = some (.cells #[a, b, c] t (0, 0))) (v : Value) : (w.setCell ⟨g, 2, none⟩ v).heap[g]? = some (.cells #[a, b, v] t (0, 0)) := by
  rw [setCell_eq_setRow w g 2 _ _ _ _ h, setRow_heap w g _ _ _ _ h]; rfl
theorem kp_set (w : World) (p : Addr) (v : Value) : Kp (fun i => i = p.block) w (w.setCell p v) := Kp.set (S := fun i => i = p.block) (Kp.refl _ _) (.inl rfl) _

set_option maxRecDepth 100000 in
set_option maxHeartbeats 800000 in
theorem checkLengths_ok (g : Nat) (width L : Nat) (h8 : 8 ≤ width) (hw : width ≤ 33554432) (hL : L < 9223372036854775808) (a b c : Value) (w : World) (h : w.heap[g]? = some (.cells #[a, b, c] 287 (0, 0))) :
    Calls Tryz.prog 237 #[.pointer (some ⟨g, 0, none⟩), .int .u32 width, .int .u64 L, .int .u64 0] w fun e w' => e = .returned .nilIface ∧ SwAt w' g width (L / width) c ∧ Kp (fun i => i = g) w w' := by
  have c0 := (blk_cell' h 0).trans (show _ = some a from rfl)
  have c1 := (blk_cell' h 1).trans (show _ = some b from rfl)
  have f0 := blk_free' h 0
  have f1 := blk_free' h 1
  have hw0 : ¬ ((width : Int) < 8) := by omega
  have hw1 : ¬ ((33554432 : Int) < (width : Int)) := by omega
  have hL1 : (L : Int) < 9223372036854775808 := by omega
  have hw1' : ¬ ((33554432 : Int) < (width : Int)) := by omega
  have hwL : IntKind.i64.wrap (L : Int) = (L : Int) := by rw [IntKind.wrap_i64]; omega
  have hL0 : ¬ ((L : Int) < 0) := by omega
  have hwz : ((width : Int) == 0) = false := by simp; omega
  have HW := Lib.hid (And.intro h8 (And.intro hw hL))
  clear h8 hw hL hw1
  go_enter Tryz.func237, Tryz.ntmps237
  go_wp2_with fail
  go_ret
  have hdv : IntKind.u64.wrap ((L : Int) / (width : Int)) = ((L / width : Nat) : Int) := by
    rw [IntKind.wrap_u64]
    have e : ((L : Int) / (width : Int)) = ((L / width : Nat) : Int) := by simp
    have hle : L / width ≤ L := Nat.div_le_self _ _
    rw [e]; clear e; generalize L / width = q at hle ⊢; omega
  rw [hdv]
  exact ⟨rfl, row3_set1 (row3_set0 h _) _, Kp.set (S := fun i => i = g) (kp_set w ⟨g, 0, none⟩ _) (.inl rfl) _⟩

theorem make8k (kl : IntKind) (n : Nat) (hn : n ≤ 281474976710656) (W : World) : (Instr.makeSlice 42 (.int kl (n : Int)) (.int kl (n : Int))).run Tryz.prog W = .ok (.slice (some ⟨W.heap.size, 0, none⟩) n n) (W.alloc (.cells (zeros8 n).toArray 5)) := by
  obtain ⟨i0, hi, hz0, hz1, hz2⟩ := info_parts info3_u8
  have h := run_make (P := Tryz.prog) W 42 5 i0 (.int .u8 0) Tryz.underlying42 hi hz0 kl kl (n : Int) (n : Int) (by omega) (by omega) (by rw [hz2]; omega) (by omega)
  rw [hz1] at h
  simp only [Int.toNat_natCast, Nat.mul_one] at h
  rw [h, show (Value.int .u8 0).cells = #[Value.int .u8 0] from rfl, madeCells_one]; rfl

set_option maxRecDepth 100000 in
set_option maxHeartbeats 1600000 in
theorem SwUnmarshal_ok (b : Nat) (A : Option Addr) (cap : Nat) (bs : List UInt8) (pos : Nat) (g width : Nat) (data rest : List UInt8) (h8 : 8 ≤ width) (hw : width ≤ 33554432) (x y z : Value) (w : World)
    (h : RdAt w b A cap bs pos) (hbs : bs.drop pos = Lib.leBytes 4 width ++ (Lib.leBytes 8 data.length ++ (data ++ rest))) (hg : w.heap[g]? = some (.cells #[x, y, z] 287 (0, 0))) (hgb : g ≠ b)
    (hA : ∀ g' o, A = some ⟨g', o, none⟩ → g' < w.heap.size ∧ g' ≠ g) :
    Calls Tryz.prog 217 #[.pointer (some ⟨g, 0, none⟩), .iface 40 (.pointer (some ⟨b, 0, none⟩))] w fun e w' => e = .returned .nilIface ∧ RdAt w' b A cap bs (pos + 12 + data.length) ∧
      (∃ gd, w.heap.size ≤ gd ∧ SwAt w' g width (data.length / width) (.slice (some ⟨gd, 0, none⟩) data.length data.length) ∧ w'.heap[gd]? = some (.cells (bcells data).toArray 5 (0, 0))) ∧ Kp (fun i => i = b ∨ i = g) w w' := by
  have hbl : b < w.heap.size := by obtain ⟨pr, hp⟩ := h.blk; exact (Array.getElem?_eq_some_iff.1 hp).1
  have hgl : g < w.heap.size := (Array.getElem?_eq_some_iff.1 hg).1
  have hbig := h.big
  have hlen : pos + 12 + data.length ≤ bs.length := by
    have := congrArg List.length hbs
    simp only [List.length_drop, List.length_append, le4_cases, le8_cases, List.length_cons, List.length_nil] at this
    omega
  have hbs2 : bs.drop (pos + 4) = Lib.leBytes 8 data.length ++ (data ++ rest) := by rw [← List.drop_drop, hbs, le4_cases]; rfl
  have hbs3 : bs.drop (pos + 4 + 8) = data ++ rest := by rw [← List.drop_drop, hbs2, le8_cases]; rfl
  have hR1 := zzRead32_ok b A cap bs pos width (by omega) _ ⟨w.heap.size, 0, none⟩ (.int .u32 0) (w.alloc (.cells #[.int .u32 0] 103)) (rd_alloc h _) hbs (by simp [go_sem]) (by simp [go_sem]) (by show w.heap.size ≠ b; omega) (fun g' o e => by have := (hA g' o e).1; simp; omega)
  have HB := Lib.hid (And.intro hbs2 hbs3); clear hbs hbs2 hbs3
  go_enter Tryz.func217, Tryz.ntmps217
  go_wp2_with fail
  refine hR1.mono ?_
  rintro e w1 ⟨rfl, hR1, hc1, hK1⟩
  have hz1 : w.heap.size < w1.heap.size := by have := hK1.size; simp at this; omega
  have hKa : Kp (fun i => i = b ∨ i = g) w w1 := ((kp_alloc w _).mono (S' := fun i => i = b ∨ i = g) (fun i hi => hi.elim)).trans hK1 (fun i hi => hi.elim (fun e => .inl (.inl e)) (fun e => .inr (by rw [e]; exact Nat.le_refl _)))
  have hg1 : w1.heap[g]? = some (.cells #[x, y, z] 287 (0, 0)) := by
    have := hK1.block g (by simp; omega) (by simp; omega)
    rw [this, Below.heap_alloc w _ g hgl]; exact hg
  have hR2 := zzRead64_ok b A cap bs (pos + 4) data.length (by omega) _ ⟨w1.heap.size, 0, none⟩ (.int .u64 0) (w1.alloc (.cells #[.int .u64 0] 22)) (rd_alloc hR1 _) HB.out.1 (by simp [go_sem]) (by simp [go_sem]) (by show w1.heap.size ≠ b; omega) (fun g' o e => by have := (hA g' o e).1; simp; omega)
  clear hR1 hK1
  go_wp2_with fail
  refine hR2.mono ?_
  rintro e w2 ⟨rfl, hR2, hc2, hK2⟩
  have hz2 : w1.heap.size < w2.heap.size := by have := hK2.size; simp at this; omega
  have hKb : Kp (fun i => i = b ∨ i = g) w w2 := hKa.trans (((kp_alloc w1 _).mono (S' := fun i => i = b ∨ w1.heap.size ≤ i) (fun i hi => hi.elim)).trans hK2 (fun i hi => hi.elim (fun e => .inl (.inl e)) (fun e => .inr (by rw [e]; exact Nat.le_refl _)))) (fun i hi => hi.elim (fun e => .inl (.inl e)) (fun e => .inr (by omega)))
  have hg2 : w2.heap[g]? = some (.cells #[x, y, z] 287 (0, 0)) := by
    have := hK2.block g (by simp; omega) (by simp; omega)
    rw [this, Below.heap_alloc w1 _ g (by omega)]; exact hg1
  have hc5 : w2.cell? ⟨w.heap.size, 0, none⟩ = some (.int .u32 (width : Int)) := by
    have h1 := hK2.cell (p := ⟨w.heap.size, 0, none⟩) (by simp; omega) (by simp; omega)
    rw [h1, World.cell?_of_block (w := w1) (Below.heap_alloc w1 _ _ hz1)]; exact hc1
  clear hKa hK2 hg1 hc1
  go_wp2_with fail
  refine (checkLengths_ok g width data.length h8 hw (by omega) x y z w2 hg2).mono ?_
  rintro e w3 ⟨rfl, hg3, hK3⟩
  have hR3 : RdAt w3 b A cap bs (pos + 4 + 8) := hR2.keep hK3 (by omega) (fun g' o e => (hA g' o e).2)
  have hc7 := (hK3.cell (p := ⟨w1.heap.size, 0, none⟩) hz2 (by simp; omega)).trans hc2
  have hz3 := hK3.size
  have hKc : Kp (fun i => i = b ∨ i = g) w w3 := hKb.trans hK3 (fun i hi => .inl (.inr hi))
  have hmk := make8k .u64 data.length (by omega)
  have hR4 := ReadFull_all b A cap bs (pos + 4 + 8) w3.heap.size data.length (zeros8 data.length).toArray (w3.alloc (.cells (zeros8 data.length).toArray 5)) (rd_alloc hR3 _) (by omega) (heap_alloc_last _ _) (by simp [zeros8_length]) (by omega) (fun g' o e => by have := (hA g' o e).1; omega)
  rw [HB.out.2, List.take_left' rfl] at hR4
  clear hR2 hR3 hKb hK3 hc2 hc5 hg2
  go_wp2_with fail
  refine hR4.mono ?_
  rintro e w4 ⟨rfl, hR4, hg4, hK4⟩
  have hz4 : w3.heap.size < w4.heap.size := by have := hK4.size; simp at this; omega
  have hg5 : w4.heap[g]? = some (.cells #[.int .u32 (width : Int), .int .u64 ((data.length / width : Nat) : Int), z] 287 (0, 0)) := by
    have := hK4.block g (by simp; omega) (by simp; omega)
    rw [this, Below.heap_alloc w3 _ g (by omega)]; exact hg3
  have hKd : Kp (fun i => i = b ∨ i = g) w w4 := hKc.trans (((kp_alloc w3 _).mono (S' := fun i => i = b ∨ w3.heap.size ≤ i) (fun i hi => hi.elim)).trans hK4 (fun i hi => hi.elim (fun e => .inl (.inl e)) (fun e => .inr (by rw [e]; exact Nat.le_refl _)))) (fun i hi => hi.elim (fun e => .inl (.inl e)) (fun e => .inr (by omega)))
  have k2 := (blk_cell' hg5 2).trans (show _ = some z from rfl)
  have kf := blk_free' hg5 2
  clear hKc hK4 hg3 hc7
  go_wp2_with fail
  go_ret
  refine ⟨rfl, hR4.keep (kp_set w4 ⟨g, 2, none⟩ _) (fun e => by simp at e; omega) (fun g' o e => (hA g' o e).2), ⟨w3.heap.size, by omega, row3_set2 hg5 _, (Below.heap_setCell _ _ _ _ (by simp; omega)).trans hg4⟩, Kp.set (S := fun i => i = b ∨ i = g) hKd (.inl (.inr rfl)) _⟩
end Go.Proofs.YtgdgmegpacmgnaaGreatDoor
