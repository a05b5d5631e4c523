/- Multihashes written: UvarintSize, PutUvarint, Encode. -/
import Derived.Test.YtfjclhfhbclbhaaGreatDoorCidb
import Derived.Test.YtfjclhfhbclbhaaGreatDoorShelf
import Derived.Laws.CopyOwn
import Derived.Laws.IdiomCopy
import Derived.Lib.BitFns
import Derived.Lib.ItoaNum
namespace Go.Proofs.YtfjclhfhbclbhaaGreatDoor
open Go.RowKit
set_option linter.unusedVariables false
set_option linter.unusedSimpArgs false
attribute [local go_sem] setCell_drewN alloc_drewN

def usize (b : Nat) : Nat := if 0 < b % 7 ∨ b / 7 = 0 then b / 7 + 1 else b / 7

theorem bitLen_pos {x : Nat} (h : x < 18446744073709551616) (h0 : x ≠ 0) : 1 ≤ Lib.bitLen x := by
  rw [Lib.bitLen_half x h0 h]; omega

theorem usize_eq : ∀ (k x : Nat), x < 128 ^ k → x < 18446744073709551616 → (Lib.uvarint x).length = usize (Lib.bitLen x)
  | 0, x, h, _ => by
    have : x = 0 := by simpa using h
    subst this
    rw [Lib.uvarint_small (by omega)]
    rfl
  | k + 1, x, h, hx => by
    by_cases hs : x < 128
    · rw [Lib.uvarint_small hs]
      have := Lib.bitLen_le x 7 (by omega) (by omega)
      show 1 = _
      unfold usize
      split <;> omega
    · have h1 : x / 128 < 128 ^ k := by rw [Nat.div_lt_iff_lt_mul (by omega)]; rw [Nat.pow_succ] at h; exact h
      have ih := usize_eq k (x / 128) h1 (by omega)
      have hb := Lib.bitLen_shift 7 x (by omega) hx
      have e7 : (2 : Nat) ^ 7 = 128 := by decide
      rw [e7] at hb
      have hp := bitLen_pos (x := x / 128) (by omega) (by omega)
      rw [Lib.uvarint_big (by omega), List.length_cons, ih, hb]
      unfold usize
      split <;> split <;> omega

set_option maxRecDepth 100000 in
set_option maxHeartbeats 800000 in
theorem UvarintSize_ok (x : Nat) (hx : x < 18446744073709551616) (w : World) :
    Calls Tryz.prog 50 #[.int .u64 x] w fun e w' => e = .returned (.int .i64 (Lib.uvarint x).length) ∧ w = w' := by
  have hu := usize_eq 10 x (by have : (128 : Nat) ^ 10 = 1180591620717411303424 := by decide
                               omega) hx
  have hb := Lib.bitLen_le x 64 (by omega) (by have : (2 : Nat) ^ 64 = 18446744073709551616 := by decide
                                               omega)
  have HU := Lib.hid hu; clear hu
  go_enter Tryz.func50, Tryz.ntmps50
  go_wp2_with fail
  refine (Tryz.bits_Len64 x _ (by omega) (by omega)).mono ?_
  rintro e w1 ⟨rfl, rfl⟩
  rw [Int.toNat_natCast]
  generalize Lib.bitLen x = b at *
  by_cases h1 : 0 < b % 7
  · have h1' : (0 : Int) < (b : Int) % 7 := by omega
    have e : ((b : Int) / 7 + 1) = ((Lib.uvarint x).length : Int) := by rw [HU.out, usize, if_pos (.inl h1)]; omega
    have HE := Lib.hid e; clear e
    go_wp2_with fail
    go_ret
    exact ⟨by first | exact congrArg _ (int_eq HE.out) | (rw [← HE.out]; rfl), rfl⟩
  · have h1' : decide ((0 : Int) < (b : Int) % 7) = false := decide_eq_false (by omega)
    by_cases h2 : b / 7 = 0
    · have h2' : (((b : Int) / 7) == 0) = true := beq_iff_eq.2 (by omega)
      have e : ((b : Int) / 7 + 1) = ((Lib.uvarint x).length : Int) := by rw [HU.out, usize, if_pos (.inr h2)]; omega
      have HE := Lib.hid e; clear e
      clear h2
      go_wp2_with fail
      go_ret
      exact ⟨by first | exact congrArg _ (int_eq HE.out) | (rw [← HE.out]; rfl), rfl⟩
    · have h2' : (((b : Int) / 7) == 0) = false := beq_eq_false_iff_ne.2 (by omega)
      have e : ((b : Int) / 7) = ((Lib.uvarint x).length : Int) := by rw [HU.out, usize, if_neg (by omega)]; omega
      have HE := Lib.hid e; clear e
      clear h2
      go_wp2_with fail
      go_ret
      exact ⟨by first | exact congrArg _ (int_eq HE.out) | (rw [← HE.out]; rfl), rfl⟩

theorem splice_set (cur : List Value) (o : Nat) (v : Value) (r : List Value) (h : o < cur.length) : splice (cur.set o v) (o + 1) r = splice cur o (v :: r) := by
  unfold splice
  rw [List.take_set, List.drop_set_of_lt (by omega)]
  have e : (cur.take (o + 1)).set o v = cur.take o ++ [v] := by
    rw [List.take_succ_eq_append_getElem h, List.set_append_right _ _ (by simp; omega)]
    simp [List.length_take, Nat.min_eq_left (Nat.le_of_lt h)]
  rw [e]
  have e2 : o + 1 + r.length = o + (v :: r).length := by simp; omega
  rw [e2]
  simp

theorem heap_setCells (g : Nat) (t : TypeId) : ∀ (vs : List Value) (o : Nat) (cur : List Value) (w : World), w.heap[g]? = some (.cells cur.toArray t (0, 0)) → o + vs.length ≤ cur.length →
    (w.setCells g o vs).heap[g]? = some (.cells (splice cur o vs).toArray t (0, 0))
  | [], o, cur, w, h, _ => by rw [World.setCells, h]; simp [splice]
  | v :: r, o, cur, w, h, hl => by
    rw [World.setCells]
    have h1 : (w.setCell ⟨g, o, none⟩ v).heap[g]? = some (.cells (cur.set o v).toArray t (0, 0)) := by
      simp [World.setCell, Array.getElem?_modify, h]
    rw [heap_setCells g t r (o + 1) (cur.set o v) _ h1 (by simp at hl ⊢; omega), splice_set _ _ _ _ (by simp at hl; omega)]

theorem below_setCells (g : Nat) (B : Nat) (hB : B ≤ g) : ∀ (vs : List Value) (o : Nat) (w : World), Below B w (w.setCells g o vs)
  | [], _, w => Below.refl _ _
  | v :: r, o, w => ((Below.refl B w).setCell (p := ⟨g, o, none⟩) hB v).trans (below_setCells g B hB r (o + 1) _)

theorem PutUvarint_ok (g o n c x : Nat) (hx : x < 18446744073709551616) (cur : List Value) (t : TypeId) (w : World) (hg : w.heap[g]? = some (.cells cur.toArray t (0, 0))) (hn : (Lib.uvarint x).length ≤ n) (hfit : o + (Lib.uvarint x).length ≤ cur.length) :
    Calls Tryz.prog 21 #[.slice (some ⟨g, o, none⟩) n c, .int .u64 x] w fun e w' => e = .returned (.int .i64 (Lib.uvarint x).length) ∧
      w'.heap[g]? = some (.cells (splice cur o (Lib.byteCells (Lib.uvarint x))).toArray t (0, 0)) ∧ (∀ B, B ≤ g → Below B w w') := by
  have hcell : ∀ j, j < (Lib.uvarint x).length → (w.cell? ⟨g, o + j, none⟩).isSome = true ∧ w.frozen? ⟨g, o + j, none⟩ = false := by
    intro j hj
    have hl : o + j < cur.length := by omega
    simp [World.cell?, World.frozen?, hg, hl]
  have hlen : (Lib.byteCells (Lib.uvarint x)).length = (Lib.uvarint x).length := Lib.byteCells_length _
  go_enter Tryz.func21, Tryz.ntmps21
  go_wp2_with fail
  refine (Tryz.binary_PutUvarint g o n c x hx w hn hcell).mono ?_
  rintro e w1 ⟨rfl, rfl⟩
  go_wp2_with fail
  go_ret
  exact ⟨rfl, heap_setCells g t _ o cur w hg (by omega), fun B hB => below_setCells g B hB _ _ _⟩

/-- 'xs[i:]' of a slice whose place is known. -/
theorem cut8a (g o n c m k : Nat) (x : Int) (hx : x = m) (hn : n = m + k) (hc : n ≤ c) :
    ∃ A' : Option Addr, (∀ (kl : IntKind) (W : World), (Instr.slice 27 (.slice (some ⟨g, o, none⟩) n c) (some (.int kl x)) none none).run Tryz.prog W = .ok (.slice A' k (c - m)) W) ∧ (m < c → A' = some ⟨g, o + m, none⟩) := by
  obtain ⟨i, hi, hs⟩ := Option.map_eq_some_iff.1 info_u8
  subst hx
  refine ⟨if c = m then some ⟨g, o, none⟩ else (some (⟨g, o, none⟩ : Addr)).map (·.add m), fun kl W => ?_, fun h => ?_⟩
  · have hel : Tryz.prog.elem 27 = 5 := by simp [Program.elem, Tryz.underlying27]
    have hu : Tryz.prog.underlying 27 = some (.slice (Tryz.prog.elem 27)) := by rw [hel]; exact Tryz.underlying27
    rw [run_slice_l W 27 _ n c hu kl (m : Int) (Int.natCast_nonneg _) (by omega), hel]
    simp [sizeOf, typeInfo, hi, hs, sliced, Result.andThen]
    omega
  · rw [if_neg (by omega)]
    show some ((⟨g, o, none⟩ : Addr).add m) = _
    unfold Addr.add
    split
    · simp_all
    · rfl

theorem madeCells_one (v : Value) (n : Nat) : madeCells #[v] n = (List.replicate n v).toArray := by
  apply Array.ext
  · simp [madeCells]
  · intro i h1 h2
    simp [madeCells, Nat.mod_one]

theorem info3_u8 : (Tryz.prog.info? 5).map (fun i => (i.zero, i.size, i.bytes)) = some (some (.int .u8 0), 1, 1) := by kernel_rfl

def zeros8 (n : Nat) : List Value := List.replicate n (Value.int .u8 0)
theorem zeros8_length (n : Nat) : (zeros8 n).length = n := by simp [zeros8]

theorem make8 (n : Nat) (x : Int) (hx : x = n) (hn : n ≤ 281474976710656) (W : World) : (Instr.makeSlice 27 (.int .i64 x) (.int .i64 x)).run Tryz.prog W = .ok (.slice (some ⟨W.heap.size, 0, none⟩) n n) (W.alloc (.cells (zeros8 n).toArray 5)) := by
  obtain ⟨i0, hi, hz0, hz1, hz2⟩ := info_parts info3_u8
  subst hx
  have h := run_make (P := Tryz.prog) W 27 5 i0 (.int .u8 0) Tryz.underlying27 hi hz0 .i64 .i64 (n : Int) (n : Int) (by omega) (by omega) (by rw [hz2]; omega) (by omega)
  rw [hz1] at h
  simp only [Int.toNat_natCast, Nat.mul_one] at h
  rw [h, show (Value.int .u8 0).cells = #[Value.int .u8 0] from rfl, madeCells_one]; rfl

set_option maxRecDepth 100000 in
set_option maxHeartbeats 1600000 in
theorem Encode_ok (code : Nat) (hcode : code < 9223372036854775808) (dig : List UInt8) (hdig : dig.length ≤ 2147483647) (A : Option Addr) (c : Nat) (w : World) (h : BytesAt w A dig) (hc : dig.length ≤ c) :
    Calls Tryz.prog 29 #[.slice A dig.length c, .int .u64 code] w fun e w' => ∃ g, e = .returned (.tuple #[.slice (some ⟨g, 0, none⟩) (mhOf code dig).length (mhOf code dig).length, .nilIface]) ∧
      w'.heap[g]? = some (.cells (Lib.byteCells (mhOf code dig)).toArray 5 (0, 0)) ∧ Below w.heap.size w w' ∧ w.heap.size ≤ g := by
  have h1 := uvarint_le9 hcode
  have h2 := uvarint_le9 (n := dig.length) (by omega)
  have h3 := Lib.uvarint_pos code
  have h4 := Lib.uvarint_pos dig.length
  have hT : (mhOf code dig).length = (Lib.uvarint code).length + ((Lib.uvarint dig.length).length + dig.length) := by simp
  generalize hTT : (mhOf code dig).length = T at *
  have HTT := Lib.hid hTT; clear hTT
  have HT := Lib.hid hT; clear hT
  go_enter Tryz.func29, Tryz.ntmps29
  go_wp2_with fail
  refine (UvarintSize_ok code (by omega) _).mono ?_
  rintro e w1 ⟨rfl, rfl⟩
  go_wp2_with fail
  refine (UvarintSize_ok dig.length (by omega) _).mono ?_
  rintro e w1 ⟨rfl, rfl⟩
  have hmk := fun W => make8 T (((Lib.uvarint code).length : Int) + ((Lib.uvarint dig.length).length : Int) + (dig.length : Int)) (by rw [HT.out]; omega) (by rw [HT.out]; omega) W
  go_wp2_with fail
  have hpu := PutUvarint_ok w.heap.size 0 T T code (by omega) (zeros8 T) 5 (w.alloc (.cells (zeros8 T).toArray 5)) (heap_alloc_new _ _) (by rw [HT.out]; omega) (by rw [zeros8_length, HT.out]; omega)
  refine hpu.mono ?_
  clear hpu hmk
  rintro e w1 ⟨rfl, hg1, hb1⟩
  have hb1' := hb1 w.heap.size (Nat.le_refl _)
  obtain ⟨A2, hcut2, hA2⟩ := cut8a w.heap.size 0 T T (Lib.uvarint code).length ((Lib.uvarint dig.length).length + dig.length) ((Lib.uvarint code).length : Int) rfl HT.out (Nat.le_refl _)
  obtain rfl := hA2 (by rw [HT.out]; omega)
  clear hA2
  rw [Nat.zero_add] at *
  have HG1 := Lib.hid hg1; clear hg1
  go_wp2_with fail
  have hpu := PutUvarint_ok w.heap.size (Lib.uvarint code).length ((Lib.uvarint dig.length).length + dig.length) (T - (Lib.uvarint code).length) dig.length (by omega) _ 5 w1 HG1.out (by omega) (by rw [length_splice _ _ _ (by rw [zeros8_length, Lib.byteCells_length, HT.out]; omega), zeros8_length, HT.out]; omega)
  refine hpu.mono ?_
  clear hpu
  rintro e w2 ⟨rfl, hg2, hb2⟩
  have hb2' := hb2 w.heap.size (Nat.le_refl _)
  obtain ⟨A3, hcut3, hA3⟩ := cut8a w.heap.size 0 T T ((Lib.uvarint code).length + (Lib.uvarint dig.length).length) dig.length (((Lib.uvarint code).length : Int) + ((Lib.uvarint dig.length).length : Int)) (by omega) (by rw [HT.out]; omega) (Nat.le_refl _)
  have HG2 := Lib.hid hg2; clear hg2
  have hbw : Below w.heap.size w w2 := ((below_boxed w _).trans hb1').trans hb2'
  have hA4 := h.below hbw
  have hl2 : (splice (splice (zeros8 T) 0 (Lib.byteCells (Lib.uvarint code))) (Lib.uvarint code).length (Lib.byteCells (Lib.uvarint dig.length))).length = T := by
    rw [length_splice, length_splice, zeros8_length]
    · rw [zeros8_length, Lib.byteCells_length, HT.out]; omega
    · rw [length_splice _ _ _ (by rw [zeros8_length, Lib.byteCells_length, HT.out]; omega), zeros8_length, Lib.byteCells_length, HT.out]; omega
  have HL2 := Lib.hid hl2; clear hl2
  go_wp2_with (with_reducible refine wpList_copy_splice rfl (.tmp 33) (.tmp 34) 27 27 rfl 5 Tryz.underlying27 info_u8 A3 A dig.length (T - ((Lib.uvarint code).length + (Lib.uvarint dig.length).length)) dig.length c rfl rfl w.heap.size ((Lib.uvarint code).length + (Lib.uvarint dig.length).length) _ 5 HG2.out (Lib.byteCells dig) ?hn ?hpos ?hfit ?h1 w.heap.size w hbw (Nat.le_refl _) ?_)
  case hn => rw [Lib.byteCells_length]; simp
  case hpos =>
    rw [Lib.byteCells_length]
    intro hp
    refine ⟨?_, ?_⟩
    · rw [hA3 (by rw [HT.out]; omega), Nat.zero_add]
    · rcases hA4 with hA4 | ⟨g, o, e, hcell⟩
      · rw [hA4] at hp; simp at hp
      · refine ⟨⟨g, o, none⟩, e, fun j v hj => ?_⟩
        rw [show (⟨g, o, none⟩ : Addr).add j = ⟨g, o + j, none⟩ from by unfold Addr.add; split <;> simp_all]
        unfold Lib.byteCells at hj
        rw [List.getElem?_map] at hj
        obtain ⟨x, hx, rfl⟩ := Option.map_eq_some_iff.1 hj
        exact hcell j x hx
  case hfit => rw [Lib.byteCells_length, HL2.out, HT.out]; omega
  case h1 => intro v hv; unfold Lib.byteCells at hv; obtain ⟨x, _, rfl⟩ := List.mem_map.1 hv; rfl
  intro w3 hg3 hb3
  go_wp2_with fail
  go_ret2
  refine ⟨_, rfl, ?_, hb3, Nat.le_refl _⟩
  rw [hg3.out, splice_splice_splice _ _ _ _ _ _ (Lib.byteCells_length _) (Lib.byteCells_length _) (by rw [zeros8_length, Lib.byteCells_length, HT.out]; omega), ← Lib.byteCells_append, ← Lib.byteCells_append]
end Go.Proofs.YtfjclhfhbclbhaaGreatDoor
