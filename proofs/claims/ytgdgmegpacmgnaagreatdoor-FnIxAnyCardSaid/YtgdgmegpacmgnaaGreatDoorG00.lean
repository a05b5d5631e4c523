import Derived.WalkKit
import Derived.WalkLawsBesides
import Derived.WalkSpells
import Derived.KernelRfl
import Derived.Lib.Varint
import Derived.Lib.UnsafeStr
import Derived.Lib.ConvBytes
import Derived.Lib.Hide
import Derived.Test.YtgdgmegpacmgnaaGreatDoorProg
import Derived.Outline
import Derived.Deep.QuietTactic
import Derived.BigQuiet
import Derived.Laws.BitsAllLaws
/- Plain words of these proofs: bytes that lie in memory, varints, and small laws on numbers. -/
namespace Go.Proofs.YtgdgmegpacmgnaaGreatDoor
open Go.RowKit

/-- The bytes that a slice at A begins with. -/
def BytesAt (w : World) (A : Option Addr) (bs : List UInt8) : Prop :=
  bs = [] ∨ ∃ g o, A = some ⟨g, o, none⟩ ∧ ∀ j x, bs[j]? = some x → w.cell? ⟨g, o + j, none⟩ = some (.int .u8 (x.toNat : Int))

theorem BytesAt.below {w w' : World} {A : Option Addr} {bs : List UInt8} (h : BytesAt w A bs) (hb : Below w.heap.size w w') : BytesAt w' A bs := by
  rcases h with h | ⟨g, o, e, hc⟩
  · exact .inl h
  · exact .inr ⟨g, o, e, fun j x hj => (hb.cell (World.block_lt_of_cell? w _ (hc j x hj))).trans (hc j x hj)⟩

theorem BytesAt.cons {w : World} {g o : Nat} {b : UInt8} {bs : List UInt8} (h : BytesAt w (some ⟨g, o, none⟩) (b :: bs)) : w.cell? ⟨g, o, none⟩ = some (.int .u8 (b.toNat : Int)) := by
  rcases h with h | ⟨g', o', e, hc⟩
  · cases h
  · cases e
    exact hc 0 b rfl

theorem nat_or_add (x b s : Nat) (h : x < 2 ^ s) : x ||| b * 2 ^ s = x + b * 2 ^ s := by
  rw [Nat.or_comm, Nat.mul_comm, ← Nat.two_pow_add_eq_or_of_lt h, Nat.add_comm]

theorem bcell {W w1 : World} (hb : Below W.heap.size W w1) : (∀ b o, b < W.heap.size → w1.cell? ⟨b, o, none⟩ = W.cell? ⟨b, o, none⟩) ∧ (∀ b o, b < W.heap.size → w1.frozen? ⟨b, o, none⟩ = W.frozen? ⟨b, o, none⟩) :=
  ⟨fun b o h => hb.cell (p := ⟨b, o, none⟩) h, fun b o h => hb.frozen (p := ⟨b, o, none⟩) h⟩

theorem BytesAt.bytesWorld (W : World) (e : TypeId) (s : ByteArray) : BytesAt (Lib.bytesWorld W e s) (some ⟨W.heap.size, 0, none⟩) s.data.toList := by
  refine .inr ⟨_, _, rfl, fun j x hj => ?_⟩
  have hj' : j < s.size := by
    have h := (List.getElem?_eq_some_iff.1 hj).1
    rw [Array.length_toList] at h; exact h
  rw [Nat.zero_add, Lib.bytesWorld_cell W e s j hj']
  simp [List.getD_eq_getElem?_getD, hj]

theorem bytesWorld_below (W : World) (e : TypeId) (s : ByteArray) : Below W.heap.size W (Lib.bytesWorld W e s) :=
  ⟨rfl, rfl, rfl, by rw [Lib.bytesWorld_size]; omega, fun i hi => Lib.bytesWorld_at_old W e s i hi⟩

theorem below_drewn {w w1 : World} (h : Below w.heap.size w w1) (n : Nat) : Below w.heap.size w (w1.drewN n) := ⟨h.os, h.tape, h.output, h.size, h.block⟩
theorem below_drew1 {w w1 : World} (h : Below w.heap.size w w1) : Below w.heap.size w w1.drew := ⟨h.os, h.tape, h.output, h.size, h.block⟩
theorem below_bytes {w w1 : World} (h : Below w.heap.size w w1) (e : TypeId) (s : ByteArray) : Below w.heap.size w (Lib.bytesWorld w1 e s) := h.trans ((bytesWorld_below w1 e s).mono h.size)
theorem below_set {w w1 : World} (h : Below w.heap.size w w1) {p : Addr} (hp : w.heap.size ≤ p.block) (v : Value) : Below w.heap.size w (w1.setCell p v) := h.setCell hp v
/-- Two steps, each of which keeps what was there. -/
theorem below_next {w w1 w2 : World} (h : Below w.heap.size w w1) (k : Below w1.heap.size w1 w2) : Below w.heap.size w w2 := h.trans (k.mono h.size)
theorem below_box {w w1 : World} (h : Below w.heap.size w w1) (o : Obj) : Below w.heap.size w (w1.alloc o) := h.alloc h.size o
theorem below_boxed (w : World) (o : Obj) : Below w.heap.size w (w.alloc o) := (Below.refl _ _).alloc (Nat.le_refl _) o

/-- The block in which a slice of bytes lies is a row of bytes of type t. -/
def ByteBlk (w : World) (t : TypeId) (A : Option Addr) : Prop := ∀ ad, A = some ad → ∃ cs fr, w.heap[ad.block]? = some (.cells cs t fr)

theorem ByteBlk.below {w w' : World} {t : TypeId} {A : Option Addr} (h : ByteBlk w t A) (hb : Below w.heap.size w w') : ByteBlk w' t A := by
  intro ad e
  obtain ⟨cs, fr, hh⟩ := h ad e
  exact ⟨cs, fr, (hb.block _ (Array.getElem?_eq_some_iff.1 hh).1).trans hh⟩

theorem ByteBlk.bytesWorld (W : World) (e : TypeId) (s : ByteArray) : ByteBlk (Lib.bytesWorld W e s) e (some ⟨W.heap.size, 0, none⟩) := by
  intro ad h
  cases h
  exact ⟨_, _, Lib.bytesWorld_at_new W e s⟩

/-- Where a slice begins: from block B on. -/
def From (B : Nat) (A : Option Addr) : Prop := ∀ ad, A = some ad → B ≤ ad.block
theorem From.mono {B B' : Nat} {A : Option Addr} (h : From B A) (hb : B' ≤ B) : From B' A := fun ad e => Nat.le_trans hb (h ad e)

/-- 'xs[i:]' of a slice of bytes. -/
theorem cut_run {P : Program} (t e : TypeId) {i : TypeInfo} (ht : P.underlying t = some (.slice e)) (hi : P.info? e = some i) (hsz : i.size = 1) (A : Option Addr) (n c m k : Nat) (x : Int) (hx : x = m) (hn : n = m + k) (hc : n ≤ c) :
    ∃ A' : Option Addr, (∀ (kl : IntKind) (W : World), (Instr.slice t (.slice A n c) (some (.int kl x)) none none).run P W = .ok (.slice A' k (c - m)) W) ∧
      (∀ (w : World) (bs : List UInt8), bs.length = n → BytesAt w A bs → BytesAt w A' (bs.drop m)) ∧ (∀ w b, ByteBlk w b A → ByteBlk w b A') ∧ (∀ B, From B A → From B A') := by
  subst hx
  refine ⟨if c = m then A else A.map (·.add m), fun kl W => ?_, fun w bs hl h => ?_, fun w b h => ?_, fun B h => ?_⟩
  · have hel : P.elem t = e := by simp [Program.elem, ht]
    have hu : P.underlying t = some (.slice (P.elem t)) := by rw [hel]; exact ht
    rw [run_slice_l W t A n c hu kl (m : Int) (Int.natCast_nonneg _) (by omega), hel]
    simp [sizeOf, typeInfo, hi, hsz, sliced, Result.andThen]
    omega
  · rcases h with h | ⟨g, o, e, hcell⟩
    · exact .inl (by rw [h]; simp)
    · by_cases hcm : c = m
      · rw [if_pos hcm]
        exact .inl (by rw [List.drop_eq_nil_iff]; omega)
      · rw [if_neg hcm, e]
        refine .inr ⟨g, o + m, ?_, fun j y hj => ?_⟩
        · show some ((⟨g, o, none⟩ : Addr).add m) = _
          unfold Addr.add
          split
          · simp_all
          · rfl
        · rw [List.getElem?_drop] at hj
          have := hcell (m + j) y hj
          rw [Nat.add_assoc]; exact this
  · intro ad e
    by_cases hcm : c = m
    · rw [if_pos hcm] at e; exact h ad e
    · rw [if_neg hcm] at e
      obtain ⟨a0, ha0, rfl⟩ := Option.map_eq_some_iff.1 e
      obtain ⟨cs, fr, hh⟩ := h a0 ha0
      refine ⟨cs, fr, ?_⟩
      have : (a0.add m).block = a0.block := by unfold Addr.add; split <;> rfl
      rw [this]; exact hh
  · intro ad e
    by_cases hcm : c = m
    · rw [if_pos hcm] at e; exact h ad e
    · rw [if_neg hcm] at e
      obtain ⟨a0, ha0, rfl⟩ := Option.map_eq_some_iff.1 e
      have : (a0.add m).block = a0.block := by unfold Addr.add; split <;> rfl
      rw [this]; exact h a0 ha0

/-- The slice at A' holds bs' in whatever world the slice at A holds bs: it is a part of it. -/
structure Sub (A : Option Addr) (bs : List UInt8) (A' : Option Addr) (bs' : List UInt8) : Prop where
  bytes : ∀ w, BytesAt w A bs → BytesAt w A' bs'
  blk : ∀ w t, ByteBlk w t A → ByteBlk w t A'
  frm : ∀ B, From B A → From B A'
theorem Sub.refl (A : Option Addr) (bs : List UInt8) : Sub A bs A bs := ⟨fun _ h => h, fun _ _ h => h, fun _ h => h⟩
theorem Sub.trans {A B C : Option Addr} {a b c : List UInt8} (h : Sub A a B b) (k : Sub B b C c) : Sub A a C c :=
  ⟨fun w x => k.bytes w (h.bytes w x), fun w t x => k.blk w t (h.blk w t x), fun n x => k.frm n (h.frm n x)⟩

theorem BytesAt.upd {w w' : World} {A : Option Addr} {bs : List UInt8} (h : BytesAt w A bs) (hk : ∀ ad, A = some ad → w'.heap[ad.block]? = w.heap[ad.block]?) : BytesAt w' A bs := by
  rcases h with h | ⟨g, o, e, hc⟩
  · exact .inl h
  · exact .inr ⟨g, o, e, fun j x hj => (World.cell?_of_block (w := w) (show w'.heap[(⟨g, o + j, none⟩ : Addr).block]? = w.heap[(⟨g, o + j, none⟩ : Addr).block]? from hk ⟨g, o, none⟩ e)).trans (hc j x hj)⟩
theorem ByteBlk.upd {w w' : World} {t : TypeId} {A : Option Addr} (h : ByteBlk w t A) (hk : ∀ ad, A = some ad → w'.heap[ad.block]? = w.heap[ad.block]?) : ByteBlk w' t A := by
  intro ad e
  obtain ⟨cs, fr, hh⟩ := h ad e
  exact ⟨cs, fr, (hk ad e).trans hh⟩
/-- A store into a block below B, at a slice from B on. -/
theorem BytesAt.set {w : World} {A : Option Addr} {bs : List UInt8} {B : Nat} (h : BytesAt w A bs) (hF : From B A) {p : Addr} (hp : p.block < B) (v : Value) : BytesAt (w.setCell p v) A bs :=
  h.upd fun ad e => Below.heap_setCell w p v _ (by have := hF ad e; omega)
theorem ByteBlk.set {w : World} {t : TypeId} {A : Option Addr} {B : Nat} (h : ByteBlk w t A) (hF : From B A) {p : Addr} (hp : p.block < B) (v : Value) : ByteBlk (w.setCell p v) t A :=
  h.upd fun ad e => Below.heap_setCell w p v _ (by have := hF ad e; omega)
theorem BytesAt.drew {w : World} {A : Option Addr} {bs : List UInt8} (h : BytesAt w A bs) : BytesAt w.drew A bs := h
theorem BytesAt.drewN {w : World} {A : Option Addr} {bs : List UInt8} (h : BytesAt w A bs) (m : Nat) : BytesAt (w.drewN m) A bs := h
theorem ByteBlk.drew {w : World} {t : TypeId} {A : Option Addr} (h : ByteBlk w t A) : ByteBlk w.drew t A := h

/-- One operation, run. -/
theorem event_run {P : Program} {ops : Array Oper} {rest : List Oper} {o : Oper} {a : Act} {Q : Exit → Act → World → Prop} {W w1 : World} {v : Value} (hgd : o.guard = none)
    (hrun : (execOp a.eval o).run P W = .ok (.value v) w1) (h : wpList P ops Q rest (a.put o.dst v) w1) : wpList P ops Q (o :: rest) a W := by
  refine wpList_plain hgd fun K hK => ?_
  unfold Oper.wp
  rw [hrun]
  exact hK _ _ h

/-- '[]byte(s)' as one event: a name for the new block, one for the world behind it. -/
theorem conv_event {P : Program} {ops : Array Oper} {rest : List Oper} {o : Oper} {a : Act} {Q : Exit → Act → World → Prop} {W : World} (hgd : o.guard = none) (x : Operand) (src dst e : TypeId) {u : TypeDesc}
    (ho : o.op = .convert src dst x) (hs : P.underlying src = some u) (hd : P.underlying dst = some (.slice e)) (he : P.underlying e = some (.int .u8)) (s : ByteArray) (hx : a.eval x = .string s)
    (h : ∀ g c w1, g = W.heap.size → s.size ≤ c → Below W.heap.size W w1 → BytesAt w1 (some ⟨g, 0, none⟩) s.data.toList → ByteBlk w1 e (some ⟨g, 0, none⟩) → wpList P ops Q rest (a.put o.dst (.slice (some ⟨g, 0, none⟩) s.size c)) w1) :
    wpList P ops Q (o :: rest) a W := by
  refine event_run hgd (v := .slice (some ⟨W.heap.size, 0, none⟩) s.size (grownCap W s.size 0 e)) (w1 := Lib.bytesWorld W e s) ?_ (h _ _ _ rfl (grownCap_ge _ _ _ _) (bytesWorld_below _ _ _) (BytesAt.bytesWorld _ _ _) (ByteBlk.bytesWorld _ _ _))
  have := Lib.run_convert_string_bytes (P := P) W src dst e s hs hd he
  simp [execOp, ho, hx, this]

theorem bcellB {B : Nat} {W w1 : World} (hb : Below B W w1) : (∀ b o, b < B → w1.cell? ⟨b, o, none⟩ = W.cell? ⟨b, o, none⟩) ∧ (∀ b o, b < B → w1.frozen? ⟨b, o, none⟩ = W.frozen? ⟨b, o, none⟩) :=
  ⟨fun b o h => hb.cell (p := ⟨b, o, none⟩) h, fun b o h => hb.frozen (p := ⟨b, o, none⟩) h⟩

end Go.Proofs.YtgdgmegpacmgnaaGreatDoor

/- Varints: what the program reads of them, and writes. -/
namespace Go.Proofs.YtgdgmegpacmgnaaGreatDoor
open Go.RowKit
set_option linter.unusedVariables false
set_option linter.unusedSimpArgs false

theorem pow_bound {n acc y k : Nat} (hn : n < 9223372036854775808) (hv : n = acc + y * 2 ^ (7 * k)) (hy : k = 0 ∨ 0 < y) : k < 9 := by
  rcases hy with h | h
  · omega
  · have h1 : 2 ^ (7 * k) ≤ y * 2 ^ (7 * k) := Nat.le_mul_of_pos_left _ h
    have h2 : 2 ^ (7 * k) < 2 ^ 63 := by have : (2 : Nat) ^ 63 = 9223372036854775808 := by decide
                                         omega
    have h3 := (Nat.pow_lt_pow_iff_right (by omega : 1 < 2)).1 h2
    omega

theorem or_nat (acc m p y n : Nat) (hm : m = y * 2 ^ p) (hacc : acc < 2 ^ p) (hn : n < 18446744073709551616) (hv : n = acc + y * 2 ^ p) : bits .or .u64 (acc : Int) (m : Int) = (n : Int) := by
  subst hm
  rw [u64_or_nat _ _ (by omega) (by omega), nat_or_add _ _ _ hacc, hv]

theorem or_int (acc : Nat) (m : Int) (p y n : Nat) (hm : m = ((y * 2 ^ p : Nat) : Int)) (hacc : acc < 2 ^ p) (hn : n < 18446744073709551616) (hv : n = acc + y * 2 ^ p) : bits .or .u64 (acc : Int) m = (n : Int) := by
  rw [hm]; exact or_nat _ _ p y n rfl hacc hn hv

theorem u64_wrap_nat (m : Nat) (h : m < 18446744073709551616) : IntKind.u64.wrap (m : Int) = (m : Int) := by rw [IntKind.wrap_u64]; omega

theorem u8_and127n (z : Nat) (h : z < 256) : bits .and .u8 (z : Int) 127 = ((z % 128 : Nat) : Int) := by
  have := u8_and_nat z 127 h (by omega)
  rw [show (127 : Int) = ((127 : Nat) : Int) from rfl, this]
  congr 1
  exact Nat.and_two_pow_sub_one_eq_mod z 7

theorem pow_cast (k : Nat) : ((2 : Int) ^ k) = ((2 ^ k : Nat) : Int) := by simp

theorem or_done {acc y k n : Nat} (hn : n < 9223372036854775808) (hacc : acc < 2 ^ (7 * k)) (hv : n = acc + y * 2 ^ (7 * k)) :
    bits .or .u64 (acc : Int) (IntKind.u64.wrap ((y : Int) * 2 ^ (7 * k))) = (n : Int) := by
  have e : ((y : Int) * 2 ^ (7 * k)) = ((y * 2 ^ (7 * k) : Nat) : Int) := by rw [pow_cast]; simp
  rw [e, u64_wrap_nat _ (by omega)]
  exact or_nat _ _ _ _ _ rfl hacc (by omega) hv

theorem tuple3 {a a' b b' c : Value} (h1 : a = a') (h2 : b = b') : Ending.returned (.tuple #[a, b, c]) = .returned (.tuple #[a', b', c]) := by rw [h1, h2]
theorem int_eq {k : IntKind} {a b : Int} (h : a = b) : Value.int k a = .int k b := by rw [h]

theorem pow_step (acc y k : Nat) : acc + y * 2 ^ (7 * k) = acc + y % 128 * 2 ^ (7 * k) + y / 128 * 2 ^ (7 * (k + 1)) := by
  have e : 2 ^ (7 * (k + 1)) = 128 * 2 ^ (7 * k) := by rw [Nat.mul_add, Nat.pow_add]; omega
  rw [e, ← Nat.mul_assoc, Nat.add_assoc, ← Nat.add_mul]
  congr 2
  omega

theorem pow_lt_step {acc y k : Nat} (h : acc < 2 ^ (7 * k)) : acc + y % 128 * 2 ^ (7 * k) < 2 ^ (7 * (k + 1)) := by
  have e : 2 ^ (7 * (k + 1)) = 128 * 2 ^ (7 * k) := by rw [Nat.mul_add, Nat.pow_add]; omega
  have h1 : y % 128 * 2 ^ (7 * k) ≤ 127 * 2 ^ (7 * k) := Nat.mul_le_mul_right _ (by omega)
  omega

theorem or_more {acc y k n z : Nat} (hn : n < 9223372036854775808) (hacc : acc < 2 ^ (7 * k)) (hv : n = acc + y * 2 ^ (7 * k)) (hz : y % 128 + 128 = z) :
    bits .or .u64 (acc : Int) (IntKind.u64.wrap (IntKind.u64.wrap (bits .and .u8 (z : Int) 127) * 2 ^ (7 * k))) = ((acc + y % 128 * 2 ^ (7 * k) : Nat) : Int) := by
  have h0 : bits .and .u8 (z : Int) 127 = ((y % 128 : Nat) : Int) := by
    rw [u8_and127n z (by omega)]; omega
  have h1 : y % 128 * 2 ^ (7 * k) ≤ y * 2 ^ (7 * k) := Nat.mul_le_mul_right _ (Nat.mod_le _ _)
  rw [h0, u64_wrap_nat _ (by omega)]
  have e : (((y % 128 : Nat) : Int) * 2 ^ (7 * k)) = ((y % 128 * 2 ^ (7 * k) : Nat) : Int) := by rw [pow_cast]; simp
  rw [e, u64_wrap_nat _ (by omega)]
  exact or_nat _ _ (7 * k) (y % 128) _ rfl hacc (by omega) rfl

set_option maxRecDepth 100000 in
set_option maxHeartbeats 800000 in
theorem FromUvarint_ok (n : Nat) (hn : n < 9223372036854775808) (rest : List UInt8) (A : Option Addr) (c : Nat) (w : World) (h : BytesAt w A (Lib.uvarint n ++ rest)) (hl : (Lib.uvarint n ++ rest).length ≤ 140737488355328) :
    Calls Tryz.prog 148 #[.slice A (Lib.uvarint n ++ rest).length c] w fun e w' => e = .returned (.tuple #[.int .u64 n, .int .i64 (Lib.uvarint n).length, .nilIface]) ∧ w = w' := by
  have hpos := Lib.uvarint_pos n
  rcases h with h | ⟨g, o, rfl, hc⟩
  · have := congrArg List.length h; rw [List.length_append, List.length_nil] at this; omega
  have hlen : (Lib.uvarint n ++ rest).length = (Lib.uvarint n).length + rest.length := by simp
  have HL := Lib.hid hlen
  generalize hM : (Lib.uvarint n ++ rest).length = M at *
  clear hlen
  have HM := Lib.hid hM; clear hM
  go_enter Tryz.func148, Tryz.ntmps148
  go_wp2
  go_loop [5, 6, 11] (fun vx vs vi => ∃ (k y acc : Nat) (pre : List UInt8), vi = .int .i64 k ∧ vs = .int .u64 ((7 * k : Nat) : Int) ∧ vx = .int .u64 acc ∧ pre.length = k ∧ Lib.uvarint n = pre ++ Lib.uvarint y ∧ acc < 2 ^ (7 * k) ∧ n = acc + y * 2 ^ (7 * k) ∧ (k = 0 ∨ 0 < y))
    (fun _ _ vi => M - (intOf vi).toNat)
  case atStart => exact ⟨0, n, 0, [], rfl, rfl, rfl, rfl, rfl, by decide, by simp, .inl rfl⟩
  case round =>
    obtain ⟨k, y, acc, pre, rfl, rfl, rfl, hk, hsplit, hacc, hval, hy⟩ := hrel
    by_cases hb : y < 128
    · have hcell : w.cell? ⟨g, o + k, none⟩ = some (.int .u8 (y : Int)) := by
        have := hc k y.toUInt8 (by rw [hsplit, Lib.uvarint_small hb, List.append_assoc]; simp [← hk])
        rw [this]; simp; omega
      have hk9 : k < 9 := pow_bound hn hval hy
      have hkM : k < M := by have := congrArg List.length hsplit; rw [List.length_append, hk] at this; have := HL.out; have := Lib.uvarint_pos y; omega
      have hy0 : y = 0 → k = 0 := by omega
      have HK : Hid (((k : Int) + 1) = ((Lib.uvarint n).length : Int)) := by
        have := congrArg List.length hsplit
        rw [List.length_append, hk, Lib.uvarint_small hb] at this
        show ((k : Int) + 1) = ((Lib.uvarint n).length : Int)
        rw [this]; simp
      have H1 := Lib.hid hsplit; clear hsplit
      have H2 := Lib.hid hval; clear hval
      have H3 := Lib.hid hk; clear hk
      have hk9' : (k : Int) < 9 := by omega
      have hyb : (y : Int) < 128 := by omega
      go_wp2
      · go_ret3
        have hk8 : (k : Int) = 8 := by assumption
        obtain rfl : k = 8 := by omega
        have hv := H2.out
        exact ⟨tuple3 (int_eq (or_int acc _ 56 y n (by simp) hacc (by omega) hv)) (int_eq HK.out), rfl⟩
      · go_ret3
        have hy1 : y = 0 := by assumption
        obtain rfl := hy0 hy1
        subst hy1
        have hv := H2.out
        exact ⟨tuple3 (int_eq (or_int acc _ 0 0 n (by simp) hacc (by omega) hv)) (int_eq HK.out), rfl⟩
      · go_ret3
        exact ⟨tuple3 (int_eq (or_done hn hacc H2.out)) (int_eq HK.out), rfl⟩
    · have hcell : w.cell? ⟨g, o + k, none⟩ = some (.int .u8 ((y % 128 + 128 : Nat) : Int)) := by
        have := hc k (y % 128 + 128).toUInt8 (by rw [hsplit, Lib.uvarint_big (by omega), List.append_assoc]; simp [← hk])
        rw [this]; simp; omega
      have hy9 : 0 < y := by omega
      have hk9 : k + 1 < 9 := pow_bound (y := y / 128) (acc := acc + y % 128 * 2 ^ (7 * k)) hn (by rw [hval]; exact pow_step acc y k) (.inr (by omega))
      have hkM : k < M := by have := congrArg List.length hsplit; rw [List.length_append, hk] at this; have := HL.out; have := Lib.uvarint_pos y; omega
      have H1 := Lib.hid hsplit; clear hsplit
      have H2 := Lib.hid hval; clear hval
      have H3 := Lib.hid hk; clear hk
      have hk9' : (k : Int) < 8 := by omega
      have hk8f : ((k : Int) == 8) = false := by simp; omega
      generalize hz : y % 128 + 128 = z at hcell
      have hzb : 128 ≤ (z : Int) := by omega
      have hzb2 : (z : Int) < 256 := by omega
      have HZ := Lib.hid hz; clear hz
      go_wp2
      go_round
      case rel =>
        refine ⟨k + 1, y / 128, acc + y % 128 * 2 ^ (7 * k), pre ++ [(y % 128 + 128).toUInt8], by go_num, by go_num, ?_, by simp [H3.out], by rw [H1.out, Lib.uvarint_big (by omega)]; simp, pow_lt_step hacc, ?_, .inr (by omega)⟩
        · exact int_eq (or_more hn hacc H2.out HZ.out)
        · rw [H2.out]; exact pow_step acc y k
      case measure => simp [intOf]; omega

/-- The same at a slice of which the bytes are told by an equation. -/
theorem FromUvarint_at (n : Nat) (hn : n < 9223372036854775808) (bs rest : List UInt8) (A : Option Addr) (M c : Nat) (w : World) (h : BytesAt w A bs) (hb : bs = Lib.uvarint n ++ rest) (hM : bs.length = M) (hl : M ≤ 140737488355328) :
    Calls Tryz.prog 148 #[.slice A M c] w fun e w' => e = .returned (.tuple #[.int .u64 n, .int .i64 (Lib.uvarint n).length, .nilIface]) ∧ w = w' := by
  subst hb; subst hM
  exact FromUvarint_ok n hn rest A c w h hl

theorem str_at {s : ByteArray} {l : List UInt8} (h : s.data.toList = l) (k : Nat) (x : UInt8) (hx : l[k]? = some x) : ∀ hk : k < s.size, (s[k]'hk) = x := by
  intro hk
  subst h
  have hk' : k < s.data.toList.length := by simpa using hk
  rw [List.getElem?_eq_getElem hk'] at hx
  have := Option.some.inj hx
  rw [← this]; rfl

theorem str_size {s : ByteArray} {l : List UInt8} (h : s.data.toList = l) : s.size = l.length := by
  subst h; rw [Array.length_toList]; rfl


theorem info_u8 : (Tryz.prog.info? 5).map (fun i => i.size) = some 1 := by kernel_rfl

theorem cut8 (A : Option Addr) (n c m k : Nat) (x : Int) (hx : x = m) (hn : n = m + k) (hc : n ≤ c) :
    ∃ A' : Option Addr, (∀ (kl : IntKind) (W : World), (Instr.slice 42 (.slice A n c) (some (.int kl x)) none none).run Tryz.prog W = .ok (.slice A' k (c - m)) W) ∧
      (∀ (w : World) (bs : List UInt8), bs.length = n → BytesAt w A bs → BytesAt w A' (bs.drop m)) ∧ (∀ w b, ByteBlk w b A → ByteBlk w b A') ∧ (∀ B, From B A → From B A') := by
  obtain ⟨i, hi, hs⟩ := Option.map_eq_some_iff.1 info_u8
  exact cut_run 42 5 Tryz.underlying42 hi hs A n c m k x hx hn hc
end Go.Proofs.YtgdgmegpacmgnaaGreatDoor

/- Identifiers: an identifier's text taken apart. -/
namespace Go.Proofs.YtgdgmegpacmgnaaGreatDoor
open Go.RowKit
set_option linter.unusedVariables false
set_option linter.unusedSimpArgs false

/-- What is known of an identifier: of version 0 the text is 0x12, 0x20 and the digest of 32 bytes; of version 1: 1, codec, code, length, digest. -/
structure CidOf where
  ver : Nat
  codec : Nat
  code : Nat
  dig : List UInt8

def CidOf.mh (c : CidOf) : List UInt8 := Lib.uvarint c.code ++ (Lib.uvarint c.dig.length ++ c.dig)
def CidOf.bytes (c : CidOf) : List UInt8 := if c.ver = 0 then c.mh else Lib.uvarint 1 ++ (Lib.uvarint c.codec ++ c.mh)
def CidOf.str (c : CidOf) : ByteArray := ⟨c.bytes.toArray⟩

/-- A tidy one with a digest of at most 200 bytes. -/
structure CidOf.Ok (c : CidOf) : Prop where
  ver : c.ver = 0 ∧ c.codec = 112 ∧ c.code = 18 ∧ c.dig.length = 32 ∨ c.ver = 1
  codec : c.codec < 9223372036854775808
  code : c.code < 9223372036854775808
  dig : c.dig.length ≤ 200

theorem uvarint_le9 {n : Nat} (h : n < 9223372036854775808) : (Lib.uvarint n).length ≤ 9 :=
  Lib.uvarint_length 8 n (by have : (128 : Nat) ^ (8 + 1) = 9223372036854775808 := by decide
                             omega)

theorem uvarint_1 : Lib.uvarint 1 = [1] := by rw [Lib.uvarint_small (by omega)]; rfl

theorem CidOf.mh_length {c : CidOf} (h : c.Ok) : c.mh.length ≤ 218 ∧ 2 ≤ c.mh.length := by
  have h1 := uvarint_le9 h.code
  have h2 := uvarint_le9 (n := c.dig.length) (by have := h.dig; omega)
  have h3 := Lib.uvarint_pos c.code
  have h4 := Lib.uvarint_pos c.dig.length
  have := h.dig
  unfold CidOf.mh
  simp only [List.length_append]
  omega

theorem CidOf.bytes_length {c : CidOf} (h : c.Ok) : c.bytes.length ≤ 228 ∧ 2 ≤ c.bytes.length := by
  have h1 := uvarint_le9 h.codec
  have h2 := CidOf.mh_length h
  unfold CidOf.bytes
  split
  · omega
  · simp only [List.length_append, uvarint_1, List.length_cons, List.length_nil]
    omega

theorem CidOf.str_toList (c : CidOf) : c.str.data.toList = c.bytes := rfl

theorem CidOf.str_size {c : CidOf} (h : c.Ok) : c.str.size ≤ 228 ∧ 2 ≤ c.str.size := by
  rw [Go.Proofs.YtgdgmegpacmgnaaGreatDoor.str_size c.str_toList]; exact CidOf.bytes_length h

theorem CidOf.bytes_v0 {c : CidOf} (h : c.Ok) (h0 : c.ver = 0) : c.bytes = 18 :: 32 :: c.dig ∧ c.dig.length = 32 ∧ c.codec = 112 ∧ c.code = 18 := by
  rcases h.ver with ⟨_, h1, h2, h3⟩ | h1
  · refine ⟨?_, h3, h1, h2⟩
    unfold CidOf.bytes CidOf.mh
    rw [if_pos h0, h2, h3, Lib.uvarint_small (by omega), Lib.uvarint_small (by omega)]
    rfl
  · omega

theorem CidOf.bytes_v1 {c : CidOf} (h0 : c.ver = 1) : c.bytes = 1 :: (Lib.uvarint c.codec ++ c.mh) := by
  unfold CidOf.bytes
  rw [if_neg (by omega), uvarint_1]; rfl

set_option maxRecDepth 100000 in
set_option maxHeartbeats 800000 in
theorem Version_0 (s : ByteArray) (hs : s.size = 34) (a0 : (s[0]'(by omega)).toNat = 18) (a1 : (s[1]'(by omega)).toNat = 32) (w : World) :
    Calls Tryz.prog 193 #[.agg #[.string s]] w fun e w' => e = .returned (.int .u64 0) ∧ Below w.heap.size w w' := by
  go_enter Tryz.func193, Tryz.ntmps193
  go_wp2
  go_ret
  exact ⟨rfl, (Below.refl _ _).alloc (Nat.le_refl _) _⟩

set_option maxRecDepth 100000 in
set_option maxHeartbeats 800000 in
theorem Version_1 (s : ByteArray) (hs : 2 ≤ s.size) (a0 : (s[0]'(by omega)).toNat = 1) (w : World) :
    Calls Tryz.prog 193 #[.agg #[.string s]] w fun e w' => e = .returned (.int .u64 1) ∧ Below w.heap.size w w' := by
  go_enter Tryz.func193, Tryz.ntmps193
  go_wp2
  all_goals (go_ret; exact ⟨rfl, (Below.refl _ _).alloc (Nat.le_refl _) _⟩)

theorem Version_any (c : CidOf) (hc : c.Ok) (w : World) :
    Calls Tryz.prog 193 #[.agg #[.string c.str]] w fun e w' => e = .returned (.int .u64 c.ver) ∧ Below w.heap.size w w' := by
  rcases hc.ver with h | h
  · obtain ⟨hb, hd, _, _⟩ := CidOf.bytes_v0 hc h.1
    have hs : c.str.size = 34 := by rw [Go.Proofs.YtgdgmegpacmgnaaGreatDoor.str_size c.str_toList, hb]; simp; omega
    rw [h.1]
    exact Version_0 _ hs (by rw [str_at (c.str_toList.trans hb) 0 18 rfl]; rfl) (by rw [str_at (c.str_toList.trans hb) 1 32 rfl]; rfl) w
  · have hb := CidOf.bytes_v1 h
    rw [h]
    exact Version_1 _ (CidOf.str_size hc).2 (by rw [str_at (c.str_toList.trans hb) 0 1 rfl]; rfl) w

theorem toList_ne {s : ByteArray} (h : 2 ≤ s.size) : s.toList.isEmpty = false := by
  rw [ByteArray.toList_eq, List.isEmpty_eq_false_iff_exists_mem]
  refine ⟨s[0], ?_⟩
  exact List.mem_of_getElem? (i := 0) (List.getElem?_eq_some_iff.2 ⟨by rw [Array.length_toList]; exact Nat.lt_of_lt_of_le (by omega) h, rfl⟩)

set_option maxRecDepth 100000 in
set_option maxHeartbeats 800000 in
theorem Defined_ok (s : ByteArray) (hs : 2 ≤ s.size) (w : World) :
    Calls Tryz.prog 205 #[.agg #[.string s]] w fun e w' => e = .returned (.bool true) ∧ Below w.heap.size w w' := by
  have h1 := toList_ne hs
  go_enter Tryz.func205, Tryz.ntmps205
  go_wp2
  go_ret
  exact ⟨rfl, (Below.refl _ _).alloc (Nat.le_refl _) _⟩

set_option maxRecDepth 100000 in
set_option maxHeartbeats 800000 in
theorem Bytes_ok (s : ByteArray) (hs : 2 ≤ s.size) (hm : s.size ≤ 140737488355328) (w : World) :
    Calls Tryz.prog 192 #[.agg #[.string s]] w fun e w' => ∃ g c, e = .returned (.slice (some ⟨g, 0, none⟩) s.size c) ∧ s.size ≤ c ∧ BytesAt w' (some ⟨g, 0, none⟩) s.data.toList ∧ ByteBlk w' 5 (some ⟨g, 0, none⟩) ∧ Below w.heap.size w w' ∧ w.heap.size ≤ g := by
  have hcv := fun W => Lib.run_convert_string_bytes (P := Tryz.prog) W 9 42 5 s Tryz.underlying9 Tryz.underlying42 Tryz.underlying5
  go_enter Tryz.func192, Tryz.ntmps192
  go_wp2_with (go_at_call 205; refine (Defined_ok _ hs _).mono ?_; rintro e w1 ⟨rfl, hb⟩; obtain ⟨hc, hf⟩ := bcell hb)
  go_ret
  exact ⟨_, _, rfl, grownCap_ge _ _ _ _, BytesAt.bytesWorld _ _ _, ByteBlk.bytesWorld _ _ _, by (repeat (first | (with_reducible exact Below.refl _ _) | (with_reducible exact below_boxed _ _) | (with_reducible refine below_box ?_ _) | (with_reducible refine below_drew1 ?_) | (with_reducible refine below_drewn ?_ _) | (with_reducible refine below_bytes ?_ _ _) | (with_reducible refine below_next ?_ (by assumption)) | (with_reducible refine below_set ?_ (by first | (simp; done) | (simp; omega) | omega) _))), Below.size (by (repeat (first | (with_reducible exact Below.refl _ _) | (with_reducible exact below_boxed _ _) | (with_reducible refine below_box ?_ _) | (with_reducible refine below_drew1 ?_) | (with_reducible refine below_drewn ?_ _) | (with_reducible refine below_bytes ?_ _ _) | (with_reducible refine below_next ?_ (by assumption)) | (with_reducible refine below_set ?_ (by first | (simp; done) | (simp; omega) | omega) _))) : Below w.heap.size w w1)⟩

set_option maxRecDepth 100000 in
set_option maxHeartbeats 1600000 in
theorem Hash_v1 (c : CidOf) (hc : c.Ok) (h1 : c.ver = 1) (w : World) :
    Calls Tryz.prog 180 #[.agg #[.string c.str]] w fun e w' => ∃ A cap, e = .returned (.slice A c.mh.length cap) ∧ c.mh.length ≤ cap ∧ BytesAt w' A c.mh ∧ ByteBlk w' 5 A ∧ From w.heap.size A ∧ Below w.heap.size w w' := by
  have hsz := CidOf.str_size hc
  have hb : c.str.data.toList = Lib.uvarint 1 ++ (Lib.uvarint c.codec ++ c.mh) := by rw [CidOf.str_toList]; unfold CidOf.bytes; rw [if_neg (by omega)]
  have hL : c.str.size = 1 + ((Lib.uvarint c.codec).length + c.mh.length) := by rw [Go.Proofs.YtgdgmegpacmgnaaGreatDoor.str_size hb]; simp [uvarint_1]; omega
  have hu1 : (Lib.uvarint 1).length = 1 := by rw [uvarint_1]; rfl
  have hV := fun W => Version_any c hc W
  rw [h1] at hV
  have h9 := uvarint_le9 hc.codec
  generalize c.str = s at *
  have HB := Lib.hid hb; clear hb
  have HL := Lib.hid hL; clear hL
  have HU := Lib.hid hu1; clear hu1
  have H1 := Lib.hid h1; clear h1
  go_enter Tryz.func180, Tryz.ntmps180
  go_wp2_with fail
  refine (Bytes_ok s hsz.2 (by omega) _).mono ?_
  rintro e w1 ⟨g, c1, rfl, hc1, hA1, hB1, hb1, hg1⟩
  obtain ⟨hcc, hff⟩ := bcell hb1
  go_wp2_with fail
  refine (hV _).mono ?_
  rintro e w2 ⟨rfl, hb2⟩
  have hA2 := hA1.below hb2
  have hB2 := hB1.below hb2
  go_wp2_with fail
  refine (FromUvarint_at 1 (by omega) _ (Lib.uvarint c.codec ++ c.mh) _ _ _ _ hA2 HB.out (by rw [Array.length_toList]; rfl) (by omega)).mono ?_
  rintro e w3 ⟨rfl, rfl⟩
  rw [HU.out]
  obtain ⟨A2, hcut2, hcb2, hck2, hcf2⟩ := cut8 (some ⟨g, 0, none⟩) s.size c1 1 ((Lib.uvarint c.codec).length + c.mh.length) 1 rfl HL.out hc1
  go_wp2_with fail
  refine (FromUvarint_at c.codec hc.codec _ c.mh _ _ _ _ (hcb2 _ _ (by rw [Array.length_toList]; rfl) hA2) (by rw [HB.out, uvarint_1]; rfl) (by rw [HB.out, uvarint_1]; simp) (by have := HL.out; omega)).mono ?_
  rintro e w3 ⟨rfl, rfl⟩
  obtain ⟨A3, hcut3, hcb3, hck3, hcf3⟩ := cut8 (some ⟨g, 0, none⟩) s.size c1 (1 + (Lib.uvarint c.codec).length) c.mh.length (1 + ((Lib.uvarint c.codec).length : Int)) (by omega) (by have := HL.out; omega) hc1
  go_wp2_with fail
  go_ret
  refine ⟨_, _, rfl, ?_, ?_, hck3 _ _ hB2, hcf3 _ ?_, by (repeat (first | (with_reducible exact Below.refl _ _) | (with_reducible exact below_boxed _ _) | (with_reducible refine below_box ?_ _) | (with_reducible refine below_drew1 ?_) | (with_reducible refine below_drewn ?_ _) | (with_reducible refine below_bytes ?_ _ _) | (with_reducible refine below_next ?_ (by assumption)) | (with_reducible refine below_set ?_ (by first | (simp; done) | (simp; omega) | omega) _)))⟩
  · have := HL.out; omega
  · have := hcb3 _ _ (by rw [Array.length_toList]; rfl) hA2
    rw [HB.out, uvarint_1] at this
    have e : List.drop (1 + (Lib.uvarint c.codec).length) ([1] ++ (Lib.uvarint c.codec ++ c.mh)) = c.mh := by
      rw [Nat.add_comm]; show List.drop (Lib.uvarint c.codec).length _ = _; exact List.drop_left
    rw [e] at this; exact this
  · intro ad e; cases e; exact Nat.le_trans (Below.size (by (repeat (first | (with_reducible exact Below.refl _ _) | (with_reducible exact below_boxed _ _) | (with_reducible refine below_box ?_ _) | (with_reducible refine below_drew1 ?_) | (with_reducible refine below_drewn ?_ _) | (with_reducible refine below_bytes ?_ _ _) | (with_reducible refine below_next ?_ (by assumption)) | (with_reducible refine below_set ?_ (by first | (simp; done) | (simp; omega) | omega) _))) : Below w.heap.size w (w.alloc (Obj.cells #[Value.string s] 112)))) hg1

set_option maxRecDepth 100000 in
set_option maxHeartbeats 1600000 in
theorem Hash_v0 (c : CidOf) (hc : c.Ok) (h1 : c.ver = 0) (w : World) :
    Calls Tryz.prog 180 #[.agg #[.string c.str]] w fun e w' => ∃ A cap, e = .returned (.slice A c.mh.length cap) ∧ c.mh.length ≤ cap ∧ BytesAt w' A c.mh ∧ ByteBlk w' 5 A ∧ From w.heap.size A ∧ Below w.heap.size w w' := by
  have hsz := CidOf.str_size hc
  have hb : c.str.data.toList = c.mh := by rw [CidOf.str_toList]; unfold CidOf.bytes; rw [if_pos h1]
  have hL : c.str.size = c.mh.length := by rw [Go.Proofs.YtgdgmegpacmgnaaGreatDoor.str_size hb]
  have hV := fun W => Version_any c hc W
  rw [h1] at hV
  generalize c.str = s at *
  have HB := Lib.hid hb; clear hb
  have HL := Lib.hid hL; clear hL
  have H1 := Lib.hid h1; clear h1
  go_enter Tryz.func180, Tryz.ntmps180
  go_wp2_with fail
  refine (Bytes_ok s hsz.2 (by omega) _).mono ?_
  rintro e w1 ⟨g, c1, rfl, hc1, hA1, hB1, hb1, hg1⟩
  obtain ⟨hcc, hff⟩ := bcell hb1
  go_wp2_with fail
  refine (hV _).mono ?_
  rintro e w2 ⟨rfl, hb2⟩
  have hA2 := hA1.below hb2
  have hB2 := hB1.below hb2
  go_wp2_with fail
  go_ret
  rw [← HL.out, ← HB.out]
  refine ⟨_, _, rfl, hc1, hA2, hB2, ?_, by (repeat (first | (with_reducible exact Below.refl _ _) | (with_reducible exact below_boxed _ _) | (with_reducible refine below_box ?_ _) | (with_reducible refine below_drew1 ?_) | (with_reducible refine below_drewn ?_ _) | (with_reducible refine below_bytes ?_ _ _) | (with_reducible refine below_next ?_ (by assumption)) | (with_reducible refine below_set ?_ (by first | (simp; done) | (simp; omega) | omega) _)))⟩
  intro ad e; cases e; exact Nat.le_trans (Below.size (by (repeat (first | (with_reducible exact Below.refl _ _) | (with_reducible exact below_boxed _ _) | (with_reducible refine below_box ?_ _) | (with_reducible refine below_drew1 ?_) | (with_reducible refine below_drewn ?_ _) | (with_reducible refine below_bytes ?_ _ _) | (with_reducible refine below_next ?_ (by assumption)) | (with_reducible refine below_set ?_ (by first | (simp; done) | (simp; omega) | omega) _))) : Below w.heap.size w (w.alloc (Obj.cells #[Value.string s] 112)))) hg1

theorem Hash_ok (c : CidOf) (hc : c.Ok) (w : World) :
    Calls Tryz.prog 180 #[.agg #[.string c.str]] w fun e w' => ∃ A cap, e = .returned (.slice A c.mh.length cap) ∧ c.mh.length ≤ cap ∧ BytesAt w' A c.mh ∧ ByteBlk w' 5 A ∧ From w.heap.size A ∧ Below w.heap.size w w' := by
  rcases hc.ver with h | h
  · exact Hash_v0 c hc h.1 w
  · exact Hash_v1 c hc h w

/-! The multihash: code, length, digest. -/
set_option maxRecDepth 100000 in
set_option maxHeartbeats 800000 in
theorem mhUvarint_ok (n : Nat) (hn : n < 9223372036854775808) (bs rest : List UInt8) (A : Option Addr) (M c : Nat) (w : World) (h : BytesAt w A bs) (hb : bs = Lib.uvarint n ++ rest) (hM : bs.length = M) (hl : M ≤ 140737488355328) (hc : M ≤ c) :
    Calls Tryz.prog 140 #[.slice A M c] w fun e w' => ∃ A' c' m, e = .returned (.tuple #[.int .u64 n, .slice A' rest.length c', .nilIface]) ∧ rest.length ≤ c' ∧ Sub A bs A' rest ∧ w' = w.drewN m := by
  have hM2 : M = (Lib.uvarint n).length + rest.length := by rw [← hM, hb]; simp
  have hp := Lib.uvarint_pos n
  have hn0 : (((Lib.uvarint n).length : Int) == 0) = false := beq_eq_false_iff_ne.2 (by omega)
  have hn1 : decide (((Lib.uvarint n).length : Int) < 0) = false := decide_eq_false (by omega)
  obtain ⟨A2, hcut2, hcb2, hck2, hcf2⟩ := cut8 A M c (Lib.uvarint n).length rest.length ((Lib.uvarint n).length : Int) rfl hM2 hc
  have HM2 := Lib.hid hM2; clear hM2
  have HM := Lib.hid hM; clear hM
  have HBs := Lib.hid hb; clear hb
  go_enter Tryz.func140, Tryz.ntmps140
  go_wp2_with fail
  refine (FromUvarint_at n hn bs rest _ _ _ _ h HBs.out HM.out hl).mono ?_
  rintro e w3 ⟨rfl, rfl⟩
  generalize hL : (Lib.uvarint n).length = L at *
  have HL := Lib.hid hL; clear hL
  go_wp2_with fail
  go_quiet (fail)
  go_wp2_with fail
  go_ret3
  refine ⟨_, _, _, rfl, ?_, ⟨fun W hW => ?_, hck2, hcf2⟩, rfl⟩
  · have := HM2.out; have := HL.out; omega
  · have e : List.drop L bs = rest := by rw [HBs.out, ← HL.out]; exact List.drop_left
    have := hcb2 W bs HM.out hW
    rw [e] at this; exact this

theorem drewN_drewN (w : World) (a b : Nat) : (w.drewN a).drewN b = w.drewN (a + b) := by
  unfold World.drewN; simp [Nat.add_assoc]

set_option maxRecDepth 100000 in
set_option maxHeartbeats 1600000 in
theorem readMh_ok (code : Nat) (hcode : code < 9223372036854775808) (dig : List UInt8) (hdig : dig.length ≤ 2147483647) (A : Option Addr) (M c : Nat) (w : World)
    (h : BytesAt w A (Lib.uvarint code ++ (Lib.uvarint dig.length ++ dig))) (hM : (Lib.uvarint code ++ (Lib.uvarint dig.length ++ dig)).length = M) (hc : M ≤ c) :
    Calls Tryz.prog 128 #[.slice A M c] w fun e w' => ∃ A' c' m, e = .returned (.tuple #[.int .i64 M, .int .u64 code, .slice A' dig.length c', .nilIface]) ∧ dig.length ≤ c' ∧ Sub A (Lib.uvarint code ++ (Lib.uvarint dig.length ++ dig)) A' dig ∧ w' = w.drewN m := by
  have h1 := uvarint_le9 hcode
  have h2 := uvarint_le9 (n := dig.length) (by omega)
  have h3 := Lib.uvarint_pos code
  have h4 := Lib.uvarint_pos dig.length
  have hM2 : M = (Lib.uvarint code).length + ((Lib.uvarint dig.length).length + dig.length) := by rw [← hM]; simp
  have hML : M ≤ 140737488355328 := by omega
  have hMs : decide ((M : Int) < 2) = false := decide_eq_false (by omega)
  have hMs2 : decide (M < 2) = false := decide_eq_false (by omega)
  have HM := Lib.hid hM; clear hM
  have HM2 := Lib.hid hM2; clear hM2
  have hL2 : (Lib.uvarint dig.length ++ dig).length = (Lib.uvarint dig.length).length + dig.length := by simp
  go_enter Tryz.func128, Tryz.ntmps128
  go_wp2_with fail
  refine (mhUvarint_ok code hcode _ (Lib.uvarint dig.length ++ dig) _ _ _ _ h rfl HM.out hML hc).mono ?_
  rintro e w1 ⟨A1, c1, m1, rfl, hc1, hS1, rfl⟩
  have hA1 : BytesAt (w.drewN m1) A1 _ := hS1.bytes _ h
  rw [hL2]
  rw [hL2] at hc1
  have HL2 := Lib.hid hL2; clear hL2
  go_wp2_with fail
  refine (mhUvarint_ok dig.length (by omega) _ dig _ _ _ _ hA1 rfl HL2.out (by omega) hc1).mono ?_
  rintro e w2 ⟨A2, c2, m2, rfl, hc2, hS2, rfl⟩
  have hd1 : decide (2147483647 < (dig.length : Int)) = false := decide_eq_false (by omega)
  go_wp2_with fail
  go_quiet (fail)
  go_wp2_with fail
  refine bodyPost_ret (v := .tuple #[.int .i64 M, .int .u64 code, .slice A2 dig.length c2, .nilIface]) (by simp [results, Tryz.results128, go_sem]) rfl ?_
  exact ⟨_, _, _, rfl, hc2, hS1.trans hS2, drewN_drewN _ _ _⟩

theorem setCell_drewN (w : World) (n : Nat) (a : Addr) (v : Value) : (w.drewN n).setCell a v = (w.setCell a v).drewN n := rfl
theorem alloc_drewN (w : World) (n : Nat) (o : Obj) : (w.drewN n).alloc o = (w.alloc o).drewN n := rfl
attribute [local go_sem] setCell_drewN alloc_drewN

/-- A multihash's bytes. -/
abbrev mhOf (code : Nat) (dig : List UInt8) : List UInt8 := Lib.uvarint code ++ (Lib.uvarint dig.length ++ dig)

set_option maxRecDepth 100000 in
set_option maxHeartbeats 1600000 in
theorem decode_ok (code : Nat) (hcode : code < 9223372036854775808) (dig : List UInt8) (hdig : dig.length ≤ 2147483647) (A : Option Addr) (M c : Nat) (w : World)
    (h : BytesAt w A (mhOf code dig)) (hM : (mhOf code dig).length = M) (hc : M ≤ c) :
    Calls Tryz.prog 114 #[.slice A M c] w fun e w' => ∃ A' c', e = .returned (.tuple #[.agg #[.int .u64 code, .string ⟨#[]⟩, .int .i64 dig.length, .slice A' dig.length c'], .nilIface]) ∧ dig.length ≤ c' ∧ Sub A (mhOf code dig) A' dig ∧ Below w.heap.size w w' := by
  go_enter Tryz.func114, Tryz.ntmps114
  go_wp2_with fail
  refine (readMh_ok code hcode dig hdig A M c _ (h.below (below_boxed _ _)) hM hc).mono ?_
  rintro e w1 ⟨A1, c1, m1, rfl, hc1, hS1, rfl⟩
  go_wp2_with fail
  refine bodyPost_ret (v := .tuple #[.agg #[.int .u64 code, .string ⟨#[]⟩, .int .i64 dig.length, .slice A1 dig.length c1], .nilIface]) (by simp [results, Tryz.results114, go_sem]) rfl ?_
  exact ⟨_, _, rfl, hc1, hS1, by (repeat (first | (with_reducible exact Below.refl _ _) | (with_reducible exact below_boxed _ _) | (with_reducible refine below_box ?_ _) | (with_reducible refine below_drew1 ?_) | (with_reducible refine below_drewn ?_ _) | (with_reducible refine below_bytes ?_ _ _) | (with_reducible refine below_next ?_ (by assumption)) | (with_reducible refine below_set ?_ (by first | (simp; done) | (simp; omega) | omega) _)))⟩

set_option maxRecDepth 100000 in
set_option maxHeartbeats 1600000 in
theorem Decode_ok (code : Nat) (hcode : code < 9223372036854775808) (dig : List UInt8) (hdig : dig.length ≤ 2147483647) (A : Option Addr) (M c : Nat) (w : World)
    (h : BytesAt w A (mhOf code dig)) (hM : (mhOf code dig).length = M) (hc : M ≤ c) :
    Calls Tryz.prog 88 #[.slice A M c] w fun e w' => ∃ g A' c', e = .returned (.tuple #[.pointer (some ⟨g, 0, none⟩), .nilIface]) ∧ dig.length ≤ c' ∧ Sub A (mhOf code dig) A' dig ∧ Below w.heap.size w w' ∧ w.heap.size ≤ g ∧
      w'.heap[g]? = some (.cells #[.int .u64 code, .string ⟨#[]⟩, .int .i64 dig.length, .slice A' dig.length c'] 196 (0, 0)) := by
  go_enter Tryz.func88, Tryz.ntmps88
  go_wp2_with fail
  refine (decode_ok code hcode dig hdig A M c _ h hM hc).mono ?_
  rintro e w1 ⟨A1, c1, rfl, hc1, hS1, hb1⟩
  go_wp2_with fail
  go_ret2
  exact ⟨_, _, _, rfl, hc1, hS1, by (repeat (first | (with_reducible exact Below.refl _ _) | (with_reducible exact below_boxed _ _) | (with_reducible refine below_box ?_ _) | (with_reducible refine below_drew1 ?_) | (with_reducible refine below_drewn ?_ _) | (with_reducible refine below_bytes ?_ _ _) | (with_reducible refine below_next ?_ (by assumption)) | (with_reducible refine below_set ?_ (by first | (simp; done) | (simp; omega) | omega) _))), hb1.size, heap_alloc_new _ _⟩
end Go.Proofs.YtgdgmegpacmgnaaGreatDoor

/- What a call keeps of the memory that was there. -/
namespace Go.Proofs.YtgdgmegpacmgnaaGreatDoor
open Go.RowKit

/-- What a call keeps: all blocks that were there but those of S; the streams. -/
structure Kp (S : Nat → Prop) (w w' : World) : Prop where
  os : w'.os = w.os
  tape : w'.tape = w.tape
  output : w'.output = w.output
  size : w.heap.size ≤ w'.heap.size
  block : ∀ k, k < w.heap.size → ¬ S k → w'.heap[k]? = w.heap[k]?

theorem Kp.refl (S : Nat → Prop) (w : World) : Kp S w w := ⟨rfl, rfl, rfl, Nat.le_refl _, fun _ _ _ => rfl⟩
theorem Kp.of_below {S : Nat → Prop} {w w' : World} (h : Below w.heap.size w w') : Kp S w w' := ⟨h.os, h.tape, h.output, h.size, fun k hk _ => h.block k hk⟩
theorem Kp.trans {S S' : Nat → Prop} {a b c : World} (h : Kp S a b) (k : Kp S' b c) (hs : ∀ i, S' i → S i ∨ a.heap.size ≤ i) : Kp S a c :=
  ⟨k.os.trans h.os, k.tape.trans h.tape, k.output.trans h.output, Nat.le_trans h.size k.size, fun i hi hn => (k.block i (Nat.lt_of_lt_of_le hi h.size) (fun h' => by rcases hs i h' with h1 | h1; exact hn h1; omega)).trans (h.block i hi hn)⟩
theorem Kp.mono {S S' : Nat → Prop} {a b : World} (h : Kp S a b) (hs : ∀ i, S i → S' i ∨ a.heap.size ≤ i) : Kp S' a b :=
  ⟨h.os, h.tape, h.output, h.size, fun i hi hn => h.block i hi (fun h' => by rcases hs i h' with h1 | h1; exact hn h1; omega)⟩
theorem Kp.set {S : Nat → Prop} {a b : World} (h : Kp S a b) {p : Addr} (hp : S p.block ∨ a.heap.size ≤ p.block) (v : Value) : Kp S a (b.setCell p v) :=
  h.trans (S' := fun i => i = p.block) ⟨rfl, rfl, rfl, by simp [World.setCell], fun k _ hk => Below.heap_setCell b p v k hk⟩ (fun i e => by rw [e]; exact hp)
theorem Kp.cell {S : Nat → Prop} {w w' : World} (h : Kp S w w') {p : Addr} (hp : p.block < w.heap.size) (hs : ¬ S p.block) : w'.cell? p = w.cell? p := World.cell?_of_block (w := w) (h.block _ hp hs)

end Go.Proofs.YtgdgmegpacmgnaaGreatDoor
