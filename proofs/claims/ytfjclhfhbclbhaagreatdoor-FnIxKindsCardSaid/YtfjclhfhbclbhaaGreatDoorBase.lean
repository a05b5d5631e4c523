/- Plain words of these proofs: bytes that lie in memory, varints, and small laws on numbers. -/
import Derived.WalkKit
import Derived.WalkLawsBesides
import Derived.WalkSpells
import Derived.KernelRfl
import Derived.Lib.Varint
import Derived.Lib.UnsafeStr
import Derived.Lib.ConvBytes
import Derived.Lib.Hide
namespace Go.Proofs.YtfjclhfhbclbhaaGreatDoor
open Go.RowKit

/-- The bytes that a slice at A begins with. -/
def BytesAt (w : World) (A : Option Addr) (bs : List UInt8) : Prop :=
  bs = [] ∨ ∃ g o, A = some ⟨g, o, none⟩ ∧ ∀ j x, bs[j]? = some x → w.cell? ⟨g, o + j, none⟩ = some (.int .u8 (x.toNat : Int))

theorem BytesAt.below {w w' : World} {A : Option Addr} {bs : List UInt8} (h : BytesAt w A bs) (hb : Below w.heap.size w w') : BytesAt w' A bs := by
  rcases h with h | ⟨g, o, e, hc⟩
  · exact .inl h
  · exact .inr ⟨g, o, e, fun j x hj => (hb.cell (World.block_lt_of_cell? w _ (hc j x hj))).trans (hc j x hj)⟩

theorem BytesAt.cons {w : World} {g o : Nat} {b : UInt8} {bs : List UInt8} (h : BytesAt w (some ⟨g, o, none⟩) (b :: bs)) : w.cell? ⟨g, o, none⟩ = some (.int .u8 (b.toNat : Int)) := by
  rcases h with h | ⟨g', o', e, hc⟩
  · cases h
  · cases e
    exact hc 0 b rfl

theorem nat_or_add (x b s : Nat) (h : x < 2 ^ s) : x ||| b * 2 ^ s = x + b * 2 ^ s := by
  rw [Nat.or_comm, Nat.mul_comm, ← Nat.two_pow_add_eq_or_of_lt h, Nat.add_comm]

theorem bcell {W w1 : World} (hb : Below W.heap.size W w1) : (∀ b o, b < W.heap.size → w1.cell? ⟨b, o, none⟩ = W.cell? ⟨b, o, none⟩) ∧ (∀ b o, b < W.heap.size → w1.frozen? ⟨b, o, none⟩ = W.frozen? ⟨b, o, none⟩) :=
  ⟨fun b o h => hb.cell (p := ⟨b, o, none⟩) h, fun b o h => hb.frozen (p := ⟨b, o, none⟩) h⟩

theorem BytesAt.bytesWorld (W : World) (e : TypeId) (s : ByteArray) : BytesAt (Lib.bytesWorld W e s) (some ⟨W.heap.size, 0, none⟩) s.data.toList := by
  refine .inr ⟨_, _, rfl, fun j x hj => ?_⟩
  have hj' : j < s.size := by
    have h := (List.getElem?_eq_some_iff.1 hj).1
    rw [Array.length_toList] at h; exact h
  rw [Nat.zero_add, Lib.bytesWorld_cell W e s j hj']
  simp [List.getD_eq_getElem?_getD, hj]

theorem bytesWorld_below (W : World) (e : TypeId) (s : ByteArray) : Below W.heap.size W (Lib.bytesWorld W e s) :=
  ⟨rfl, rfl, rfl, by rw [Lib.bytesWorld_size]; omega, fun i hi => Lib.bytesWorld_at_old W e s i hi⟩

theorem below_drewn {w w1 : World} (h : Below w.heap.size w w1) (n : Nat) : Below w.heap.size w (w1.drewN n) := ⟨h.os, h.tape, h.output, h.size, h.block⟩
theorem below_drew1 {w w1 : World} (h : Below w.heap.size w w1) : Below w.heap.size w w1.drew := ⟨h.os, h.tape, h.output, h.size, h.block⟩
theorem below_bytes {w w1 : World} (h : Below w.heap.size w w1) (e : TypeId) (s : ByteArray) : Below w.heap.size w (Lib.bytesWorld w1 e s) := h.trans ((bytesWorld_below w1 e s).mono h.size)
theorem below_set {w w1 : World} (h : Below w.heap.size w w1) {p : Addr} (hp : w.heap.size ≤ p.block) (v : Value) : Below w.heap.size w (w1.setCell p v) := h.setCell hp v
/-- Two steps, each of which keeps what was there. -/
theorem below_next {w w1 w2 : World} (h : Below w.heap.size w w1) (k : Below w1.heap.size w1 w2) : Below w.heap.size w w2 := h.trans (k.mono h.size)
theorem below_box {w w1 : World} (h : Below w.heap.size w w1) (o : Obj) : Below w.heap.size w (w1.alloc o) := h.alloc h.size o
theorem below_boxed (w : World) (o : Obj) : Below w.heap.size w (w.alloc o) := (Below.refl _ _).alloc (Nat.le_refl _) o

/-- The block in which a slice of bytes lies is a row of bytes of type t. -/
def ByteBlk (w : World) (t : TypeId) (A : Option Addr) : Prop := ∀ ad, A = some ad → ∃ cs fr, w.heap[ad.block]? = some (.cells cs t fr)

theorem ByteBlk.below {w w' : World} {t : TypeId} {A : Option Addr} (h : ByteBlk w t A) (hb : Below w.heap.size w w') : ByteBlk w' t A := by
  intro ad e
  obtain ⟨cs, fr, hh⟩ := h ad e
  exact ⟨cs, fr, (hb.block _ (Array.getElem?_eq_some_iff.1 hh).1).trans hh⟩

theorem ByteBlk.bytesWorld (W : World) (e : TypeId) (s : ByteArray) : ByteBlk (Lib.bytesWorld W e s) e (some ⟨W.heap.size, 0, none⟩) := by
  intro ad h
  cases h
  exact ⟨_, _, Lib.bytesWorld_at_new W e s⟩

/-- Where a slice begins: from block B on. -/
def From (B : Nat) (A : Option Addr) : Prop := ∀ ad, A = some ad → B ≤ ad.block
theorem From.mono {B B' : Nat} {A : Option Addr} (h : From B A) (hb : B' ≤ B) : From B' A := fun ad e => Nat.le_trans hb (h ad e)

/-- 'xs[i:]' of a slice of bytes. -/
theorem cut_run {P : Program} (t e : TypeId) {i : TypeInfo} (ht : P.underlying t = some (.slice e)) (hi : P.info? e = some i) (hsz : i.size = 1) (A : Option Addr) (n c m k : Nat) (x : Int) (hx : x = m) (hn : n = m + k) (hc : n ≤ c) :
    ∃ A' : Option Addr, (∀ (kl : IntKind) (W : World), (Instr.slice t (.slice A n c) (some (.int kl x)) none none).run P W = .ok (.slice A' k (c - m)) W) ∧
      (∀ (w : World) (bs : List UInt8), bs.length = n → BytesAt w A bs → BytesAt w A' (bs.drop m)) ∧ (∀ w b, ByteBlk w b A → ByteBlk w b A') ∧ (∀ B, From B A → From B A') := by
  subst hx
  refine ⟨if c = m then A else A.map (·.add m), fun kl W => ?_, fun w bs hl h => ?_, fun w b h => ?_, fun B h => ?_⟩
  · have hel : P.elem t = e := by simp [Program.elem, ht]
    have hu : P.underlying t = some (.slice (P.elem t)) := by rw [hel]; exact ht
    rw [run_slice_l W t A n c hu kl (m : Int) (Int.natCast_nonneg _) (by omega), hel]
    simp [sizeOf, typeInfo, hi, hsz, sliced, Result.andThen]
    omega
  · rcases h with h | ⟨g, o, e, hcell⟩
    · exact .inl (by rw [h]; simp)
    · by_cases hcm : c = m
      · rw [if_pos hcm]
        exact .inl (by rw [List.drop_eq_nil_iff]; omega)
      · rw [if_neg hcm, e]
        refine .inr ⟨g, o + m, ?_, fun j y hj => ?_⟩
        · show some ((⟨g, o, none⟩ : Addr).add m) = _
          unfold Addr.add
          split
          · simp_all
          · rfl
        · rw [List.getElem?_drop] at hj
          have := hcell (m + j) y hj
          rw [Nat.add_assoc]; exact this
  · intro ad e
    by_cases hcm : c = m
    · rw [if_pos hcm] at e; exact h ad e
    · rw [if_neg hcm] at e
      obtain ⟨a0, ha0, rfl⟩ := Option.map_eq_some_iff.1 e
      obtain ⟨cs, fr, hh⟩ := h a0 ha0
      refine ⟨cs, fr, ?_⟩
      have : (a0.add m).block = a0.block := by unfold Addr.add; split <;> rfl
      rw [this]; exact hh
  · intro ad e
    by_cases hcm : c = m
    · rw [if_pos hcm] at e; exact h ad e
    · rw [if_neg hcm] at e
      obtain ⟨a0, ha0, rfl⟩ := Option.map_eq_some_iff.1 e
      have : (a0.add m).block = a0.block := by unfold Addr.add; split <;> rfl
      rw [this]; exact h a0 ha0

/-- The slice at A' holds bs' in whatever world the slice at A holds bs: it is a part of it. -/
structure Sub (A : Option Addr) (bs : List UInt8) (A' : Option Addr) (bs' : List UInt8) : Prop where
  bytes : ∀ w, BytesAt w A bs → BytesAt w A' bs'
  blk : ∀ w t, ByteBlk w t A → ByteBlk w t A'
  frm : ∀ B, From B A → From B A'
theorem Sub.refl (A : Option Addr) (bs : List UInt8) : Sub A bs A bs := ⟨fun _ h => h, fun _ _ h => h, fun _ h => h⟩
theorem Sub.trans {A B C : Option Addr} {a b c : List UInt8} (h : Sub A a B b) (k : Sub B b C c) : Sub A a C c :=
  ⟨fun w x => k.bytes w (h.bytes w x), fun w t x => k.blk w t (h.blk w t x), fun n x => k.frm n (h.frm n x)⟩

theorem BytesAt.upd {w w' : World} {A : Option Addr} {bs : List UInt8} (h : BytesAt w A bs) (hk : ∀ ad, A = some ad → w'.heap[ad.block]? = w.heap[ad.block]?) : BytesAt w' A bs := by
  rcases h with h | ⟨g, o, e, hc⟩
  · exact .inl h
  · exact .inr ⟨g, o, e, fun j x hj => (World.cell?_of_block (w := w) (show w'.heap[(⟨g, o + j, none⟩ : Addr).block]? = w.heap[(⟨g, o + j, none⟩ : Addr).block]? from hk ⟨g, o, none⟩ e)).trans (hc j x hj)⟩
theorem ByteBlk.upd {w w' : World} {t : TypeId} {A : Option Addr} (h : ByteBlk w t A) (hk : ∀ ad, A = some ad → w'.heap[ad.block]? = w.heap[ad.block]?) : ByteBlk w' t A := by
  intro ad e
  obtain ⟨cs, fr, hh⟩ := h ad e
  exact ⟨cs, fr, (hk ad e).trans hh⟩
/-- A store into a block below B, at a slice from B on. -/
theorem BytesAt.set {w : World} {A : Option Addr} {bs : List UInt8} {B : Nat} (h : BytesAt w A bs) (hF : From B A) {p : Addr} (hp : p.block < B) (v : Value) : BytesAt (w.setCell p v) A bs :=
  h.upd fun ad e => Below.heap_setCell w p v _ (by have := hF ad e; omega)
theorem ByteBlk.set {w : World} {t : TypeId} {A : Option Addr} {B : Nat} (h : ByteBlk w t A) (hF : From B A) {p : Addr} (hp : p.block < B) (v : Value) : ByteBlk (w.setCell p v) t A :=
  h.upd fun ad e => Below.heap_setCell w p v _ (by have := hF ad e; omega)
theorem BytesAt.drew {w : World} {A : Option Addr} {bs : List UInt8} (h : BytesAt w A bs) : BytesAt w.drew A bs := h
theorem BytesAt.drewN {w : World} {A : Option Addr} {bs : List UInt8} (h : BytesAt w A bs) (m : Nat) : BytesAt (w.drewN m) A bs := h
theorem ByteBlk.drew {w : World} {t : TypeId} {A : Option Addr} (h : ByteBlk w t A) : ByteBlk w.drew t A := h

/-- One operation, run. -/
theorem event_run {P : Program} {ops : Array Oper} {rest : List Oper} {o : Oper} {a : Act} {Q : Exit → Act → World → Prop} {W w1 : World} {v : Value} (hgd : o.guard = none)
    (hrun : (execOp a.eval o).run P W = .ok (.value v) w1) (h : wpList P ops Q rest (a.put o.dst v) w1) : wpList P ops Q (o :: rest) a W := by
  refine wpList_plain hgd fun K hK => ?_
  unfold Oper.wp
  rw [hrun]
  exact hK _ _ h

/-- '[]byte(s)' as one event: a name for the new block, one for the world behind it. -/
theorem conv_event {P : Program} {ops : Array Oper} {rest : List Oper} {o : Oper} {a : Act} {Q : Exit → Act → World → Prop} {W : World} (hgd : o.guard = none) (x : Operand) (src dst e : TypeId) {u : TypeDesc}
    (ho : o.op = .convert src dst x) (hs : P.underlying src = some u) (hd : P.underlying dst = some (.slice e)) (he : P.underlying e = some (.int .u8)) (s : ByteArray) (hx : a.eval x = .string s)
    (h : ∀ g c w1, g = W.heap.size → s.size ≤ c → Below W.heap.size W w1 → BytesAt w1 (some ⟨g, 0, none⟩) s.data.toList → ByteBlk w1 e (some ⟨g, 0, none⟩) → wpList P ops Q rest (a.put o.dst (.slice (some ⟨g, 0, none⟩) s.size c)) w1) :
    wpList P ops Q (o :: rest) a W := by
  refine event_run hgd (v := .slice (some ⟨W.heap.size, 0, none⟩) s.size (grownCap W s.size 0 e)) (w1 := Lib.bytesWorld W e s) ?_ (h _ _ _ rfl (grownCap_ge _ _ _ _) (bytesWorld_below _ _ _) (BytesAt.bytesWorld _ _ _) (ByteBlk.bytesWorld _ _ _))
  have := Lib.run_convert_string_bytes (P := P) W src dst e s hs hd he
  simp [execOp, ho, hx, this]

theorem bcellB {B : Nat} {W w1 : World} (hb : Below B W w1) : (∀ b o, b < B → w1.cell? ⟨b, o, none⟩ = W.cell? ⟨b, o, none⟩) ∧ (∀ b o, b < B → w1.frozen? ⟨b, o, none⟩ = W.frozen? ⟨b, o, none⟩) :=
  ⟨fun b o h => hb.cell (p := ⟨b, o, none⟩) h, fun b o h => hb.frozen (p := ⟨b, o, none⟩) h⟩

end Go.Proofs.YtfjclhfhbclbhaaGreatDoor
