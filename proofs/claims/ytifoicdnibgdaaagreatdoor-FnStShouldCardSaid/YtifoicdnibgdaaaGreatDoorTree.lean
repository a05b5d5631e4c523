/- The tree of an insertion index: its memory, its rotations. -/
import Derived.Test.YtifoicdnibgdaaaGreatDoorIn
import Derived.LaidEql
import Derived.Lib.Bytealg
import Derived.Laws.Externs
namespace Go.Proofs.YtifoicdnibgdaaaGreatDoor
open Go.RowKit
set_option linter.unusedVariables false
set_option linter.unusedSimpArgs false
attribute [local go_sem] setCell_drewN alloc_drewN

/-! Two values of an interface type, of other dynamic types: not equal. -/
theorem run_equalIn_iface_ne {P : Program} (w : World) (d : Nat) {ti t u : TypeId} {ms : Array (String × TypeId)} (hi : P.underlying ti = some (.interface ms)) (h : t ≠ u) (v v' : Value) :
    (Op.equalIn (d + 2) ti (.iface t v) (.iface u v')).run P w = .ok false w := by
  simp [Op.equalIn, run_underlying hi, h]
theorem run_eql_iface_ne {P : Program} (w : World) {ti t u : TypeId} {ms : Array (String × TypeId)} (hi : P.underlying ti = some (.interface ms)) (h : t ≠ u) (v v' : Value) :
    (Go.binOp .eql ti (.iface t v) (.iface u v')).run P w = .ok (.bool false) w := by
  simp only [Go.binOp]
  simp [Op.equal, Op.maxDepth, run_equalIn_iface_ne w 9998 hi h]

theorem run_bytesOf {P : Program} {w : World} : ∀ (bs : List UInt8) (g o : Nat) (acc : ByteArray), (∀ j x, bs[j]? = some x → w.cell? ⟨g, o + j, none⟩ = some (.int .u8 (x.toNat : Int))) →
    (Extern.Bytes.loadBytes ⟨g, o, none⟩ bs.length acc).run P w = .ok ⟨acc.data ++ bs.toArray⟩ w
  | [], g, o, acc, _ => by simp [Extern.Bytes.loadBytes, Sem.run_pure]
  | b :: r, g, o, acc, h => by
    have h0 : w.cell? ⟨g, o, none⟩ = some (.int .u8 (b.toNat : Int)) := h 0 b rfl
    have ih := run_bytesOf (P := P) r g (o + 1) (acc.push b) (fun j x hj => by
      have := h (j + 1) x (by simpa using hj)
      rw [show o + 1 + j = o + (j + 1) from by omega]; exact this)
    have hadd : (⟨g, o, none⟩ : Addr).add 1 = ⟨g, o + 1, none⟩ := rfl
    simp only [List.length_cons, Extern.Bytes.loadBytes]
    simp [h0, hadd, ih]

theorem run_compare {P : Program} (w : World) (A B : Option Addr) (a b : List UInt8) (ca cb : Nat) (ha : BytesAt w A a) (hb : BytesAt w B b) :
    (Extern.BytealgCompare.compare #[.slice A a.length ca, .slice B b.length cb]).run P w = .ok (.int .i64 (Lib.compareBytes a b)) w := by
  have key : ∀ (X : Option Addr) (x : List UInt8) (c : Nat), BytesAt w X x → (Extern.Bytes.bytesOf (.slice X x.length c)).run P w = .ok ⟨x.toArray⟩ w := by
    intro X x c hx
    rcases hx with hx | ⟨g, o, rfl, hc⟩
    · subst hx
      cases X with
      | none => simp [Extern.Bytes.bytesOf, Sem.run_pure, ByteArray.empty, ByteArray.emptyWithCapacity]; rfl
      | some ad => simp [Extern.Bytes.bytesOf, Extern.Bytes.loadBytes, Sem.run_pure, ByteArray.empty, ByteArray.emptyWithCapacity]; rfl
    · have := run_bytesOf (P := P) x g o .empty hc
      simp only [Extern.Bytes.bytesOf]
      rw [this]
      simp [ByteArray.empty, ByteArray.emptyWithCapacity]; rfl
  change Sem.run P (do pure (goInt (Extern.BytealgCompare.cmp (← Extern.Bytes.bytesOf (.slice A a.length ca)) (← Extern.Bytes.bytesOf (.slice B b.length cb))))) w = _
  simp only [Sem.run_bind, key A a ca ha, key B b cb hb, Result.andThen, Sem.run_pure, Lib.cmp_eq]
  rfl

theorem call_compare (args : Array Value) (w : World) : (callFunc 154 args).run Tryz.prog w = ((Extern.BytealgCompare.compare args).run Tryz.prog w).andThen fun v w' => .ok (.value v) w' :=
  run_callFunc_extern Tryz.func154 (by kernel_rfl) (by kernel_rfl) (by kernel_rfl) (e := Extern.BytealgCompare.compare) (by kernel_rfl) args w

set_option maxRecDepth 100000 in
set_option maxHeartbeats 800000 in
theorem Compare_ok (A B : Option Addr) (a b : List UInt8) (n m ca cb : Nat) (w : World) (ha : BytesAt w A a) (hb : BytesAt w B b) (hn : a.length = n) (hm : b.length = m) :
    Calls Tryz.prog 153 #[.slice A n ca, .slice B m cb] w fun e w' => e = .returned (.int .i64 (Lib.compareBytes a b)) ∧ w = w' := by
  subst hn; subst hm
  have h1 := call_compare #[.slice A a.length ca, .slice B b.length cb] w
  rw [run_compare w A B a b ca cb ha hb] at h1
  simp only [Result.andThen] at h1
  go_enter Tryz.func153, Tryz.ntmps153
  go_wp2_with fail
  go_ret
  exact ⟨rfl, rfl⟩

/-- An entry as the tree holds it: the digest's slice, the identifier's text, the offset; and the digest itself. -/
structure Ent where
  A : Option Addr
  cap : Nat
  str : ByteArray
  off : Int
  dig : List UInt8

def Ent.agg (x : Ent) : Value := .agg #[.slice x.A x.dig.length x.cap, .string x.str, .int .u64 x.off]
def Ent.val (x : Ent) : Value := .iface 80 x.agg
def Ent.At (w : World) (x : Ent) : Prop := BytesAt w x.A x.dig ∧ ByteBlk w 5 x.A

theorem assert_ok (v : Value) (w : World) : (Instr.typeAssert (.iface 80 v) 74 80 true).run Tryz.prog w = .ok (.tuple #[v, .bool true]) w := by kernel_rfl
theorem assert_plain (v : Value) (w : World) : (Instr.typeAssert (.iface 80 v) 74 80 false).run Tryz.prog w = .ok v w := by kernel_rfl

set_option maxRecDepth 100000 in
set_option maxHeartbeats 800000 in
theorem Less_ok (x y : Ent) (w : World) (hx : x.At w) (hy : y.At w) :
    Calls Tryz.prog 152 #[x.agg, y.val] w fun e w' => e = .returned (.bool (decide (Lib.compareBytes x.dig y.dig < 0))) ∧ Below w.heap.size w w' := by
  unfold Ent.agg Ent.val Ent.agg
  have hta := assert_ok
  obtain ⟨hxa, hxb⟩ := hx
  obtain ⟨hya, hyb⟩ := hy
  go_enter Tryz.func152, Tryz.ntmps152
  go_wp2_with fail
  refine (Compare_ok x.A y.A x.dig y.dig _ _ _ _ _ (hxa.below (by (repeat (first | (with_reducible exact Below.refl _ _) | (with_reducible exact below_boxed _ _) | (with_reducible refine below_box ?_ _) | (with_reducible refine below_drew1 ?_) | (with_reducible refine below_drewn ?_ _) | (with_reducible refine below_bytes ?_ _ _) | (with_reducible refine below_next ?_ (by assumption)) | (with_reducible refine below_set ?_ (by first | (simp; done) | (simp; omega) | omega) _))))) (hya.below (by (repeat (first | (with_reducible exact Below.refl _ _) | (with_reducible exact below_boxed _ _) | (with_reducible refine below_box ?_ _) | (with_reducible refine below_drew1 ?_) | (with_reducible refine below_drewn ?_ _) | (with_reducible refine below_bytes ?_ _ _) | (with_reducible refine below_next ?_ (by assumption)) | (with_reducible refine below_set ?_ (by first | (simp; done) | (simp; omega) | omega) _))))) rfl rfl).mono ?_
  rintro e w1 ⟨rfl, rfl⟩
  go_wp2_with fail
  go_ret
  exact ⟨rfl, by (repeat (first | (with_reducible exact Below.refl _ _) | (with_reducible exact below_boxed _ _) | (with_reducible refine below_box ?_ _) | (with_reducible refine below_drew1 ?_) | (with_reducible refine below_drewn ?_ _) | (with_reducible refine below_bytes ?_ _ _) | (with_reducible refine below_next ?_ (by assumption)) | (with_reducible refine below_set ?_ (by first | (simp; done) | (simp; omega) | omega) _)))⟩

theorem method_Less (v : Value) (w : World) : (method 317 80 v "Less").run Tryz.prog w = .ok (152, v) w := by kernel_rfl

set_option maxRecDepth 100000 in
set_option maxHeartbeats 800000 in
theorem less_ok (x y : Ent) (w : World) (hx : x.At w) (hy : y.At w) :
    Calls Tryz.prog 104 #[x.val, y.val] w fun e w' => e = .returned (.bool (decide (Lib.compareBytes x.dig y.dig < 0))) ∧ Below w.heap.size w w' := by
  have he1 := fun (W : World) (v v' : Value) => run_eql_iface_ne (P := Tryz.prog) W (ti := 74) (t := 80) (u := 183) Tryz.underlying74 (by decide) v v'
  have he2 := fun (W : World) (v v' : Value) => run_eql_iface_ne (P := Tryz.prog) W (ti := 74) (t := 80) (u := 184) Tryz.underlying74 (by decide) v v'
  have hL := fun W (h1 : x.At W) (h2 : y.At W) => Less_ok x y W h1 h2
  unfold Ent.val at *
  have hm := method_Less
  generalize x.agg = xa at *
  generalize y.agg = ya at *
  go_enter Tryz.func104, Tryz.ntmps104
  go_wp2_with fail
  refine (hL _ hx hy).mono ?_
  rintro e w1 ⟨rfl, hb1⟩
  go_wp2_with fail
  go_ret
  exact ⟨rfl, hb1⟩

end Go.Proofs.YtifoicdnibgdaaaGreatDoor
