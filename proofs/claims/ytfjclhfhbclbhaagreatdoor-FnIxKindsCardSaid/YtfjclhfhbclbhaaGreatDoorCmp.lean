/- bytes.Compare, bytes.Equal. -/
import Derived.Test.YtfjclhfhbclbhaaGreatDoorCidb
import Derived.Lib.Bytealg
import Derived.Laws.Externs
namespace Go.Proofs.YtfjclhfhbclbhaaGreatDoor
open Go.RowKit
set_option linter.unusedVariables false
set_option linter.unusedSimpArgs false
attribute [local go_sem] setCell_drewN alloc_drewN

theorem run_bytesOf {P : Program} {w : World} : ∀ (bs : List UInt8) (g o : Nat) (acc : ByteArray), (∀ j x, bs[j]? = some x → w.cell? ⟨g, o + j, none⟩ = some (.int .u8 (x.toNat : Int))) →
    (Extern.Bytes.loadBytes ⟨g, o, none⟩ bs.length acc).run P w = .ok ⟨acc.data ++ bs.toArray⟩ w
  | [], g, o, acc, _ => by simp [Extern.Bytes.loadBytes, Sem.run_pure]
  | b :: r, g, o, acc, h => by
    have h0 : w.cell? ⟨g, o, none⟩ = some (.int .u8 (b.toNat : Int)) := h 0 b rfl
    have ih := run_bytesOf (P := P) r g (o + 1) (acc.push b) (fun j x hj => by
      have := h (j + 1) x (by simpa using hj)
      rw [show o + 1 + j = o + (j + 1) from by omega]; exact this)
    have hadd : (⟨g, o, none⟩ : Addr).add 1 = ⟨g, o + 1, none⟩ := rfl
    simp only [List.length_cons, Extern.Bytes.loadBytes]
    simp [h0, hadd, ih]

theorem run_compare {P : Program} (w : World) (A B : Option Addr) (a b : List UInt8) (ca cb : Nat) (ha : BytesAt w A a) (hb : BytesAt w B b) :
    (Extern.BytealgCompare.compare #[.slice A a.length ca, .slice B b.length cb]).run P w = .ok (.int .i64 (Lib.compareBytes a b)) w := by
  have key : ∀ (X : Option Addr) (x : List UInt8) (c : Nat), BytesAt w X x → (Extern.Bytes.bytesOf (.slice X x.length c)).run P w = .ok ⟨x.toArray⟩ w := by
    intro X x c hx
    rcases hx with hx | ⟨g, o, rfl, hc⟩
    · subst hx
      cases X with
      | none => simp [Extern.Bytes.bytesOf, Sem.run_pure, ByteArray.empty, ByteArray.emptyWithCapacity]; rfl
      | some ad => simp [Extern.Bytes.bytesOf, Extern.Bytes.loadBytes, Sem.run_pure, ByteArray.empty, ByteArray.emptyWithCapacity]; rfl
    · have := run_bytesOf (P := P) x g o .empty hc
      simp only [Extern.Bytes.bytesOf]
      rw [this]
      simp [ByteArray.empty, ByteArray.emptyWithCapacity]; rfl
  change Sem.run P (do pure (goInt (Extern.BytealgCompare.cmp (← Extern.Bytes.bytesOf (.slice A a.length ca)) (← Extern.Bytes.bytesOf (.slice B b.length cb))))) w = _
  simp only [Sem.run_bind, key A a ca ha, key B b cb hb, Result.andThen, Sem.run_pure, Lib.cmp_eq]
  rfl

theorem call_compare (args : Array Value) (w : World) : (callFunc 233 args).run Tryz.prog w = ((Extern.BytealgCompare.compare args).run Tryz.prog w).andThen fun v w' => .ok (.value v) w' :=
  run_callFunc_extern Tryz.func233 (by kernel_rfl) (by kernel_rfl) (by kernel_rfl) (e := Extern.BytealgCompare.compare) (by kernel_rfl) args w

set_option maxRecDepth 100000 in
set_option maxHeartbeats 800000 in
theorem Compare_ok (A B : Option Addr) (a b : List UInt8) (n m ca cb : Nat) (w : World) (ha : BytesAt w A a) (hb : BytesAt w B b) (hn : a.length = n) (hm : b.length = m) :
    Calls Tryz.prog 213 #[.slice A n ca, .slice B m cb] w fun e w' => e = .returned (.int .i64 (Lib.compareBytes a b)) ∧ w = w' := by
  subst hn; subst hm
  have h1 := call_compare #[.slice A a.length ca, .slice B b.length cb] w
  rw [run_compare w A B a b ca cb ha hb] at h1
  simp only [Result.andThen] at h1
  go_enter Tryz.func213, Tryz.ntmps213
  go_wp2_with fail
  go_ret
  exact ⟨rfl, rfl⟩

theorem Equal_ok (a b : List UInt8) (A B : Option Addr) (ca cb : Nat) (w : World) (ha : BytesAt w A a) (hb : BytesAt w B b) :
    Calls Tryz.prog 204 #[.slice A a.length ca, .slice B b.length cb] w fun e w' => e = .returned (.bool (a == b)) ∧ w = w' := by
  have h1 := bytes_string (P := Tryz.prog) Tryz.underlying27 Tryz.underlying5 Tryz.underlying9 w A a ca ha
  have h2 := bytes_string (P := Tryz.prog) Tryz.underlying27 Tryz.underlying5 Tryz.underlying9 w B b cb hb
  go_enter Tryz.func204, Tryz.ntmps204
  go_wp2_with fail
  go_ret
  exact ⟨by simp, rfl⟩

end Go.Proofs.YtfjclhfhbclbhaaGreatDoor
