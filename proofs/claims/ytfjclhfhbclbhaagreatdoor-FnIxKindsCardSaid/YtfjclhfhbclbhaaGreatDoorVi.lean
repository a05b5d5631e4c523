/- spec.Varint, MultihashBytes, CidBytes: an identifier's bytes. -/
import Derived.Test.YtfjclhfhbclbhaaGreatDoorShk
import Derived.Test.YtfjclhfhbclbhaaGreatDoorCidb
import Derived.RegionCalls
import Derived.Deep.RegionWith
import Derived.Deep.RegionHeld3
namespace Go.Proofs.YtfjclhfhbclbhaaGreatDoor
open Go.RowKit
set_option linter.unusedVariables false
set_option linter.unusedSimpArgs false
attribute [local go_sem] setCell_drewN alloc_drewN

theorem or128 (m : Nat) : bits .or .u8 ((m : Int) % 256) 128 = ((m % 128 + 128 : Nat) : Int) := by
  have e : ((m : Int) % 256) = ((m % 256 : Nat) : Int) := by omega
  have e2 : (128 : Int) = ((128 : Nat) : Int) := rfl
  rw [e, e2, u8_or_nat _ _ (by omega) (by omega)]
  congr 1
  have h1 : m % 128 ||| 128 = m % 128 + 128 := by
    have := nat_or_add (m % 128) 1 7 (by omega)
    simpa using this
  rcases Nat.lt_or_ge (m % 256) 128 with h | h
  · have e3 : m % 256 = m % 128 := by omega
    rw [e3, h1]
  · have e3 : m % 256 = m % 128 + 128 := by omega
    rw [e3, ← h1, Nat.or_assoc, Nat.or_self]

theorem toU8_toNat (x : Nat) (h : x < 256) : ((x.toUInt8).toNat : Int) = (x : Int) := by
  simp [Nat.toUInt8, UInt8.toNat_ofNat', Nat.mod_eq_of_lt h]

set_option maxRecDepth 100000 in
theorem Varint_ok (n : Nat) (hn : n < 18446744073709551616) (w : World) : Calls Tryz.prog 6 #[.int .u64 n] w fun e w' => ∃ v, e = .returned v ∧ w'.ownsRow w.heap.size 5 1 v (Lib.uvarint n).length (Lib.byteCells (Lib.uvarint n)) ∧ Below w.heap.size w w' := by
  obtain ⟨i0, hi, hz0, hz1, hz2⟩ := info_parts info_byte
  have hlen : (Lib.uvarint n).length ≤ 10 := Lib.uvarint_length 9 n (Nat.lt_of_lt_of_le hn (by decide))
  go_enter Tryz.func6, Tryz.ntmps6
  go_wp2_with fail
  go_loopw [3, 0] (fun v vm wr => ∃ m : Nat, vm = .int .u64 m ∧ m ≤ n ∧ ∃ pre : List UInt8, Lib.uvarint n = pre ++ Lib.uvarint m ∧ wr.ownsRow w.heap.size 5 1 v pre.length (Lib.byteCells pre) ∧ Below w.heap.size w wr) (fun _ vm _ => (intOf vm).toNat)
  case atStart => exact ⟨n, rfl, Nat.le_refl _, [], rfl, ⟨rfl, .inl ⟨rfl, rfl⟩⟩, Below.refl _ _⟩
  case round =>
    obtain ⟨m, rfl, hm, pre, hpre, hown, hbel⟩ := hrel
    have hpl : pre.length + (Lib.uvarint m).length ≤ 10 := by rw [hpre] at hlen; simpa using hlen
    by_cases h : m < 128
    · have hs := Lib.uvarint_small h
      have e0 : (m : Int) % 256 = (m : Int) := by omega
      go_wp2_with (at_builtin; refine wpList_append_own _ rfl _ _ 27 rfl w.heap.size 5 i0 (.int .u8 0) 1 1 Tryz.underlying27 hi hz0 hz1 hz2 rfl (by decide) _ _ _ rfl (hown.alloc _) ⟨wr.heap.size, 0, none⟩ 1 1 [.int .u8 (m : Int)] rfl rfl ?c1 ?c2 ?c3 ?c4 ?c5 ?_)
      case c1 =>
        intro j u hj
        match j, hj with
        | 0, hj => simp at hj; subst hj; simp [Addr.add]
      case c2 => intro u hu; simp at hu; subst hu; rfl
      case c3 => unfold maxLen; omega
      case c4 => omega
      case c5 => have := hbel.size; simp; omega
      intro v' w2 hown' hgrow _
      have hbel' := own_grow (B := 0) (hown.alloc _) (below_box hbel _) hgrow
      go_wp2_with fail
      go_ret
      refine ⟨_, rfl, ?_, hbel'⟩
      rw [← toU8_toNat m (by omega)] at hown'
      rw [hpre, hs]
      simpa [Lib.byteCells] using hown'
    · have hs := Lib.uvarint_big (x := m) (by omega)
      rw [hs] at hpl
      go_wp2_with (at_builtin; refine wpList_append_own _ rfl _ _ 27 rfl w.heap.size 5 i0 (.int .u8 0) 1 1 Tryz.underlying27 hi hz0 hz1 hz2 rfl (by decide) _ _ _ rfl (hown.alloc _) ⟨wr.heap.size, 0, none⟩ 1 1 [.int .u8 (bits .or .u8 ((m : Int) % 256) 128)] rfl rfl ?d1 ?d2 ?d3 ?d4 ?d5 ?_)
      case d1 =>
        intro j u hj
        match j, hj with
        | 0, hj => simp at hj; subst hj; simp [Addr.add]
      case d2 => intro u hu; simp at hu; subst hu; rfl
      case d3 => unfold maxLen; simp at hpl; omega
      case d4 => simp at hpl; omega
      case d5 => have := hbel.size; simp; omega
      intro v' w2 hown' hgrow _
      have hbel' := own_grow (B := 0) (hown.alloc _) (below_box hbel _) hgrow
      go_wp2_with fail
      refine ⟨⟨m / 128, by simp, by omega, pre ++ [(m % 128 + 128).toUInt8], by rw [hpre, hs]; simp, ?_, hbel'⟩, by simp [intOf]; omega⟩
      rw [or128, ← toU8_toNat (m % 128 + 128) (by omega)] at hown'
      simpa [Lib.byteCells] using hown'

theorem uvarint_ne (n : Nat) : 0 < (Lib.uvarint n).length := by
  rw [Lib.uvarint]; split <;> simp

/-- The same, as bytes that lie there. -/
theorem Varint_bytes (n : Nat) (hn : n < 18446744073709551616) (w : World) : Calls Tryz.prog 6 #[.int .u64 n] w fun e w' => ∃ g c, e = .returned (.slice (some ⟨g, 0, none⟩) (Lib.uvarint n).length c) ∧ BytesAt w' (some ⟨g, 0, none⟩) (Lib.uvarint n) ∧ g < w'.heap.size ∧ Below w.heap.size w w' := by
  refine (Varint_ok n hn w).mono ?_
  rintro e w' ⟨v, rfl, hown, hb⟩
  obtain ⟨g, c, rfl, hby⟩ := own_bytes hown (uvarint_ne n) rfl
  refine ⟨g, c, rfl, hby, ?_, hb⟩
  rcases hby with h | ⟨g', o, e, hc⟩
  · have := uvarint_ne n; rw [h] at this; cases this
  · cases e
    exact World.block_lt_of_cell? w' _ (hc 0 _ (List.getElem?_eq_getElem (uvarint_ne n)))

/-- '[]byte' into 'string', under a name of its own: so that the walk of a region that draws does not try to take it first. -/
def cvs (x : Operand) : Op := Op.convert 27 9 x
attribute [local go_sem] cvs
theorem sOf_append (a b : List UInt8) : (⟨a.toArray⟩ : ByteArray) ++ (⟨b.toArray⟩ : ByteArray) = ⟨(a ++ b).toArray⟩ := by
  apply ByteArray.ext
  rw [ByteArray.data_append]
  apply Array.ext'
  simp

end Go.Proofs.YtfjclhfhbclbhaaGreatDoor
