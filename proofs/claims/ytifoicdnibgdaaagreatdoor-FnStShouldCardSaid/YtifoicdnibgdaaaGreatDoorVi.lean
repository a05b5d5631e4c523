/- spec.Varint, MultihashBytes, CidBytes: an identifier's bytes. -/
import Derived.Test.YtifoicdnibgdaaaGreatDoorShk
import Derived.Test.YtifoicdnibgdaaaGreatDoorCidb
import Derived.RegionCalls
import Derived.Deep.RegionWith
import Derived.Deep.RegionHeld3
namespace Go.Proofs.YtifoicdnibgdaaaGreatDoor
open Go.RowKit
set_option linter.unusedVariables false
set_option linter.unusedSimpArgs false
attribute [local go_sem] setCell_drewN alloc_drewN

theorem or128 (m : Nat) : bits .or .u8 ((m : Int) % 256) 128 = ((m % 128 + 128 : Nat) : Int) := by
  have e : ((m : Int) % 256) = ((m % 256 : Nat) : Int) := by omega
  have e2 : (128 : Int) = ((128 : Nat) : Int) := rfl
  rw [e, e2, u8_or_nat _ _ (by omega) (by omega)]
  congr 1
  have h1 : m % 128 ||| 128 = m % 128 + 128 := by
    have := nat_or_add (m % 128) 1 7 (by omega)
    simpa using this
  rcases Nat.lt_or_ge (m % 256) 128 with h | h
  · have e3 : m % 256 = m % 128 := by omega
    rw [e3, h1]
  · have e3 : m % 256 = m % 128 + 128 := by omega
    rw [e3, ← h1, Nat.or_assoc, Nat.or_self]

theorem toU8_toNat (x : Nat) (h : x < 256) : ((x.toUInt8).toNat : Int) = (x : Int) := by
  simp [Nat.toUInt8, UInt8.toNat_ofNat', Nat.mod_eq_of_lt h]

set_option maxRecDepth 100000 in
theorem Varint_ok (n : Nat) (hn : n < 18446744073709551616) (w : World) : Calls Tryz.prog 79 #[.int .u64 n] w fun e w' => ∃ v, e = .returned v ∧ w'.ownsRow w.heap.size 5 1 v (Lib.uvarint n).length (Lib.byteCells (Lib.uvarint n)) ∧ Below w.heap.size w w' := by
  obtain ⟨i0, hi, hz0, hz1, hz2⟩ := info_parts info_byte
  have hlen : (Lib.uvarint n).length ≤ 10 := Lib.uvarint_length 9 n (Nat.lt_of_lt_of_le hn (by decide))
  go_enter Tryz.func79, Tryz.ntmps79
  go_wp2_with fail
  go_loopw [3, 0] (fun v vm wr => ∃ m : Nat, vm = .int .u64 m ∧ m ≤ n ∧ ∃ pre : List UInt8, Lib.uvarint n = pre ++ Lib.uvarint m ∧ wr.ownsRow w.heap.size 5 1 v pre.length (Lib.byteCells pre) ∧ Below w.heap.size w wr) (fun _ vm _ => (intOf vm).toNat)
  case atStart => exact ⟨n, rfl, Nat.le_refl _, [], rfl, ⟨rfl, .inl ⟨rfl, rfl⟩⟩, Below.refl _ _⟩
  case round =>
    obtain ⟨m, rfl, hm, pre, hpre, hown, hbel⟩ := hrel
    have hpl : pre.length + (Lib.uvarint m).length ≤ 10 := by rw [hpre] at hlen; simpa using hlen
    by_cases h : m < 128
    · have hs := Lib.uvarint_small h
      have e0 : (m : Int) % 256 = (m : Int) := by omega
      go_wp2_with (at_builtin; refine wpList_append_own _ rfl _ _ 76 rfl w.heap.size 5 i0 (.int .u8 0) 1 1 Tryz.underlying76 hi hz0 hz1 hz2 rfl (by decide) _ _ _ rfl (hown.alloc _) ⟨wr.heap.size, 0, none⟩ 1 1 [.int .u8 (m : Int)] rfl rfl ?c1 ?c2 ?c3 ?c4 ?c5 ?_)
      case c1 =>
        intro j u hj
        match j, hj with
        | 0, hj => simp at hj; subst hj; simp [Addr.add]
      case c2 => intro u hu; simp at hu; subst hu; rfl
      case c3 => unfold maxLen; omega
      case c4 => omega
      case c5 => have := hbel.size; simp; omega
      intro v' w2 hown' hgrow _
      have hbel' := own_grow (B := 0) (hown.alloc _) (below_box hbel _) hgrow
      go_wp2_with fail
      go_ret
      refine ⟨_, rfl, ?_, hbel'⟩
      rw [← toU8_toNat m (by omega)] at hown'
      rw [hpre, hs]
      simpa [Lib.byteCells] using hown'
    · have hs := Lib.uvarint_big (x := m) (by omega)
      rw [hs] at hpl
      go_wp2_with (at_builtin; refine wpList_append_own _ rfl _ _ 76 rfl w.heap.size 5 i0 (.int .u8 0) 1 1 Tryz.underlying76 hi hz0 hz1 hz2 rfl (by decide) _ _ _ rfl (hown.alloc _) ⟨wr.heap.size, 0, none⟩ 1 1 [.int .u8 (bits .or .u8 ((m : Int) % 256) 128)] rfl rfl ?d1 ?d2 ?d3 ?d4 ?d5 ?_)
      case d1 =>
        intro j u hj
        match j, hj with
        | 0, hj => simp at hj; subst hj; simp [Addr.add]
      case d2 => intro u hu; simp at hu; subst hu; rfl
      case d3 => unfold maxLen; simp at hpl; omega
      case d4 => simp at hpl; omega
      case d5 => have := hbel.size; simp; omega
      intro v' w2 hown' hgrow _
      have hbel' := own_grow (B := 0) (hown.alloc _) (below_box hbel _) hgrow
      go_wp2_with fail
      refine ⟨⟨m / 128, by simp, by omega, pre ++ [(m % 128 + 128).toUInt8], by rw [hpre, hs]; simp, ?_, hbel'⟩, by simp [intOf]; omega⟩
      rw [or128, ← toU8_toNat (m % 128 + 128) (by omega)] at hown'
      simpa [Lib.byteCells] using hown'

theorem uvarint_ne (n : Nat) : 0 < (Lib.uvarint n).length := by
  rw [Lib.uvarint]; split <;> simp

/-- The same, as bytes that lie there. -/
theorem Varint_bytes (n : Nat) (hn : n < 18446744073709551616) (w : World) : Calls Tryz.prog 79 #[.int .u64 n] w fun e w' => ∃ g c, e = .returned (.slice (some ⟨g, 0, none⟩) (Lib.uvarint n).length c) ∧ BytesAt w' (some ⟨g, 0, none⟩) (Lib.uvarint n) ∧ g < w'.heap.size ∧ Below w.heap.size w w' := by
  refine (Varint_ok n hn w).mono ?_
  rintro e w' ⟨v, rfl, hown, hb⟩
  obtain ⟨g, c, rfl, hby⟩ := own_bytes hown (uvarint_ne n) rfl
  refine ⟨g, c, rfl, hby, ?_, hb⟩
  rcases hby with h | ⟨g', o, e, hc⟩
  · have := uvarint_ne n; rw [h] at this; cases this
  · cases e
    exact World.block_lt_of_cell? w' _ (hc 0 _ (List.getElem?_eq_getElem (uvarint_ne n)))

/-- '[]byte' into 'string', under a name of its own: so that the walk of a region that draws does not try to take it first. -/
def cvs (x : Operand) : Op := Op.convert 76 9 x
attribute [local go_sem] cvs
theorem sOf_append (a b : List UInt8) : (⟨a.toArray⟩ : ByteArray) ++ (⟨b.toArray⟩ : ByteArray) = ⟨(a ++ b).toArray⟩ := by
  apply ByteArray.ext
  rw [ByteArray.data_append]
  apply Array.ext'
  simp

set_option maxRecDepth 100000 in
set_option maxHeartbeats 1600000 in
theorem MhBytes_ok (code : Nat) (dig : List UInt8) (hc : code < 18446744073709551616) (hd : dig.length ≤ 1000) (w : World) : Calls Tryz.prog 78 #[.int .u64 code, .string (sOf dig)] w fun e w' => e = .returned (.string (sOf (Lib.uvarint code ++ (Lib.uvarint dig.length ++ dig)))) ∧ Below w.heap.size w w' := by
  have hsz : (sOf dig).size = dig.length := by simp [sOf, ByteArray.size]
  have hw : IntKind.u64.wrap (dig.length : Int) = (dig.length : Int) := by rw [IntKind.wrap_u64]; omega
  have hlc : (Lib.uvarint code).length ≤ 10 := Lib.uvarint_length 9 code (Nat.lt_of_lt_of_le hc (by decide))
  have hld : (Lib.uvarint dig.length).length ≤ 10 := Lib.uvarint_length 9 _ (Nat.lt_of_le_of_lt hd (by decide))
  have hl1 : ¬ 9223372036854775807 < (Lib.uvarint code).length + (Lib.uvarint dig.length).length := by omega
  have hl2 : ¬ 9223372036854775807 < (Lib.uvarint code).length + (Lib.uvarint dig.length).length + dig.length := by omega
  clear hlc hld
  go_enter Tryz.func78, Tryz.ntmps78
  go_wp2_with fail
  go_region_with (first | (go_at_call_of 79 (Value.int .u64 (code : Int)); refine (Varint_bytes code hc _).mono ?_; rintro e w1 ⟨g1, c1, rfl, hby1, hg1, hb1⟩; have hv1 := bytes_string (P := Tryz.prog) Tryz.underlying76 Tryz.underlying5 Tryz.underlying9 w1 _ _ c1 hby1) | (go_at_call_of 79 (Value.int .u64 (dig.length : Int)); refine (Varint_bytes dig.length (by omega) _).mono ?_; rintro e w2 ⟨g2, c2, rfl, hby2, hg2, hb2⟩; have hv1' := bytes_string (P := Tryz.prog) Tryz.underlying76 Tryz.underlying5 Tryz.underlying9 w2 _ _ c1 (hby1.below hb2); have hv2 := bytes_string (P := Tryz.prog) Tryz.underlying76 Tryz.underlying5 Tryz.underlying9 w2 _ _ c2 hby2))
  all_goals (go_wp2_with fail; go_ret; exact ⟨by simp [sOf, sOf_append, Act.put], by (repeat (first | (with_reducible exact Below.refl _ _) | (with_reducible exact below_boxed _ _) | (with_reducible refine below_box ?_ _) | (with_reducible refine below_drew1 ?_) | (with_reducible refine below_drewn ?_ _) | (with_reducible refine below_bytes ?_ _ _) | (with_reducible refine below_next ?_ (by assumption)) | (with_reducible refine below_set ?_ (by first | (simp; done) | (simp; omega) | omega) _)))⟩)

set_option maxRecDepth 100000 in
set_option maxHeartbeats 3200000 in
theorem CidBytes_ok (c : CidOf) (hc : c.Ok) (w : World) : Calls Tryz.prog 43 #[.agg #[.int .u64 c.ver, .int .u64 c.codec, .int .u64 c.code, .string (sOf c.dig)]] w fun e w' => e = .returned (.string (sOf c.bytes)) ∧ Below w.heap.size w w' := by
  have hcode := hc.code
  have hcodec := hc.codec
  have hdl := hc.dig
  by_cases hv : c.ver = 0
  · have hb : c.bytes = c.mh := by simp [CidOf.bytes, hv]
    rw [hb, hv]
    go_enter Tryz.func43, Tryz.ntmps43
    go_wp2_with (first | (go_at_call 78; refine (MhBytes_ok c.code c.dig (by omega) (by omega) _).mono ?_; rintro e w1 ⟨rfl, hb1⟩))
    go_ret
    exact ⟨rfl, by (repeat (first | (with_reducible exact Below.refl _ _) | (with_reducible exact below_boxed _ _) | (with_reducible refine below_box ?_ _) | (with_reducible refine below_drew1 ?_) | (with_reducible refine below_drewn ?_ _) | (with_reducible refine below_bytes ?_ _ _) | (with_reducible refine below_next ?_ (by assumption)) | (with_reducible refine below_set ?_ (by first | (simp; done) | (simp; omega) | omega) _)))⟩
  · have hv1 : c.ver = 1 := by rcases hc.ver with h | h; exact absurd h.1 hv; exact h
    have hb : c.bytes = Lib.uvarint 1 ++ (Lib.uvarint c.codec ++ c.mh) := by simp [CidOf.bytes, hv1]
    rw [hb, hv1]
    have u1 : (Lib.uvarint 1).length ≤ 10 := Lib.uvarint_length 9 1 (by decide)
    have u2 : (Lib.uvarint c.codec).length ≤ 10 := Lib.uvarint_length 9 _ (Nat.lt_of_lt_of_le hcodec (by decide))
    have u3 : (Lib.uvarint c.code).length ≤ 10 := Lib.uvarint_length 9 _ (Nat.lt_of_lt_of_le hcode (by decide))
    have u4 : (Lib.uvarint c.dig.length).length ≤ 10 := Lib.uvarint_length 9 _ (Nat.lt_of_le_of_lt hdl (by decide))
    have u5 : (sOf (Lib.uvarint c.code ++ (Lib.uvarint c.dig.length ++ c.dig))).size ≤ 220 := by simp [sOf, ByteArray.size]; omega
    have hl1 : ¬ 9223372036854775807 < (Lib.uvarint 1).length + (Lib.uvarint c.codec).length := by omega
    have hl2 : ¬ 9223372036854775807 < (Lib.uvarint 1).length + (Lib.uvarint c.codec).length + (sOf (Lib.uvarint c.code ++ (Lib.uvarint c.dig.length ++ c.dig))).size := by omega
    clear u1 u2 u3 u4 u5
    go_enter Tryz.func43, Tryz.ntmps43
    go_wp2_with fail
    generalize hW : w.alloc (.cells #[.int .u64 1, .int .u64 c.codec, .int .u64 c.code, .string (sOf c.dig)] 28) = W0 at *
    have hb0 : Below w.heap.size w W0 := by rw [← hW]; exact below_boxed _ _
    have hz0 : w.heap.size < W0.heap.size := by rw [← hW]; simp
    have e1 : W0.cell? ⟨w.heap.size, 1, none⟩ = some (.int .u64 c.codec) := by rw [← hW]; simp
    have e2 : W0.cell? ⟨w.heap.size, 2, none⟩ = some (.int .u64 c.code) := by rw [← hW]; simp
    have e3 : W0.cell? ⟨w.heap.size, 3, none⟩ = some (.string (sOf c.dig)) := by rw [← hW]; simp
    have d1 : W0.drew.cell? ⟨w.heap.size, 1, none⟩ = some (.int .u64 c.codec) := e1
    have d2 : W0.drew.cell? ⟨w.heap.size, 2, none⟩ = some (.int .u64 c.code) := e2
    have d3 : W0.drew.cell? ⟨w.heap.size, 3, none⟩ = some (.string (sOf c.dig)) := e3
    clear hW
    simp only [show ∀ x, Op.convert 76 9 x = cvs x from fun _ => rfl]
    go_region_held3 (fun W => W.cell? ⟨w.heap.size, 1, none⟩ = some (.int .u64 c.codec) ∧ W.cell? ⟨w.heap.size, 2, none⟩ = some (.int .u64 c.code) ∧ W.cell? ⟨w.heap.size, 3, none⟩ = some (.string (sOf c.dig))) (first | exact ⟨d1, d2, d3⟩ | exact ⟨x1, x2, x3⟩ | exact ⟨y1, y2, y3⟩ | exact ⟨z1, z2, z3⟩) (first | (go_at_call_of 79 (Value.int .u64 1); refine (Varint_bytes 1 (by omega) _).mono ?_; rintro e w1 ⟨g1, c1, rfl, hby1, hg1, hb1⟩; have hv1 := bytes_string (P := Tryz.prog) Tryz.underlying76 Tryz.underlying5 Tryz.underlying9 w1 _ _ c1 hby1; have x1 := (hb1.cell (p := ⟨w.heap.size, 1, none⟩) hz0).trans d1; have x2 := (hb1.cell (p := ⟨w.heap.size, 2, none⟩) hz0).trans d2; have x3 := (hb1.cell (p := ⟨w.heap.size, 3, none⟩) hz0).trans d3; have hz1 := Nat.lt_of_lt_of_le hz0 hb1.size) | (go_at_call_of 79 (Value.int .u64 (c.codec : Int)); refine (Varint_bytes c.codec (by omega) _).mono ?_; rintro e w2 ⟨g2, c2, rfl, hby2, hg2, hb2⟩; have hv1' := bytes_string (P := Tryz.prog) Tryz.underlying76 Tryz.underlying5 Tryz.underlying9 w2 _ _ c1 (hby1.below hb2); have hv2 := bytes_string (P := Tryz.prog) Tryz.underlying76 Tryz.underlying5 Tryz.underlying9 w2 _ _ c2 hby2; have y1 := (hb2.cell (p := ⟨w.heap.size, 1, none⟩) hz1).trans x1; have y2 := (hb2.cell (p := ⟨w.heap.size, 2, none⟩) hz1).trans x2; have y3 := (hb2.cell (p := ⟨w.heap.size, 3, none⟩) hz1).trans x3) | (go_at_call 78; refine (MhBytes_ok c.code c.dig (by omega) (by omega) _).mono ?_; rintro e w3 ⟨rfl, hb3⟩; have hz2 := Nat.lt_of_lt_of_le hz1 hb2.size; have z1 := (hb3.cell (p := ⟨w.heap.size, 1, none⟩) hz2).trans y1; have z2 := (hb3.cell (p := ⟨w.heap.size, 2, none⟩) hz2).trans y2; have z3 := (hb3.cell (p := ⟨w.heap.size, 3, none⟩) hz2).trans y3; have hv1'' := bytes_string (P := Tryz.prog) Tryz.underlying76 Tryz.underlying5 Tryz.underlying9 w3 _ _ c1 ((hby1.below hb2).below hb3); have hv2' := bytes_string (P := Tryz.prog) Tryz.underlying76 Tryz.underlying5 Tryz.underlying9 w3 _ _ c2 (hby2.below hb3)))
    all_goals (go_wp2_with fail; go_ret; exact ⟨by simp [sOf, sOf_append, CidOf.mh], by (repeat (first | (with_reducible exact Below.refl _ _) | (with_reducible exact below_boxed _ _) | (with_reducible refine below_box ?_ _) | (with_reducible refine below_drew1 ?_) | (with_reducible refine below_drewn ?_ _) | (with_reducible refine below_bytes ?_ _ _) | (with_reducible refine below_next ?_ (by assumption)) | (with_reducible refine below_set ?_ (by first | (simp; done) | (simp; omega) | omega) _)))⟩)
end Go.Proofs.YtifoicdnibgdaaaGreatDoor
