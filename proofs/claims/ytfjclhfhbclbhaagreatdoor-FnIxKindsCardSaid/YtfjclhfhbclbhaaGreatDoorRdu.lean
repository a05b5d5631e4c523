/- varint.ReadUvarint over a bytes.Reader. -/
import Derived.Test.YtfjclhfhbclbhaaGreatDoorRd
namespace Go.Proofs.YtfjclhfhbclbhaaGreatDoor
open Go.RowKit
set_option linter.unusedVariables false
set_option linter.unusedSimpArgs false
attribute [local go_sem] setCell_drewN alloc_drewN

theorem toU8_nat {a : Nat} (h : a < 256) : (((a.toUInt8).toNat : Nat) : Int) = (a : Int) := by simp [Nat.toUInt8, UInt8.toNat_ofNat', Nat.mod_eq_of_lt h]

theorem method_ReadByte (v : Value) (w : World) : (method 448 32 v "ReadByte").run Tryz.prog w = .ok (159, v) w := by kernel_rfl
theorem tuple2 {a a' b : Value} (h1 : a = a') : Ending.returned (.tuple #[a, b]) = .returned (.tuple #[a', b]) := by rw [h1]

set_option maxRecDepth 100000 in
set_option maxHeartbeats 1600000 in
theorem ReadUvarint_ok (b : Nat) (A : Option Addr) (cap : Nat) (bs : List UInt8) (pos : Nat) (n : Nat) (hn : n < 9223372036854775808) (rest : List UInt8) (w : World) (h : RdAt w b A cap bs pos) (hbs : bs.drop pos = Lib.uvarint n ++ rest) :
    Calls Tryz.prog 32 #[.iface 32 (.pointer (some ⟨b, 0, none⟩))] w fun e w' => e = .returned (.tuple #[.int .u64 n, .nilIface]) ∧ RdAt w' b A cap bs (pos + (Lib.uvarint n).length) ∧ Kp (fun i => i = b) w w' := by
  have hme := method_ReadByte
  go_enter Tryz.func32, Tryz.ntmps32
  go_wp2_with fail
  go_loopw [4, 5] (fun vx vs wr => ∃ (k y acc : Nat) (pre : List UInt8), vs = .int .u64 ((7 * k : Nat) : Int) ∧ vx = .int .u64 acc ∧ pre.length = k ∧ Lib.uvarint n = pre ++ Lib.uvarint y ∧ acc < 2 ^ (7 * k) ∧ n = acc + y * 2 ^ (7 * k) ∧ (k = 0 ∨ 0 < y) ∧ RdAt wr b A cap bs (pos + k) ∧ Kp (fun i => i = b) w wr)
    (fun _ vs _ => 1000 - (intOf vs).toNat)
  case atStart => exact ⟨0, n, 0, [], rfl, rfl, rfl, rfl, by decide, by simp, .inl rfl, h, Kp.refl _ _⟩
  case round =>
    clear h
    obtain ⟨k, y, acc, pre, rfl, rfl, hk, hsplit, hacc, hval, hy, hR, hK⟩ := hrel
    have hat : ∀ j, bs[pos + j]? = (Lib.uvarint n ++ rest)[j]? := fun j => by rw [← hbs, List.getElem?_drop]
    by_cases hb : y < 128
    · have hx : bs[pos + k]? = some y.toUInt8 := by
        rw [hat, hsplit, Lib.uvarint_small hb, List.append_assoc, List.getElem?_append_right (by omega), hk]; simp
      have hRB := ReadByte_ok b A cap bs (pos + k) y.toUInt8 wr hR hx
      rw [toU8_nat (by omega)] at hRB
      have hk9 : k < 9 := pow_bound hn hval hy
      have hy0 : y = 0 → k = 0 := by omega
      have HL : Hid ((Lib.uvarint n).length = k + 1) := Lib.hid (by rw [hsplit, List.length_append, hk, Lib.uvarint_small hb]; rfl)
      have H2 := Lib.hid hval
      clear hx hat hsplit hval hk hbs hR
      go_wp2_with fail
      refine hRB.mono ?_
      rintro e w1 ⟨rfl, hR1, hK1⟩
      have hyb : (y : Int) < 128 := by omega
      have hk9' : (k : Int) < 9 := by omega
      go_wp2_with fail
      · go_ret2
        have hk8 : (7 * (k : Int)) = 56 := by assumption
        obtain rfl : k = 8 := by omega
        have hv := H2.out
        exact ⟨tuple2 (int_eq (or_int acc _ 56 y n (by simp) hacc (by omega) hv)), by rw [HL.out]; exact hR1, hK.trans hK1 (fun i hi => .inl hi)⟩
      · go_ret2
        have hy1 : y = 0 := by assumption
        obtain rfl := hy0 hy1
        subst hy1
        have hv := H2.out
        exact ⟨tuple2 (int_eq (or_int acc _ 0 0 n (by simp) hacc (by omega) hv)), by rw [HL.out]; exact hR1, hK.trans hK1 (fun i hi => .inl hi)⟩
      · go_ret2
        exact ⟨tuple2 (int_eq (or_done hn hacc H2.out)), by rw [HL.out]; exact hR1, hK.trans hK1 (fun i hi => .inl hi)⟩
    · have hx : bs[pos + k]? = some (y % 128 + 128).toUInt8 := by
        rw [hat, hsplit, Lib.uvarint_big (by omega), List.append_assoc, List.getElem?_append_right (by omega), hk]; simp
      have hRB := ReadByte_ok b A cap bs (pos + k) (y % 128 + 128).toUInt8 wr hR hx
      rw [toU8_nat (by omega)] at hRB
      have hy9 : 0 < y := by omega
      have hk9 : k + 1 < 9 := pow_bound (y := y / 128) (acc := acc + y % 128 * 2 ^ (7 * k)) hn (by rw [hval]; exact pow_step acc y k) (.inr (by omega))
      have H1 := Lib.hid hsplit
      have H2 := Lib.hid hval
      have H3 := Lib.hid hk
      clear hx hat hsplit hval hk hbs hR
      generalize hz : y % 128 + 128 = z at hRB
      have hzb : 128 ≤ (z : Int) := by omega
      have hzb2 : (z : Int) < 256 := by omega
      have HZ := Lib.hid hz; clear hz
      have hk8f : ((7 * (k : Int)) == 56) = false := by simp; omega
      have hk9' : 7 * (k : Int) < 56 := by omega
      go_wp2_with fail
      refine hRB.mono ?_
      rintro e w1 ⟨rfl, hR1, hK1⟩
      go_wp2_with fail
      go_round
      case rel =>
        refine ⟨k + 1, y / 128, acc + y % 128 * 2 ^ (7 * k), pre ++ [(y % 128 + 128).toUInt8], by go_num, ?_, by simp [H3.out], by rw [H1.out, Lib.uvarint_big (by omega)]; simp, pow_lt_step hacc, ?_, .inr (by omega), by rw [← Nat.add_assoc]; exact hR1, hK.trans hK1 (fun i hi => .inl hi)⟩
        · exact int_eq (or_more hn hacc H2.out HZ.out)
        · rw [H2.out]; exact pow_step acc y k
      case measure => simp [intOf]; omega
end Go.Proofs.YtfjclhfhbclbhaaGreatDoor
