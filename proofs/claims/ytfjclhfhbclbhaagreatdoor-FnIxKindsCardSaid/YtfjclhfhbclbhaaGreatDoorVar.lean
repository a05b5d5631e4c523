/- Varints: what the program reads of them, and writes. -/
import Derived.Test.YtfjclhfhbclbhaaGreatDoorProg
import Derived.Test.YtfjclhfhbclbhaaGreatDoorBase
import Derived.Outline
import Derived.Deep.QuietTactic
import Derived.BigQuiet
import Derived.Laws.BitsAllLaws
namespace Go.Proofs.YtfjclhfhbclbhaaGreatDoor
open Go.RowKit
set_option linter.unusedVariables false
set_option linter.unusedSimpArgs false

theorem pow_bound {n acc y k : Nat} (hn : n < 9223372036854775808) (hv : n = acc + y * 2 ^ (7 * k)) (hy : k = 0 ∨ 0 < y) : k < 9 := by
  rcases hy with h | h
  · omega
  · have h1 : 2 ^ (7 * k) ≤ y * 2 ^ (7 * k) := Nat.le_mul_of_pos_left _ h
    have h2 : 2 ^ (7 * k) < 2 ^ 63 := by have : (2 : Nat) ^ 63 = 9223372036854775808 := by decide
                                         omega
    have h3 := (Nat.pow_lt_pow_iff_right (by omega : 1 < 2)).1 h2
    omega

theorem or_nat (acc m p y n : Nat) (hm : m = y * 2 ^ p) (hacc : acc < 2 ^ p) (hn : n < 18446744073709551616) (hv : n = acc + y * 2 ^ p) : bits .or .u64 (acc : Int) (m : Int) = (n : Int) := by
  subst hm
  rw [u64_or_nat _ _ (by omega) (by omega), nat_or_add _ _ _ hacc, hv]

theorem or_int (acc : Nat) (m : Int) (p y n : Nat) (hm : m = ((y * 2 ^ p : Nat) : Int)) (hacc : acc < 2 ^ p) (hn : n < 18446744073709551616) (hv : n = acc + y * 2 ^ p) : bits .or .u64 (acc : Int) m = (n : Int) := by
  rw [hm]; exact or_nat _ _ p y n rfl hacc hn hv

theorem u64_wrap_nat (m : Nat) (h : m < 18446744073709551616) : IntKind.u64.wrap (m : Int) = (m : Int) := by rw [IntKind.wrap_u64]; omega

theorem u8_and127n (z : Nat) (h : z < 256) : bits .and .u8 (z : Int) 127 = ((z % 128 : Nat) : Int) := by
  have := u8_and_nat z 127 h (by omega)
  rw [show (127 : Int) = ((127 : Nat) : Int) from rfl, this]
  congr 1
  exact Nat.and_two_pow_sub_one_eq_mod z 7

theorem pow_cast (k : Nat) : ((2 : Int) ^ k) = ((2 ^ k : Nat) : Int) := by simp

theorem or_done {acc y k n : Nat} (hn : n < 9223372036854775808) (hacc : acc < 2 ^ (7 * k)) (hv : n = acc + y * 2 ^ (7 * k)) :
    bits .or .u64 (acc : Int) (IntKind.u64.wrap ((y : Int) * 2 ^ (7 * k))) = (n : Int) := by
  have e : ((y : Int) * 2 ^ (7 * k)) = ((y * 2 ^ (7 * k) : Nat) : Int) := by rw [pow_cast]; simp
  rw [e, u64_wrap_nat _ (by omega)]
  exact or_nat _ _ _ _ _ rfl hacc (by omega) hv

theorem tuple3 {a a' b b' c : Value} (h1 : a = a') (h2 : b = b') : Ending.returned (.tuple #[a, b, c]) = .returned (.tuple #[a', b', c]) := by rw [h1, h2]
theorem int_eq {k : IntKind} {a b : Int} (h : a = b) : Value.int k a = .int k b := by rw [h]

theorem pow_step (acc y k : Nat) : acc + y * 2 ^ (7 * k) = acc + y % 128 * 2 ^ (7 * k) + y / 128 * 2 ^ (7 * (k + 1)) := by
  have e : 2 ^ (7 * (k + 1)) = 128 * 2 ^ (7 * k) := by rw [Nat.mul_add, Nat.pow_add]; omega
  rw [e, ← Nat.mul_assoc, Nat.add_assoc, ← Nat.add_mul]
  congr 2
  omega

theorem pow_lt_step {acc y k : Nat} (h : acc < 2 ^ (7 * k)) : acc + y % 128 * 2 ^ (7 * k) < 2 ^ (7 * (k + 1)) := by
  have e : 2 ^ (7 * (k + 1)) = 128 * 2 ^ (7 * k) := by rw [Nat.mul_add, Nat.pow_add]; omega
  have h1 : y % 128 * 2 ^ (7 * k) ≤ 127 * 2 ^ (7 * k) := Nat.mul_le_mul_right _ (by omega)
  omega

theorem or_more {acc y k n z : Nat} (hn : n < 9223372036854775808) (hacc : acc < 2 ^ (7 * k)) (hv : n = acc + y * 2 ^ (7 * k)) (hz : y % 128 + 128 = z) :
    bits .or .u64 (acc : Int) (IntKind.u64.wrap (IntKind.u64.wrap (bits .and .u8 (z : Int) 127) * 2 ^ (7 * k))) = ((acc + y % 128 * 2 ^ (7 * k) : Nat) : Int) := by
  have h0 : bits .and .u8 (z : Int) 127 = ((y % 128 : Nat) : Int) := by
    rw [u8_and127n z (by omega)]; omega
  have h1 : y % 128 * 2 ^ (7 * k) ≤ y * 2 ^ (7 * k) := Nat.mul_le_mul_right _ (Nat.mod_le _ _)
  rw [h0, u64_wrap_nat _ (by omega)]
  have e : (((y % 128 : Nat) : Int) * 2 ^ (7 * k)) = ((y % 128 * 2 ^ (7 * k) : Nat) : Int) := by rw [pow_cast]; simp
  rw [e, u64_wrap_nat _ (by omega)]
  exact or_nat _ _ (7 * k) (y % 128) _ rfl hacc (by omega) rfl

set_option maxRecDepth 100000 in
set_option maxHeartbeats 800000 in
theorem FromUvarint_ok (n : Nat) (hn : n < 9223372036854775808) (rest : List UInt8) (A : Option Addr) (c : Nat) (w : World) (h : BytesAt w A (Lib.uvarint n ++ rest)) (hl : (Lib.uvarint n ++ rest).length ≤ 140737488355328) :
    Calls Tryz.prog 135 #[.slice A (Lib.uvarint n ++ rest).length c] w fun e w' => e = .returned (.tuple #[.int .u64 n, .int .i64 (Lib.uvarint n).length, .nilIface]) ∧ w = w' := by
  have hpos := Lib.uvarint_pos n
  rcases h with h | ⟨g, o, rfl, hc⟩
  · have := congrArg List.length h; rw [List.length_append, List.length_nil] at this; omega
  have hlen : (Lib.uvarint n ++ rest).length = (Lib.uvarint n).length + rest.length := by simp
  have HL := Lib.hid hlen
  generalize hM : (Lib.uvarint n ++ rest).length = M at *
  clear hlen
  have HM := Lib.hid hM; clear hM
  go_enter Tryz.func135, Tryz.ntmps135
  go_wp2
  go_loop [5, 6, 11] (fun vx vs vi => ∃ (k y acc : Nat) (pre : List UInt8), vi = .int .i64 k ∧ vs = .int .u64 ((7 * k : Nat) : Int) ∧ vx = .int .u64 acc ∧ pre.length = k ∧ Lib.uvarint n = pre ++ Lib.uvarint y ∧ acc < 2 ^ (7 * k) ∧ n = acc + y * 2 ^ (7 * k) ∧ (k = 0 ∨ 0 < y))
    (fun _ _ vi => M - (intOf vi).toNat)
  case atStart => exact ⟨0, n, 0, [], rfl, rfl, rfl, rfl, rfl, by decide, by simp, .inl rfl⟩
  case round =>
    obtain ⟨k, y, acc, pre, rfl, rfl, rfl, hk, hsplit, hacc, hval, hy⟩ := hrel
    by_cases hb : y < 128
    · have hcell : w.cell? ⟨g, o + k, none⟩ = some (.int .u8 (y : Int)) := by
        have := hc k y.toUInt8 (by rw [hsplit, Lib.uvarint_small hb, List.append_assoc]; simp [← hk])
        rw [this]; simp; omega
      have hk9 : k < 9 := pow_bound hn hval hy
      have hkM : k < M := by have := congrArg List.length hsplit; rw [List.length_append, hk] at this; have := HL.out; have := Lib.uvarint_pos y; omega
      have hy0 : y = 0 → k = 0 := by omega
      have HK : Hid (((k : Int) + 1) = ((Lib.uvarint n).length : Int)) := by
        have := congrArg List.length hsplit
        rw [List.length_append, hk, Lib.uvarint_small hb] at this
        show ((k : Int) + 1) = ((Lib.uvarint n).length : Int)
        rw [this]; simp
      have H1 := Lib.hid hsplit; clear hsplit
      have H2 := Lib.hid hval; clear hval
      have H3 := Lib.hid hk; clear hk
      have hk9' : (k : Int) < 9 := by omega
      have hyb : (y : Int) < 128 := by omega
      go_wp2
      · go_ret3
        have hk8 : (k : Int) = 8 := by assumption
        obtain rfl : k = 8 := by omega
        have hv := H2.out
        exact ⟨tuple3 (int_eq (or_int acc _ 56 y n (by simp) hacc (by omega) hv)) (int_eq HK.out), rfl⟩
      · go_ret3
        have hy1 : y = 0 := by assumption
        obtain rfl := hy0 hy1
        subst hy1
        have hv := H2.out
        exact ⟨tuple3 (int_eq (or_int acc _ 0 0 n (by simp) hacc (by omega) hv)) (int_eq HK.out), rfl⟩
      · go_ret3
        exact ⟨tuple3 (int_eq (or_done hn hacc H2.out)) (int_eq HK.out), rfl⟩
    · have hcell : w.cell? ⟨g, o + k, none⟩ = some (.int .u8 ((y % 128 + 128 : Nat) : Int)) := by
        have := hc k (y % 128 + 128).toUInt8 (by rw [hsplit, Lib.uvarint_big (by omega), List.append_assoc]; simp [← hk])
        rw [this]; simp; omega
      have hy9 : 0 < y := by omega
      have hk9 : k + 1 < 9 := pow_bound (y := y / 128) (acc := acc + y % 128 * 2 ^ (7 * k)) hn (by rw [hval]; exact pow_step acc y k) (.inr (by omega))
      have hkM : k < M := by have := congrArg List.length hsplit; rw [List.length_append, hk] at this; have := HL.out; have := Lib.uvarint_pos y; omega
      have H1 := Lib.hid hsplit; clear hsplit
      have H2 := Lib.hid hval; clear hval
      have H3 := Lib.hid hk; clear hk
      have hk9' : (k : Int) < 8 := by omega
      have hk8f : ((k : Int) == 8) = false := by simp; omega
      generalize hz : y % 128 + 128 = z at hcell
      have hzb : 128 ≤ (z : Int) := by omega
      have hzb2 : (z : Int) < 256 := by omega
      have HZ := Lib.hid hz; clear hz
      go_wp2
      go_round
      case rel =>
        refine ⟨k + 1, y / 128, acc + y % 128 * 2 ^ (7 * k), pre ++ [(y % 128 + 128).toUInt8], by go_num, by go_num, ?_, by simp [H3.out], by rw [H1.out, Lib.uvarint_big (by omega)]; simp, pow_lt_step hacc, ?_, .inr (by omega)⟩
        · exact int_eq (or_more hn hacc H2.out HZ.out)
        · rw [H2.out]; exact pow_step acc y k
      case measure => simp [intOf]; omega

/-- The same at a slice of which the bytes are told by an equation. -/
theorem FromUvarint_at (n : Nat) (hn : n < 9223372036854775808) (bs rest : List UInt8) (A : Option Addr) (M c : Nat) (w : World) (h : BytesAt w A bs) (hb : bs = Lib.uvarint n ++ rest) (hM : bs.length = M) (hl : M ≤ 140737488355328) :
    Calls Tryz.prog 135 #[.slice A M c] w fun e w' => e = .returned (.tuple #[.int .u64 n, .int .i64 (Lib.uvarint n).length, .nilIface]) ∧ w = w' := by
  subst hb; subst hM
  exact FromUvarint_ok n hn rest A c w h hl

theorem str_at {s : ByteArray} {l : List UInt8} (h : s.data.toList = l) (k : Nat) (x : UInt8) (hx : l[k]? = some x) : ∀ hk : k < s.size, (s[k]'hk) = x := by
  intro hk
  subst h
  have hk' : k < s.data.toList.length := by simpa using hk
  rw [List.getElem?_eq_getElem hk'] at hx
  have := Option.some.inj hx
  rw [← this]; rfl

theorem str_size {s : ByteArray} {l : List UInt8} (h : s.data.toList = l) : s.size = l.length := by
  subst h; rw [Array.length_toList]; rfl


theorem info_u8 : (Tryz.prog.info? 5).map (fun i => i.size) = some 1 := by kernel_rfl

theorem cut8 (A : Option Addr) (n c m k : Nat) (x : Int) (hx : x = m) (hn : n = m + k) (hc : n ≤ c) :
    ∃ A' : Option Addr, (∀ (kl : IntKind) (W : World), (Instr.slice 27 (.slice A n c) (some (.int kl x)) none none).run Tryz.prog W = .ok (.slice A' k (c - m)) W) ∧
      (∀ (w : World) (bs : List UInt8), bs.length = n → BytesAt w A bs → BytesAt w A' (bs.drop m)) ∧ (∀ w b, ByteBlk w b A → ByteBlk w b A') ∧ (∀ B, From B A → From B A') := by
  obtain ⟨i, hi, hs⟩ := Option.map_eq_some_iff.1 info_u8
  exact cut_run 27 5 Tryz.underlying27 hi hs A n c m k x hx hn hc
end Go.Proofs.YtfjclhfhbclbhaaGreatDoor
