/- spec.low: a number's bytes, appended. -/
import Derived.Test.YtfjclhfhbclbhaaGreatDoorMm
import Derived.Maps.AppendAt
import Derived.Laws.ShiftsVarLaws
namespace Go.Proofs.YtfjclhfhbclbhaaGreatDoor
open Go.RowKit
set_option linter.unusedVariables false
set_option linter.unusedSimpArgs false
attribute [local go_sem] setCell_drewN alloc_drewN

/-- A slice of bytes of the call's own. -/
def RowU (w : World) (B : Nat) (v : Value) (l : List UInt8) : Prop := w.ownsRow B 5 1 v l.length (bcells l)
/-- What an append to the slice v keeps, and where what it gives lies. -/
structure AppK (w w' : World) (v v' : Value) : Prop where
  kp : Kp (fun i => some i = v.ownBlock) w w'
  loc : v'.ownBlock = v.ownBlock ∨ ∃ k, v'.ownBlock = some k ∧ w.heap.size ≤ k
theorem AppK.refl (w : World) (v : Value) : AppK w w v v := ⟨Kp.refl _ _, .inl rfl⟩
theorem AppK.trans {a b c : World} {u v x : Value} (h : AppK a b u v) (k : AppK b c v x) : AppK a c u x := by
  refine ⟨h.kp.trans k.kp (fun i hi => ?_), ?_⟩
  · rcases h.loc with e | ⟨g, e, hg⟩
    · rw [e] at hi; exact .inl hi
    · rw [e] at hi; cases hi; exact .inr hg
  · rcases k.loc with e | ⟨g, e, hg⟩
    · rw [e]; exact h.loc
    · exact .inr ⟨g, e, Nat.le_trans h.kp.size hg⟩
theorem le_snoc : ∀ (k n : Nat), Lib.leBytes (k + 1) n = Lib.leBytes k n ++ [(n / 256 ^ k % 256).toUInt8]
  | 0, n => by simp [Lib.leBytes]
  | k + 1, n => by
    rw [Lib.leBytes, le_snoc k (n / 256)]
    rw [show n / 256 / 256 ^ k = n / 256 ^ (k + 1) by rw [Nat.div_div_eq_div_mul, Nat.pow_succ, Nat.mul_comm]]
    simp [Lib.leBytes]
theorem le_length : ∀ (k n : Nat), (Lib.leBytes k n).length = k
  | 0, _ => rfl
  | k + 1, n => by rw [Lib.leBytes, List.length_cons, le_length k]

set_option maxRecDepth 100000 in
set_option maxHeartbeats 1600000 in
theorem low_ok (B n size : Nat) (v : Value) (l : List UInt8) (hn : n < 18446744073709551616) (hs : size ≤ 8) (hl : l.length ≤ 1099511627776) (w : World) (hB : B ≤ w.heap.size) (hv : RowU w B v l) :
    Calls Tryz.prog 48 #[v, .int .u64 (n : Int), .int .i64 (size : Int)] w fun e w' => ∃ v', e = .returned v' ∧ RowU w' B v' (l ++ Lib.leBytes size n) ∧ AppK w w' v v' := by
  obtain ⟨i0, hi, hz0, hz1, hz2⟩ := info_parts info3_u8
  go_enter Tryz.func48, Tryz.ntmps48
  go_wp2_with fail
  go_loopw [0, 7] (fun v0 vi wr => ∃ k : Nat, k ≤ size ∧ vi = .int .i64 (k : Int) ∧ RowU wr B v0 (l ++ Lib.leBytes k n) ∧ AppK w wr v v0 ∧ B ≤ wr.heap.size) (fun _ vi _ => size - (intOf vi).toNat)
  case atStart => exact ⟨0, Nat.zero_le _, rfl, by simpa [Lib.leBytes] using hv, AppK.refl _ _, hB⟩
  case round =>
    obtain ⟨k, hk, rfl, hR, hK, hBr⟩ := hrel
    by_cases hlt : k < size
    · have hk8 : (k : Int) < 8 := by omega
      have hb : (n : Int) / 2 ^ (8 * k) % 256 = (((n / 256 ^ k % 256).toUInt8.toNat : Nat) : Int) := by
        rw [toU8_nat (Nat.mod_lt _ (by omega))]
        have : (256 : Nat) ^ k = 2 ^ (8 * k) := by rw [Nat.pow_mul]
        rw [this]; simp
      have hvl := hR.lt
      have HB := Lib.hid hb; clear hb
      have HR := Lib.hid hR
      have hlk : (l ++ Lib.leBytes k n).length = l.length + k := by rw [List.length_append, le_length]
      have hRa := hR.alloc (.cells #[.int .u8 ((n : Int) / 2 ^ (8 * k) % 256)] 5)
      have HLK := Lib.hid hlk
      go_wp2_with (at_builtin; refine wpList_append_own_at _ rfl _ _ 27 rfl B 5 i0 (.int .u8 0) 1 1 Tryz.underlying27 hi hz0 hz1 hz2 rfl (by decide) _ _ _ rfl hRa ⟨wr.heap.size, 0, none⟩ 1 1 [.int .u8 ((n : Int) / 2 ^ (8 * k) % 256)] rfl rfl (one_cell _ _ _) (ints_oneCell .u8 [(n : Int) / 2 ^ (8 * k) % 256]) ?c3 ?c4 ?c5 ?_)
      case c3 => unfold maxLen; omega
      case c4 => omega
      case c5 => simp; omega
      intro v' w2 hown' hgrow hnn hloc
      have hA : AppK wr w2 u0 v' := by
        refine ⟨(kp_alloc wr (.cells #[.int .u8 ((n : Int) / 2 ^ (8 * k) % 256)] 5)).mono (S' := fun i => some i = u0.ownBlock) (fun _ h => h.elim) |>.trans (kp_grown hgrow) (fun i h => .inl h), ?_⟩
        rcases hloc with h | h
        · exact .inl h
        · exact .inr ⟨_, h, by simp⟩
      have hz2' : B ≤ w2.heap.size := by have := hgrow.size; simp at this; omega
      have hnew : RowU w2 B v' (l ++ Lib.leBytes (k + 1) n) := by
        have e1 : (l ++ Lib.leBytes (k + 1) n).length = (l ++ Lib.leBytes k n).length + 1 := by simp only [List.length_append, le_length]; omega
        have e2 : bcells (l ++ Lib.leBytes (k + 1) n) = bcells (l ++ Lib.leBytes k n) ++ [.int .u8 ((n : Int) / 2 ^ (8 * k) % 256)] := by
          rw [le_snoc, ← List.append_assoc, ← bcells_append, HB.out]; rfl
        unfold RowU
        rw [e1, e2, HLK.out]; exact hown'
      have HN := Lib.hid (hK.trans hA)
      clear hown' hgrow hloc hRa hlk hA hnn hR
      go_wp2_with fail
      go_roundw
      case rel => exact ⟨k + 1, by omega, by go_num, hnew, HN.out, hz2'⟩
      case measure => simp [intOf]; omega
    · obtain rfl : k = size := by omega
      have HR := Lib.hid hR; clear hR
      go_wp2_with fail
      go_ret
      exact ⟨_, rfl, HR.out, hK⟩
end Go.Proofs.YtfjclhfhbclbhaaGreatDoor
