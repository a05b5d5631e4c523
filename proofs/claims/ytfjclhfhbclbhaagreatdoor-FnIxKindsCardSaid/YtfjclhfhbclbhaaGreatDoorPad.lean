/- spec.padding of no bytes: 64 bytes. -/
import Derived.Test.YtfjclhfhbclbhaaGreatDoorApp
import Derived.Test.YtfjclhfhbclbhaaGreatDoorSum
namespace Go.Proofs.YtfjclhfhbclbhaaGreatDoor
open Go.RowKit
set_option linter.unusedVariables false
set_option linter.unusedSimpArgs false
attribute [local go_sem] setCell_drewN alloc_drewN

def Bys (xs : List Value) : Prop := ∀ u, u ∈ xs → ∃ n, u = .int .u8 n

structure PadAt (w0 w : World) (v : Value) (m : Nat) : Prop where
  row : ∃ g cap xs, v = .slice (some ⟨g, 0, none⟩) m cap ∧ RowZ w w0.heap.size 5 v m xs ∧ Bys xs
  bel : Below w0.heap.size w0 w

theorem conv_z {P : Program} {ops : Array Oper} {rest : List Oper} {o : Oper} {a : Act} {Q : Exit → Act → World → Prop} {W : World} (hgd : o.guard = none) (x : Operand) (src dst e : TypeId) {u : TypeDesc}
    (ho : o.op = .convert src dst x) (hs : P.underlying src = some u) (hd : P.underlying dst = some (.slice e)) (he : P.underlying e = some (.int .u8)) (hx : a.eval x = .string ⟨#[]⟩)
    (h : ∀ g c w1, RowZ w1 W.heap.size e (.slice (some ⟨g, 0, none⟩) 0 c) 0 [] → Below W.heap.size W w1 → wpList P ops Q rest (a.put o.dst (.slice (some ⟨g, 0, none⟩) 0 c)) w1) :
    wpList P ops Q (o :: rest) a W := by
  refine event_run hgd (v := .slice (some ⟨W.heap.size, 0, none⟩) 0 (grownCap W 0 0 e)) (w1 := Lib.bytesWorld W e ⟨#[]⟩) ?_ (h _ _ _ (RowZ.conv W e) (bytesWorld_below _ _ _))
  have := Lib.run_convert_string_bytes (P := P) W src dst e ⟨#[]⟩ hs hd he
  simp [execOp, ho, hx, this]
  exact ⟨rfl, rfl⟩

theorem info_byte : (Tryz.prog.info? 5).map (fun i => (i.zero, i.size, i.bytes)) = some (some (.int .u8 0), 1, 1) := by kernel_rfl

set_option maxRecDepth 100000 in
set_option maxHeartbeats 1600000 in
theorem padding_ok (w : World) : Calls Tryz.prog 57 #[.string ⟨#[]⟩, .int .i64 64, .int .i64 8, .bool false] w fun e w' => ∃ v, e = .returned v ∧ PadAt w w' v 64 := by
  obtain ⟨i0, hi, hz0, hz1, hz2⟩ := info_parts info_byte
  go_enter Tryz.func57, Tryz.ntmps57
  go_wp2_with (first | (with_reducible refine conv_z rfl (.tmp 14) 9 27 5 rfl Tryz.underlying9 Tryz.underlying27 Tryz.underlying5 rfl ?_; intro g0 c0 w0 hr0 hb0) | (at_builtin; refine wp_append_z rfl (.tmp 15) (.tmp 16) 27 rfl w.heap.size 5 i0 _ Tryz.underlying27 hi hz0 hz1 hz2 rfl _ _ _ rfl (hr0.kept (World.grownBy_alloc _ _ none) (by simp [Value.ownBlock])) ⟨_, 0, none⟩ 1 1 [_] rfl rfl (cell_one_new _ _ _) (by simp [Value.oneCell']) (by decide) (by decide) (by have := hb0.size; simp; omega) ?_; intro g1 c1 w1 hr1 hg1))
  have hp1 : PadAt w w1 (.slice (some ⟨g1, 0, none⟩) 1 c1) 1 := ⟨⟨g1, c1, _, rfl, hr1, by intro u hu; simp at hu; subst hu; exact ⟨_, rfl⟩⟩, (below_box hb0 _).grown hg1 (by have := hb0.size; simp; omega) (by intro k hk; have e : some g0 = some k := hk; cases e; obtain ⟨_, g, _, _, _, hv, hbg, _⟩ := hr0; cases hv; exact hbg)⟩
  clear hr0 hb0 hr1 hg1
  go_loopw [9] (fun v wr => ∃ m : Nat, 1 ≤ m ∧ m ≤ 56 ∧ PadAt w wr v m) (fun v _ => 56 - (match v with | .slice _ n _ => n | _ => 0))
  case atStart => exact ⟨1, by omega, by omega, hp1⟩
  case round =>
    clear hp1
    obtain ⟨m, hm1, hm2, hP⟩ := hrel
    obtain ⟨⟨g, c, xs, rfl, hr, hbs⟩, hb⟩ := hP
    have hw8 : IntKind.i64.wrap ((m : Int) + 8) = (m : Int) + 8 := by rw [IntKind.wrap_i64]; omega
    have hgb : w.heap.size ≤ g := by obtain ⟨_, g', _, _, _, hv, hbg, _⟩ := hr; cases hv; exact hbg
    by_cases hm : m = 56
    · subst hm
      go_wp2_with fail
      go_loopw [9, 11] (fun v vk wr => ∃ k : Nat, k ≤ 8 ∧ vk = .int .i64 k ∧ PadAt w wr v (56 + k)) (fun _ vk _ => 8 - (intOf vk).toNat)
      case atStart => exact ⟨0, by omega, rfl, ⟨⟨g, c, xs, rfl, hr, hbs⟩, hb⟩⟩
      case round =>
        clear hr hb hgb hbs
        obtain ⟨k, hk, rfl, hP⟩ := hrel
        obtain ⟨⟨g, c, xs, rfl, hr, hbs⟩, hb⟩ := hP
        have hgb : w.heap.size ≤ g := by obtain ⟨_, g', _, _, _, hv, hbg, _⟩ := hr; cases hv; exact hbg
        by_cases hk8 : k < 8
        · have hw1 : IntKind.i64.wrap (7 - (k : Int)) = 7 - (k : Int) := by rw [IntKind.wrap_i64]; omega
          have hw2 : IntKind.i64.wrap (8 * (7 - (k : Int))) = ((8 * (7 - k) : Nat) : Int) := by rw [IntKind.wrap_i64]; omega
          have hlt : ((8 * (7 - k) : Nat) : Int) < 64 := by omega
          have hlt' : 8 * (7 - k) < 64 := by omega
          have hw3 : IntKind.u64.wrap ((8 * (7 - k) : Nat) : Int) = ((8 * (7 - k) : Nat) : Int) := by rw [IntKind.wrap_u64]; omega
          generalize 8 * (7 - k) = sh at *
          go_wp2_with (at_builtin; refine wp_append_z rfl (.tmp 52) (.tmp 54) 27 rfl w.heap.size 5 i0 _ Tryz.underlying27 hi hz0 hz1 hz2 rfl _ _ _ rfl (hr.kept (World.grownBy_alloc _ _ none) (by simp [Value.ownBlock])) ⟨_, 0, none⟩ 1 1 [_] rfl rfl (cell_one_new _ _ _) (by simp [Value.oneCell']) (by unfold maxLen; omega) (by omega) (by have := hb.size; simp; omega) ?_; intro g1 c1 w1 hr1 hg1)
          exact ⟨⟨k + 1, by omega, by go_num, ⟨⟨g1, c1, _, rfl, hr1, by intro u hu; rcases List.mem_append.1 hu with hu | hu; exact hbs u hu; simp at hu; subst hu; exact ⟨_, rfl⟩⟩, (below_box hb _).grown hg1 (by have := hb.size; simp; omega) (by intro k hk; have e : some g = some k := hk; cases e; exact hgb)⟩⟩, by simp [intOf]; omega⟩
        · obtain rfl : k = 8 := by omega
          go_wp2_with fail
          go_ret
          exact ⟨_, rfl, ⟨⟨g, c, xs, rfl, hr, hbs⟩, hb⟩⟩
    · have hne : ¬ (((m : Int) + 8).tmod 64 = 0) := by rw [Int.tmod_eq_emod_of_nonneg (by omega)]; omega
      go_wp2_with (at_builtin; refine wp_append_z rfl (.tmp 25) (.tmp 26) 27 rfl w.heap.size 5 i0 _ Tryz.underlying27 hi hz0 hz1 hz2 rfl _ _ _ rfl (hr.kept (World.grownBy_alloc _ _ none) (by simp [Value.ownBlock])) ⟨_, 0, none⟩ 1 1 [_] rfl rfl (cell_one_new _ _ _) (by simp [Value.oneCell']) (by unfold maxLen; omega) (by omega) (by have := hb.size; simp; omega) ?_; intro g1 c1 w1 hr1 hg1)
      go_roundw
      case rel => exact ⟨m + 1, by omega, by omega, ⟨⟨g1, c1, _, rfl, hr1, by intro u hu; rcases List.mem_append.1 hu with hu | hu; exact hbs u hu; simp at hu; subst hu; exact ⟨_, rfl⟩⟩, (below_box hb _).grown hg1 (by have := hb.size; simp; omega) (by intro k hk; have e : some g = some k := hk; cases e; exact hgb)⟩⟩
      case measure => simp; omega
end Go.Proofs.YtfjclhfhbclbhaaGreatDoor
