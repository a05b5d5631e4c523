/- spec.sha256Of of no bytes: 32 bytes. -/
import Derived.Test.YtifoicdnibgdaaaGreatDoorShk
import Derived.Test.YtifoicdnibgdaaaGreatDoorCidb
namespace Go.Proofs.YtifoicdnibgdaaaGreatDoor
open Go.RowKit
set_option linter.unusedVariables false
set_option linter.unusedSimpArgs false
attribute [local go_sem] setCell_drewN alloc_drewN

set_option maxRecDepth 100000 in
set_option maxHeartbeats 3200000 in
theorem sha256Of_ok (w : World) (xs : List Int) (hxs : xs.length = 8) : Calls Tryz.prog 36 #[.string ⟨#[]⟩, .agg (numCells .u32 xs)] w fun e w' => (∃ d : List UInt8, d.length = 32 ∧ e = .returned (.string ⟨d.toArray⟩)) ∧ Below w.heap.size w w' := by
  obtain ⟨hz95, hi95⟩ := zero_of_info info_h
  obtain ⟨hz138, hi138⟩ := zero_of_info info_w
  obtain ⟨hz146, hi146⟩ := zero_of_info large_info
  go_enter Tryz.func36, Tryz.ntmps36
  go_wp2_with (first | (go_at_call 76; refine (large_ok _).mono ?_; rintro e w1 ⟨⟨v, ⟨ys, hys, rfl⟩, rfl⟩, hb1⟩) | (refine wpList_store_row rfl 146 (.tmp 5) (.tmp 21) rfl _ (numCells .u64 ys) rfl rfl 146 _ (heap_alloc_last _ _) (by simp [numCells, hys, hi146]) (by simp [numCells, hys]) (by simp [numCells, Value.oneCell']) ?_; rw [World.setRow_alloc_new]) | (go_at_call 72; refine (padding_ok _).mono ?_; rintro e w2 ⟨v, rfl, hP⟩))
  obtain ⟨⟨g, cap, bs, rfl, hr, hby⟩, hb2⟩ := hP
  have hne : w.heap.size < w1.heap.size := by have := hb1.size; simp at this; omega
  have hS : Sh w w2 w.heap.size w1.heap.size := by
    refine ⟨(((NumBlk.new xs hxs).of (hb1.block _ (by simp))).alloc _).of (hb2.block _ (by simp; omega)), (NumBlk.new ys hys).of (hb2.block _ (by simp)), Nat.le_refl _, hne, below_next (below_box (below_next (below_boxed w _) hb1) _) hb2⟩
  have hB : ByBlk 64 w2 g := ByBlk.row hr hby
  have hg : w1.heap.size < g := by obtain ⟨_, g', _, _, _, hv, hbg, _⟩ := hr; cases hv; have := hbg; simp at this; omega
  have hcap : 64 ≤ cap := by obtain ⟨_, g', _, _, _, hv, _, _, _, hc, _⟩ := hr; cases hv; exact hc
  clear hr hby hb2 hb1 hne
  generalize w.heap.size = hb at *
  generalize w1.heap.size = tb at *
  go_loopw [6] (fun v wr => ∃ n : Nat, (n = 64 ∨ n = 0) ∧ Sh w wr hb tb ∧ (∃ p cap, v = .slice p n cap ∧ (n = 64 → 64 ≤ cap ∧ ∃ g, p = some ⟨g, 0, none⟩ ∧ tb < g ∧ ByBlk 64 wr g))) (fun v _ => match v with | .slice _ n _ => n | _ => 0)
  case atStart => exact ⟨64, .inl rfl, hS, _, cap, rfl, fun _ => ⟨hcap, g, rfl, hg, hB⟩⟩
  case round =>
    clear hg hS hB hcap
    obtain ⟨n, hn, hS, p, cap1, rfl, hrow⟩ := hrel
    rcases hn with rfl | rfl
    · obtain ⟨hcap1, g1, rfl, hgt, hB⟩ := hrow rfl
      clear hrow
      have hlt := hB.lt (by omega)
      go_wp2_with fail
      have hSw : Sw w (wr.alloc (.cells (numCells .u32 (List.replicate 64 0)) 138)) hb tb g1 wr.heap.size := ⟨hS.alloc _, NumBlk.new _ (by simp), hB.of (Below.heap_alloc _ _ _ hlt), hgt, hlt⟩
      simp only [List.replicate] at hSw
      generalize wr.heap.size = wb at *
      go_loopw [29] (fun v wx => ∃ k : Nat, k ≤ 64 ∧ v = .int .i64 k ∧ Sw w wx hb tb g1 wb) (fun v _ => 64 - (intOf v).toNat)
      case atStart => exact ⟨0, by omega, rfl, hSw⟩
      case round =>
        clear hSw
        obtain ⟨k, hk, rfl, hS1⟩ := hrel
        by_cases hk64 : k < 64
        · obtain ⟨mk, hmk⟩ := hS1.w.cell k hk64
          have hfk := hS1.w.free k
          by_cases hk16 : k < 16
          · have h40 : IntKind.i64.wrap (4 * (k : Int)) = ((4 * k : Nat) : Int) := by rw [IntKind.wrap_i64]; omega
            have h41 : IntKind.i64.wrap (((4 * k : Nat) : Int) + 1) = ((4 * k + 1 : Nat) : Int) := by rw [IntKind.wrap_i64]; omega
            have h42 : IntKind.i64.wrap (((4 * k : Nat) : Int) + 2) = ((4 * k + 2 : Nat) : Int) := by rw [IntKind.wrap_i64]; omega
            have h43 : IntKind.i64.wrap (((4 * k : Nat) : Int) + 3) = ((4 * k + 3 : Nat) : Int) := by rw [IntKind.wrap_i64]; omega
            obtain ⟨m0, hm0⟩ := hS1.b (4 * k) (by omega)
            obtain ⟨m1, hm1⟩ := hS1.b (4 * k + 1) (by omega)
            obtain ⟨m2, hm2⟩ := hS1.b (4 * k + 2) (by omega)
            obtain ⟨m3, hm3⟩ := hS1.b (4 * k + 3) (by omega)
            generalize hq0 : 4 * k = q0 at *
            generalize hq1 : q0 + 1 = q1 at *
            generalize hq2 : q0 + 2 = q2 at *
            generalize hq3 : q0 + 3 = q3 at *
            have l0 : (q0 : Int) < 64 := by omega
            have l1 : (q1 : Int) < 64 := by omega
            have l2 : (q2 : Int) < 64 := by omega
            have l3 : (q3 : Int) < 64 := by omega
            have lk : (k : Int) < 64 := by omega
            go_wp2_with fail
            refine still_tail_drew 35 (by kernel_rfl) (by kernel_rfl) ?_
            simp only [List.take_succ_cons, List.take_zero, List.drop_succ_cons, List.drop_zero]
            repeat still_step
            refine wpStill_nil ?_
            go_wp2_with fail
            exact ⟨⟨k + 1, by omega, by simp, (hS1.set k _).drew⟩, by simp [intOf]; omega⟩
          · have h15 : IntKind.i64.wrap ((k : Int) - 15) = ((k - 15 : Nat) : Int) := by rw [IntKind.wrap_i64]; omega
            have h2 : IntKind.i64.wrap ((k : Int) - 2) = ((k - 2 : Nat) : Int) := by rw [IntKind.wrap_i64]; omega
            have h7 : IntKind.i64.wrap ((k : Int) - 7) = ((k - 7 : Nat) : Int) := by rw [IntKind.wrap_i64]; omega
            have h16 : IntKind.i64.wrap ((k : Int) - 16) = ((k - 16 : Nat) : Int) := by rw [IntKind.wrap_i64]; omega
            obtain ⟨m0, hm0⟩ := hS1.w.cell (k - 15) (by omega)
            obtain ⟨m1, hm1⟩ := hS1.w.cell (k - 2) (by omega)
            obtain ⟨m2, hm2⟩ := hS1.w.cell (k - 7) (by omega)
            obtain ⟨m3, hm3⟩ := hS1.w.cell (k - 16) (by omega)
            generalize hq0 : k - 15 = q0 at *
            generalize hq1 : k - 2 = q1 at *
            generalize hq2 : k - 7 = q2 at *
            generalize hq3 : k - 16 = q3 at *
            have l0 : (q0 : Int) < 64 := by omega
            have l1 : (q1 : Int) < 64 := by omega
            have l2 : (q2 : Int) < 64 := by omega
            have l3 : (q3 : Int) < 64 := by omega
            have lk : (k : Int) < 64 := by omega
            go_wp2_with fail
            refine still_drew (by kernel_rfl) (by kernel_rfl) ?_
            repeat still_step
            refine wpStill_nil ?_
            go_wp2_with fail
            refine still_tail_drew 29 (by kernel_rfl) (by kernel_rfl) ?_
            simp only [List.take_succ_cons, List.take_zero, List.drop_succ_cons, List.drop_zero]
            repeat (first | still_step | still_call (right32_v _ _ (by decide) (by decide) _))
            refine wpStill_nil ?_
            go_wp2_with fail
            exact ⟨⟨k + 1, by omega, by simp, (hS1.set k _).drew.drew⟩, by simp [intOf]; omega⟩
        · obtain rfl : k = 64 := by omega
          clear hk64 hk
          have hwl := hS1.w.lt
          go_wp2_with (first | (refine NumBlk.load hS1.sh.h rfl (.tmp 3) 95 rfl rfl Tryz.underlying95 hi95 ?_; intro hs hhs) | (refine NumBlk.store (NumBlk.new (w := wr) [0, 0, 0, 0, 0, 0, 0, 0] rfl) rfl (.tmp 11) (.tmp 107) 95 rfl rfl rfl hs rfl hhs hi95 ?_))
          have hSv : Sv w ((wr.alloc (.cells (numCells .u32 [0, 0, 0, 0, 0, 0, 0, 0]) 95)).setRow wr.heap.size (numCells .u32 hs)) hb tb g1 wb wr.heap.size := Sv.setRow ⟨hS1.alloc (by have := hS1.wt; omega) _, NumBlk.new _ rfl, hwl⟩ hs hhs
          clear hS1 hwl
          generalize (wr.alloc (.cells (numCells .u32 [0, 0, 0, 0, 0, 0, 0, 0]) 95)).setRow wr.heap.size (numCells .u32 hs) = wv at *
          generalize wr.heap.size = vb at *
          go_loopw [108] (fun v wx => ∃ k : Nat, k ≤ 64 ∧ v = .int .i64 k ∧ Sv w wx hb tb g1 wb vb) (fun v _ => 64 - (intOf v).toNat)
          case atStart => exact ⟨0, by omega, rfl, hSv⟩
          case round =>
            clear hSv
            obtain ⟨k, hk, rfl, hS2⟩ := hrel
            by_cases hk64 : k < 64
            · obtain ⟨m0, hm0⟩ := hS2.v.cell 0 (by omega)
              obtain ⟨m1, hm1⟩ := hS2.v.cell 1 (by omega)
              obtain ⟨m2, hm2⟩ := hS2.v.cell 2 (by omega)
              obtain ⟨m3, hm3⟩ := hS2.v.cell 3 (by omega)
              obtain ⟨m4, hm4⟩ := hS2.v.cell 4 (by omega)
              obtain ⟨m5, hm5⟩ := hS2.v.cell 5 (by omega)
              obtain ⟨m6, hm6⟩ := hS2.v.cell 6 (by omega)
              obtain ⟨m7, hm7⟩ := hS2.v.cell 7 (by omega)
              obtain ⟨mt, hmt⟩ := hS2.sw.sh.t.cell k (by omega)
              obtain ⟨mw, hmw⟩ := hS2.sw.w.cell k (by omega)
              have lk : (k : Int) < 64 := by omega
              have lk8 : (k : Int) < 80 := by omega
              go_wp2_with fail
              refine still_drew (by kernel_rfl) (by kernel_rfl) ?_
              repeat still_step
              refine wpStill_nil ?_
              go_wp2_with fail
              refine still_drew (by kernel_rfl) (by kernel_rfl) ?_
              repeat (first | still_step | still_call (right32_v _ _ (by decide) (by decide) _))
              refine wpStill_nil ?_
              go_wp2_with fail
              refine still_drew (by kernel_rfl) (by kernel_rfl) ?_
              repeat (first | still_step | still_call (right32_v _ _ (by decide) (by decide) _))
              refine wpStill_nil ?_
              go_wp2_with (refine NumBlk.store hS2.v rfl (.tmp 11) (.tmp 188) 95 rfl rfl rfl [_, _, _, _, _, _, _, _] rfl rfl hi95 ?_)
              exact ⟨⟨k + 1, by omega, by simp, Sv.setRow hS2.drew.drew.drew _ rfl⟩, by simp [intOf]; omega⟩
            · obtain rfl : k = 64 := by omega
              clear hk64 hk
              rw [show ((64 : Nat) : Int) = 64 from rfl]
              go_wp2_with fail
              go_loopw [190] (fun v wx => ∃ k : Nat, k ≤ 8 ∧ v = .int .i64 k ∧ Sv w wx hb tb g1 wb vb) (fun v _ => 8 - (intOf v).toNat)
              case atStart => exact ⟨0, by omega, rfl, hS2⟩
              case round =>
                clear hS2
                obtain ⟨k, hk, rfl, hS2⟩ := hrel
                by_cases hk8 : k < 8
                · obtain ⟨m0, hm0⟩ := hS2.v.cell k hk8
                  obtain ⟨m1, hm1⟩ := hS2.sw.sh.h.cell k hk8
                  have hf := hS2.sw.sh.h.free k
                  have lk : (k : Int) < 8 := by omega
                  go_wp2_with fail
                  refine still_tail_drew 8 (by kernel_rfl) (by kernel_rfl) ?_
                  simp only [List.take_succ_cons, List.take_zero, List.drop_succ_cons, List.drop_zero]
                  repeat still_step
                  refine wpStill_nil ?_
                  go_wp2_with fail
                  exact ⟨⟨k + 1, by omega, by simp, (hS2.setH k _).drew⟩, by simp [intOf]; omega⟩
                · obtain rfl : k = 8 := by omega
                  clear hk8 hk
                  go_wp2_with fail
                  exact ⟨⟨0, .inr rfl, hS2.sw.sh, _, _, rfl, fun h => by cases h⟩, by simp⟩
    · go_wp2_with (refine NumBlk.load hS.h rfl (.tmp 3) 95 rfl rfl Tryz.underlying95 hi95 ?_; intro hs hhs)
      obtain ⟨i0, hi, hz0, hz1, hz2⟩ := info_parts info_byte
      go_loopw [18, 203] (fun v vk wx => ∃ k : Nat, k ≤ 8 ∧ vk = .int .i64 k ∧ ∃ bs : List UInt8, bs.length = 4 * k ∧ wx.ownsRow w.heap.size 5 1 v (4 * k) (Lib.byteCells bs) ∧ Below w.heap.size w wx) (fun _ vk _ => 8 - (intOf vk).toNat)
      case atStart => exact ⟨0, by omega, rfl, [], rfl, ⟨rfl, .inl ⟨rfl, rfl⟩⟩, hS.bel⟩
      case round =>
        clear hS hrow
        obtain ⟨k, hk, rfl, bs, hbs, hown, hbel⟩ := hrel
        by_cases hk8 : k < 8
        · have lk : (k : Int) < 8 := by omega
          obtain ⟨m, hm⟩ := index_h hs hhs k hk8
          go_wp2_with (at_builtin; refine wpList_append_own _ rfl _ _ 76 rfl w.heap.size 5 i0 (.int .u8 0) 1 1 Tryz.underlying76 hi hz0 hz1 hz2 rfl (by decide) _ _ _ rfl (hown.alloc _) ⟨wr.heap.size, 0, none⟩ 4 4 [.int .u8 (m / 16777216 % 256), .int .u8 (m / 65536 % 256), .int .u8 (m / 256 % 256), .int .u8 (m % 256)] rfl rfl ?c1 ?c2 ?c3 ?c4 ?c5 ?_)
          case c1 =>
            intro j u hj
            match j, hj with
            | 0, hj => simp at hj; subst hj; simp [Addr.add]
            | 1, hj => simp at hj; subst hj; simp [Addr.add]
            | 2, hj => simp at hj; subst hj; simp [Addr.add]
            | 3, hj => simp at hj; subst hj; simp [Addr.add]
            | j + 4, hj => simp at hj
          case c2 => intro u hu; simp at hu; rcases hu with rfl | rfl | rfl | rfl <;> rfl
          case c3 => unfold maxLen; omega
          case c4 => omega
          case c5 => have := hbel.size; simp; omega
          intro v' w2 hown' hgrow _
          have hbel' := own_grow (B := 0) (hown.alloc _) (below_box hbel _) hgrow
          obtain ⟨b0, e0⟩ := byte_of (m / 16777216 % 256) (by omega) (by omega)
          obtain ⟨b1, e1⟩ := byte_of (m / 65536 % 256) (by omega) (by omega)
          obtain ⟨b2, e2⟩ := byte_of (m / 256 % 256) (by omega) (by omega)
          obtain ⟨b3, e3⟩ := byte_of (m % 256) (by omega) (by omega)
          have hown2 : w2.ownsRow w.heap.size 5 1 v' (4 * (k + 1)) (Lib.byteCells (bs ++ [b0, b1, b2, b3])) := by
            rw [e0, e1, e2, e3] at hown'
            simpa [Lib.byteCells, Nat.mul_add] using hown'
          clear hown' hgrow e0 e1 e2 e3
          go_wp2_with fail
          exact ⟨⟨k + 1, by omega, by simp, bs ++ [b0, b1, b2, b3], by simp [hbs]; omega, hown2, hbel'⟩, by simp [intOf]; omega⟩
        · obtain rfl : k = 8 := by omega
          obtain ⟨g9, c9, rfl, hby⟩ := own_bytes hown (by omega) hbs
          have hv := bytes_string (P := Tryz.prog) Tryz.underlying76 Tryz.underlying5 Tryz.underlying9 wr (some ⟨g9, 0, none⟩) bs c9 hby
          rw [hbs] at hv
          go_wp2_with fail
          go_ret
          exact ⟨⟨bs, by omega, rfl⟩, hbel⟩
end Go.Proofs.YtifoicdnibgdaaaGreatDoor
