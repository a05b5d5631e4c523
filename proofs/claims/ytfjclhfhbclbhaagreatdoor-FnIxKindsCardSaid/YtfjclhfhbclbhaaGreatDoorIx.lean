/- impl.IxBytes of one entry, sorted by digests. -/
import Derived.Test.YtfjclhfhbclbhaaGreatDoorWt
import Derived.Test.YtfjclhfhbclbhaaGreatDoorIn
namespace Go.Proofs.YtfjclhfhbclbhaaGreatDoor
open Go.RowKit
set_option linter.unusedVariables false
set_option linter.unusedSimpArgs false
attribute [local go_sem] setCell_drewN alloc_drewN

theorem info_Rec : (Tryz.prog.info? 67).map (fun i => (i.zero, i.size, i.bytes)) = some (some (.agg #[.string ⟨#[]⟩, .int .u64 0]), 2, 24) := by kernel_rfl
theorem method_LoadM (v : Value) (w : World) : (method 448 mwT v "Load").run Tryz.prog w = .ok (179, v) w := by kernel_rfl

theorem two_cells (w : World) (x y : Value) (t : TypeId) : ∀ (j : Nat) (u : Value), [x, y][j]? = some u → (w.alloc (.cells #[x, y] t)).cell? ((⟨w.heap.size, 0, none⟩ : Addr).add j) = some u := by
  intro j u hj
  match j, hj with
  | 0, hj => simp at hj; subst hj; simp [Addr.add]
  | 1, hj => simp at hj; subst hj; simp [Addr.add]
theorem sortedSecs_one (s : Sec) : sortedSecs [s] = [s.two] := by
  rw [sortedSecs, List.map_cons, List.map_nil, sortN_tiny (by simp)]
  simp [inOrder]

/-- An entry of an index, as it lies in a slice at block g. -/
structure EntAt (w : World) (g : Nat) (c : CidOf) (off : Nat) : Prop where
  c0 : w.cell? ⟨g, 0, none⟩ = some (.int .u64 (c.ver : Int))
  c1 : w.cell? ⟨g, 1, none⟩ = some (.int .u64 (c.codec : Int))
  c2 : w.cell? ⟨g, 2, none⟩ = some (.int .u64 (c.code : Int))
  c3 : w.cell? ⟨g, 3, none⟩ = some (.string (sOf c.dig))
  c4 : w.cell? ⟨g, 4, none⟩ = some (.int .u64 (off : Int))
theorem EntAt.lt {w : World} {g : Nat} {c : CidOf} {off : Nat} (h : EntAt w g c off) : g < w.heap.size := World.block_lt_of_cell? w _ h.c0
theorem EntAt.below {w w' : World} {g : Nat} {c : CidOf} {off : Nat} (h : EntAt w g c off) (hb : Below w.heap.size w w') : EntAt w' g c off :=
  ⟨(hb.cell (p := ⟨g, 0, none⟩) h.lt).trans h.c0, (hb.cell (p := ⟨g, 1, none⟩) h.lt).trans h.c1, (hb.cell (p := ⟨g, 2, none⟩) h.lt).trans h.c2, (hb.cell (p := ⟨g, 3, none⟩) h.lt).trans h.c3, (hb.cell (p := ⟨g, 4, none⟩) h.lt).trans h.c4⟩

/-- The bytes of an index of one entry, sorted by digests. -/
def oneSorted (dig : List UInt8) (off : Nat) : List UInt8 := Lib.uvarint 1024 ++ mwBytes [(dig.length + 8, dig ++ Lib.leBytes 8 off)]

set_option maxRecDepth 100000 in
set_option maxHeartbeats 3200000 in
theorem indexBytes_one (ge cap off : Nat) (c : CidOf) (hc : c.Ok) (hd : 0 < c.dig.length) (hoff : off < 18446744073709551616) (w : World) (hE : EntAt w ge c off) :
    Calls Tryz.prog 8 #[.slice (some ⟨ge, 0, none⟩) 1 cap, .int .u64 1024] w fun e w' => e = .returned (.tuple #[.string (sOf (oneSorted c.dig off)), .bool true]) ∧ Below w.heap.size w w' := by
  obtain ⟨i0, ti, tz0, tz1, tz2⟩ := info_parts info_Rec
  have hdl := hc.dig
  have hme := method_LoadM
  have hgl := hE.lt
  go_enter Tryz.func8, Tryz.ntmps8
  go_wp2_with fail
  refine (New_sorted _).mono ?_
  rintro e w1 ⟨rfl, hM1, hb1⟩
  have hE1 := hE.below hb1
  obtain ⟨c0, c1, c2, c3, c4⟩ := hE1
  have hg1 : ge < w1.heap.size := by have := hb1.size; omega
  have hz1 : w.heap.size + 1 < w1.heap.size := World.block_lt_of_cell? w1 _ hM1.cell
  have hCid := fun W => cidIn_ok c hc W
  go_wp2_with fail
  refine wp_loop_rounds 2 ?_
  rw [rounds_succ]
  go_wp2_with fail
  refine (hCid _).mono ?_
  rintro e w2 ⟨rfl, hb2⟩
  have hbw2 : Below w1.heap.size w1 w2 := by (repeat (first | (with_reducible exact Below.refl _ _) | (with_reducible exact below_boxed _ _) | (with_reducible refine below_box ?_ _) | (with_reducible refine below_drew1 ?_) | (with_reducible refine below_drewn ?_ _) | (with_reducible refine below_bytes ?_ _ _) | (with_reducible refine below_next ?_ (by assumption)) | (with_reducible refine below_set ?_ (by first | (simp; done) | (simp; omega) | omega) _)))
  have kbox : w2.cell? ⟨w1.heap.size, 4, none⟩ = some (.int .u64 (off : Int)) := by
    have h := hb2.cell (p := ⟨w1.heap.size, 4, none⟩) (by simp)
    rw [h]
    exact blk_cell' (heap_alloc_last w1 _) 4
  have hM2 : MwAt w2 ⟨w.heap.size + 1, 0, none⟩ w.heap.size [] := hM1.kp (S := fun _ => False) (Kp.of_below hbw2) id id (fun _ _ => id)
  have hz2 : w1.heap.size < w2.heap.size := by have := hb2.size; simp at this; omega
  have HB2 := Lib.hid (below_next hb1 hbw2); have HM2 := Lib.hid hM2
  clear hb1 hb2 hbw2 hM1 hM2 c0 c1 c2 c3 c4 hE hCid
  go_wp2_with (at_builtin; refine wpList_append_own _ rfl _ _ 61 rfl w2.heap.size 67 i0 (.agg #[.string ⟨#[]⟩, .int .u64 0]) 2 24 Tryz.underlying61 ti tz0 tz1 tz2 rfl (by decide) _ _ _ rfl (World.ownsRow_nil _ _ _ _) ⟨w2.heap.size + 1, 0, none⟩ 1 1 [.string c.str, .int .u64 (off : Int)] rfl rfl ?c1 ?c2 ?c3 ?c4 ?c5 ?_)
  case c1 =>
    intro j u hj
    have := two_cells (w2.alloc (.cells #[.string c.str] 63)) (.string c.str) (.int .u64 (off : Int)) 67 j u hj
    simpa using this
  case c2 =>
    intro u hu
    simp only [List.mem_cons, List.not_mem_nil, or_false] at hu
    rcases hu with rfl | rfl <;> rfl
  case c3 => unfold maxLen; omega
  case c4 => omega
  case c5 => simp; omega
  intro v3 w3 hown3 hgrow hn3
  refine later ?_
  obtain ⟨g3, cap3, cur3, rfl, hge3, hg3, hle3, hcm3, hcs3, htk3⟩ : ∃ g cap cur, v3 = .slice (some ⟨g, 0, none⟩) 1 cap ∧ w2.heap.size ≤ g ∧ w3.heap[g]? = some (.cells cur 67 (0, 0)) ∧ 1 ≤ cap ∧ cap ≤ maxLen ∧ cur.size = cap * 2 ∧ cur.toList.take (1 * 2) = [.string c.str, .int .u64 (off : Int)] := by
    rcases hown3.2 with ⟨_, h⟩ | h
    · cases h
    · exact h
  have k0 : w3.cell? ⟨g3, 0, none⟩ = some (.string c.str) := by
    rw [blk_cell' hg3 0]
    have : cur3.toList[0]? = some (.string c.str) := by
      have h := congrArg (fun l => l[0]?) htk3
      simpa using h
    simpa using this
  have k1 : w3.cell? ⟨g3, 1, none⟩ = some (.int .u64 (off : Int)) := by
    rw [blk_cell' hg3 1]
    have : cur3.toList[1]? = some (.int .u64 (off : Int)) := by
      have h := congrArg (fun l => l[1]?) htk3
      simpa using h
    simpa using this
  have hkA : Kp (fun _ => False) w2 ((w2.alloc (.cells #[.string c.str] 63)).alloc (.cells #[.string c.str, .int .u64 (off : Int)] 67)) := Kp.of_below (by (repeat (first | (with_reducible exact Below.refl _ _) | (with_reducible exact below_boxed _ _) | (with_reducible refine below_box ?_ _) | (with_reducible refine below_drew1 ?_) | (with_reducible refine below_drewn ?_ _) | (with_reducible refine below_bytes ?_ _ _) | (with_reducible refine below_next ?_ (by assumption)) | (with_reducible refine below_set ?_ (by first | (simp; done) | (simp; omega) | omega) _))))
  have hk23 : Kp (fun _ => False) w2 w3 := hkA.trans (kp_grown hgrow) (fun i h => by simp [Value.ownBlock] at h)
  have hM3 := HM2.out.kp hk23 id id (fun _ _ => id)
  have hL := MwLoad_one ⟨w.heap.size + 1, 0, none⟩ w.heap.size g3 cap3 off c hc hd hoff w3 hM3 (by simp) k0 k1
  have hbw3 : Below w.heap.size w w3 := HB2.out.trans ⟨hk23.os, hk23.tape, hk23.output, hk23.size, fun k hk => hk23.block k (by omega) id⟩
  have HB3 := Lib.hid hbw3
  clear hown3 hgrow hn3 hg3 htk3 k0 k1 hkA hk23 hM3 hbw3 kbox
  refine now ?_
  go_wp2_with fail
  rw [rounds_succ]
  go_wp2_with fail
  refine hL.mono ?_
  clear hL
  rintro e w4 ⟨rfl, ⟨gd, hgd, hM4⟩, hK4⟩
  have hW := written_sorted w.heap.size 1 ⟨w.heap.size + 1, 0, none⟩ [⟨c.dig.length + 8, c.dig ++ Lib.leBytes 8 off, gd⟩] w4 tinySort_32 (Nat.le_refl _) hM4 (by simp; omega) (by simp) (by rw [sortedSecs_one]; simp [secsBytes, secBytes_len, Sec.two, le8_len]; omega)
  rw [sortedSecs_one] at hW
  have hb4 : Below w.heap.size w w4 := HB3.out.trans ⟨hK4.os, hK4.tape, hK4.output, hK4.size, fun k hk => hK4.block k (by have := HB3.out.size; omega) (by omega)⟩
  clear hM4 hK4
  go_wp2_with fail
  refine hW.mono ?_
  clear hW
  rintro e w5 ⟨rfl, hb5⟩
  go_wp2_with fail
  go_ret2
  exact ⟨rfl, below_next hb4 hb5⟩

set_option maxRecDepth 100000 in
theorem IxBytes_one (ge cap off : Nat) (c : CidOf) (hc : c.Ok) (hd : 0 < c.dig.length) (hoff : off < 18446744073709551616) (w : World) (hE : EntAt w ge c off) :
    Calls Tryz.prog 4 #[.slice (some ⟨ge, 0, none⟩) 1 cap, .int .u64 1024] w fun e w' => e = .returned (.tuple #[.string (sOf (oneSorted c.dig off)), .bool true]) ∧ Below w.heap.size w w' := by
  have hI := indexBytes_one ge cap off c hc hd hoff w hE
  clear hE
  go_enter Tryz.func4, Tryz.ntmps4
  go_wp2_with fail
  refine hI.mono ?_
  rintro e w1 ⟨rfl, hb⟩
  go_wp2_with fail
  go_ret2
  exact ⟨rfl, hb⟩
end Go.Proofs.YtfjclhfhbclbhaaGreatDoor
