import Derived.Test.YtobdjcnojbnegaaGreatDoorG12
import Derived.Test.YtobdjcnojbnegaaGreatDoorG06
import Derived.Test.YtobdjcnojbnegaaGreatDoorG09
/- The index 0x0401 is written. -/
namespace Go.Proofs.YtobdjcnojbnegaaGreatDoor
open Go.RowKit
set_option linter.unusedVariables false
set_option linter.unusedSimpArgs false
attribute [local go_sem] setCell_drewN alloc_drewN

set_option maxRecDepth 100000 in
set_option maxHeartbeats 1600000 in
theorem CoMarshal_ok (B b most : Nat) (bs : List UInt8) (c : Cod) (w : World) (hsort : SortsTo 227 .u32 138 most) (hmost : c.secs.length ≤ most) (h : BufAt w B b bs) (hB : B ≤ w.heap.size) (hC : CodAt w c) (hcode : c.code < 18446744073709551616)
    (hab : c.cb < B) (hmk : c.mb < B) (hgd : ∀ s ∈ c.secs, s.gd < B) (hw : ∀ s ∈ c.secs, s.width < 4294967296) (hlen : c.secs.length ≤ 1000000) (hlim : bs.length + 12 + (secsBytes (sortedSecs c.secs)).length ≤ 1099511627776) :
    Calls Tryz.prog 201 #[.pointer (some ⟨c.cb, 0, none⟩), .iface 78 (.pointer (some ⟨b, 0, none⟩))] w fun e w' =>
      e = .returned (.tuple #[.int .u64 ((12 + (secsBytes (sortedSecs c.secs)).length : Nat) : Int), .nilIface]) ∧ BufAt w' B b (bs ++ codBytes (c.code, sortedSecs c.secs)) ∧ WrK B b w w' := by
  have hBb : B ≤ b := h.1
  have cc := hC.code
  have hW := zzWrite64_ok B b bs c.code hcode w h hB (by omega)
  go_enter Tryz.func201, Tryz.ntmps201
  go_wp2_with fail
  refine hW.mono ?_
  clear hW
  rintro e w1 ⟨rfl, hb1, hK1⟩
  have hM1 : MwAt w1 ⟨c.cb, 0, none⟩ c.mb c.secs := hK1.mw hC.mw hab hmk hgd
  have hM := MwMarshal_ok B b c.mb most (bs ++ Lib.leBytes 8 c.code) ⟨c.cb, 0, none⟩ c.secs w1 hsort hmost hb1 (by have := hK1.bel.size; omega) hM1 hab hmk hgd hw hlen (by rw [List.length_append, le8_len]; omega)
  clear hM1 hC h cc
  go_wp2_with fail
  refine hM.mono ?_
  clear hM
  rintro e w2 ⟨rfl, hb2, hK2⟩
  generalize hS : (secsBytes (sortedSecs c.secs)).length = sl at *
  have hs2 : IntKind.u64.wrap (8 + ((4 + sl : Nat) : Int)) = ((12 + sl : Nat) : Int) := by rw [IntKind.wrap_u64]; omega
  go_wp2_with fail
  go_ret2
  exact ⟨tuple2 (int_eq (by rw [hS]; show (8 : Int) + (4 + (sl : Int)) = ((12 + sl : Nat) : Int); omega)), by rw [codBytes, ← List.append_assoc]; exact hb2, hK1.trans hK2⟩

theorem infoC64 : (Tryz.prog.info? 23).map (fun i => (i.zero, i.size, i.bytes)) = some (some (.int .u64 0), 1, 8) := by kernel_rfl
theorem make64 (n : Nat) (hn : n ≤ 1000000) (W : World) : (Instr.makeSlice 31 (.int .i64 0) (.int .i64 (n : Int))).run Tryz.prog W = .ok (.slice (some ⟨W.heap.size, 0, none⟩) 0 n) (W.alloc (.cells (Array.replicate n (Value.int .u64 0)) 23)) := by
  obtain ⟨i0, hi, hz0, hz1, hz2⟩ := info_parts infoC64
  have h := run_make (P := Tryz.prog) W 31 23 i0 (.int .u64 0) Tryz.underlying31 hi hz0 .i64 .i64 0 (n : Int) (by omega) (by omega) (by rw [hz2]; omega) (by omega)
  rw [hz1] at h
  simp only [Int.toNat_natCast, Nat.mul_one, Int.toNat_zero] at h
  rw [h, show (Value.int .u64 0).cells = #[Value.int .u64 0] from rfl, madeCells_one, List.toArray_replicate]

set_option maxRecDepth 100000 in
set_option maxHeartbeats 3200000 in
theorem MhCodes_ok (most : Nat) (a : Addr) (mk : Nat) (cs : List Cod) (w : World) (hsort : SortsTo 211 .u64 23 most) (hmost : cs.length ≤ most) (hM : MhAt w a mk cs) (hlen : cs.length ≤ 1000000) :
    Calls Tryz.prog 200 #[.pointer (some a)] w fun e w' => ∃ g cap tail, e = .returned (.slice (some ⟨g, 0, none⟩) cs.length cap) ∧
      w'.heap[g]? = some (.cells ((sortN (cs.map Cod.code)).map (numV .u64) ++ tail).toArray 23 (0, 0)) ∧ w.heap.size ≤ g ∧ Below w.heap.size w w' := by
  obtain ⟨i0, hi, hz0, hz1, hz2⟩ := info_parts infoC64
  have ca := hM.cell
  have hln := hM.map.len (P := Tryz.prog) Tryz.underlying167 3
  rw [List.length_map] at hln
  have hmk1 := make64 cs.length hlen
  have hal := World.block_lt_of_cell? w _ ca
  have hmkl := hM.map.lt
  have hown0 : (w.alloc (.cells (Array.replicate cs.length (Value.int .u64 0)) 23)).ownsRow w.heap.size 23 1 (.slice (some ⟨w.heap.size, 0, none⟩) 0 cs.length) 0 [] :=
    World.ownsRow_made w _ cs.length (Nat.le_refl _) (by unfold maxLen; omega) (by simp)
  have hIm1 : ImAt (w.alloc (.cells (Array.replicate cs.length (Value.int .u64 0)) 23)) mk .u64 (cs.map Cod.pair) := hM.map.upd (heap_alloc_old _ _ hM.map.lt)
  have hb1 : Below w.heap.size w (w.alloc (.cells (Array.replicate cs.length (Value.int .u64 0)) 23)) := below_boxed w _
  go_enter Tryz.func200, Tryz.ntmps200
  go_wp2_with (at_range; refine step_range_im rfl _ 167 rfl Tryz.underlying167 rfl hIm1 ?_; intro w2 hIt2 hb2 hs2)
  have er : (w.alloc (.cells (Array.replicate cs.length (Value.int .u64 0)) 23)).heap.size = w.heap.size + 1 := by simp
  have hown2 := own_kp hown0 (Kp.of_below (S := fun _ => False) hb2) (fun _ _ => id)
  have hB2 : Below w.heap.size w w2 := hb1.trans (hb2.mono (by omega))
  clear hb2 hown0 hIm1 hmk1 hb1
  generalize (w.alloc (.cells (Array.replicate cs.length (Value.int .u64 0)) 23)).heap.size = r at *
  have hr1 : w.heap.size < r := by omega
  have hr2 : r < w2.heap.size := by omega
  clear er hs2
  go_frame
  go_loopw [3] (fun v3 wr => ∃ (done : List (Int × Value)) (ws : List Nat), ItAt wr r mk .u64 (cs.map Cod.pair) done ∧ done.map (·.1) = ws.map (fun x : Nat => (x : Int)) ∧ wr.ownsRow w.heap.size 23 1 v3 ws.length (ws.map (numV .u64)) ∧ v3 ≠ .slice none 0 0 ∧ Below w.heap.size w wr ∧ r < wr.heap.size) (fun _ wr => cs.length - (wr.iterSeen r).size)
  case atStart => exact ⟨[], [], hIt2, rfl, hown2, by simp, hB2, hr2⟩
  case round =>
    clear hIt2 hown2 hB2
    obtain ⟨done, ws, hIt, hdw, hown, hnn, hB, hzr⟩ := hrel
    have hseen := hIt.seen
    have HSN := Lib.hid hseen; have HDW := Lib.hid hdw
    clear hseen hdw
    go_wp2_with (at_next; refine step_next_im rfl _ rfl rfl hIt (fun hperm => later ?_) (fun p w3 hpm hdl hIt3 hK3 hs3 hen => later ?_))
    · have hwp : ws.Perm (cs.map Cod.code) := by
        have h1 := hperm.map (·.1)
        rw [HDW.out, List.map_map] at h1
        have h2 : (cs.map ((fun p : Int × Value => p.1) ∘ Cod.pair)) = (cs.map Cod.code).map (fun x : Nat => (x : Int)) := by rw [List.map_map]; rfl
        rw [h2] at h1
        exact perm_map_inj (fun a b h => by have h' : (a : Int) = (b : Int) := h; omega) h1
      have hwl : ws.length = cs.length := by have := hwp.length_eq; simpa using this
      obtain ⟨g, cap, cur, rfl, hge, hgc, hgle, hgcm, hgs, htk⟩ : ∃ g cap cur, u3 = .slice (some ⟨g, 0, none⟩) ws.length cap ∧ w.heap.size ≤ g ∧ wr.heap[g]? = some (.cells cur 23 (0, 0)) ∧ ws.length ≤ cap ∧ cap ≤ maxLen ∧ cur.size = cap * 1 ∧ cur.toList.take (ws.length * 1) = ws.map (numV .u64) := by
        rcases hown.2 with ⟨h, _⟩ | h
        · exact absurd h hnn
        · exact h
      rw [Nat.mul_one] at htk
      have hcur : cur = (ws.map (numV .u64) ++ cur.toList.drop ws.length).toArray := by rw [← htk, List.take_append_drop]
      rw [hcur] at hgc
      generalize cur.toList.drop ws.length = tail at hgc
      have hS := hsort g cap ws tail wr (by omega) hgc
      have HWL := Lib.hid hwl
      clear hcur htk hgs hown hnn hwl
      refine now ?_
      go_wp2_with fail
      refine hS.mono ?_
      clear hS
      rintro e w5 ⟨rfl, hg5, hK5⟩
      have hsw : sortN ws = sortN (cs.map Cod.code) := sortN_perm hwp
      rw [hsw] at hg5
      have hB5 : Below w.heap.size w w5 := hK5.to_below hB (fun i e => by omega)
      clear hsw hwp hperm hgc hK5 hB
      go_wp2_with fail
      go_ret
      exact ⟨g, cap, tail, by rw [HWL.out]; rfl, hg5, hge, hB5⟩
    · obtain ⟨c, hcm, rfl⟩ := List.mem_map.1 hpm
      have hrit : ∃ o, wr.heap[r]? = some o ∧ ∀ c t fz, o ≠ .cells c t fz := by
        obtain ⟨es, clock, since, seen, c0, g1, g2, g3⟩ := hIt
        exact ⟨_, g2, fun c t fz e => by cases e⟩
      have hor : u3.ownBlock ≠ some r := by
        intro e
        obtain ⟨_, cur, hc⟩ := own_cells hown e
        obtain ⟨o, ho, hno⟩ := hrit
        rw [ho] at hc; cases hc; exact hno _ _ _ rfl
      have hom : u3.ownBlock ≠ some mk := by
        intro e
        obtain ⟨hle, cur, hc⟩ := own_cells hown e
        omega
      have hown3 := own_kp hown hK3 (fun g e h => by subst h; exact hor e)
      have hwl : ws.length < cs.length := by
        have := congrArg List.length HDW.out
        simp only [List.length_map] at this hdl
        omega
      have hB3 : Below w.heap.size w w3 := hK3.to_below hB (fun i e => by omega)
      have hsz3 : r < w3.heap.size := by omega
      have hpr : c.pair = ((c.code : Int), .pointer (some ⟨c.cb, 0, none⟩)) := rfl
      rw [hpr] at hIt3 hen
      simp only [hpr] at *
      clear hIt hown hrit hs3 hB hpm hpr
      refine now ?_
      go_wp2_with (at_builtin; refine wpList_append_own _ rfl _ _ 31 rfl w.heap.size 23 i0 (.int .u64 0) 1 8 Tryz.underlying31 hi hz0 hz1 hz2 rfl (by decide) _ _ _ rfl (hown3.alloc _) ⟨w3.heap.size, 0, none⟩ 1 1 [.int .u64 (c.code : Int)] rfl rfl (one_cell _ _ _) (ints_oneCell .u64 [(c.code : Int)]) ?c3 ?c4 ?c5 ?_)
      case c3 => unfold maxLen; omega
      case c4 => omega
      case c5 => simp; omega
      intro v' w4 hown4 hgrow hn4
      have hobk : ∀ g, u3.ownBlock = some g → w.heap.size ≤ g := fun g e => (own_cells hown3 e).1
      have hkg := kp_grown hgrow
      have hz4 : w3.heap.size < w4.heap.size := by have := hgrow.size; simp at this; omega
      have hIt4 : ItAt w4 r mk .u64 (cs.map Cod.pair) (done ++ [((c.code : Int), .pointer (some ⟨c.cb, 0, none⟩))]) := (hIt3.kp (kp_alloc w3 _) id id).kp hkg (fun e => hom e.symm) (fun e => hor e.symm)
      have hB4 : Below w.heap.size w w4 := hkg.to_below (below_box hB3 _) (fun i e => hobk i e.symm)
      have hd4 : (done ++ [((c.code : Int), Value.pointer (some ⟨c.cb, 0, none⟩))]).map (·.1) = (ws ++ [c.code]).map (fun x : Nat => (x : Int)) := by rw [List.map_append, List.map_append, HDW.out]; rfl
      have ho4 : w4.ownsRow w.heap.size 23 1 v' (ws ++ [c.code]).length ((ws ++ [c.code]).map (numV .u64)) := by
        rw [List.length_append, List.map_append]; exact hown4
      have hm4 : cs.length - (w4.iterSeen r).size < cs.length - (wr.iterSeen r).size := by
        simp only [List.length_map] at hdl
        rw [hIt4.seen, HSN.out]; simp only [List.length_append, List.length_cons, List.length_nil]; omega
      have HM4 := Lib.hid hm4; have HD4 := Lib.hid hd4
      clear hobk hkg hgrow hIt3 hown3 hown4 hd4 hm4 hen
      go_wp2_with fail
      go_roundw
      case rel => exact ⟨_, _, hIt4, HD4.out, ho4, by simpa using hn4, hB4, by omega⟩
      case measure => exact HM4.out
end Go.Proofs.YtobdjcnojbnegaaGreatDoor

/- index.New and ReadFrom at 0x0401. -/
namespace Go.Proofs.YtobdjcnojbnegaaGreatDoor
open Go.RowKit
set_option linter.unusedVariables false
set_option linter.unusedSimpArgs false
attribute [local go_sem] setCell_drewN alloc_drewN

theorem method_UnmarshalC (v : Value) (w : World) : (method 471 mhT v "Unmarshal").run Tryz.prog w = .ok (192, v) w := by kernel_rfl
theorem uv1025 : Lib.uvarint 1025 = [129, 8] := by rw [Lib.uvarint_big (by omega), Lib.uvarint_small (by omega)]; rfl

set_option maxRecDepth 100000 in
theorem newMh_ok (w : World) : Calls Tryz.prog 53 #[] w fun e w' => ∃ a mb, e = .returned (.pointer (some ⟨a, 0, none⟩)) ∧ MhAt w' ⟨a, 0, none⟩ mb [] ∧ w.heap.size ≤ a ∧ w.heap.size ≤ mb ∧ a ≠ mb ∧ Below w.heap.size w w' := by
  have hmm := @run_makeMap Tryz.prog
  go_enter Tryz.func53, Tryz.ntmps53
  go_wp2_with fail
  go_ret
  refine ⟨_, w.heap.size, rfl, ⟨?_, ?_, by simp⟩, ?_, Nat.le_refl _, ?_, by (repeat (first | (with_reducible exact Below.refl _ _) | (with_reducible exact below_boxed _ _) | (with_reducible refine below_box ?_ _) | (with_reducible refine below_drew1 ?_) | (with_reducible refine below_drewn ?_ _) | (with_reducible refine below_bytes ?_ _ _) | (with_reducible refine below_next ?_ (by assumption)) | (with_reducible refine below_set ?_ (by first | (simp; done) | (simp; omega) | omega) _)))⟩
  · simp [go_sem]
  · exact (ImAt.made w .u64).upd (heap_alloc_old _ _ (by simp))
  · simp
  · simp

set_option maxRecDepth 100000 in
theorem New_mh (w : World) : Calls Tryz.prog 36 #[.int .u64 1025] w fun e w' => ∃ a mb, e = .returned (.tuple #[.iface mhT (.pointer (some ⟨a, 0, none⟩)), .nilIface]) ∧ MhAt w' ⟨a, 0, none⟩ mb [] ∧ w.heap.size ≤ a ∧ w.heap.size ≤ mb ∧ a ≠ mb ∧ Below w.heap.size w w' := by
  go_enter Tryz.func36, Tryz.ntmps36
  go_wp2_with fail
  refine (newMh_ok _).mono ?_
  rintro e w1 ⟨a, mb, rfl, hM, ha, hb, hne, hB⟩
  go_wp2_with fail
  go_ret2
  exact ⟨a, mb, rfl, hM, ha, hb, hne, hB⟩

set_option maxRecDepth 100000 in
set_option maxHeartbeats 1600000 in
theorem ReadFrom_mh (b : Nat) (A : Option Addr) (cap : Nat) (bs : List UInt8) (ss : List (Nat × List (Nat × List UInt8))) (rest : List UInt8)
    (hw : ∀ p ∈ ss, p.1 < 18446744073709551616 ∧ (∀ s ∈ p.2, 8 ≤ s.1 ∧ s.1 ≤ 33554432) ∧ (p.2.map (·.1)).Nodup) (hnd : (ss.map (·.1)).Nodup) (w : World) (hsm : bs.length ≤ 16777216) (h : RdAt w b A cap bs 0)
    (hbs : bs = Lib.uvarint 1025 ++ (mhBytes ss ++ rest)) (hA : ∀ g' o, A = some ⟨g', o, none⟩ → g' < w.heap.size) :
    Calls Tryz.prog 32 #[.iface 63 (.pointer (some ⟨b, 0, none⟩))] w fun e w' => ∃ a mb cs, e = .returned (.tuple #[.iface mhT (.pointer (some ⟨a, 0, none⟩)), .nilIface]) ∧ RdAt w' b A cap bs (2 + (mhBytes ss).length) ∧
      cs.map Cod.two = ss ∧ MhAt w' ⟨a, 0, none⟩ mb cs ∧ (∀ c ∈ cs, c.Above w.heap.size) ∧ w.heap.size ≤ a ∧ w.heap.size ≤ mb ∧ Kp (fun i => i = b) w w' := by
  have hme := method_UnmarshalC
  have hbl := h.blt
  have hRC := ReadCodec_ok b A cap bs 0 1025 (by omega) (mhBytes ss ++ rest) w h (by rw [List.drop_zero]; exact hbs)
  rw [uv1025] at hRC
  have hd2 : bs.drop 2 = mhBytes ss ++ rest := by rw [hbs, uv1025]; rfl
  have HD := Lib.hid hd2
  clear hbs hd2 h
  go_enter Tryz.func32, Tryz.ntmps32
  go_wp2_with fail
  refine hRC.mono ?_
  clear hRC
  rintro e w1 ⟨rfl, hR1, hK1⟩
  have hz1 := hK1.size
  go_wp2_with fail
  refine (New_mh _).mono ?_
  rintro e w2 ⟨a, mb, rfl, hM2, ha, hm, hne, hb2⟩
  have hz2 := hb2.size
  have hR2 : RdAt w2 b A cap bs 2 := hR1.keep (S := fun _ => False) (Kp.of_below hb2) id (fun _ _ _ => id)
  have hU := MhUnmarshal_ok b A cap bs 2 ⟨a, 0, none⟩ mb ss rest hw hnd w2 hsm hR2 HD.out hM2 (by show a ≠ b; omega) (by omega) hne (fun g' o e => by have := hA g' o e; refine ⟨by omega, ?_, by omega⟩; show g' ≠ a; omega)
  clear hR1 hM2 hR2 hw hnd
  go_wp2_with fail
  refine hU.mono ?_
  clear hU
  rintro e w3 ⟨rfl, hR3, ⟨cs, hs, hM3, hg⟩, hK3⟩
  go_wp2_with fail
  go_ret2
  refine ⟨a, mb, cs, rfl, hR3, hs, hM3, fun c hc => ?_, by omega, by omega, ?_⟩
  · have h := hg c hc
    exact ⟨by have := h.1; omega, by have := h.2.1; omega, fun s hs => by have := h.2.2 s hs; omega⟩
  · exact (hK1.trans (S' := fun _ => False) (Kp.of_below hb2) (fun _ h => h.elim)).trans hK3 (fun i h => h.elim .inl (fun e => .inr (by omega)))
end Go.Proofs.YtobdjcnojbnegaaGreatDoor

/- The index 0x0401 is asked. -/
namespace Go.Proofs.YtobdjcnojbnegaaGreatDoor
open Go.RowKit
set_option linter.unusedVariables false
set_option linter.unusedSimpArgs false
attribute [local go_sem] setCell_drewN alloc_drewN

theorem find_cod {cs : List Cod} {k : Int} : ilook (cs.map Cod.pair) k = (cs.find? (fun c => decide ((c.code : Int) = k))).map (fun c => .pointer (some ⟨c.cb, 0, none⟩)) := by
  induction cs with
  | nil => rfl
  | cons s l ih =>
    by_cases h : (s.code : Int) = k
    · simp [ilook, Cod.pair, h]
    · have := ih
      simp only [ilook] at this ⊢
      rw [List.map_cons, List.find?_cons, List.find?_cons]
      simp only [Cod.pair, h, decide_false]
      exact this
theorem coZero (W : World) : (zeroValue 274).run Tryz.prog W = .ok (.pointer none) W := by kernel_rfl

set_option maxRecDepth 100000 in
set_option maxHeartbeats 1600000 in
theorem MhGet_some (a : Addr) (mb d : Nat) (cs : List Cod) (c : Cod) (w : World) (hM : MhAt w a mb cs) (code : Nat) (hf : cs.find? (fun x => decide ((x.code : Int) = (code : Int))) = some c) (hd : w.cell? ⟨d, 0, none⟩ = some (.int .u64 (code : Int))) :
    Calls Tryz.prog 194 #[.pointer (some a), .pointer (some ⟨d, 0, none⟩)] w fun e w' => e = .returned (.tuple #[.pointer (some ⟨c.cb, 0, none⟩), .nilIface]) ∧ Below w.heap.size w w' := by
  have ca := hM.cell
  have hl := (hM.map.upd (w' := w.drew) rfl).look (P := Tryz.prog) Tryz.underlying167 Tryz.underlying23 (k := (code : Int)) (v := .pointer (some ⟨c.cb, 0, none⟩)) (by rw [find_cod, hf]; rfl) true
  simp only [if_true] at hl
  have HF := Lib.hid hf
  clear hM hf
  go_enter Tryz.func194, Tryz.ntmps194
  go_wp2_with fail
  go_region
  go_wp2_with fail
  go_ret2
  exact ⟨rfl, by (repeat (first | (with_reducible exact Below.refl _ _) | (with_reducible exact below_boxed _ _) | (with_reducible refine below_box ?_ _) | (with_reducible refine below_drew1 ?_) | (with_reducible refine below_drewn ?_ _) | (with_reducible refine below_bytes ?_ _ _) | (with_reducible refine below_next ?_ (by assumption)) | (with_reducible refine below_set ?_ (by first | (simp; done) | (simp; omega) | omega) _)))⟩

set_option maxRecDepth 100000 in
set_option maxHeartbeats 1600000 in
theorem MhGet_none (a : Addr) (mb d : Nat) (cs : List Cod) (ty : TypeId) (ev : Value) (w : World) (hM : MhAt w a mb cs) (code : Nat) (hf : cs.find? (fun x => decide ((x.code : Int) = (code : Int))) = none) (hd : w.cell? ⟨d, 0, none⟩ = some (.int .u64 (code : Int)))
    (he : w.cell? ⟨0, 0, none⟩ = some (.iface ty ev)) :
    Calls Tryz.prog 194 #[.pointer (some a), .pointer (some ⟨d, 0, none⟩)] w fun e w' => e = .returned (.tuple #[.pointer none, .iface ty ev]) ∧ Below w.heap.size w w' := by
  have ca := hM.cell
  have hl := (hM.map.upd (w' := w.drew) rfl).look_no (P := Tryz.prog) Tryz.underlying167 Tryz.underlying23 (k := (code : Int)) (by rw [find_cod, hf]; rfl) true _ coZero
  simp only [if_true] at hl
  have HF := Lib.hid hf
  clear hM hf
  go_enter Tryz.func194, Tryz.ntmps194
  go_wp2_with fail
  go_region
  go_wp2_with fail
  go_region
  go_wp2_with fail
  go_ret2
  exact ⟨rfl, by (repeat (first | (with_reducible exact Below.refl _ _) | (with_reducible exact below_boxed _ _) | (with_reducible refine below_box ?_ _) | (with_reducible refine below_drew1 ?_) | (with_reducible refine below_drewn ?_ _) | (with_reducible refine below_bytes ?_ _ _) | (with_reducible refine below_next ?_ (by assumption)) | (with_reducible refine below_set ?_ (by first | (simp; done) | (simp; omega) | omega) _)))⟩

/-- The offsets that an index 0x0401 tells for a hash function and a digest. -/
def TellsC (cs : List (Nat × List (Nat × List UInt8))) (code : Nat) (d : List UInt8) (M : List Nat) : Prop :=
  (∀ x ∈ cs, x.1 ≠ code) ∧ M = [] ∨ ∃ x ∈ cs, x.1 = code ∧ Tells x.2 d M

set_option maxRecDepth 100000 in
set_option maxHeartbeats 3200000 in
theorem MhGetAll_ok (a : Addr) (mk ob mb most : Nat) (cs : List Cod) (c : CidOf) (hc : c.Ok) (ty : TypeId) (ev : Value) (w : World) (hM : MhAt w a mk cs) (hW : ∀ x ∈ cs, Whole x.secs) (hO : OutAt w ob mb most []) (hm : 1 ≤ most)
    (hne : ∀ x ∈ cs, ∀ s ∈ x.secs, s.gd ≠ ob) (hg5 : 0 < ob) (he : w.cell? ⟨0, 0, none⟩ = some (.iface ty ev)) :
    Calls Tryz.prog 189 #[.pointer (some a), .agg #[.string c.str], .func (.func 39) #[] #[.pointer (some ⟨ob, 0, none⟩), .pointer (some ⟨mb, 0, none⟩)]] w fun e w' =>
      ∃ M, GotAll (.iface ty ev) M e ∧ TellsC (cs.map Cod.two) c.code c.dig M ∧ OutAt w' ob mb most (M.take most) ∧ Told ob w w' := by
  have hobl : ob < w.heap.size := by obtain ⟨⟨v, h, _⟩, _⟩ := hO; exact (Array.getElem?_eq_some_iff.1 h).1
  have hdl := hc.dig
  have hal := World.block_lt_of_cell? w _ hM.cell
  go_enter Tryz.func189, Tryz.ntmps189
  go_wp2_with fail
  refine (Hash_ok c hc _).mono ?_
  rintro e w1 ⟨A1, c1, rfl, hc1, hA1, hB1, hF1, hb1⟩
  obtain ⟨hcc, hff⟩ := bcell hb1
  have hz : w.heap.size < w1.heap.size := by have := hb1.size; simp at this; omega
  go_wp2_with fail
  refine (Decode_ok c.code hc.code c.dig (by omega) A1 _ c1 _ hA1 rfl hc1).mono ?_
  rintro e w2 ⟨g, A2, c2, rfl, hc2, hS2, hb2, hg2, hblk⟩
  have hcc1 : w1.cell? ⟨w.heap.size, 0, none⟩ = some (.string c.str) := (hcc _ 0 (by simp)).trans (blk_cell' (heap_alloc_new w _) 0)
  have hcc2 := (hb2.cell (p := ⟨w.heap.size, 0, none⟩) hz).trans hcc1
  clear hff hcc
  have hbw : Below w.heap.size w w2 := by (repeat (first | (with_reducible exact Below.refl _ _) | (with_reducible exact below_boxed _ _) | (with_reducible refine below_box ?_ _) | (with_reducible refine below_drew1 ?_) | (with_reducible refine below_drewn ?_ _) | (with_reducible refine below_bytes ?_ _ _) | (with_reducible refine below_next ?_ (by assumption)) | (with_reducible refine below_set ?_ (by first | (simp; done) | (simp; omega) | omega) _)))
  have k0 : w2.cell? ⟨g, 0, none⟩ = some (.int .u64 (c.code : Int)) := by simp [World.cell?, hblk]
  have hM2 : MhAt w2 a mk cs := hM.kp (S := fun _ => False) (Kp.of_below hbw) id id (fun _ _ => ⟨id, id, fun _ _ => id⟩)
  have hO2 : OutAt w2 ob mb most [] := hO.below hbw
  have hz2 : w1.heap.size ≤ w2.heap.size := hb2.size
  have he2 : w2.cell? ⟨0, 0, none⟩ = some (.iface ty ev) := (hbw.cell (p := ⟨0, 0, none⟩) (by show 0 < _; omega)).trans he
  clear hb1 hb2 hblk hA1 hB1 hF1 hM hO hS2
  cases hf : cs.find? (fun x => decide ((x.code : Int) = (c.code : Int))) with
  | none =>
    have hG := MhGet_none a mk g cs ty ev w2 hM2 c.code hf k0 he2
    have HF := Lib.hid hf
    clear hf
    go_wp2_with fail
    refine hG.mono ?_
    clear hG
    rintro e w3 ⟨rfl, hb3⟩
    go_wp2_with fail
    go_ret
    refine ⟨[], rfl, .inl ⟨?_, rfl⟩, by rw [List.take_nil]; exact hO2.below hb3, (Told.of_below hbw (Nat.le_of_lt hobl)).trans (Told.of_below hb3 (by omega))⟩
    intro x hx
    obtain ⟨y, hy, rfl⟩ := List.mem_map.1 hx
    have := List.find?_eq_none.1 HF.out y hy
    simp only [decide_eq_true_eq] at this
    show y.code ≠ _
    omega
  | some x =>
    have hxm : x ∈ cs := List.mem_of_find?_eq_some hf
    have hxw : (x.code : Int) = (c.code : Int) := by have := List.find?_some hf; simpa using this
    have hG := MhGet_some a mk g cs x w2 hM2 c.code hf k0
    have HX := Lib.hid hxw
    clear hf hxw
    go_wp2_with fail
    refine hG.mono ?_
    clear hG
    rintro e w3 ⟨rfl, hb3⟩
    have hz3 := hb3.size
    have hcc3 := (hb3.cell (p := ⟨w.heap.size, 0, none⟩) (by show w.heap.size < _; omega)).trans hcc2
    have hb3d : Below w2.heap.size w2 w3.drew := below_drew1 hb3
    have hMx : MwAt w3.drew ⟨x.cb, 0, none⟩ x.mb x.secs := ((hM2.row x hxm).kp (S := fun _ => False) (Kp.of_below hb3d) id id (fun _ _ => id)).mw
    have hGA := MwGetAll_ok ⟨x.cb, 0, none⟩ x.mb ob mb most x.secs c hc ty ev w3.drew hMx (hW x hxm) (hO2.below hb3d) hm (hne x hxm) hg5 ((hb3d.cell (p := ⟨0, 0, none⟩) (by show 0 < _; omega)).trans he2)
    have hT3 : Told ob w w3.drew := (Told.of_below hbw (Nat.le_of_lt hobl)).trans (Told.of_below hb3d (by omega))
    clear hMx hb3d
    go_wp2_with fail
    go_region_with (go_at_call 195; (refine hGA.mono ?_; clear hGA; rintro e w4 ⟨M, hGM, hO4, hT4⟩; obtain ⟨hGot, hTe⟩ : GotAll _ M e ∧ Tells (x.secs.map Sec.two) c.dig M := hGM; have he4 : ∃ v, e = .returned v := (by unfold GotAll at hGot; exact ⟨_, hGot⟩); obtain ⟨v, rfl⟩ := he4))
    all_goals
      go_wp2_with fail
      go_ret
      refine ⟨M, hGot, .inr ⟨x.two, List.mem_map.2 ⟨x, hxm, rfl⟩, ?_, hTe⟩, hO4, hT3.trans hT4⟩
      have := HX.out
      show x.code = _
      omega
end Go.Proofs.YtobdjcnojbnegaaGreatDoor

/- MultihashIndexSorted.Marshal. -/
namespace Go.Proofs.YtobdjcnojbnegaaGreatDoor
open Go.RowKit
set_option linter.unusedVariables false
set_option linter.unusedSimpArgs false
attribute [local go_sem] setCell_drewN alloc_drewN

/-- The codes' indexes in an order of codes. -/
def inCodes (cs : List Cod) (ws : List Nat) : List (Nat × List (Nat × List UInt8)) := ws.filterMap fun x => (cs.find? fun c => decide (c.code = x)).map fun c => (c.code, sortedSecs c.secs)
def sortedCods (cs : List Cod) : List (Nat × List (Nat × List UInt8)) := inCodes cs (sortN (cs.map Cod.code))
theorem inCodes_take {cs : List Cod} {ws : List Nat} {i x : Nat} {c : Cod} (hx : ws[i]? = some x) (hf : cs.find? (fun c => decide (c.code = x)) = some c) : inCodes cs (ws.take (i + 1)) = inCodes cs (ws.take i) ++ [(c.code, sortedSecs c.secs)] := by
  have hlt := (List.getElem?_eq_some_iff.1 hx).1
  have he := (List.getElem?_eq_some_iff.1 hx).2
  rw [List.take_succ_eq_append_getElem hlt, he, inCodes, inCodes, List.filterMap_append]
  simp [hf]
theorem find_code {cs : List Cod} {c : Cod} (hs : c ∈ cs) (hn : (cs.map Cod.code).Nodup) : cs.find? (fun x => decide (x.code = c.code)) = some c := by
  induction cs with
  | nil => cases hs
  | cons x l ih =>
    have hn' := List.nodup_cons.1 hn
    by_cases hx : x.code = c.code
    · rcases List.mem_cons.1 hs with rfl | h
      · simp
      · exact absurd (List.mem_map.2 ⟨c, h, hx.symm⟩) hn'.1
    · rcases List.mem_cons.1 hs with rfl | h
      · exact absurd rfl hx
      · rw [List.find?_cons]; simp only [hx, decide_false]; exact ih h hn'.2
theorem MhAt.nodup {w : World} {a : Addr} {mb : Nat} {cs : List Cod} (h : MhAt w a mb cs) : (cs.map Cod.code).Nodup := by
  have h1 := h.map.nodup
  rw [List.map_map] at h1
  have h2 : (List.map ((fun x : Nat => (x : Int)) ∘ Cod.code) cs).Nodup := h1
  rw [← List.map_map] at h2
  exact (List.pairwise_map.1 h2).imp (fun h e => h (by rw [e]))
/-- All its blocks lie below. -/
def Cod.Under (n : Nat) (c : Cod) : Prop := c.cb < n ∧ c.mb < n ∧ ∀ s ∈ c.secs, s.gd < n
theorem WrK.cod {B b : Nat} {w w' : World} (h : WrK B b w w') {c : Cod} (hC : CodAt w c) (hu : c.Under B) : CodAt w' c := ⟨h.mw hC.mw hu.1 hu.2.1 hu.2.2, (h.bel.cell hu.1).trans hC.code⟩
theorem WrK.mh {B b : Nat} {w w' : World} (h : WrK B b w w') {a : Addr} {mb : Nat} {cs : List Cod} (hM : MhAt w a mb cs) (h1 : a.block < B) (h2 : mb < B) (h3 : ∀ c ∈ cs, c.Under B) : MhAt w' a mb cs :=
  ⟨(h.bel.cell h1).trans hM.cell, hM.map.upd (h.bel.block _ h2), fun c hc => h.cod (hM.row c hc) (h3 c hc)⟩
theorem inCodes_le {cs : List Cod} {ws : List Nat} (i : Nat) : (codsBytes (inCodes cs (ws.take i))).length ≤ (codsBytes (inCodes cs ws)).length := by
  have : inCodes cs ws = inCodes cs (ws.take i) ++ inCodes cs (ws.drop i) := by
    rw [inCodes, inCodes, inCodes, ← List.filterMap_append, List.take_append_drop]
  rw [this, codsBytes_append, List.length_append]; omega
theorem codBytes_len2 (c : Cod) : (codBytes (c.code, sortedSecs c.secs)).length = 12 + (secsBytes (sortedSecs c.secs)).length := by simp only [codBytes, mwBytes, List.length_append, le4_len, le8_len]; omega

set_option maxRecDepth 100000 in
set_option maxHeartbeats 3200000 in
theorem MhMarshal_ok (B b mk most : Nat) (bs : List UInt8) (a : Addr) (cs : List Cod) (w : World) (hs32 : SortsTo 227 .u32 138 most) (hs64 : SortsTo 211 .u64 23 most) (hmost : cs.length ≤ most) (h : BufAt w B b bs) (hB : B ≤ w.heap.size) (hM : MhAt w a mk cs)
    (hab : a.block < B) (hmk : mk < B) (hu : ∀ c ∈ cs, c.Under B) (hw : ∀ c ∈ cs, c.code < 18446744073709551616 ∧ c.secs.length ≤ most ∧ c.secs.length ≤ 1000000 ∧ ∀ s ∈ c.secs, s.width < 4294967296) (hlen : cs.length ≤ 1000000) (hlim : bs.length + 4 + (codsBytes (sortedCods cs)).length ≤ 1099511627776) :
    Calls Tryz.prog 191 #[.pointer (some a), .iface 78 (.pointer (some ⟨b, 0, none⟩))] w fun e w' =>
      ∃ n : Int, e = .returned (.tuple #[.int .u64 n, .nilIface]) ∧ BufAt w' B b (bs ++ (Lib.leBytes 4 cs.length ++ codsBytes (sortedCods cs))) ∧ WrK B b w w' := by
  have hBb : B ≤ b := h.1
  have ca := hM.cell
  have hln := hM.map.len (P := Tryz.prog) Tryz.underlying167 3
  rw [List.length_map] at hln
  have hlw : IntKind.u32.wrap (cs.length : Int) = (cs.length : Int) := by rw [IntKind.wrap_u32]; omega
  go_enter Tryz.func191, Tryz.ntmps191
  go_wp2_with fail
  refine (zzWrite32_ok B b bs cs.length (by omega) w h hB (by omega)).mono ?_
  rintro e w1 ⟨rfl, hB1, hK1⟩
  have hM1 := hK1.mh hM hab hmk hu
  have hBw1 : B ≤ w1.heap.size := by have := hK1.bel.size; omega
  have hC := MhCodes_ok most a mk cs w1 hs64 hmost hM1 hlen
  clear h ca hln
  go_wp2_with fail
  refine hC.mono ?_
  clear hC
  rintro e w2 ⟨g, cap, tail, rfl, hg2, hge, hb2⟩
  have hB2 := hB1.below hb2
  have hK2 : WrK B b w w2 := hK1.trans (WrK.of_below hb2 hBw1)
  have hbg : g ≠ b := by have := hB1.lt; omega
  have hgz : g < w2.heap.size := (Array.getElem?_eq_some_iff.1 hg2).1
  obtain ⟨sw, hswd⟩ : ∃ sw, sw = sortN (cs.map Cod.code) := ⟨_, rfl⟩
  have hsl : sw.length = cs.length := by rw [hswd, sortN_len, List.length_map]
  have hsec : sortedCods cs = inCodes cs sw := by rw [hswd]; rfl
  rw [← hswd] at hg2
  rw [hsec] at hlim
  have hmem : ∀ (i x : Nat), sw[i]? = some x → ∃ s ∈ cs, s.code = x ∧ cs.find? (fun s => decide (s.code = x)) = some s := by
    intro i x hx
    have h1 : x ∈ sortN (cs.map Cod.code) := by rw [← hswd]; exact List.mem_of_getElem? hx
    obtain ⟨s, hs, e⟩ := List.mem_map.1 (sortN_mem.1 h1)
    exact ⟨s, hs, e, by rw [← e]; exact find_code hs hM.nodup⟩
  have HSE := Lib.hid hsec; have HSL := Lib.hid hsl; have HME := Lib.hid hmem; have HM := Lib.hid hM
  clear hswd hsl hsec hmem hM hM1 hB1 hK1 hb2
  go_wp2_with fail
  go_loopw [8, 28] (fun vl vi wx => ∃ i ln : Nat, vi = .int .i64 (i : Int) ∧ i ≤ cs.length ∧ vl = .int .u64 (ln : Int) ∧ ln ≤ 4 + (codsBytes (inCodes cs (sw.take i))).length ∧ BufAt wx B b (bs ++ (Lib.leBytes 4 cs.length ++ codsBytes (inCodes cs (sw.take i)))) ∧ WrK B b w wx ∧
      wx.heap[g]? = some (.cells (sw.map (numV .u64) ++ tail).toArray 23 (0, 0)) ∧ B ≤ wx.heap.size) (fun _ vi _ => cs.length - (intOf vi).toNat)
  case atStart => exact ⟨0, 4, rfl, Nat.zero_le _, rfl, by omega, by simpa [inCodes, codsBytes] using hB2, hK2, hg2, by have := hK2.bel.size; omega⟩
  case round =>
    clear hB2 hK2 hg2
    obtain ⟨i, ln, rfl, hin, rfl, hln, hBx, hKx, hgx, hzx⟩ := hrel
    have hMx := hKx.mh HM.out hab hmk hu
    have cax := hMx.cell
    by_cases hlt : i < cs.length
    · obtain ⟨x, hx⟩ : ∃ x, sw[i]? = some x := ⟨_, List.getElem?_eq_getElem (by rw [HSL.out]; exact hlt)⟩
      obtain ⟨c, hcm, rfl, hfd⟩ := HME.out i _ hx
      have htk := inCodes_take hx hfd
      have hxl : (sw.map (numV .u64) ++ tail)[i]? = some (numV .u64 c.code) := by rw [List.getElem?_append_left (by rw [List.length_map, HSL.out]; exact hlt), List.getElem?_map, hx]; rfl
      have hgi := (blk_cell' hgx i).trans (show _ = some (Value.int .u64 (c.code : Int)) by rw [List.getElem?_toArray]; exact hxl)
      have hlk := hMx.map.look (P := Tryz.prog) Tryz.underlying167 Tryz.underlying23 (k := (c.code : Int)) (v := .pointer (some ⟨c.cb, 0, none⟩)) (by rw [find_cod, show (fun t : Cod => decide ((t.code : Int) = (c.code : Int))) = fun t => decide (t.code = c.code) from funext fun s => decide_eq_decide.2 (by omega), hfd]; rfl) false
      simp only [Bool.false_eq_true, if_false] at hlk
      obtain ⟨hu1, hu2, hu3⟩ := hu c hcm
      obtain ⟨hw1, hw2, hw3, hw4⟩ := hw c hcm
      have hle1 := inCodes_le (cs := cs) (ws := sw) (i + 1)
      have hL1 : (codsBytes (inCodes cs (sw.take (i + 1)))).length = (codsBytes (inCodes cs (sw.take i))).length + (12 + (secsBytes (sortedSecs c.secs)).length) := by
        rw [htk, codsBytes_append, List.length_append, ← codBytes_len2]; simp [codsBytes]
      have hSM := CoMarshal_ok B b most _ c wr hs32 hw2 hBx hzx (hMx.row c hcm) hw1 hu1 hu2 hu3 hw4 hw3 (by simp only [List.length_append, le4_len]; omega)
      have HTK := Lib.hid htk
      have HL1 := Lib.hid hL1
      have hln2 : ln + (12 + (secsBytes (sortedSecs c.secs)).length) ≤ 4 + (codsBytes (inCodes cs (sw.take (i + 1)))).length := by omega
      have hln3 : ln + (12 + (secsBytes (sortedSecs c.secs)).length) ≤ 1099511627776 := by omega
      clear htk hL1 hle1 hxl hx hfd hBx hMx
      go_wp2_with fail
      refine hSM.mono ?_
      clear hSM
      rintro e wy ⟨rfl, hBy, hKs⟩
      have hgy := hKs.cells hgx hbg (fun c fz e => by cases e)
      have hKy := hKx.trans hKs
      have hzy : B ≤ wy.heap.size := by have := hKs.bel.size; omega
      generalize (secsBytes (sortedSecs c.secs)).length = sl at *
      have hwr : IntKind.u64.wrap ((ln : Int) + ((12 + sl : Nat) : Int)) = ((ln + (12 + sl) : Nat) : Int) := by rw [IntKind.wrap_u64]; omega
      clear hKx hKs hgx hlk hgi
      go_wp2_with fail
      go_roundw
      case rel => exact ⟨i + 1, ln + (12 + sl), by go_num, by omega, by go_num, hln2, by rw [HTK.out, codsBytes_append]; simpa [List.append_assoc, codsBytes] using hBy, hKy, hgy, hzy⟩
      case measure => simp [intOf]; omega
    · obtain rfl : i = cs.length := by omega
      rw [List.take_of_length_le (Nat.le_of_eq HSL.out), ← HSE.out] at hBx
      have HBX := Lib.hid hBx
      clear hBx
      go_wp2_with fail
      go_ret2
      exact ⟨_, rfl, HBX.out, hKx⟩
end Go.Proofs.YtobdjcnojbnegaaGreatDoor

/- spec.Coded: the entries of one hash function. -/
namespace Go.Proofs.YtobdjcnojbnegaaGreatDoor
open Go.RowKit
set_option linter.unusedVariables false
set_option linter.unusedSimpArgs false
attribute [local go_sem] setCell_drewN alloc_drewN

def hasCode (code : Nat) (x : CidOf × Int) : Bool := decide (x.1.code = code)
/-- The entries of one hash function. -/
def codedOf (l : List (CidOf × Int)) (code : Nat) : List (CidOf × Int) := l.filter (hasCode code)
theorem codedOf_snoc (l : List (CidOf × Int)) (x : CidOf × Int) (code : Nat) : codedOf (l ++ [x]) code = if x.1.code = code then codedOf l code ++ [x] else codedOf l code := by
  by_cases h : x.1.code = code <;> simp [codedOf, hasCode, h]
/-- Entries in a row of the call's own. -/
def EntsOf (w : World) (B : Nat) (v : Value) (l : List (CidOf × Int)) : Prop := w.ownsRow B 40 5 v l.length (entRow l)
theorem EntsOf.rows {w : World} {B : Nat} {v : Value} {l : List (CidOf × Int)} (h : EntsOf w B v l) : ∃ A cap, v = .slice A l.length cap ∧ l.length ≤ cap ∧ RowsAt w A l ∧ (∀ g o, A = some ⟨g, o, none⟩ → B ≤ g ∧ g < w.heap.size) := by
  rcases h.2 with ⟨rfl, h0⟩ | ⟨g, cap, cur, rfl, hge, hg, hle, hcm, hcs, htk⟩
  · have hl : l = [] := by
      exact List.length_eq_zero_iff.1 h0
    subst hl
    exact ⟨none, 0, rfl, Nat.le_refl _, .inl rfl, fun g o e => by cases e⟩
  · refine ⟨some ⟨g, 0, none⟩, cap, rfl, hle, ?_, fun g' o e => by cases e; exact ⟨hge, (Array.getElem?_eq_some_iff.1 hg).1⟩⟩
    have : w.heap[g]? = some (.cells (entRow l ++ cur.toList.drop (l.length * 5)).toArray 40 (0, 0)) := by rw [hg, ← htk, List.take_append_drop]
    exact rows_of_cells this

set_option maxRecDepth 100000 in
set_option maxHeartbeats 3200000 in
theorem Coded_ok (l : List (CidOf × Int)) (A : Option Addr) (cap : Nat) (code : Nat) (w : World) (hR : RowsAt w A l) (hlen : l.length ≤ 1000000) (hcap : l.length ≤ cap) :
    Calls Tryz.prog 89 #[.slice A l.length cap, .int .u64 (code : Int)] w fun e w' => ∃ v, e = .returned v ∧ EntsOf w' w.heap.size v (codedOf l code) ∧ Below w.heap.size w w' := by
  obtain ⟨i0, ti, tz0, tz1, tz2⟩ := info_parts entInfo0
  go_enter Tryz.func89, Tryz.ntmps89
  go_wp2_with fail
  go_loopw [5, 10] (fun v5 vi wr => ∃ k : Nat, k ≤ l.length ∧ vi = .int .i64 (k : Int) ∧ EntsOf wr w.heap.size v5 (codedOf (l.take k) code) ∧ Below w.heap.size w wr) (fun _ vi _ => l.length - (intOf vi).toNat)
  case atStart => exact ⟨0, Nat.zero_le _, rfl, World.ownsRow_nil _ _ _ _, Below.refl _ _⟩
  case round =>
    obtain ⟨k, hk, rfl, hO, hB⟩ := hrel
    by_cases hlt : k < l.length
    · obtain ⟨x, hx⟩ : ∃ x, l[k]? = some x := ⟨_, List.getElem?_eq_getElem hlt⟩
      obtain ⟨g0, o, rfl, hg0, r0, r1, r2, r3, r4⟩ := hR.row hB hx
      have htk := take_snoc' hx
      have hcl : (codedOf (l.take k) code).length ≤ k := by
        have := List.length_filter_le (hasCode code) (l.take k)
        rw [List.length_take] at this
        unfold codedOf; omega
      obtain ⟨cs, hcs⟩ : ∃ cs, cs = codedOf (l.take k) code := ⟨_, rfl⟩
      rw [← hcs] at hO hcl
      have HW : Hid (codedOf (l.take (k + 1)) code = if x.1.code = code then cs ++ [x] else cs) := Lib.hid (by rw [htk, codedOf_snoc, hcs])
      have hg0r : g0 < wr.heap.size := by have := hB.size; omega
      clear hcs htk hx
      have hOb : EntsOf (wr.alloc (.cells #[.int .u64 x.1.ver, .int .u64 x.1.codec, .int .u64 x.1.code, .string (sOf x.1.dig), .int .u64 x.2] 40)) w.heap.size u5 cs := hO.alloc _
      have hbb : Below w.heap.size w (wr.alloc (.cells #[.int .u64 x.1.ver, .int .u64 x.1.codec, .int .u64 x.1.code, .string (sOf x.1.dig), .int .u64 x.2] 40)) := below_box hB _
      by_cases hc : x.1.code = code
      · have HWW : Hid (codedOf (l.take (k + 1)) code = cs ++ [x]) := Lib.hid (by rw [HW.out, if_pos hc])
        subst hc
        clear hO
        go_wp2_with (at_builtin; refine later ?_)
        obtain ⟨W2, hW2⟩ : ∃ W2, W2 = ((wr.alloc (.cells #[.int .u64 x.1.ver, .int .u64 x.1.codec, .int .u64 x.1.code, .string (sOf x.1.dig), .int .u64 x.2] 40)).alloc (.cells #[.int .u64 x.1.ver, .int .u64 x.1.codec, .int .u64 x.1.code, .string (sOf x.1.dig), .int .u64 x.2] 40)) := ⟨_, rfl⟩
        have hO2 : EntsOf W2 w.heap.size u5 cs := by rw [hW2]; exact hOb.alloc _
        have hblk : W2.heap[wr.heap.size + 1]? = some (.cells (EntCells x).toArray 40 (0, 0)) := by
          rw [hW2]
          have := heap_alloc_last (wr.alloc (.cells #[.int .u64 x.1.ver, .int .u64 x.1.codec, .int .u64 x.1.code, .string (sOf x.1.dig), .int .u64 x.2] 40)) (.cells #[.int .u64 x.1.ver, .int .u64 x.1.codec, .int .u64 x.1.code, .string (sOf x.1.dig), .int .u64 x.2] 40)
          simpa [EntCells] using this
        have hnews : ∀ j u, (EntCells x)[j]? = some u → W2.cell? ((⟨wr.heap.size + 1, 0, none⟩ : Addr).add j) = some u := fun j u h => by
          have : W2.cell? ⟨wr.heap.size + 1, j, none⟩ = some u := by rw [blk_cell' hblk, List.getElem?_toArray, h]
          by_cases h0 : j = 0
          · subst h0; simpa [Addr.add] using this
          · simpa [Addr.add, h0] using this
        have hB2 : Below w.heap.size w W2 := by rw [hW2]; exact below_box hbb _
        have hz2 : W2.heap.size = wr.heap.size + 2 := by rw [hW2]; simp
        rw [← hW2]
        clear hOb hW2 hbb
        refine now ?_
        refine wpList_append_own_at _ rfl _ _ 22 rfl w.heap.size 40 i0 _ 5 48 Tryz.underlying22 ti tz0 tz1 tz2 rfl (by decide) _ _ _ rfl hO2 ⟨wr.heap.size + 1, 0, none⟩ 1 1 (EntCells x) rfl rfl hnews (ent_one x) ?c3 ?c4 ?c5 ?_
        case c3 => unfold maxLen; omega
        case c4 => omega
        case c5 => exact hB2.size
        intro v' w3 hown hgrow hnn hloc
        have hO3 : EntsOf w3 w.heap.size v' (cs ++ [x]) := by
          unfold EntsOf
          rw [List.length_append, show entRow (cs ++ [x]) = entRow cs ++ EntCells x by simp [entRow]]
          exact hown
        have hB3 : Below w.heap.size w w3 := hB2.trans ⟨hgrow.os, hgrow.tape, hgrow.output, hgrow.size, fun i hi => hgrow.block i (by have := hB2.size; omega) (fun e => by have := (hO2.lt i e.symm).1; omega)⟩
        clear hown hgrow hnn hloc hnews hblk hO2 hB2
        go_wp2_with fail
        go_roundw
        case rel => exact ⟨k + 1, by omega, by go_num, by rw [HWW.out]; exact hO3, hB3⟩
        case measure => simp [intOf]; omega
      · have HWW : Hid (codedOf (l.take (k + 1)) code = cs) := Lib.hid (by rw [HW.out, if_neg hc])
        have hcb : ((x.1.code : Int) == (code : Int)) = false := by simp; omega
        clear hO
        go_wp2_with fail
        go_roundw
        case rel => exact ⟨k + 1, by omega, by go_num, by rw [HWW.out]; exact hOb, hbb⟩
        case measure => simp [intOf]; omega
    · obtain rfl : k = l.length := by omega
      rw [List.take_length] at hO
      go_wp2_with fail
      go_ret
      exact ⟨_, rfl, hO, hB⟩
end Go.Proofs.YtobdjcnojbnegaaGreatDoor
