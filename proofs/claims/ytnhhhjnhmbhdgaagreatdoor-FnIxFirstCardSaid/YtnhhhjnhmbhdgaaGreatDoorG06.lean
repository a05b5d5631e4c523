import Derived.Test.YtnhhhjnhmbhdgaaGreatDoorG05
import Derived.OwnWalk
import Derived.BigRegion
/- A whole index sorted by digests, written. -/
namespace Go.Proofs.YtnhhhjnhmbhdgaaGreatDoor
open Go.RowKit
set_option linter.unusedVariables false
set_option linter.unusedSimpArgs false
attribute [local go_sem] setCell_drewN alloc_drewN

/-- The parts in the order of these widths. -/
def inOrder (secs : List Sec) (ws : List Nat) : List (Nat × List UInt8) := ws.filterMap fun x => (secs.find? fun s => decide (s.width = x)).map Sec.two
theorem inOrder_len {secs : List Sec} {ws : List Nat} (h : ∀ x ∈ ws, ∃ s, secs.find? (fun s => decide (s.width = x)) = some s) : (inOrder secs ws).length = ws.length := by
  induction ws with
  | nil => rfl
  | cons x l ih =>
    obtain ⟨s, hs⟩ := h x (.head _)
    have := ih (fun y hy => h y (.tail _ hy))
    simp only [inOrder] at this ⊢
    rw [List.filterMap_cons, hs]
    simpa using this
/-- The parts, the least width first. -/
def sortedSecs (secs : List Sec) : List (Nat × List UInt8) := inOrder secs (sortN (secs.map Sec.width))
theorem info_u32 : (Tryz.prog.info? 99).map (fun i => (i.zero, i.size, i.bytes)) = some (some (.int .u32 0), 1, 4) := by kernel_rfl

theorem find_width {secs : List Sec} {s : Sec} (hs : s ∈ secs) (hn : (secs.map Sec.width).Nodup) : secs.find? (fun x => decide (x.width = s.width)) = some s := by
  induction secs with
  | nil => cases hs
  | cons x l ih =>
    have hn' := List.nodup_cons.1 hn
    by_cases hx : x.width = s.width
    · rcases List.mem_cons.1 hs with rfl | h
      · simp
      · exact absurd (List.mem_map.2 ⟨s, h, hx.symm⟩) hn'.1
    · rcases List.mem_cons.1 hs with rfl | h
      · exact absurd rfl hx
      · rw [List.find?_cons]; simp only [hx, decide_false]; exact ih h hn'.2

theorem MwAt.nodup {w : World} {a : Addr} {mb : Nat} {secs : List Sec} (h : MwAt w a mb secs) : (secs.map Sec.width).Nodup := by
  have h1 := h.map.nodup
  rw [List.map_map] at h1
  have h2 : (List.map ((fun x : Nat => (x : Int)) ∘ Sec.width) secs).Nodup := h1
  rw [← List.map_map] at h2
  exact (List.pairwise_map.1 h2).imp (fun h e => h (by rw [e]))

theorem WrK.it {B b : Nat} {w w' : World} (h : WrK B b w w') {r m : Nat} {q : IntKind} {L done : List (Int × Value)} (hI : ItAt w r m q L done) (h1 : m ≠ b) (h2 : r ≠ b) : ItAt w' r m q L done := by
  obtain ⟨es, clock, since, seen, c0, g1, g2, g3⟩ := hI
  exact ⟨es, clock, since, seen, c0, h.cells g1 h1 (fun c fz e => by cases e), h.cells g2 h2 (fun c fz e => by cases e), g3⟩
theorem WrK.im {B b : Nat} {w w' : World} (h : WrK B b w w') {m : Nat} {q : IntKind} {L : List (Int × Value)} (hI : ImAt w m q L) (h1 : m ≠ b) : ImAt w' m q L := by
  obtain ⟨es, clock, g1, g3⟩ := hI
  exact ⟨es, clock, h.cells g1 h1 (fun c fz e => by cases e), g3⟩
/-- An index below the buffer stays. -/
theorem WrK.mw {B b : Nat} {w w' : World} (h : WrK B b w w') {a : Addr} {mb : Nat} {secs : List Sec} (hM : MwAt w a mb secs) (h1 : a.block < B) (h2 : mb < B) (h3 : ∀ s ∈ secs, s.gd < B) : MwAt w' a mb secs :=
  ⟨(h.bel.cell h1).trans hM.cell, hM.map.upd (h.bel.block _ h2), fun s hs => (h.bel.block _ (h3 s hs)).trans (hM.row s hs)⟩

theorem sortN_perm {a b : List Nat} (h : a.Perm b) : sortN a = sortN b := by
  have tr : ∀ a b c : Nat, decide (a ≤ b) = true → decide (b ≤ c) = true → decide (a ≤ c) = true := fun a b c h1 h2 => by simp only [decide_eq_true_eq] at *; omega
  have to : ∀ a b : Nat, (decide (a ≤ b) || decide (b ≤ a)) = true := fun a b => by simp only [Bool.or_eq_true, decide_eq_true_eq]; omega
  refine List.Perm.eq_of_pairwise (le := fun a b => decide (a ≤ b) = true) (fun a b _ _ h1 h2 => ?_) (List.pairwise_mergeSort tr to a) (List.pairwise_mergeSort tr to b) (((List.mergeSort_perm a _).trans h).trans (List.mergeSort_perm b _).symm)
  simp only [decide_eq_true_eq] at h1 h2
  omega
theorem sortN_mem {a : List Nat} {x : Nat} : x ∈ sortN a ↔ x ∈ a := (List.mergeSort_perm a _).mem_iff
theorem sortN_len (a : List Nat) : (sortN a).length = a.length := (List.mergeSort_perm a _).length_eq
theorem sortedSecs_len {secs : List Sec} (hn : (secs.map Sec.width).Nodup) : (sortedSecs secs).length = secs.length := by
  rw [sortedSecs, inOrder_len, sortN_len, List.length_map]
  intro x hx
  obtain ⟨s, hs, rfl⟩ := List.mem_map.1 (sortN_mem.1 hx)
  exact ⟨s, find_width hs hn⟩
theorem WrK.kp {B b : Nat} {S : Nat → Prop} {w x y : World} (h : WrK B b w x) (k : Kp S x y) (hs : ∀ i, S i → w.heap.size ≤ i) (hB : B ≤ w.heap.size) : WrK B b w y := by
  have hb : ∀ i, i < w.heap.size → y.heap[i]? = x.heap[i]? := fun i hi => k.block i (Nat.lt_of_lt_of_le hi h.bel.size) (fun e => by have := hs i e; omega)
  refine ⟨⟨k.os.trans h.bel.os, k.tape.trans h.bel.tape, k.output.trans h.bel.output, Nat.le_trans h.bel.size k.size, fun i hi => (hb i (by omega)).trans (h.bel.block i hi)⟩, fun i o hi h1 h2 => ?_⟩
  rw [hb i (Array.getElem?_eq_some_iff.1 hi).1]
  exact h.oth i o hi h1 h2
theorem own_kp {S : Nat → Prop} {w w' : World} {B : Nat} {e : TypeId} {k : Nat} {v : Value} {n : Nat} {xs : List Value} (h : w.ownsRow B e k v n xs) (hk : Kp S w w') (hs : ∀ g, v.ownBlock = some g → ¬ S g) : w'.ownsRow B e k v n xs := by
  refine ⟨h.1, ?_⟩
  rcases h.2 with h | ⟨g, cap, cur, e1, e2, e3, e4⟩
  · exact .inl h
  · exact .inr ⟨g, cap, cur, e1, e2, (hk.block _ (Array.getElem?_eq_some_iff.1 e3).1 (hs g (by rw [e1]; rfl))).trans e3, e4⟩
theorem kp_grown {w w' : World} {row : Option Nat} (h : w.grownBy w' row) : Kp (fun i => some i = row) w w' := ⟨h.os, h.tape, h.output, h.size, fun k hk hn => h.block k hk hn⟩
theorem own_cells {w : World} {B : Nat} {e : TypeId} {k : Nat} {v : Value} {n : Nat} {xs : List Value} (h : w.ownsRow B e k v n xs) {g : Nat} (hg : v.ownBlock = some g) : B ≤ g ∧ ∃ cur, w.heap[g]? = some (.cells cur e (0, 0)) := by
  rcases h.2 with ⟨rfl, _⟩ | ⟨g', cap, cur, rfl, e2, e3, _⟩
  · cases hg
  · cases hg; exact ⟨e2, cur, e3⟩
theorem inOrder_take {secs : List Sec} {ws : List Nat} {i : Nat} {x : Nat} {s : Sec} (hx : ws[i]? = some x) (hs : secs.find? (fun s => decide (s.width = x)) = some s) : inOrder secs (ws.take (i + 1)) = inOrder secs (ws.take i) ++ [s.two] := by
  have hlt := (List.getElem?_eq_some_iff.1 hx).1
  have he := (List.getElem?_eq_some_iff.1 hx).2
  rw [List.take_succ_eq_append_getElem hlt, he]
  simp [inOrder, hs]
theorem inOrder_le {secs : List Sec} {ws : List Nat} (i : Nat) : (secsBytes (inOrder secs (ws.take i))).length ≤ (secsBytes (inOrder secs ws)).length := by
  have : inOrder secs ws = inOrder secs (ws.take i) ++ inOrder secs (ws.drop i) := by rw [inOrder, inOrder, inOrder, ← List.filterMap_append, List.take_append_drop]
  rw [this, secsBytes_append, List.length_append]; omega
theorem make32 (n : Nat) (hn : n ≤ 1000000) (W : World) : (Instr.makeSlice 316 (.int .i64 0) (.int .i64 (n : Int))).run Tryz.prog W = .ok (.slice (some ⟨W.heap.size, 0, none⟩) 0 n) (W.alloc (.cells (Array.replicate n (Value.int .u32 0)) 99)) := by
  obtain ⟨i0, hi, hz0, hz1, hz2⟩ := info_parts info_u32
  have h := run_make (P := Tryz.prog) W 316 99 i0 (.int .u32 0) Tryz.underlying316 hi hz0 .i64 .i64 0 (n : Int) (by omega) (by omega) (by rw [hz2]; omega) (by omega)
  rw [hz1] at h
  simp only [Int.toNat_natCast, Nat.mul_one, Int.toNat_zero] at h
  rw [h, show (Value.int .u32 0).cells = #[Value.int .u32 0] from rfl, madeCells_one, List.toArray_replicate]

set_option maxRecDepth 100000 in
set_option maxHeartbeats 3200000 in
theorem MwMarshal_ok (B b mk most : Nat) (bs : List UInt8) (a : Addr) (secs : List Sec) (w : World) (hsort : SortsTo 212 .u32 99 most) (hmost : secs.length ≤ most) (h : BufAt w B b bs) (hB : B ≤ w.heap.size) (hM : MwAt w a mk secs)
    (hab : a.block < B) (hmk : mk < B) (hgd : ∀ s ∈ secs, s.gd < B) (hw : ∀ s ∈ secs, s.width < 4294967296) (hlen : secs.length ≤ 1000000) (hlim : bs.length + 4 + (secsBytes (sortedSecs secs)).length ≤ 1099511627776) :
    Calls Tryz.prog 198 #[.pointer (some a), .iface 197 (.pointer (some ⟨b, 0, none⟩))] w fun e w' =>
      e = .returned (.tuple #[.int .u64 ((4 + (secsBytes (sortedSecs secs)).length : Nat) : Int), .nilIface]) ∧ BufAt w' B b (bs ++ mwBytes (sortedSecs secs)) ∧ WrK B b w w' := by
  obtain ⟨i0, hi, hz0, hz1, hz2⟩ := info_parts info_u32
  have hBb : B ≤ b := h.1
  have ca := hM.cell
  have hln := hM.map.len (P := Tryz.prog) Tryz.underlying161 3
  rw [List.length_map] at hln
  have hlw : IntKind.u32.wrap (secs.length : Int) = (secs.length : Int) := by rw [IntKind.wrap_u32]; omega
  go_enter Tryz.func198, Tryz.ntmps198
  go_wp2_with fail
  refine (zzWrite32_ok B b bs secs.length (by omega) w h hB (by omega)).mono ?_
  rintro e w1 ⟨rfl, hB1, hK1⟩
  have hM1 := hK1.mw hM hab hmk hgd
  have hz1' := hK1.bel.size
  have ca1 := hM1.cell
  have hln1 := hM1.map.len (P := Tryz.prog) Tryz.underlying161 3
  rw [List.length_map] at hln1
  have hmk1 := make32 secs.length hlen
  have hal : a.block < w1.heap.size := by omega
  have hBw1 : B ≤ w1.heap.size := by omega
  clear hln ca h
  have hown0 : (w1.alloc (.cells (Array.replicate secs.length (Value.int .u32 0)) 99)).ownsRow w1.heap.size 99 1 (.slice (some ⟨w1.heap.size, 0, none⟩) 0 secs.length) 0 [] :=
    World.ownsRow_made w1 _ secs.length (Nat.le_refl _) (by unfold maxLen; omega) (by simp)
  have hIm1 : ImAt (w1.alloc (.cells (Array.replicate secs.length (Value.int .u32 0)) 99)) mk .u32 (secs.map Sec.pair) := hM1.map.upd (heap_alloc_old _ _ hM1.map.lt)
  go_wp2_with (at_range; refine step_range_im rfl _ 161 rfl Tryz.underlying161 rfl hIm1 ?_; intro w2 hIt2 hb2 hs2)
  have er : (w1.alloc (.cells (Array.replicate secs.length (Value.int .u32 0)) 99)).heap.size = w1.heap.size + 1 := by simp
  have hown2 := own_kp hown0 (Kp.of_below (S := fun _ => False) hb2) (fun _ _ => id)
  have hB2 := (hB1.below (below_boxed w1 _)).below hb2
  have hK2 : WrK B b w w2 := (hK1.trans (WrK.of_below (below_boxed w1 _) hBw1)).trans (WrK.of_below hb2 (by omega))
  have hbl1 := hB1.lt
  clear hb2 hown0 hIm1 hmk1 hln1 hB1 hK1
  generalize (w1.alloc (.cells (Array.replicate secs.length (Value.int .u32 0)) 99)).heap.size = r at *
  have hr1 : w1.heap.size < r := by omega
  have hr2 : r < w2.heap.size := by omega
  clear er hs2
  go_frame
  go_loopw [8] (fun v8 wr => ∃ (done : List (Int × Value)) (ws : List Nat), ItAt wr r mk .u32 (secs.map Sec.pair) done ∧ done.map (·.1) = ws.map (fun x : Nat => (x : Int)) ∧ wr.ownsRow w1.heap.size 99 1 v8 ws.length (ws.map (numV .u32)) ∧ v8 ≠ .slice none 0 0 ∧ BufAt wr B b (bs ++ Lib.leBytes 4 secs.length) ∧ WrK B b w wr ∧ r < wr.heap.size) (fun _ wr => secs.length - (wr.iterSeen r).size)
  case atStart => exact ⟨[], [], hIt2, rfl, hown2, by simp, hB2, hK2, hr2⟩
  case round =>
    clear hIt2 hown2 hB2 hK2
    obtain ⟨done, ws, hIt, hdw, hown, hnn, hBf, hK, hzr⟩ := hrel
    have hseen := hIt.seen
    have HSN := Lib.hid hseen; have HDW := Lib.hid hdw
    clear hseen hdw
    go_wp2_with (at_next; refine step_next_im rfl _ rfl rfl hIt ?_ ?_)
    · intro hperm
      have hwp : ws.Perm (secs.map Sec.width) := by
        have h1 := hperm.map (·.1)
        rw [HDW.out, List.map_map] at h1
        have h2 : (secs.map ((fun p : Int × Value => p.1) ∘ Sec.pair)) = (secs.map Sec.width).map (fun x : Nat => (x : Int)) := by rw [List.map_map]; rfl
        rw [h2] at h1
        exact perm_map_inj (fun a b h => by have h' : (a : Int) = (b : Int) := h; omega) h1
      have hwl : ws.length = secs.length := by have := hwp.length_eq; simpa using this
      obtain ⟨g, cap, cur, rfl, hge, hgc, hgle, hgcm, hgs, htk⟩ : ∃ g cap cur, u8 = .slice (some ⟨g, 0, none⟩) ws.length cap ∧ w1.heap.size ≤ g ∧ wr.heap[g]? = some (.cells cur 99 (0, 0)) ∧ ws.length ≤ cap ∧ cap ≤ maxLen ∧ cur.size = cap * 1 ∧ cur.toList.take (ws.length * 1) = ws.map (numV .u32) := by
        rcases hown.2 with ⟨h, _⟩ | h
        · exact absurd h hnn
        · exact h
      rw [Nat.mul_one] at htk
      have hcur : cur = (ws.map (numV .u32) ++ cur.toList.drop ws.length).toArray := by rw [← htk, List.take_append_drop]
      rw [hcur] at hgc
      generalize cur.toList.drop ws.length = tail at hgc
      have hS := hsort g cap ws tail wr (by omega) hgc
      have HWL := Lib.hid hwl
      clear hcur htk hgs hown hnn hwl
      go_wp2_with fail
      refine hS.mono ?_
      clear hS
      rintro e w5 ⟨rfl, hg5, hK5⟩
      have hbg : b ≠ g := by omega
      have hBf5 : BufAt w5 B b (bs ++ Lib.leBytes 4 secs.length) := hBf.kp hK5 hbg (fun g' cs fz e h => by subst e; rw [hgc] at h; cases h)
      have hK6 : WrK B b w w5 := hK.kp hK5 (fun i hi => by omega) hB
      have hsw : sortN ws = sortN (secs.map Sec.width) := sortN_perm hwp
      have hM5 : MwAt w5 a mk secs := hK6.mw hM hab hmk hgd
      rw [hsw] at hg5
      obtain ⟨sw, hswd⟩ : ∃ sw, sw = sortN (secs.map Sec.width) := ⟨_, rfl⟩
      have hsl : sw.length = secs.length := by rw [hswd, sortN_len, List.length_map]
      have hsec : sortedSecs secs = inOrder secs sw := by rw [hswd]; rfl
      rw [← hswd] at hg5
      have hmem : ∀ (i x : Nat), sw[i]? = some x → ∃ s ∈ secs, s.width = x ∧ secs.find? (fun s => decide (s.width = x)) = some s := by
        intro i x hx
        have h1 : x ∈ sortN (secs.map Sec.width) := by rw [← hswd]; exact List.mem_of_getElem? hx
        obtain ⟨s, hs, e⟩ := List.mem_map.1 (sortN_mem.1 h1)
        exact ⟨s, hs, e, by rw [← e]; exact find_width hs hM.nodup⟩
      have hgz : g < w5.heap.size := (Array.getElem?_eq_some_iff.1 hg5).1
      have hz5 : w1.heap.size < w5.heap.size := by have := hK5.size; omega
      have HSL := Lib.hid hsl; have HSE := Lib.hid hsec; have HME := Lib.hid hmem; have HM := Lib.hid hM
      rw [hsec] at hlim
      clear hswd hsl hsec hmem hM hM1 hIt hBf hK hgc hK5 hwp hperm hsw ca1
      go_wp2_with fail
      go_loopw [6, 49] (fun vl vi wx => ∃ i : Nat, vi = .int .i64 (i : Int) ∧ i ≤ secs.length ∧ vl = .int .u64 ((4 + (secsBytes (inOrder secs (sw.take i))).length : Nat) : Int) ∧ BufAt wx B b (bs ++ (Lib.leBytes 4 secs.length ++ secsBytes (inOrder secs (sw.take i)))) ∧ WrK B b w wx ∧ wx.heap[g]? = some (.cells (sw.map (numV .u32) ++ tail).toArray 99 (0, 0)) ∧ w1.heap.size < wx.heap.size) (fun _ vi _ => secs.length - (intOf vi).toNat)
      case atStart => exact ⟨0, rfl, Nat.zero_le _, rfl, by simpa [inOrder, secsBytes] using hBf5, hK6, hg5, hz5⟩
      case round =>
        clear hBf5 hK6 hg5 hz5 hM5
        obtain ⟨i, rfl, hin, rfl, hBx, hKx, hgx, hzx⟩ := hrel
        have hMx := hKx.mw HM.out hab hmk hgd
        have cax := hMx.cell
        have hle := inOrder_le (secs := secs) (ws := sw) i
        by_cases hlt : i < secs.length
        · obtain ⟨x, hx⟩ : ∃ x, sw[i]? = some x := ⟨_, List.getElem?_eq_getElem (by rw [HSL.out]; exact hlt)⟩
          obtain ⟨s, hsm, rfl, hfd⟩ := HME.out i _ hx
          have htk := inOrder_take hx hfd
          have hxl : (sw.map (numV .u32) ++ tail)[i]? = some (numV .u32 s.width) := by rw [List.getElem?_append_left (by rw [List.length_map, HSL.out]; exact hlt), List.getElem?_map, hx]; rfl
          have hgi := (blk_cell' hgx i).trans (show _ = some (Value.int .u32 (s.width : Int)) by rw [List.getElem?_toArray]; exact hxl)
          have hiw : i < ws.length := by rw [HWL.out]; exact hlt
          have hlk := hMx.map.look (P := Tryz.prog) Tryz.underlying161 Tryz.underlying99 (k := (s.width : Int)) (v := s.val) (by rw [find_sec, show (fun t : Sec => decide ((t.width : Int) = (s.width : Int))) = fun t => decide (t.width = s.width) from funext fun s => decide_eq_decide.2 (by omega), hfd]; rfl) false
          simp only [Bool.false_eq_true, if_false] at hlk
          have hrow := hMx.row s hsm
          have hgs := hgd s hsm
          have hsw32 := hw s hsm
          have hTK : Hid (inOrder secs (sw.take (i + 1)) = inOrder secs (sw.take i) ++ [s.two]) := Lib.hid htk
          obtain ⟨ln, hln⟩ : ∃ ln, ln = s.data.length / s.width := ⟨_, rfl⟩
          have hsv : s.val = .agg #[.int .u32 (s.width : Int), .int .u64 (ln : Int), .slice (some ⟨s.gd, 0, none⟩) s.data.length s.data.length] := by unfold Sec.val; rw [hln]
          rw [hsv] at hlk
          have hle1 := inOrder_le (secs := secs) (ws := sw) (i + 1)
          have hL1 : (secsBytes (inOrder secs (sw.take (i + 1)))).length = (secsBytes (inOrder secs (sw.take i))).length + (12 + s.data.length) := by
            rw [htk, secsBytes_append, List.length_append]; simp [secsBytes, secBytes_len, Sec.two]
          have hbel : Below wr.heap.size wr (wr.alloc (.cells #[.int .u32 (s.width : Int), .int .u64 (ln : Int), .slice (some ⟨s.gd, 0, none⟩) s.data.length s.data.length] 275)) := below_boxed wr _
          have hSM := SwMarshal_ok B b wr.heap.size s.gd s.width ln _ s.data _ (hBx.below hbel) (by simp; omega) (heap_alloc_last wr _) ((hbel.block _ (Array.getElem?_eq_some_iff.1 hrow).1).trans hrow) (by have := hBx.lt; omega) hgs hsw32 (by simp only [List.length_append, le4_len]; omega)
          have HL1 : Hid (4 + (secsBytes (inOrder secs (sw.take (i + 1)))).length = 4 + (secsBytes (inOrder secs (sw.take i))).length + (12 + s.data.length)) := Lib.hid (by omega)
          have hlb : (secsBytes (inOrder secs (sw.take i))).length + s.data.length ≤ 1099511627776 := by omega
          have hzx2 : B ≤ wr.heap.size := by omega
          have hKy := hKx.trans (WrK.of_below (b := b) hbel hzx2)
          have hgw : g ≠ b := fun e => hbg e.symm
          have hgy : (wr.alloc (.cells #[.int .u32 (s.width : Int), .int .u64 (ln : Int), .slice (some ⟨s.gd, 0, none⟩) s.data.length s.data.length] 275)).heap[g]? = some (.cells (sw.map (numV .u32) ++ tail).toArray 99 (0, 0)) := (hbel.block _ (Array.getElem?_eq_some_iff.1 hgx).1).trans hgx
          clear htk hfd hx hxl hsv hln hL1 hle hle1 hBx hrow hgx hKx hbel hMx
          generalize hWx : (secsBytes (inOrder secs (sw.take i))).length = Li at *
          have HWx := Lib.hid hWx; clear hWx
          go_wp2_with fail
          refine hSM.mono ?_
          clear hSM
          rintro e wy ⟨rfl, hBy, hKs⟩
          have hgy2 := hKs.cells hgy hgw (fun c fz e => by cases e)
          have hKy2 := hKy.trans hKs
          have hzy : w1.heap.size < wy.heap.size := by have := hKs.bel.size; simp at this; omega
          clear hgy hKy hKs hlk hgi
          go_wp2_with fail
          go_roundw
          case rel =>
            refine ⟨i + 1, by go_num, by omega, ?_, ?_, hKy2, hgy2, hzy⟩
            · rw [HL1.out]; go_num
            · rw [hTK.out, secsBytes_append]; simpa [List.append_assoc, secsBytes, Sec.two] using hBy
          case measure => simp [intOf]; omega
        · obtain rfl : i = secs.length := by omega
          rw [List.take_of_length_le (Nat.le_of_eq HSL.out), ← HSE.out] at hBx
          have HBX := Lib.hid hBx
          have hTK : Hid (inOrder secs (sw.take secs.length) = sortedSecs secs) := Lib.hid (by rw [List.take_of_length_le (Nat.le_of_eq HSL.out), HSE.out])
          have hnl : ws.length ≤ secs.length := by rw [HWL.out]; exact Nat.le_refl _
          clear hBx hle
          go_wp2_with fail
          go_ret2
          refine ⟨?_, ?_, hKx⟩
          · rw [hTK.out]; rfl
          · have hb := HBX.out
            rw [mwBytes, show (sortedSecs secs).length = secs.length from sortedSecs_len HM.out.nodup]
            exact hb
    · intro k v w3 s hsm hsp hdl hIt3 hK3 hs3 hen
      obtain ⟨rfl, rfl⟩ : (s.width : Int) = k ∧ s.val = v := by simpa [Sec.pair] using hsp
      have hrit : ∃ o, wr.heap[r]? = some o ∧ ∀ c t fz, o ≠ .cells c t fz := by
        obtain ⟨es, clock, since, seen, c0, g1, g2, g3⟩ := hIt
        exact ⟨_, g2, fun c t fz e => by cases e⟩
      have hor : u8.ownBlock ≠ some r := by
        intro e
        obtain ⟨_, cur, hc⟩ := own_cells hown e
        obtain ⟨o, ho, hno⟩ := hrit
        rw [ho] at hc; cases hc; exact hno _ _ _ rfl
      have hom : u8.ownBlock ≠ some mk := by
        intro e
        obtain ⟨hle, cur, hc⟩ := own_cells hown e
        omega
      have hown3 := own_kp hown hK3 (fun g e h => by subst h; exact hor e)
      have hBf3 : BufAt w3 B b (bs ++ Lib.leBytes 4 secs.length) := hBf.kp hK3 (by omega) (fun g cs fz e h => by
        subst e
        obtain ⟨o, ho, hno⟩ := hrit
        rw [ho] at h; cases h; exact hno _ _ _ rfl)
      have hwl : ws.length < secs.length := by
        have := congrArg List.length HDW.out
        simp only [List.length_map] at this
        omega
      have HK3 : Hid (WrK B b w w3) := Lib.hid (hK.kp hK3 (fun i hi => by omega) hB)
      have hsz3 : r < w3.heap.size := by omega
      have hsw := hw s hsm
      clear hIt hown hBf hsp hrit hs3 hK
      go_wp2_with (at_builtin; refine wpList_append_own _ rfl _ _ 316 rfl w1.heap.size 99 i0 (.int .u32 0) 1 4 Tryz.underlying316 hi hz0 hz1 hz2 rfl (by decide) _ _ _ rfl (hown3.alloc _) ⟨w3.heap.size, 0, none⟩ 1 1 [.int .u32 (s.width : Int)] rfl rfl (one_cell _ _ _) (ints_oneCell .u32 [(s.width : Int)]) ?c3 ?c4 ?c5 ?_)
      case c3 => unfold maxLen; omega
      case c4 => omega
      case c5 => simp; omega
      intro v' w4 hown4 hgrow hn4
      have hobk : ∀ g, u8.ownBlock = some g → w1.heap.size ≤ g ∧ ∃ cur, w3.heap[g]? = some (.cells cur 99 (0, 0)) := fun g e => own_cells hown3 e
      have hkg := kp_grown hgrow
      have hz4 : w3.heap.size < w4.heap.size := by have := hgrow.size; simp at this; omega
      have hIt4 : ItAt w4 r mk .u32 (secs.map Sec.pair) (done ++ [((s.width : Int), s.val)]) := (hIt3.kp (kp_alloc w3 _) id id).kp hkg (fun e => hom e.symm) (fun e => hor e.symm)
      have hBf4 : BufAt w4 B b (bs ++ Lib.leBytes 4 secs.length) := (hBf3.below (below_boxed w3 _)).kp hkg (fun e => by have := (hobk b e.symm).1; omega) (fun g cs fz e h => by
        obtain ⟨_, cur, hc⟩ := hobk g e.symm
        rw [heap_alloc_old _ _ (Array.getElem?_eq_some_iff.1 hc).1, hc] at h
        cases h)
      have hK4 : WrK B b w w4 := (HK3.out.kp (kp_alloc w3 _) (fun _ h => h.elim) hB).kp hkg (fun i e => by have := (hobk i e.symm).1; omega) hB
      have hd4 : (done ++ [((s.width : Int), s.val)]).map (·.1) = (ws ++ [s.width]).map (fun x : Nat => (x : Int)) := by rw [List.map_append, List.map_append, HDW.out]; rfl
      have ho4 : w4.ownsRow w1.heap.size 99 1 v' (ws ++ [s.width]).length ((ws ++ [s.width]).map (numV .u32)) := by
        rw [List.length_append, List.map_append]; exact hown4
      have hm4 : secs.length - (w4.iterSeen r).size < secs.length - (wr.iterSeen r).size := by
        rw [hIt4.seen, HSN.out]; simp only [List.length_append, List.length_cons, List.length_nil]; omega
      have HM4 := Lib.hid hm4; have HD4 := Lib.hid hd4
      clear hobk hkg hgrow hIt3 hBf3 hown3 hown4 hd4 hm4 hen
      go_wp2_with fail
      go_roundw
      case rel => exact ⟨_, _, hIt4, HD4.out, ho4, by simpa using hn4, hBf4, hK4, by omega⟩
      case measure => exact HM4.out
end Go.Proofs.YtnhhhjnhmbhdgaaGreatDoor

/- An index sorted by digests, loaded with one record. -/
namespace Go.Proofs.YtnhhhjnhmbhdgaaGreatDoor
open Go.RowKit
open Go.ChangeMaps (setBlock)
set_option linter.unusedVariables false
set_option linter.unusedSimpArgs false
attribute [local go_sem] setCell_drewN alloc_drewN

theorem info_rec : (Tryz.prog.info? 282).map (fun i => (i.zero, i.size, i.bytes)) = some (some (.agg #[.slice none 0 0, .int .u64 0]), 2, 32) := by kernel_rfl
theorem idxsZero (W : World) : (zeroValue 279).run Tryz.prog W = .ok (.slice none 0 0) W := by kernel_rfl
theorem method_LenR (v : Value) (w : World) : (method 454 284 v "Len").run Tryz.prog w = .ok (278, v) w := by kernel_rfl

set_option maxRecDepth 100000 in
/-- sort.Sort of at most one record. -/
theorem sortRecs_one (g cap : Nat) (w : World) :
    Calls Tryz.prog 193 #[.iface 284 (.slice (some ⟨g, 0, none⟩) 1 cap)] w fun e w' => e = .returned (.tuple #[]) ∧ w = w' := by
  have hme := method_LenR
  have hL : ∀ W : World, Calls Tryz.prog 278 #[.slice (some ⟨g, 0, none⟩) 1 cap] W fun e w' => e = .returned (.int .i64 1) ∧ W = w' := by
    intro W
    go_enter Tryz.func278, Tryz.ntmps278
    go_wp2_with fail
    go_ret
    exact ⟨rfl, rfl⟩
  go_enter Tryz.func193, Tryz.ntmps193
  go_wp2_with fail
  refine (hL _).mono ?_
  rintro e w' ⟨rfl, rfl⟩
  go_wp2_with fail
  exact bodyPost_ret (v := .tuple #[]) (by simp [results, Tryz.results193, go_sem]) rfl ⟨rfl, rfl⟩

theorem makeRecs0 (W : World) : (Instr.makeSlice 279 (.int .i64 0) (.int .i64 0)).run Tryz.prog W = .ok (.slice (some ⟨W.heap.size, 0, none⟩) 0 0) (W.alloc (.cells #[] 282)) := by
  obtain ⟨i0, hi, hz0, hz1, hz2⟩ := info_parts info_rec
  have h := run_make (P := Tryz.prog) W 279 282 i0 _ Tryz.underlying279 hi hz0 .i64 .i64 0 0 (by omega) (by omega) (by omega) (by omega)
  rw [hz1] at h
  simp only [Int.toNat_zero, Nat.zero_mul] at h
  rw [h, show madeCells (Value.agg #[.slice none 0 0, .int .u64 0]).cells 0 = #[] from Array.eq_empty_of_size_eq_zero (size_madeCells _ _)]

set_option maxRecDepth 100000 in
set_option maxHeartbeats 6400000 in
theorem MwLoad_one (a : Addr) (mk gr cap off : Nat) (c : CidOf) (hc : c.Ok) (hd : 0 < c.dig.length) (hoff : off < 18446744073709551616) (w : World) (hM : MwAt w a mk []) (ham : a.block ≠ mk) (r0 : w.cell? ⟨gr, 0, none⟩ = some (.string c.str)) (r1 : w.cell? ⟨gr, 1, none⟩ = some (.int .u64 (off : Int))) :
    Calls Tryz.prog 182 #[.pointer (some a), .slice (some ⟨gr, 0, none⟩) 1 cap] w fun e w' =>
      e = .returned .nilIface ∧ (∃ gd, w.heap.size ≤ gd ∧ MwAt w' a mk [⟨c.dig.length + 8, c.dig ++ Lib.leBytes 8 off, gd⟩]) ∧ Kp (fun i => i = mk) w w' := by
  have hmm := @run_makeMap Tryz.prog
  obtain ⟨i0, ti, tz0, tz1, tz2⟩ := info_parts info_rec
  have hdl := hc.dig
  have hgr : gr < w.heap.size := World.block_lt_of_cell? w _ r0
  have hal := World.block_lt_of_cell? w _ hM.cell
  have hmkl := hM.map.lt
  go_enter Tryz.func182, Tryz.ntmps182
  go_wp2_with fail
  refine wp_loop_rounds 2 ?_
  rw [rounds_succ]
  go_wp2_with fail
  refine (Hash_ok c hc _).mono ?_
  rintro e w1 ⟨A1, c1, rfl, hc1, hA1, hB1, hF1, hb1⟩
  obtain ⟨hcc, hff⟩ := bcell hb1
  have hz1' : w.heap.size + 1 < w1.heap.size := by have := hb1.size; simp at this; omega
  go_wp2_with fail
  refine (Decode_ok c.code hc.code c.dig (by omega) A1 _ c1 _ hA1 rfl hc1).mono ?_
  rintro e w2 ⟨g, A2, c2, rfl, hc2, hS2, hb2, hg2, hblk⟩
  clear hcc hff
  obtain ⟨hcc, hff⟩ := bcell (below_next hb1 hb2)
  have hbw : Below w.heap.size w w2 := by (repeat (first | (with_reducible exact Below.refl _ _) | (with_reducible exact below_boxed _ _) | (with_reducible refine below_box ?_ _) | (with_reducible refine below_drew1 ?_) | (with_reducible refine below_drewn ?_ _) | (with_reducible refine below_bytes ?_ _ _) | (with_reducible refine below_next ?_ (by assumption)) | (with_reducible refine below_set ?_ (by first | (simp; done) | (simp; omega) | omega) _)))
  have hmi : ((w.alloc (.map #[] 0)).alloc (.cells #[.string c.str, .int .u64 (off : Int)] 144)).heap[w.heap.size]? = some (.map #[] 0) := by rw [heap_alloc_old _ _ (by simp), heap_alloc_last]
  have hb12 := below_next hb1 hb2
  have hIm2 : ImAt w2 w.heap.size .i64 [] := (ImAt.made w .i64).upd ((hb12.block _ (by simp; omega)).trans (hmi.trans (heap_alloc_new w _).symm))
  have krec : w2.cell? ⟨w.heap.size + 1, 1, none⟩ = some (.int .u64 (off : Int)) := by
    have h := hb12.cell (p := ⟨w.heap.size + 1, 1, none⟩) (by simp)
    rw [h]
    have h2 := heap_alloc_last (w.alloc (.map #[] 0)) (.cells #[.string c.str, .int .u64 (off : Int)] 144)
    have h3 : (w.alloc (.map #[] 0)).heap.size = w.heap.size + 1 := by simp
    rw [h3] at h2
    exact blk_cell' h2 1
  have k3 : w2.cell? ⟨g, 3, none⟩ = some (.slice A2 c.dig.length c2) := by simp [World.cell?, hblk]
  have hA2 : BytesAt w2 A2 c.dig := hS2.bytes _ (hA1.below hb2)
  have hF2 : From w.heap.size A2 := hS2.frm _ (hF1.mono (by simp; omega))
  have hB2 : ByteBlk w2 5 A2 := hS2.blk _ _ (hB1.below hb2)
  have hM2 : MwAt w2 a mk [] := hM.kp (S := fun _ => False) (Kp.of_below hbw) id id (fun _ _ => id)
  have hgl2 : g < w2.heap.size := (Array.getElem?_eq_some_iff.1 hblk).1
  have hz2 : w.heap.size + 1 < w2.heap.size := by have := hb2.size; omega
  obtain ⟨ga, oa, rfl⟩ : ∃ ga oa, A2 = some ⟨ga, oa, none⟩ := by
    rcases hA2 with h | ⟨ga, oa, e, _⟩
    · rw [h] at hd; cases hd
    · exact ⟨ga, oa, e⟩
  have hgaw : w.heap.size ≤ ga := hF2 _ rfl
  have hgal : ga < w2.heap.size := by
    obtain ⟨cs, fr, hh⟩ := hB2 _ rfl
    exact (Array.getElem?_eq_some_iff.1 hh).1
  have hgami : ga ≠ w.heap.size := by
    obtain ⟨cs, fr, hh⟩ := hB2 _ rfl
    intro e
    rw [show (⟨ga, oa, none⟩ : Addr).block = ga from rfl, e] at hh
    obtain ⟨es, cl, hm, _⟩ := hIm2
    rw [hm] at hh; cases hh
  have hlk2 := hIm2.look_no (P := Tryz.prog) Tryz.underlying278 Tryz.underlying3 (k := (c.dig.length : Int)) rfl true _ idxsZero
  simp only [if_true] at hlk2
  have hmr := makeRecs0
  clear hcc hff hb1 hb2 hb12 hmi hblk hA1 hB1 hF1 hS2 hB2 hM
  have hown2 : (w2.alloc (.cells #[] 282)).ownsRow w2.heap.size 282 2 (.slice (some ⟨w2.heap.size, 0, none⟩) 0 0) 0 [] := World.ownsRow_made w2 #[] 0 (Nat.le_refl _) (Nat.zero_le _) rfl
  have HB := Lib.hid hbw; have HA2 := Lib.hid hA2; have HM2 := Lib.hid hM2
  clear hbw hA2 hM2
  go_wp2_with (at_mapUpdate; refine step_put_im rfl _ _ _ 278 rfl Tryz.underlying278 Tryz.underlying3 rfl (hIm2.upd (heap_alloc_old w2 _ hIm2.lt)) (k := (c.dig.length : Int)) (val := .slice (some ⟨w2.heap.size, 0, none⟩) 0 0) rfl rfl ?_; intro w3 hIm3 hK3 hs3; refine later ?_)
  have hs3' : w3.heap.size = w2.heap.size + 1 := by simpa using hs3
  have hlk3 := hIm3.look (P := Tryz.prog) Tryz.underlying278 Tryz.underlying3 (k := (c.dig.length : Int)) (v := .slice (some ⟨w2.heap.size, 0, none⟩) 0 0) (by simp [iput, ilook]) false
  have krec3 := (hK3.cell (p := ⟨w.heap.size + 1, 1, none⟩) (by simp; omega) (by simp)).trans ((World.cell?_of_block (w := w2) (heap_alloc_old w2 _ hz2)).trans krec)
  have hown3 := own_kp hown2 hK3 (fun g' e h => by cases e; exact absurd h (by show ¬ w2.heap.size = w.heap.size; omega))
  have HB3 : Hid (Kp (fun i => i = w.heap.size) w2 w3) := Lib.hid ((kp_alloc w2 _).mono (S' := fun i => i = w.heap.size) (fun _ h => h.elim) |>.trans hK3 (fun i h => .inl h))
  simp only [Bool.false_eq_true, if_false] at hlk3
  have hz3 : w2.heap.size < w3.heap.size := by omega
  clear hs3 hs3' hlk2 hIm2 hown2 krec k3 hK3 hmr hmm
  refine now ?_
  go_wp2_with (at_builtin; refine wpList_append_own _ rfl _ _ 279 rfl w2.heap.size 282 i0 (.agg #[.slice none 0 0, .int .u64 0]) 2 32 Tryz.underlying279 ti tz0 tz1 tz2 rfl (by decide) _ _ _ rfl (hown3.alloc _) ⟨w3.heap.size, 0, none⟩ 1 1 [.slice (some ⟨ga, oa, none⟩) c.dig.length c2, .int .u64 (off : Int)] rfl rfl ?c1 ?c2 ?c3 ?c4 ?c5 ?_)
  case c1 =>
    intro j u hj
    match j, hj with
    | 0, hj => simp at hj; subst hj; simp [Addr.add]
    | 1, hj => simp at hj; subst hj; simp [Addr.add]
  case c2 =>
    intro u hu
    simp only [List.mem_cons, List.not_mem_nil, or_false] at hu
    rcases hu with rfl | rfl <;> rfl
  case c3 => unfold maxLen; omega
  case c4 => omega
  case c5 => simp; omega
  intro v4 w4 hown4 hgrow hn4
  refine later ?_
  have hk34 : Kp (fun i => i = w2.heap.size) w3 w4 := (kp_alloc w3 _).mono (S' := fun i => i = w2.heap.size) (fun _ h => h.elim) |>.trans (kp_grown hgrow) (fun i h => .inl (by simpa [Value.ownBlock] using h))
  have hIm4 := hIm3.kp hk34 (by omega)
  obtain ⟨g4, cap4, cur4, rfl, hge4, hg4, hle4, hcm4, hcs4, htk4⟩ : ∃ g cap cur, v4 = .slice (some ⟨g, 0, none⟩) 1 cap ∧ w2.heap.size ≤ g ∧ w4.heap[g]? = some (.cells cur 282 (0, 0)) ∧ 1 ≤ cap ∧ cap ≤ maxLen ∧ cur.size = cap * 2 ∧ cur.toList.take (1 * 2) = [.slice (some ⟨ga, oa, none⟩) c.dig.length c2, .int .u64 (off : Int)] := by
    rcases hown4.2 with ⟨_, h⟩ | h
    · cases h
    · exact h
  have hz4 : w3.heap.size < w4.heap.size := by have := hgrow.size; simp at this; omega
  clear hIm3 hlk3 hown3 krec3 hown4 hgrow hn4
  refine now ?_
  go_wp2_with (at_mapUpdate; refine step_put_im rfl _ _ _ 278 rfl Tryz.underlying278 Tryz.underlying3 rfl hIm4 (k := (c.dig.length : Int)) (val := .slice (some ⟨g4, 0, none⟩) 1 cap4) rfl rfl ?_; intro w5 hIm5 hK5 hs5; refine later ?_)
  have hIm5' : ImAt w5 w.heap.size .i64 [((c.dig.length : Int), .slice (some ⟨g4, 0, none⟩) 1 cap4)] := by simpa [iput] using hIm5
  have hg5 : w5.heap[g4]? = some (.cells cur4 282 (0, 0)) := (hK5.block g4 (Array.getElem?_eq_some_iff.1 hg4).1 (by omega)).trans hg4
  have HB5 : Hid (Kp (fun i => i = w.heap.size ∨ i = w2.heap.size) w2 w5) := Lib.hid ((HB3.out.mono (S' := fun i => i = w.heap.size ∨ i = w2.heap.size) (fun i h => .inl (.inl h))).trans (S' := fun i => i = w.heap.size ∨ i = w2.heap.size) ((hk34.mono (S' := fun i => i = w.heap.size ∨ i = w2.heap.size) (fun i h => .inl (.inr h))).trans hK5 (fun i h => .inl (.inl h))) (fun i h => .inl h))
  have hz5 : w5.heap.size = w4.heap.size := hs5
  have hzz : w2.heap.size < w5.heap.size := by omega
  clear hIm4 hIm5 hK5 hs5 hk34 hg4 HB3 hz5 hz4 hz3
  refine now ?_
  go_wp2_with fail
  rw [rounds_succ]
  go_wp2_with (at_range; refine step_range_im rfl _ 278 rfl Tryz.underlying278 rfl hIm5' ?_; intro w6 hIt6 hb6 hs6; refine later ?_)
  have hg6 : w6.heap[g4]? = some (.cells cur4 282 (0, 0)) := (hb6.block g4 (Array.getElem?_eq_some_iff.1 hg5).1).trans hg5
  have HB6 : Hid (Kp (fun i => i = w.heap.size ∨ i = w2.heap.size) w2 w6) := Lib.hid (HB5.out.trans (S' := fun _ => False) (Kp.of_below hb6) (fun _ h => h.elim))
  have hr6 : w2.heap.size < w5.heap.size := hzz
  generalize w5.heap.size = r at *
  have hrw : r < w6.heap.size := by omega
  clear hIm5' hg5 hb6 HB5 hzz hs6
  refine now ?_
  go_wp2_with fail
  refine wp_loop_rounds 2 ?_
  rw [rounds_succ]
  go_wp2_with (at_next; refine step_next_im rfl _ rfl rfl hIt6 (fun hp => later ?_) (fun p w7 hpm hdl hIt7 hK7 hs7 hen => later ?_))
  · exact absurd hp.length_eq (by simp)
  · obtain rfl : p = ((c.dig.length : Int), .slice (some ⟨g4, 0, none⟩) 1 cap4) := by simpa using hpm
    have hg4r : g4 ≠ r := by
      intro e
      obtain ⟨es, clock, since, seen, c0, h1, h2, h3⟩ := hIt6
      rw [e, h2] at hg6; cases hg6
    have hg7 : w7.heap[g4]? = some (.cells cur4 282 (0, 0)) := (hK7.block g4 (Array.getElem?_eq_some_iff.1 hg6).1 hg4r).trans hg6
    have HB7 : Hid (Kp (fun i => i = w.heap.size ∨ i = w2.heap.size) w2 w7) := Lib.hid (HB6.out.trans hK7 (fun i h => .inr (by omega)))
    have hrw7 : r < w7.heap.size := by omega
    have hk0 : w7.cell? ⟨g4, 0, none⟩ = some (.slice (some ⟨ga, oa, none⟩) c.dig.length c2) := by
      rw [blk_cell' hg7 0]
      have : cur4.toList[0]? = some (.slice (some ⟨ga, oa, none⟩) c.dig.length c2) := by
        have h := congrArg (fun l => l[0]?) htk4
        simpa using h
      simpa using this
    have hk1 : w7.cell? ⟨g4, 1, none⟩ = some (.int .u64 (off : Int)) := by
      rw [blk_cell' hg7 1]
      have : cur4.toList[1]? = some (.int .u64 (off : Int)) := by
        have h := congrArg (fun l => l[1]?) htk4
        simpa using h
      simpa using this
    have hIt7' : ItAt w7 r w.heap.size .i64 [((c.dig.length : Int), .slice (some ⟨g4, 0, none⟩) 1 cap4)] [((c.dig.length : Int), .slice (some ⟨g4, 0, none⟩) 1 cap4)] := hIt7
    clear hg6 hIt6 hpm hdl hIt7 hK7 hs7 hrw HB6 hg7 htk4
    refine now ?_
    go_wp2_with fail
    refine (sortRecs_one g4 cap4 w7).mono ?_
    rintro e w8 ⟨rfl, rfl⟩
    have hmk7 := fun W => make8 (c.dig.length + 8) ((c.dig.length : Int) + 8) (by omega) (by omega) W
    have hA7 : BytesAt w7 (some ⟨ga, oa, none⟩) c.dig := HA2.out.kp HB7.out (fun g' o e => by cases e; omega)
    have hga7 : ga < w7.heap.size := by have := HB7.out.size; omega
    have hw7 : w2.heap.size ≤ w7.heap.size := HB7.out.size
    have hs7 : ∀ W : World, (Instr.slice 49 (.slice (some ⟨w7.heap.size, 0, none⟩) (c.dig.length + 8) (c.dig.length + 8)) (some (.int .i64 0)) (some (.int .i64 ((c.dig.length : Int) + 8))) none).run Tryz.prog W = .ok (.slice (some ⟨w7.heap.size, 0, none⟩) (c.dig.length + 8) (c.dig.length + 8)) W := by
      intro W
      have := cut_lh w7.heap.size 0 (c.dig.length + 8) (c.dig.length + 8) (by omega) (by omega) (by omega) 0 ((c.dig.length : Int) + 8) rfl (by omega) W
      simpa using this
    have hgz : (w7.alloc (.cells (zeros8 (c.dig.length + 8)).toArray 5)).heap[w7.heap.size]? = some (.cells (zeros8 (c.dig.length + 8)).toArray 5 (0, 0)) := heap_alloc_last w7 _
    have hb79 : Below w7.heap.size w7 ((w7.alloc (.cells (zeros8 (c.dig.length + 8)).toArray 5)).alloc (.cells #[.slice (some ⟨ga, oa, none⟩) c.dig.length c2, .int .u64 (off : Int)] 282)).drew := by (repeat (first | (with_reducible exact Below.refl _ _) | (with_reducible exact below_boxed _ _) | (with_reducible refine below_box ?_ _) | (with_reducible refine below_drew1 ?_) | (with_reducible refine below_drewn ?_ _) | (with_reducible refine below_bytes ?_ _ _) | (with_reducible refine below_next ?_ (by assumption)) | (with_reducible refine below_set ?_ (by first | (simp; done) | (simp; omega) | omega) _)))
    have hRW := recWrite_ok w7.heap.size 0 (c.dig.length + 8) (c.dig.length + 8) ga oa c2 off c.dig (zeros8 (c.dig.length + 8)) ((w7.alloc (.cells (zeros8 (c.dig.length + 8)).toArray 5)).alloc (.cells #[.slice (some ⟨ga, oa, none⟩) c.dig.length c2, .int .u64 (off : Int)] 282)).drew ((heap_alloc_old _ _ (by simp)).trans hgz) (hA7.below hb79) (by omega) rfl (Nat.le_refl _) (by simp [zeros8_length]) hoff hd hc2 (by simp [zeros8_length]; omega)
    have hg47 : g4 < w7.heap.size := World.block_lt_of_cell? w7 _ hk0
    clear hgz hA7
    go_wp2_with fail
    refine wp_loop_rounds 2 ?_
    rw [rounds_succ]
    go_wp2_with fail
    refine wp_region_noPanic ?_
    have hw0 : IntKind.i64.wrap 0 = 0 := by decide
    have hw1 : IntKind.i64.wrap 1 = 1 := by decide
    have hw8 : IntKind.i64.wrap ((c.dig.length : Int) + 8) = (c.dig.length : Int) + 8 := by rw [IntKind.wrap_i64]; omega
    go_region_with (go_at_call 194; refine hRW.mono ?_; rintro e w10 ⟨rfl, hg10, hK10⟩)
    refine NoPanic.normal ?_
    have hsp : splice (zeros8 (c.dig.length + 8)) 0 (bcells (c.dig ++ Lib.leBytes 8 off)) = bcells (c.dig ++ Lib.leBytes 8 off) := by
      have hl : (bcells (c.dig ++ Lib.leBytes 8 off)).length = c.dig.length + 8 := by rw [bcells_len, List.length_append, le8_len]
      unfold splice
      rw [hl, List.take_zero, List.nil_append, List.drop_of_length_le (by rw [zeros8_length]; omega), List.append_nil]
    rw [hsp] at hg10
    have HSP := Lib.hid hsp
    have hk10 : Kp (fun i => i = w.heap.size ∨ w2.heap.size ≤ i) w2 w10 := by
      have h1 : Kp (fun i => i = w.heap.size ∨ w2.heap.size ≤ i) w2 w7 := HB7.out.mono (fun i h => .inl (h.elim .inl (fun e => .inr (by omega))))
      have h2 : Kp (fun _ => False) w7 ((w7.alloc (.cells (zeros8 (c.dig.length + 8)).toArray 5)).alloc (.cells #[.slice (some ⟨ga, oa, none⟩) c.dig.length c2, .int .u64 (off : Int)] 282)).drew := Kp.of_below hb79
      exact (h1.trans h2 (fun _ h => h.elim)).trans hK10 (fun i h => .inl (.inr (by omega)))
    have hkw : Kp (fun _ => False) w w10 := (Kp.of_below (S := fun _ => False) HB.out).trans hk10 (fun i h => .inr (by rcases h with h | h <;> omega))
    have hM10 : MwAt w10 a mk [] := HM2.out.kp hk10 (by omega) (by omega) (by simp)
    have ca10 := hM10.cell
    have hIt10 : ItAt w10 r w.heap.size .i64 [((c.dig.length : Int), .slice (some ⟨g4, 0, none⟩) 1 cap4)] [((c.dig.length : Int), .slice (some ⟨g4, 0, none⟩) 1 cap4)] :=
      (hIt7'.kp (Kp.of_below (S := fun _ => False) hb79) id id).kp hK10 (by omega) (by omega)
    have hmk10 := hM10.map.lt
    have hal10 := World.block_lt_of_cell? w10 _ ca10
    have hz10 : w7.heap.size < w10.heap.size := by have := hK10.size; simp at this; omega
    have hu32 : IntKind.u32.wrap ((c.dig.length : Int) + 8) = (c.dig.length : Int) + 8 := by rw [IntKind.wrap_u32]; omega
    have hu32' : IntKind.u32.wrap (c.dig.length : Int) = (c.dig.length : Int) := by rw [IntKind.wrap_u32]; omega
    obtain ⟨om, hmu, him⟩ := (hM10.map.upd (w' := (w10.alloc (.cells #[.int .u32 ((c.dig.length : Int) + 8), .int .u64 1, .slice (some ⟨w7.heap.size, 0, none⟩) (c.dig.length + 8) (c.dig.length + 8)] 275)).drew) (heap_alloc_old w10 _ hmk10)).put (P := Tryz.prog) Tryz.underlying161 Tryz.underlying99 ((c.dig.length : Int) + 8) (.agg #[.int .u32 ((c.dig.length : Int) + 8), .int .u64 1, .slice (some ⟨w7.heap.size, 0, none⟩) (c.dig.length + 8) (c.dig.length + 8)])
    have hmu1 := hmu _ rfl
    have HIM := Lib.hid (him _ rfl)
    have hblkX := heap_alloc_last w10 (.cells #[.int .u32 ((c.dig.length : Int) + 8), .int .u64 1, .slice (some ⟨w7.heap.size, 0, none⟩) (c.dig.length + 8) (c.dig.length + 8)] 275)
    clear hsp hmu him hK10 hRW hb79 hmk7 hs7 hw8 hIt7' hk0 hk1 hk10 hM10
    go_wp2_with fail
    rw [rounds_succ]
    go_wp2_with fail
    go_region
    have hkX : Kp (fun i => i = mk) w10 (setBlock (w10.alloc (.cells #[.int .u32 ((c.dig.length : Int) + 8), .int .u64 1, .slice (some ⟨w7.heap.size, 0, none⟩) (c.dig.length + 8) (c.dig.length + 8)] 275)).drew mk om) :=
      ((Kp.of_below (S := fun _ => False) (below_drew1 (below_boxed w10 _))).mono (S' := fun i => i = mk) (fun _ h => h.elim)).trans (kp_setBlk (w := (w10.alloc _).drew) om) (fun i h => .inl h)
    have hItF := hIt10.kp hkX (by omega) (by omega)
    have hgF := (hkX.block w7.heap.size hz10 (by omega)).trans hg10
    have caF := (hkX.cell (World.block_lt_of_cell? w10 _ ca10) ham).trans ca10
    have hkF : Kp (fun i => i = mk) w (setBlock (w10.alloc (.cells #[.int .u32 ((c.dig.length : Int) + 8), .int .u64 1, .slice (some ⟨w7.heap.size, 0, none⟩) (c.dig.length + 8) (c.dig.length + 8)] 275)).drew mk om) := (hkw.mono (S' := fun i => i = mk) (fun _ h => h.elim)).trans hkX (fun i h => .inl h)
    generalize setBlock (w10.alloc (.cells #[.int .u32 ((c.dig.length : Int) + 8), .int .u64 1, .slice (some ⟨w7.heap.size, 0, none⟩) (c.dig.length + 8) (c.dig.length + 8)] 275)).drew mk om = WF at *
    clear hkX hmu1 hblkX ca10 hg10 hIt10 hkw hmk10 hal10 hz10 hu32 hu32'
    go_wp2_with fail
    rw [rounds_succ]
    go_wp2_with (at_next; refine step_next_im rfl _ rfl rfl hItF (fun hp => later ?_) (fun p w11 hpm hdl hIt11 hK11 hs11 hen => later ?_))
    · refine now ?_
      go_wp2_with fail
      go_ret
      refine ⟨rfl, ⟨w7.heap.size, by have := HB.out.size; omega, ⟨caF, ?_, ?_⟩⟩, hkF⟩
      · have hi := HIM.out
        have hdv : (c.dig ++ Lib.leBytes 8 off).length = c.dig.length + 8 := by rw [List.length_append, le8_len]
        have hp : Sec.pair ⟨c.dig.length + 8, c.dig ++ Lib.leBytes 8 off, w7.heap.size⟩ = ((c.dig.length : Int) + 8, .agg #[.int .u32 ((c.dig.length : Int) + 8), .int .u64 1, .slice (some ⟨w7.heap.size, 0, none⟩) (c.dig.length + 8) (c.dig.length + 8)]) := by
          simp only [Sec.pair, Sec.val, hdv, Nat.div_self (show 0 < c.dig.length + 8 by omega)]
          rfl
        rw [List.map_cons, List.map_nil, hp]
        exact hi
      · intro s hs
        rw [List.mem_singleton] at hs
        subst hs
        exact hgF
    · exact absurd hdl (by simp)
end Go.Proofs.YtnhhhjnhmbhdgaaGreatDoor
