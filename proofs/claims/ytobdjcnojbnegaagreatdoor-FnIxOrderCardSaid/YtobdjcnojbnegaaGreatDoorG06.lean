import Derived.Test.YtobdjcnojbnegaaGreatDoorG05
import Derived.OwnWalk
import Derived.Maps.AppendAt
import Derived.Laws.ShiftsVarLaws
import Derived.Test.YtobdjcnojbnegaaGreatDoorG00
import Derived.Test.YtobdjcnojbnegaaGreatDoorShelf
import Derived.Sort.OwnSortedInts
import Derived.Lib.OthersKept
/- A whole index sorted by digests, written. -/
namespace Go.Proofs.YtobdjcnojbnegaaGreatDoor
open Go.RowKit
set_option linter.unusedVariables false
set_option linter.unusedSimpArgs false
attribute [local go_sem] setCell_drewN alloc_drewN

/-- The parts in the order of these widths. -/
def inOrder (secs : List Sec) (ws : List Nat) : List (Nat × List UInt8) := ws.filterMap fun x => (secs.find? fun s => decide (s.width = x)).map Sec.two
theorem inOrder_len {secs : List Sec} {ws : List Nat} (h : ∀ x ∈ ws, ∃ s, secs.find? (fun s => decide (s.width = x)) = some s) : (inOrder secs ws).length = ws.length := by
  induction ws with
  | nil => rfl
  | cons x l ih =>
    obtain ⟨s, hs⟩ := h x (.head _)
    have := ih (fun y hy => h y (.tail _ hy))
    simp only [inOrder] at this ⊢
    rw [List.filterMap_cons, hs]
    simpa using this
/-- The parts, the least width first. -/
def sortedSecs (secs : List Sec) : List (Nat × List UInt8) := inOrder secs (sortN (secs.map Sec.width))
theorem info_u32 : (Tryz.prog.info? 138).map (fun i => (i.zero, i.size, i.bytes)) = some (some (.int .u32 0), 1, 4) := by kernel_rfl

theorem find_width {secs : List Sec} {s : Sec} (hs : s ∈ secs) (hn : (secs.map Sec.width).Nodup) : secs.find? (fun x => decide (x.width = s.width)) = some s := by
  induction secs with
  | nil => cases hs
  | cons x l ih =>
    have hn' := List.nodup_cons.1 hn
    by_cases hx : x.width = s.width
    · rcases List.mem_cons.1 hs with rfl | h
      · simp
      · exact absurd (List.mem_map.2 ⟨s, h, hx.symm⟩) hn'.1
    · rcases List.mem_cons.1 hs with rfl | h
      · exact absurd rfl hx
      · rw [List.find?_cons]; simp only [hx, decide_false]; exact ih h hn'.2

theorem MwAt.nodup {w : World} {a : Addr} {mb : Nat} {secs : List Sec} (h : MwAt w a mb secs) : (secs.map Sec.width).Nodup := by
  have h1 := h.map.nodup
  rw [List.map_map] at h1
  have h2 : (List.map ((fun x : Nat => (x : Int)) ∘ Sec.width) secs).Nodup := h1
  rw [← List.map_map] at h2
  exact (List.pairwise_map.1 h2).imp (fun h e => h (by rw [e]))

theorem WrK.it {B b : Nat} {w w' : World} (h : WrK B b w w') {r m : Nat} {q : IntKind} {L done : List (Int × Value)} (hI : ItAt w r m q L done) (h1 : m ≠ b) (h2 : r ≠ b) : ItAt w' r m q L done := by
  obtain ⟨es, clock, since, seen, c0, g1, g2, g3⟩ := hI
  exact ⟨es, clock, since, seen, c0, h.cells g1 h1 (fun c fz e => by cases e), h.cells g2 h2 (fun c fz e => by cases e), g3⟩
theorem WrK.im {B b : Nat} {w w' : World} (h : WrK B b w w') {m : Nat} {q : IntKind} {L : List (Int × Value)} (hI : ImAt w m q L) (h1 : m ≠ b) : ImAt w' m q L := by
  obtain ⟨es, clock, g1, g3⟩ := hI
  exact ⟨es, clock, h.cells g1 h1 (fun c fz e => by cases e), g3⟩
/-- An index below the buffer stays. -/
theorem WrK.mw {B b : Nat} {w w' : World} (h : WrK B b w w') {a : Addr} {mb : Nat} {secs : List Sec} (hM : MwAt w a mb secs) (h1 : a.block < B) (h2 : mb < B) (h3 : ∀ s ∈ secs, s.gd < B) : MwAt w' a mb secs :=
  ⟨(h.bel.cell h1).trans hM.cell, hM.map.upd (h.bel.block _ h2), fun s hs => (h.bel.block _ (h3 s hs)).trans (hM.row s hs)⟩

theorem sortN_perm {a b : List Nat} (h : a.Perm b) : sortN a = sortN b := by
  have tr : ∀ a b c : Nat, decide (a ≤ b) = true → decide (b ≤ c) = true → decide (a ≤ c) = true := fun a b c h1 h2 => by simp only [decide_eq_true_eq] at *; omega
  have to : ∀ a b : Nat, (decide (a ≤ b) || decide (b ≤ a)) = true := fun a b => by simp only [Bool.or_eq_true, decide_eq_true_eq]; omega
  refine List.Perm.eq_of_pairwise (le := fun a b => decide (a ≤ b) = true) (fun a b _ _ h1 h2 => ?_) (List.pairwise_mergeSort tr to a) (List.pairwise_mergeSort tr to b) (((List.mergeSort_perm a _).trans h).trans (List.mergeSort_perm b _).symm)
  simp only [decide_eq_true_eq] at h1 h2
  omega
theorem sortN_mem {a : List Nat} {x : Nat} : x ∈ sortN a ↔ x ∈ a := (List.mergeSort_perm a _).mem_iff
theorem sortN_len (a : List Nat) : (sortN a).length = a.length := (List.mergeSort_perm a _).length_eq
theorem sortedSecs_len {secs : List Sec} (hn : (secs.map Sec.width).Nodup) : (sortedSecs secs).length = secs.length := by
  rw [sortedSecs, inOrder_len, sortN_len, List.length_map]
  intro x hx
  obtain ⟨s, hs, rfl⟩ := List.mem_map.1 (sortN_mem.1 hx)
  exact ⟨s, find_width hs hn⟩
theorem WrK.kp {B b : Nat} {S : Nat → Prop} {w x y : World} (h : WrK B b w x) (k : Kp S x y) (hs : ∀ i, S i → w.heap.size ≤ i) (hB : B ≤ w.heap.size) : WrK B b w y := by
  have hb : ∀ i, i < w.heap.size → y.heap[i]? = x.heap[i]? := fun i hi => k.block i (Nat.lt_of_lt_of_le hi h.bel.size) (fun e => by have := hs i e; omega)
  refine ⟨⟨k.os.trans h.bel.os, k.tape.trans h.bel.tape, k.output.trans h.bel.output, Nat.le_trans h.bel.size k.size, fun i hi => (hb i (by omega)).trans (h.bel.block i hi)⟩, fun i o hi h1 h2 => ?_⟩
  rw [hb i (Array.getElem?_eq_some_iff.1 hi).1]
  exact h.oth i o hi h1 h2
theorem own_kp {S : Nat → Prop} {w w' : World} {B : Nat} {e : TypeId} {k : Nat} {v : Value} {n : Nat} {xs : List Value} (h : w.ownsRow B e k v n xs) (hk : Kp S w w') (hs : ∀ g, v.ownBlock = some g → ¬ S g) : w'.ownsRow B e k v n xs := by
  refine ⟨h.1, ?_⟩
  rcases h.2 with h | ⟨g, cap, cur, e1, e2, e3, e4⟩
  · exact .inl h
  · exact .inr ⟨g, cap, cur, e1, e2, (hk.block _ (Array.getElem?_eq_some_iff.1 e3).1 (hs g (by rw [e1]; rfl))).trans e3, e4⟩
theorem kp_grown {w w' : World} {row : Option Nat} (h : w.grownBy w' row) : Kp (fun i => some i = row) w w' := ⟨h.os, h.tape, h.output, h.size, fun k hk hn => h.block k hk hn⟩
theorem own_cells {w : World} {B : Nat} {e : TypeId} {k : Nat} {v : Value} {n : Nat} {xs : List Value} (h : w.ownsRow B e k v n xs) {g : Nat} (hg : v.ownBlock = some g) : B ≤ g ∧ ∃ cur, w.heap[g]? = some (.cells cur e (0, 0)) := by
  rcases h.2 with ⟨rfl, _⟩ | ⟨g', cap, cur, rfl, e2, e3, _⟩
  · cases hg
  · cases hg; exact ⟨e2, cur, e3⟩
theorem inOrder_take {secs : List Sec} {ws : List Nat} {i : Nat} {x : Nat} {s : Sec} (hx : ws[i]? = some x) (hs : secs.find? (fun s => decide (s.width = x)) = some s) : inOrder secs (ws.take (i + 1)) = inOrder secs (ws.take i) ++ [s.two] := by
  have hlt := (List.getElem?_eq_some_iff.1 hx).1
  have he := (List.getElem?_eq_some_iff.1 hx).2
  rw [List.take_succ_eq_append_getElem hlt, he]
  simp [inOrder, hs]
theorem inOrder_le {secs : List Sec} {ws : List Nat} (i : Nat) : (secsBytes (inOrder secs (ws.take i))).length ≤ (secsBytes (inOrder secs ws)).length := by
  have : inOrder secs ws = inOrder secs (ws.take i) ++ inOrder secs (ws.drop i) := by rw [inOrder, inOrder, inOrder, ← List.filterMap_append, List.take_append_drop]
  rw [this, secsBytes_append, List.length_append]; omega
theorem make32 (n : Nat) (hn : n ≤ 1000000) (W : World) : (Instr.makeSlice 334 (.int .i64 0) (.int .i64 (n : Int))).run Tryz.prog W = .ok (.slice (some ⟨W.heap.size, 0, none⟩) 0 n) (W.alloc (.cells (Array.replicate n (Value.int .u32 0)) 138)) := by
  obtain ⟨i0, hi, hz0, hz1, hz2⟩ := info_parts info_u32
  have h := run_make (P := Tryz.prog) W 334 138 i0 (.int .u32 0) Tryz.underlying334 hi hz0 .i64 .i64 0 (n : Int) (by omega) (by omega) (by rw [hz2]; omega) (by omega)
  rw [hz1] at h
  simp only [Int.toNat_natCast, Nat.mul_one, Int.toNat_zero] at h
  rw [h, show (Value.int .u32 0).cells = #[Value.int .u32 0] from rfl, madeCells_one, List.toArray_replicate]

set_option maxRecDepth 100000 in
set_option maxHeartbeats 3200000 in
theorem MwMarshal_ok (B b mk most : Nat) (bs : List UInt8) (a : Addr) (secs : List Sec) (w : World) (hsort : SortsTo 227 .u32 138 most) (hmost : secs.length ≤ most) (h : BufAt w B b bs) (hB : B ≤ w.heap.size) (hM : MwAt w a mk secs)
    (hab : a.block < B) (hmk : mk < B) (hgd : ∀ s ∈ secs, s.gd < B) (hw : ∀ s ∈ secs, s.width < 4294967296) (hlen : secs.length ≤ 1000000) (hlim : bs.length + 4 + (secsBytes (sortedSecs secs)).length ≤ 1099511627776) :
    Calls Tryz.prog 213 #[.pointer (some a), .iface 78 (.pointer (some ⟨b, 0, none⟩))] w fun e w' =>
      e = .returned (.tuple #[.int .u64 ((4 + (secsBytes (sortedSecs secs)).length : Nat) : Int), .nilIface]) ∧ BufAt w' B b (bs ++ mwBytes (sortedSecs secs)) ∧ WrK B b w w' := by
  obtain ⟨i0, hi, hz0, hz1, hz2⟩ := info_parts info_u32
  have hBb : B ≤ b := h.1
  have ca := hM.cell
  have hln := hM.map.len (P := Tryz.prog) Tryz.underlying164 3
  rw [List.length_map] at hln
  have hlw : IntKind.u32.wrap (secs.length : Int) = (secs.length : Int) := by rw [IntKind.wrap_u32]; omega
  go_enter Tryz.func213, Tryz.ntmps213
  go_wp2_with fail
  refine (zzWrite32_ok B b bs secs.length (by omega) w h hB (by omega)).mono ?_
  rintro e w1 ⟨rfl, hB1, hK1⟩
  have hM1 := hK1.mw hM hab hmk hgd
  have hz1' := hK1.bel.size
  have ca1 := hM1.cell
  have hln1 := hM1.map.len (P := Tryz.prog) Tryz.underlying164 3
  rw [List.length_map] at hln1
  have hmk1 := make32 secs.length hlen
  have hal : a.block < w1.heap.size := by omega
  have hBw1 : B ≤ w1.heap.size := by omega
  clear hln ca h
  have hown0 : (w1.alloc (.cells (Array.replicate secs.length (Value.int .u32 0)) 138)).ownsRow w1.heap.size 138 1 (.slice (some ⟨w1.heap.size, 0, none⟩) 0 secs.length) 0 [] :=
    World.ownsRow_made w1 _ secs.length (Nat.le_refl _) (by unfold maxLen; omega) (by simp)
  have hIm1 : ImAt (w1.alloc (.cells (Array.replicate secs.length (Value.int .u32 0)) 138)) mk .u32 (secs.map Sec.pair) := hM1.map.upd (heap_alloc_old _ _ hM1.map.lt)
  go_wp2_with (at_range; refine step_range_im rfl _ 164 rfl Tryz.underlying164 rfl hIm1 ?_; intro w2 hIt2 hb2 hs2)
  have er : (w1.alloc (.cells (Array.replicate secs.length (Value.int .u32 0)) 138)).heap.size = w1.heap.size + 1 := by simp
  have hown2 := own_kp hown0 (Kp.of_below (S := fun _ => False) hb2) (fun _ _ => id)
  have hB2 := (hB1.below (below_boxed w1 _)).below hb2
  have hK2 : WrK B b w w2 := (hK1.trans (WrK.of_below (below_boxed w1 _) hBw1)).trans (WrK.of_below hb2 (by omega))
  have hbl1 := hB1.lt
  clear hb2 hown0 hIm1 hmk1 hln1 hB1 hK1
  generalize (w1.alloc (.cells (Array.replicate secs.length (Value.int .u32 0)) 138)).heap.size = r at *
  have hr1 : w1.heap.size < r := by omega
  have hr2 : r < w2.heap.size := by omega
  clear er hs2
  go_frame
  go_loopw [8] (fun v8 wr => ∃ (done : List (Int × Value)) (ws : List Nat), ItAt wr r mk .u32 (secs.map Sec.pair) done ∧ done.map (·.1) = ws.map (fun x : Nat => (x : Int)) ∧ wr.ownsRow w1.heap.size 138 1 v8 ws.length (ws.map (numV .u32)) ∧ v8 ≠ .slice none 0 0 ∧ BufAt wr B b (bs ++ Lib.leBytes 4 secs.length) ∧ WrK B b w wr ∧ r < wr.heap.size) (fun _ wr => secs.length - (wr.iterSeen r).size)
  case atStart => exact ⟨[], [], hIt2, rfl, hown2, by simp, hB2, hK2, hr2⟩
  case round =>
    clear hIt2 hown2 hB2 hK2
    obtain ⟨done, ws, hIt, hdw, hown, hnn, hBf, hK, hzr⟩ := hrel
    have hseen := hIt.seen
    have HSN := Lib.hid hseen; have HDW := Lib.hid hdw
    clear hseen hdw
    go_wp2_with (at_next; refine step_next_im rfl _ rfl rfl hIt ?_ ?_)
    · intro hperm
      have hwp : ws.Perm (secs.map Sec.width) := by
        have h1 := hperm.map (·.1)
        rw [HDW.out, List.map_map] at h1
        have h2 : (secs.map ((fun p : Int × Value => p.1) ∘ Sec.pair)) = (secs.map Sec.width).map (fun x : Nat => (x : Int)) := by rw [List.map_map]; rfl
        rw [h2] at h1
        exact perm_map_inj (fun a b h => by have h' : (a : Int) = (b : Int) := h; omega) h1
      have hwl : ws.length = secs.length := by have := hwp.length_eq; simpa using this
      obtain ⟨g, cap, cur, rfl, hge, hgc, hgle, hgcm, hgs, htk⟩ : ∃ g cap cur, u8 = .slice (some ⟨g, 0, none⟩) ws.length cap ∧ w1.heap.size ≤ g ∧ wr.heap[g]? = some (.cells cur 138 (0, 0)) ∧ ws.length ≤ cap ∧ cap ≤ maxLen ∧ cur.size = cap * 1 ∧ cur.toList.take (ws.length * 1) = ws.map (numV .u32) := by
        rcases hown.2 with ⟨h, _⟩ | h
        · exact absurd h hnn
        · exact h
      rw [Nat.mul_one] at htk
      have hcur : cur = (ws.map (numV .u32) ++ cur.toList.drop ws.length).toArray := by rw [← htk, List.take_append_drop]
      rw [hcur] at hgc
      generalize cur.toList.drop ws.length = tail at hgc
      have hS := hsort g cap ws tail wr (by omega) hgc
      have HWL := Lib.hid hwl
      clear hcur htk hgs hown hnn hwl
      go_wp2_with fail
      refine hS.mono ?_
      clear hS
      rintro e w5 ⟨rfl, hg5, hK5⟩
      have hbg : b ≠ g := by omega
      have hBf5 : BufAt w5 B b (bs ++ Lib.leBytes 4 secs.length) := hBf.kp hK5 hbg (fun g' cs fz e h => by subst e; rw [hgc] at h; cases h)
      have hK6 : WrK B b w w5 := hK.kp hK5 (fun i hi => by omega) hB
      have hsw : sortN ws = sortN (secs.map Sec.width) := sortN_perm hwp
      have hM5 : MwAt w5 a mk secs := hK6.mw hM hab hmk hgd
      rw [hsw] at hg5
      obtain ⟨sw, hswd⟩ : ∃ sw, sw = sortN (secs.map Sec.width) := ⟨_, rfl⟩
      have hsl : sw.length = secs.length := by rw [hswd, sortN_len, List.length_map]
      have hsec : sortedSecs secs = inOrder secs sw := by rw [hswd]; rfl
      rw [← hswd] at hg5
      have hmem : ∀ (i x : Nat), sw[i]? = some x → ∃ s ∈ secs, s.width = x ∧ secs.find? (fun s => decide (s.width = x)) = some s := by
        intro i x hx
        have h1 : x ∈ sortN (secs.map Sec.width) := by rw [← hswd]; exact List.mem_of_getElem? hx
        obtain ⟨s, hs, e⟩ := List.mem_map.1 (sortN_mem.1 h1)
        exact ⟨s, hs, e, by rw [← e]; exact find_width hs hM.nodup⟩
      have hgz : g < w5.heap.size := (Array.getElem?_eq_some_iff.1 hg5).1
      have hz5 : w1.heap.size < w5.heap.size := by have := hK5.size; omega
      have HSL := Lib.hid hsl; have HSE := Lib.hid hsec; have HME := Lib.hid hmem; have HM := Lib.hid hM
      rw [hsec] at hlim
      clear hswd hsl hsec hmem hM hM1 hIt hBf hK hgc hK5 hwp hperm hsw ca1
      go_wp2_with fail
      go_loopw [6, 49] (fun vl vi wx => ∃ i : Nat, vi = .int .i64 (i : Int) ∧ i ≤ secs.length ∧ vl = .int .u64 ((4 + (secsBytes (inOrder secs (sw.take i))).length : Nat) : Int) ∧ BufAt wx B b (bs ++ (Lib.leBytes 4 secs.length ++ secsBytes (inOrder secs (sw.take i)))) ∧ WrK B b w wx ∧ wx.heap[g]? = some (.cells (sw.map (numV .u32) ++ tail).toArray 138 (0, 0)) ∧ w1.heap.size < wx.heap.size) (fun _ vi _ => secs.length - (intOf vi).toNat)
      case atStart => exact ⟨0, rfl, Nat.zero_le _, rfl, by simpa [inOrder, secsBytes] using hBf5, hK6, hg5, hz5⟩
      case round =>
        clear hBf5 hK6 hg5 hz5 hM5
        obtain ⟨i, rfl, hin, rfl, hBx, hKx, hgx, hzx⟩ := hrel
        have hMx := hKx.mw HM.out hab hmk hgd
        have cax := hMx.cell
        have hle := inOrder_le (secs := secs) (ws := sw) i
        by_cases hlt : i < secs.length
        · obtain ⟨x, hx⟩ : ∃ x, sw[i]? = some x := ⟨_, List.getElem?_eq_getElem (by rw [HSL.out]; exact hlt)⟩
          obtain ⟨s, hsm, rfl, hfd⟩ := HME.out i _ hx
          have htk := inOrder_take hx hfd
          have hxl : (sw.map (numV .u32) ++ tail)[i]? = some (numV .u32 s.width) := by rw [List.getElem?_append_left (by rw [List.length_map, HSL.out]; exact hlt), List.getElem?_map, hx]; rfl
          have hgi := (blk_cell' hgx i).trans (show _ = some (Value.int .u32 (s.width : Int)) by rw [List.getElem?_toArray]; exact hxl)
          have hiw : i < ws.length := by rw [HWL.out]; exact hlt
          have hlk := hMx.map.look (P := Tryz.prog) Tryz.underlying164 Tryz.underlying138 (k := (s.width : Int)) (v := s.val) (by rw [find_sec, show (fun t : Sec => decide ((t.width : Int) = (s.width : Int))) = fun t => decide (t.width = s.width) from funext fun s => decide_eq_decide.2 (by omega), hfd]; rfl) false
          simp only [Bool.false_eq_true, if_false] at hlk
          have hrow := hMx.row s hsm
          have hgs := hgd s hsm
          have hsw32 := hw s hsm
          have hTK : Hid (inOrder secs (sw.take (i + 1)) = inOrder secs (sw.take i) ++ [s.two]) := Lib.hid htk
          obtain ⟨ln, hln⟩ : ∃ ln, ln = s.data.length / s.width := ⟨_, rfl⟩
          have hsv : s.val = .agg #[.int .u32 (s.width : Int), .int .u64 (ln : Int), .slice (some ⟨s.gd, 0, none⟩) s.data.length s.data.length] := by unfold Sec.val; rw [hln]
          rw [hsv] at hlk
          have hle1 := inOrder_le (secs := secs) (ws := sw) (i + 1)
          have hL1 : (secsBytes (inOrder secs (sw.take (i + 1)))).length = (secsBytes (inOrder secs (sw.take i))).length + (12 + s.data.length) := by
            rw [htk, secsBytes_append, List.length_append]; simp [secsBytes, secBytes_len, Sec.two]
          have hbel : Below wr.heap.size wr (wr.alloc (.cells #[.int .u32 (s.width : Int), .int .u64 (ln : Int), .slice (some ⟨s.gd, 0, none⟩) s.data.length s.data.length] 295)) := below_boxed wr _
          have hSM := SwMarshal_ok B b wr.heap.size s.gd s.width ln _ s.data _ (hBx.below hbel) (by simp; omega) (heap_alloc_last wr _) ((hbel.block _ (Array.getElem?_eq_some_iff.1 hrow).1).trans hrow) (by have := hBx.lt; omega) hgs hsw32 (by simp only [List.length_append, le4_len]; omega)
          have HL1 : Hid (4 + (secsBytes (inOrder secs (sw.take (i + 1)))).length = 4 + (secsBytes (inOrder secs (sw.take i))).length + (12 + s.data.length)) := Lib.hid (by omega)
          have hlb : (secsBytes (inOrder secs (sw.take i))).length + s.data.length ≤ 1099511627776 := by omega
          have hzx2 : B ≤ wr.heap.size := by omega
          have hKy := hKx.trans (WrK.of_below (b := b) hbel hzx2)
          have hgw : g ≠ b := fun e => hbg e.symm
          have hgy : (wr.alloc (.cells #[.int .u32 (s.width : Int), .int .u64 (ln : Int), .slice (some ⟨s.gd, 0, none⟩) s.data.length s.data.length] 295)).heap[g]? = some (.cells (sw.map (numV .u32) ++ tail).toArray 138 (0, 0)) := (hbel.block _ (Array.getElem?_eq_some_iff.1 hgx).1).trans hgx
          clear htk hfd hx hxl hsv hln hL1 hle hle1 hBx hrow hgx hKx hbel hMx
          generalize hWx : (secsBytes (inOrder secs (sw.take i))).length = Li at *
          have HWx := Lib.hid hWx; clear hWx
          go_wp2_with fail
          refine hSM.mono ?_
          clear hSM
          rintro e wy ⟨rfl, hBy, hKs⟩
          have hgy2 := hKs.cells hgy hgw (fun c fz e => by cases e)
          have hKy2 := hKy.trans hKs
          have hzy : w1.heap.size < wy.heap.size := by have := hKs.bel.size; simp at this; omega
          clear hgy hKy hKs hlk hgi
          go_wp2_with fail
          go_roundw
          case rel =>
            refine ⟨i + 1, by go_num, by omega, ?_, ?_, hKy2, hgy2, hzy⟩
            · rw [HL1.out]; go_num
            · rw [hTK.out, secsBytes_append]; simpa [List.append_assoc, secsBytes, Sec.two] using hBy
          case measure => simp [intOf]; omega
        · obtain rfl : i = secs.length := by omega
          rw [List.take_of_length_le (Nat.le_of_eq HSL.out), ← HSE.out] at hBx
          have HBX := Lib.hid hBx
          have hTK : Hid (inOrder secs (sw.take secs.length) = sortedSecs secs) := Lib.hid (by rw [List.take_of_length_le (Nat.le_of_eq HSL.out), HSE.out])
          have hnl : ws.length ≤ secs.length := by rw [HWL.out]; exact Nat.le_refl _
          clear hBx hle
          go_wp2_with fail
          go_ret2
          refine ⟨?_, ?_, hKx⟩
          · rw [hTK.out]; rfl
          · have hb := HBX.out
            rw [mwBytes, show (sortedSecs secs).length = secs.length from sortedSecs_len HM.out.nodup]
            exact hb
    · intro k v w3 s hsm hsp hdl hIt3 hK3 hs3 hen
      obtain ⟨rfl, rfl⟩ : (s.width : Int) = k ∧ s.val = v := by simpa [Sec.pair] using hsp
      have hrit : ∃ o, wr.heap[r]? = some o ∧ ∀ c t fz, o ≠ .cells c t fz := by
        obtain ⟨es, clock, since, seen, c0, g1, g2, g3⟩ := hIt
        exact ⟨_, g2, fun c t fz e => by cases e⟩
      have hor : u8.ownBlock ≠ some r := by
        intro e
        obtain ⟨_, cur, hc⟩ := own_cells hown e
        obtain ⟨o, ho, hno⟩ := hrit
        rw [ho] at hc; cases hc; exact hno _ _ _ rfl
      have hom : u8.ownBlock ≠ some mk := by
        intro e
        obtain ⟨hle, cur, hc⟩ := own_cells hown e
        omega
      have hown3 := own_kp hown hK3 (fun g e h => by subst h; exact hor e)
      have hBf3 : BufAt w3 B b (bs ++ Lib.leBytes 4 secs.length) := hBf.kp hK3 (by omega) (fun g cs fz e h => by
        subst e
        obtain ⟨o, ho, hno⟩ := hrit
        rw [ho] at h; cases h; exact hno _ _ _ rfl)
      have hwl : ws.length < secs.length := by
        have := congrArg List.length HDW.out
        simp only [List.length_map] at this
        omega
      have HK3 : Hid (WrK B b w w3) := Lib.hid (hK.kp hK3 (fun i hi => by omega) hB)
      have hsz3 : r < w3.heap.size := by omega
      have hsw := hw s hsm
      clear hIt hown hBf hsp hrit hs3 hK
      go_wp2_with (at_builtin; refine wpList_append_own _ rfl _ _ 334 rfl w1.heap.size 138 i0 (.int .u32 0) 1 4 Tryz.underlying334 hi hz0 hz1 hz2 rfl (by decide) _ _ _ rfl (hown3.alloc _) ⟨w3.heap.size, 0, none⟩ 1 1 [.int .u32 (s.width : Int)] rfl rfl (one_cell _ _ _) (ints_oneCell .u32 [(s.width : Int)]) ?c3 ?c4 ?c5 ?_)
      case c3 => unfold maxLen; omega
      case c4 => omega
      case c5 => simp; omega
      intro v' w4 hown4 hgrow hn4
      have hobk : ∀ g, u8.ownBlock = some g → w1.heap.size ≤ g ∧ ∃ cur, w3.heap[g]? = some (.cells cur 138 (0, 0)) := fun g e => own_cells hown3 e
      have hkg := kp_grown hgrow
      have hz4 : w3.heap.size < w4.heap.size := by have := hgrow.size; simp at this; omega
      have hIt4 : ItAt w4 r mk .u32 (secs.map Sec.pair) (done ++ [((s.width : Int), s.val)]) := (hIt3.kp (kp_alloc w3 _) id id).kp hkg (fun e => hom e.symm) (fun e => hor e.symm)
      have hBf4 : BufAt w4 B b (bs ++ Lib.leBytes 4 secs.length) := (hBf3.below (below_boxed w3 _)).kp hkg (fun e => by have := (hobk b e.symm).1; omega) (fun g cs fz e h => by
        obtain ⟨_, cur, hc⟩ := hobk g e.symm
        rw [heap_alloc_old _ _ (Array.getElem?_eq_some_iff.1 hc).1, hc] at h
        cases h)
      have hK4 : WrK B b w w4 := (HK3.out.kp (kp_alloc w3 _) (fun _ h => h.elim) hB).kp hkg (fun i e => by have := (hobk i e.symm).1; omega) hB
      have hd4 : (done ++ [((s.width : Int), s.val)]).map (·.1) = (ws ++ [s.width]).map (fun x : Nat => (x : Int)) := by rw [List.map_append, List.map_append, HDW.out]; rfl
      have ho4 : w4.ownsRow w1.heap.size 138 1 v' (ws ++ [s.width]).length ((ws ++ [s.width]).map (numV .u32)) := by
        rw [List.length_append, List.map_append]; exact hown4
      have hm4 : secs.length - (w4.iterSeen r).size < secs.length - (wr.iterSeen r).size := by
        rw [hIt4.seen, HSN.out]; simp only [List.length_append, List.length_cons, List.length_nil]; omega
      have HM4 := Lib.hid hm4; have HD4 := Lib.hid hd4
      clear hobk hkg hgrow hIt3 hBf3 hown3 hown4 hd4 hm4 hen
      go_wp2_with fail
      go_roundw
      case rel => exact ⟨_, _, hIt4, HD4.out, ho4, by simpa using hn4, hBf4, hK4, by omega⟩
      case measure => exact HM4.out
end Go.Proofs.YtobdjcnojbnegaaGreatDoor

/- spec.low: a number's bytes, appended. -/
namespace Go.Proofs.YtobdjcnojbnegaaGreatDoor
open Go.RowKit
set_option linter.unusedVariables false
set_option linter.unusedSimpArgs false
attribute [local go_sem] setCell_drewN alloc_drewN

/-- A slice of bytes of the call's own. -/
def RowU (w : World) (B : Nat) (v : Value) (l : List UInt8) : Prop := w.ownsRow B 5 1 v l.length (bcells l)
/-- What an append to the slice v keeps, and where what it gives lies. -/
structure AppK (w w' : World) (v v' : Value) : Prop where
  kp : Kp (fun i => some i = v.ownBlock) w w'
  loc : v'.ownBlock = v.ownBlock ∨ ∃ k, v'.ownBlock = some k ∧ w.heap.size ≤ k
theorem AppK.refl (w : World) (v : Value) : AppK w w v v := ⟨Kp.refl _ _, .inl rfl⟩
theorem AppK.trans {a b c : World} {u v x : Value} (h : AppK a b u v) (k : AppK b c v x) : AppK a c u x := by
  refine ⟨h.kp.trans k.kp (fun i hi => ?_), ?_⟩
  · rcases h.loc with e | ⟨g, e, hg⟩
    · rw [e] at hi; exact .inl hi
    · rw [e] at hi; cases hi; exact .inr hg
  · rcases k.loc with e | ⟨g, e, hg⟩
    · rw [e]; exact h.loc
    · exact .inr ⟨g, e, Nat.le_trans h.kp.size hg⟩
theorem le_snoc : ∀ (k n : Nat), Lib.leBytes (k + 1) n = Lib.leBytes k n ++ [(n / 256 ^ k % 256).toUInt8]
  | 0, n => by simp [Lib.leBytes]
  | k + 1, n => by
    rw [Lib.leBytes, le_snoc k (n / 256)]
    rw [show n / 256 / 256 ^ k = n / 256 ^ (k + 1) by rw [Nat.div_div_eq_div_mul, Nat.pow_succ, Nat.mul_comm]]
    simp [Lib.leBytes]
theorem le_length : ∀ (k n : Nat), (Lib.leBytes k n).length = k
  | 0, _ => rfl
  | k + 1, n => by rw [Lib.leBytes, List.length_cons, le_length k]

set_option maxRecDepth 100000 in
set_option maxHeartbeats 1600000 in
theorem low_ok (B n size : Nat) (v : Value) (l : List UInt8) (hn : n < 18446744073709551616) (hs : size ≤ 8) (hl : l.length ≤ 1099511627776) (w : World) (hB : B ≤ w.heap.size) (hv : RowU w B v l) :
    Calls Tryz.prog 88 #[v, .int .u64 (n : Int), .int .i64 (size : Int)] w fun e w' => ∃ v', e = .returned v' ∧ RowU w' B v' (l ++ Lib.leBytes size n) ∧ AppK w w' v v' := by
  obtain ⟨i0, hi, hz0, hz1, hz2⟩ := info_parts info3_u8
  go_enter Tryz.func88, Tryz.ntmps88
  go_wp2_with fail
  go_loopw [0, 7] (fun v0 vi wr => ∃ k : Nat, k ≤ size ∧ vi = .int .i64 (k : Int) ∧ RowU wr B v0 (l ++ Lib.leBytes k n) ∧ AppK w wr v v0 ∧ B ≤ wr.heap.size) (fun _ vi _ => size - (intOf vi).toNat)
  case atStart => exact ⟨0, Nat.zero_le _, rfl, by simpa [Lib.leBytes] using hv, AppK.refl _ _, hB⟩
  case round =>
    obtain ⟨k, hk, rfl, hR, hK, hBr⟩ := hrel
    by_cases hlt : k < size
    · have hk8 : (k : Int) < 8 := by omega
      have hb : (n : Int) / 2 ^ (8 * k) % 256 = (((n / 256 ^ k % 256).toUInt8.toNat : Nat) : Int) := by
        rw [toU8_nat (Nat.mod_lt _ (by omega))]
        have : (256 : Nat) ^ k = 2 ^ (8 * k) := by rw [Nat.pow_mul]
        rw [this]; simp
      have hvl := hR.lt
      have HB := Lib.hid hb; clear hb
      have HR := Lib.hid hR
      have hlk : (l ++ Lib.leBytes k n).length = l.length + k := by rw [List.length_append, le_length]
      have hRa := hR.alloc (.cells #[.int .u8 ((n : Int) / 2 ^ (8 * k) % 256)] 5)
      have HLK := Lib.hid hlk
      go_wp2_with (at_builtin; refine wpList_append_own_at _ rfl _ _ 65 rfl B 5 i0 (.int .u8 0) 1 1 Tryz.underlying65 hi hz0 hz1 hz2 rfl (by decide) _ _ _ rfl hRa ⟨wr.heap.size, 0, none⟩ 1 1 [.int .u8 ((n : Int) / 2 ^ (8 * k) % 256)] rfl rfl (one_cell _ _ _) (ints_oneCell .u8 [(n : Int) / 2 ^ (8 * k) % 256]) ?c3 ?c4 ?c5 ?_)
      case c3 => unfold maxLen; omega
      case c4 => omega
      case c5 => simp; omega
      intro v' w2 hown' hgrow hnn hloc
      have hA : AppK wr w2 u0 v' := by
        refine ⟨(kp_alloc wr (.cells #[.int .u8 ((n : Int) / 2 ^ (8 * k) % 256)] 5)).mono (S' := fun i => some i = u0.ownBlock) (fun _ h => h.elim) |>.trans (kp_grown hgrow) (fun i h => .inl h), ?_⟩
        rcases hloc with h | h
        · exact .inl h
        · exact .inr ⟨_, h, by simp⟩
      have hz2' : B ≤ w2.heap.size := by have := hgrow.size; simp at this; omega
      have hnew : RowU w2 B v' (l ++ Lib.leBytes (k + 1) n) := by
        have e1 : (l ++ Lib.leBytes (k + 1) n).length = (l ++ Lib.leBytes k n).length + 1 := by simp only [List.length_append, le_length]; omega
        have e2 : bcells (l ++ Lib.leBytes (k + 1) n) = bcells (l ++ Lib.leBytes k n) ++ [.int .u8 ((n : Int) / 2 ^ (8 * k) % 256)] := by
          rw [le_snoc, ← List.append_assoc, ← bcells_append, HB.out]; rfl
        unfold RowU
        rw [e1, e2, HLK.out]; exact hown'
      have HN := Lib.hid (hK.trans hA)
      clear hown' hgrow hloc hRa hlk hA hnn hR
      go_wp2_with fail
      go_roundw
      case rel => exact ⟨k + 1, by omega, by go_num, hnew, HN.out, hz2'⟩
      case measure => simp [intOf]; omega
    · obtain rfl : k = size := by omega
      have HR := Lib.hid hR; clear hR
      go_wp2_with fail
      go_ret
      exact ⟨_, rfl, HR.out, hK⟩
end Go.Proofs.YtobdjcnojbnegaaGreatDoor

/- spec.Widths: the lengths of entries' digests. -/
namespace Go.Proofs.YtobdjcnojbnegaaGreatDoor
open Go.RowKit
set_option linter.unusedVariables false
set_option linter.unusedSimpArgs false
attribute [local go_sem] setCell_drewN alloc_drewN

def widthStep (acc : List Nat) (x : CidOf × Int) : List Nat := if x.1.dig.length ∈ acc then acc else acc ++ [x.1.dig.length]
/-- The lengths of entries' digests, each once. -/
def widthsOf (l : List (CidOf × Int)) : List Nat := l.foldl widthStep []
theorem widthsOf_snoc (l : List (CidOf × Int)) (x : CidOf × Int) : widthsOf (l ++ [x]) = widthStep (widthsOf l) x := by simp [widthsOf]
theorem take_snoc' {l : List (CidOf × Int)} {k : Nat} {x : CidOf × Int} (h : l[k]? = some x) : l.take (k + 1) = l.take k ++ [x] := by
  have hlt := (List.getElem?_eq_some_iff.1 h).1
  have he := (List.getElem?_eq_some_iff.1 h).2
  rw [List.take_succ_eq_append_getElem hlt, he]
theorem widthsOf_le (l : List (CidOf × Int)) : (widthsOf l).length ≤ l.length := by
  have : ∀ (l : List (CidOf × Int)) (acc : List Nat), (l.foldl widthStep acc).length ≤ acc.length + l.length := by
    intro l
    induction l with
    | nil => intro acc; simp
    | cons x l ih =>
      intro acc
      have h := ih (widthStep acc x)
      have h2 : (widthStep acc x).length ≤ acc.length + 1 := by unfold widthStep; split <;> simp
      simp only [List.foldl_cons, List.length_cons]; omega
  have h := this l []
  simpa [widthsOf] using h

def seenPairs (ws : List Nat) : List (Int × Value) := ws.map fun n : Nat => ((n : Int), .bool true)
theorem ilook_seen {ws : List Nat} {n : Nat} : ilook (seenPairs ws) (n : Int) = if n ∈ ws then some (.bool true) else none := by
  induction ws with
  | nil => rfl
  | cons x l ih =>
    simp only [ilook, seenPairs, List.map_cons, List.find?_cons] at ih ⊢
    by_cases h : x = n
    · subst h; simp
    · have h' : ¬ ((x : Int) = (n : Int)) := by omega
      have h2 : ¬ n = x := fun e => h e.symm
      simp only [h', decide_false]
      rw [ih]
      simp [h2]
theorem iput_seen {ws : List Nat} {n : Nat} (h : n ∉ ws) : iput (seenPairs ws) (n : Int) (.bool true) = seenPairs (ws ++ [n]) := by
  rw [iput_new, seenPairs, seenPairs, List.map_append]; rfl
  intro p hp e
  obtain ⟨x, hx, rfl⟩ := List.mem_map.1 hp
  simp only at e
  exact h (by rw [← show x = n by omega]; exact hx)
theorem sortInts_eq (ws : List Nat) : (ws.map (fun n : Nat => (n : Int))).mergeSort (fun x y => decide (x ≤ y)) = (sortN ws).map (fun n : Nat => (n : Int)) := by
  have tr : ∀ a b c : Int, decide (a ≤ b) = true → decide (b ≤ c) = true → decide (a ≤ c) = true := fun a b c h1 h2 => by simp only [decide_eq_true_eq] at *; omega
  have to : ∀ a b : Int, (decide (a ≤ b) || decide (b ≤ a)) = true := fun a b => by simp only [Bool.or_eq_true, decide_eq_true_eq]; omega
  have trn : ∀ a b c : Nat, decide (a ≤ b) = true → decide (b ≤ c) = true → decide (a ≤ c) = true := fun a b c h1 h2 => by simp only [decide_eq_true_eq] at *; omega
  have ton : ∀ a b : Nat, (decide (a ≤ b) || decide (b ≤ a)) = true := fun a b => by simp only [Bool.or_eq_true, decide_eq_true_eq]; omega
  refine List.Perm.eq_of_pairwise (le := fun a b => decide (a ≤ b) = true) (fun a b _ _ h1 h2 => ?_) (List.pairwise_mergeSort tr to _) ?_ ((List.mergeSort_perm _ _).trans ((List.mergeSort_perm ws _).symm.map _))
  · simp only [decide_eq_true_eq] at h1 h2; omega
  · refine List.pairwise_map.2 ((List.pairwise_mergeSort trn ton ws).imp (fun h => ?_))
    simp only [decide_eq_true_eq] at h ⊢; omega
theorem boolZero (W : World) : (zeroValue 4).run Tryz.prog W = .ok (.bool false) W := by kernel_rfl
theorem info_int : (Tryz.prog.info? 3).map (fun i => (i.zero, i.size, i.bytes)) = some (some (.int .i64 0), 1, 8) := by kernel_rfl
/-- A slice of numbers of the call's own. -/
def IntsOf (w : World) (B : Nat) (v : Value) (l : List Nat) : Prop := w.ownsRow B 3 1 v l.length (l.map (numV .i64))

set_option maxRecDepth 100000 in
set_option maxHeartbeats 3200000 in
theorem Widths_ok (l : List (CidOf × Int)) (A : Option Addr) (cap : Nat) (w : World) (hR : RowsAt w A l) (hlen : l.length ≤ 1000000) (hcap : l.length ≤ cap) (hd : ∀ x ∈ l, x.1.dig.length ≤ 1000000) :
    Calls Tryz.prog 111 #[.slice A l.length cap] w fun e w' => ∃ v, e = .returned v ∧ IntsOf w' w.heap.size v (sortN (widthsOf l)) ∧ Below w.heap.size w w' := by
  obtain ⟨i0, ti, tz0, tz1, tz2⟩ := info_parts info_int
  have hmm := @run_makeMap Tryz.prog
  go_enter Tryz.func111, Tryz.ntmps111
  go_wp2_with fail
  go_loopw [3, 11] (fun v3 vi wr => ∃ k : Nat, k ≤ l.length ∧ vi = .int .i64 (k : Int) ∧ ImAt wr w.heap.size .i64 (seenPairs (widthsOf (l.take k))) ∧ IntsOf wr w.heap.size v3 (widthsOf (l.take k)) ∧ (v3 = .slice none 0 0 → widthsOf (l.take k) = []) ∧ Below w.heap.size w wr ∧ w.heap.size < wr.heap.size) (fun _ vi _ => l.length - (intOf vi).toNat)
  case atStart => exact ⟨0, Nat.zero_le _, rfl, ImAt.made w .i64, ⟨rfl, .inl ⟨rfl, rfl⟩⟩, fun _ => rfl, below_boxed w _, by simp⟩
  case round =>
    obtain ⟨k, hk, rfl, hI, hO, hN, hB, hz⟩ := hrel
    by_cases hlt : k < l.length
    · obtain ⟨x, hx⟩ : ∃ x, l[k]? = some x := ⟨_, List.getElem?_eq_getElem hlt⟩
      obtain ⟨g0, o, rfl, hg0, r0, r1, r2, r3, r4⟩ := hR.row hB hx
      have hsz : (sOf x.1.dig).size = x.1.dig.length := by simp [sOf, ByteArray.size]
      have htk := take_snoc' hx
      have hdx := hd x (List.mem_of_getElem? hx)
      have hwl := widthsOf_le (l.take k)
      rw [List.length_take] at hwl
      obtain ⟨ws, hws⟩ : ∃ ws, ws = widthsOf (l.take k) := ⟨_, rfl⟩
      rw [← hws] at hI hO hN hwl
      have HW : Hid (widthsOf (l.take (k + 1)) = widthStep ws x) := Lib.hid (by rw [htk, widthsOf_snoc, hws])
      have hg0r : g0 < wr.heap.size := by have := hB.size; omega
      clear hws htk hx
      have hIb := (hI.upd (w' := wr.alloc (.cells #[.int .u64 x.1.ver, .int .u64 x.1.codec, .int .u64 x.1.code, .string (sOf x.1.dig), .int .u64 x.2] 40)) (heap_alloc_old _ _ hI.lt))
      have hOb := hO.alloc (.cells #[.int .u64 x.1.ver, .int .u64 x.1.codec, .int .u64 x.1.code, .string (sOf x.1.dig), .int .u64 x.2] 40)
      have hbb : Below w.heap.size w (wr.alloc (.cells #[.int .u64 x.1.ver, .int .u64 x.1.codec, .int .u64 x.1.code, .string (sOf x.1.dig), .int .u64 x.2] 40)) := below_box hB _
      by_cases hmem : x.1.dig.length ∈ ws
      · have hlk := hIb.look (P := Tryz.prog) Tryz.underlying221 Tryz.underlying3 (k := (x.1.dig.length : Int)) (v := .bool true) (by rw [ilook_seen, if_pos hmem]) false
        simp only [Bool.false_eq_true, if_false] at hlk
        have HWW : Hid (widthsOf (l.take (k + 1)) = ws) := Lib.hid (by rw [HW.out, widthStep, if_pos hmem])
        clear hmem hO hI
        go_wp2_with fail
        go_roundw
        case rel => exact ⟨k + 1, by omega, by go_num, by rw [HWW.out]; exact hIb, by rw [HWW.out]; exact hOb, by rw [HWW.out]; exact hN, hbb, by simp; omega⟩
        case measure => simp [intOf]; omega
      · have hlk := hIb.look_no (P := Tryz.prog) Tryz.underlying221 Tryz.underlying3 (k := (x.1.dig.length : Int)) (by rw [ilook_seen, if_neg hmem]) false _ boolZero
        simp only [Bool.false_eq_true, if_false] at hlk
        have HWW : Hid (widthsOf (l.take (k + 1)) = ws ++ [x.1.dig.length]) := Lib.hid (by rw [HW.out, widthStep, if_neg hmem])
        have HMem := Lib.hid hmem
        have hzb : wr.heap.size < (wr.alloc (.cells #[.int .u64 x.1.ver, .int .u64 x.1.codec, .int .u64 x.1.code, .string (sOf x.1.dig), .int .u64 x.2] 40)).heap.size := by simp
        clear hmem hO hI
        go_wp2_with (at_mapUpdate; refine step_put_im rfl _ _ _ 221 rfl Tryz.underlying221 Tryz.underlying3 rfl hIb (k := (x.1.dig.length : Int)) (val := .bool true) rfl rfl ?_; intro w3 hI3 hK3 hs3; refine later ?_)
        rw [iput_seen HMem.out] at hI3
        have hne : u3.ownBlock ≠ some w.heap.size := by
          intro e
          obtain ⟨_, cur, hc⟩ := own_cells hOb e
          obtain ⟨es, cl, hm, _⟩ := hIb
          rw [hm] at hc; cases hc
        have hO3 := own_kp hOb hK3 (fun g e h => by subst h; exact hne e)
        have hB3 : Below w.heap.size w w3 := hbb.trans ⟨hK3.os, hK3.tape, hK3.output, hK3.size, fun i hi => hK3.block i (by have := hbb.size; omega) (by omega)⟩
        have hz3 : wr.heap.size < w3.heap.size := by omega
        clear hIb hOb hbb hlk hK3 hs3 hzb hB
        refine now ?_
        go_wp2_with (at_builtin; refine wpList_append_own_at _ rfl _ _ 200 rfl w.heap.size 3 i0 (.int .i64 0) 1 8 Tryz.underlying200 ti tz0 tz1 tz2 rfl (by decide) _ _ _ rfl (hO3.alloc _) ⟨w3.heap.size, 0, none⟩ 1 1 [.int .i64 (x.1.dig.length : Int)] rfl rfl (one_cell _ _ _) (ints_oneCell .i64 [(x.1.dig.length : Int)]) ?c3 ?c4 ?c5 ?_)
        case c3 => unfold maxLen; omega
        case c4 => omega
        case c5 => simp; omega
        intro v' w4 hown4 hgrow hnn hloc
        have hI4 : ImAt w4 w.heap.size .i64 (seenPairs (ws ++ [x.1.dig.length])) := (hI3.kp (kp_alloc w3 _) id).kp (kp_grown hgrow) (fun e => hne e.symm)
        have hO4 : IntsOf w4 w.heap.size v' (ws ++ [x.1.dig.length]) := by
          unfold IntsOf; rw [List.length_append, List.map_append]; exact hown4
        have hB4 : Below w.heap.size w w4 := (below_box hB3 _).trans ⟨hgrow.os, hgrow.tape, hgrow.output, hgrow.size, fun i hi => hgrow.block i (by simp; omega) (fun e => by have := (hO3.lt i e.symm).1; omega)⟩
        have hz4 : w.heap.size < w4.heap.size := by have := hgrow.size; simp at this; omega
        clear hown4 hgrow hloc hI3 hO3 hB3
        go_wp2_with fail
        go_roundw
        case rel => exact ⟨k + 1, by omega, by go_num, by rw [HWW.out]; exact hI4, by rw [HWW.out]; exact hO4, fun e => absurd e (by simpa using hnn), hB4, hz4⟩
        case measure => simp [intOf]; omega
    · obtain rfl : k = l.length := by omega
      rw [List.take_length] at hI hO hN
      have hwl := widthsOf_le l
      obtain ⟨ws, hws⟩ : ∃ ws, ws = widthsOf l := ⟨_, rfl⟩
      rw [← hws] at hI hO hN hwl
      have HW := Lib.hid hws
      clear hI hws
      by_cases hnil : u3 = .slice none 0 0
      · have hw0 := hN hnil
        subst hnil
        have HW0 := Lib.hid hw0
        clear hN hO hw0
        go_wp2_with fail
        refine (Tryz.sort_Ints_none none 0 _).mono ?_
        rintro e w1 ⟨rfl, rfl⟩
        go_wp2_with fail
        go_ret
        refine ⟨_, rfl, ?_, hB⟩
        rw [← HW.out, HW0.out]
        exact ⟨by simp [sortN], .inl ⟨rfl, by simp [sortN]⟩⟩
      · obtain ⟨g, cap3, cur, rfl, hge, hgc, hgle, hgcm, hgs, htk⟩ : ∃ g cap cur, u3 = .slice (some ⟨g, 0, none⟩) ws.length cap ∧ w.heap.size ≤ g ∧ wr.heap[g]? = some (.cells cur 3 (0, 0)) ∧ ws.length ≤ cap ∧ cap ≤ maxLen ∧ cur.size = cap * 1 ∧ cur.toList.take (ws.length * 1) = ws.map (numV .i64) := by
          rcases hO.2 with ⟨h, _⟩ | h
          · exact absurd h hnil
          · exact h
        rw [Nat.mul_one] at htk
        have htk2 : cur.toList.take (ws.map (fun n : Nat => (n : Int))).length = (ws.map (fun n : Nat => (n : Int))).map (Value.int .i64) := by rw [List.length_map, htk, List.map_map]; rfl
        have hH := holds_of_blockI hgc htk2
        have hS := Tryz.sort_Ints g 0 cap3 (ws.map (fun n : Nat => (n : Int))) wr hH (Array.getElem?_eq_some_iff.1 hgc).1 (by rw [List.length_map]; omega)
        rw [List.length_map, sortInts_eq] at hS
        have HG := Lib.hid (And.intro hgc hgs)
        clear hH htk2 htk hO hN hgc hgs hnil
        go_wp2_with fail
        refine hS.mono ?_
        rintro e w1 ⟨rfl, n, os, rfl⟩
        have hown := ownsRow_sortedI (w := wr) (base := w.heap.size) (n := n) (os := os) (ss := ws.map (fun n : Nat => (n : Int))) (ts := (sortN ws).map (fun n : Nat => (n : Int))) (by simp [sortN_len]) hge HG.out.1 (by simpa using hgle) hgcm HG.out.2
        have hgb := grownBy_sortedI (w := wr) (g := g) (n := n) (os := os) ((sortN ws).map (fun n : Nat => (n : Int))).toArray
        have HO := Lib.hid hown
        clear hown hS
        generalize Sort.grow (Sort.putRow (Value.int .i64) (Sort.ahead wr n) g 0 ((sortN ws).map (fun n : Nat => (n : Int))).toArray) os = W at *
        go_wp2_with fail
        go_ret
        refine ⟨_, rfl, ?_, hB.trans ⟨hgb.os, hgb.tape, hgb.output, hgb.size, fun i hi => hgb.block i (by have := hB.size; omega) (fun e => by cases e; omega)⟩⟩
        have h := HO.out
        rw [List.length_map, List.map_map] at h
        rw [← HW.out]
        unfold IntsOf
        rw [sortN_len]
        exact h
end Go.Proofs.YtobdjcnojbnegaaGreatDoor

/- The offsets that are told, collected. -/
namespace Go.Proofs.YtobdjcnojbnegaaGreatDoor
open Go.RowKit
set_option linter.unusedVariables false
set_option linter.unusedSimpArgs false
attribute [local go_sem] setCell_drewN alloc_drewN

def offVal (o : Nat) : Value := .int .u64 (o : Int)
/-- What was told: os, in the variable at block ob; at most so many, in the one at block mb. -/
structure OutAt (w : World) (ob mb most : Nat) (os : List Nat) : Prop where
  blk : ∃ v, w.heap[ob]? = some (.cells #[v] 31 (0, 0)) ∧ w.ownsRow (ob + 1) 23 1 v os.length (os.map offVal)
  most : w.cell? ⟨mb, 0, none⟩ = some (.int .i64 (most : Int))
  lt : mb < ob

theorem info_u64 : (Tryz.prog.info? 23).map (fun i => (i.zero, i.size, i.bytes)) = some (some (.int .u64 0), 1, 8) := by kernel_rfl
/-- What an append or a told offset keeps: all below ob, and what is no row of offsets. -/
structure Told (ob : Nat) (w w' : World) : Prop where
  bel : Below ob w w'
  oth : Lib.OthersKept 23 (some ob) w w'
theorem Told.refl (ob : Nat) (w : World) : Told ob w w := ⟨Below.refl _ _, Lib.OthersKept.refl _ _ _⟩
theorem Told.trans {ob : Nat} {a b c : World} (h : Told ob a b) (k : Told ob b c) : Told ob a c := ⟨h.bel.trans k.bel, h.oth.trans k.oth⟩
theorem Told.drewN {ob : Nat} {a b : World} (h : Told ob a b) (n : Nat) : Told ob a (b.drewN n) := ⟨⟨h.bel.os, h.bel.tape, h.bel.output, h.bel.size, h.bel.block⟩, h.oth⟩
theorem Told.cells {ob : Nat} {w w' : World} (h : Told ob w w') {g : Nat} {cs : Array Value} {t : TypeId} {fz : Nat × Nat} (hg : w.heap[g]? = some (.cells cs t fz)) (hn : g ≠ ob) (ht : t ≠ 23) : w'.heap[g]? = some (.cells cs t fz) :=
  h.oth g _ hg (fun e => hn (by simpa using e)) (fun c z e => by cases e; exact ht rfl)

set_option maxRecDepth 100000 in
set_option maxHeartbeats 800000 in
theorem tell_ok (ob mb most : Nat) (os : List Nat) (o : Nat) (w : World) (h : OutAt w ob mb most os) (hl : os.length ≤ 1000000) :
    Calls Tryz.prog 39 #[.int .u64 (o : Int), .pointer (some ⟨ob, 0, none⟩), .pointer (some ⟨mb, 0, none⟩)] w fun e w' => e = .returned (.bool (decide (os.length + 1 < most))) ∧ OutAt w' ob mb most (os ++ [o]) ∧ Told ob w w' := by
  obtain ⟨i0, hi, hz0, hz1, hz2⟩ := info_parts info_u64
  obtain ⟨⟨v, hb, hown⟩, hm, hlt⟩ := h
  have c0 := (blk_cell' hb 0).trans (show _ = some v from rfl)
  have f0 := blk_free' hb 0
  have hob := (Array.getElem?_eq_some_iff.1 hb).1
  go_enter Tryz.func39, Tryz.ntmps39
  go_wp2_with (at_builtin; refine wpList_append_own _ rfl _ _ 31 rfl (ob + 1) 23 i0 (.int .u64 0) 1 8 Tryz.underlying31 hi hz0 hz1 hz2 rfl (by decide) _ _ _ rfl (hown.alloc _) ⟨w.heap.size, 0, none⟩ 1 1 [.int .u64 (o : Int)] rfl rfl (one_cell _ _ _) (ints_oneCell .u64 [(o : Int)]) ?c3 ?c4 ?c5 ?_)
  case c3 => unfold maxLen; omega
  case c4 => omega
  case c5 => simp; omega
  intro v' w1 hown1 hgrow _
  have hg1 : (w.alloc (.cells #[.int .u64 (o : Int)] 23)).grownBy w1 v.ownBlock := hgrow
  have hvo : ∀ k, v.ownBlock = some k → ob + 1 ≤ k ∧ k < w.heap.size := hown.lt
  have hb1 : w1.heap[ob]? = some (.cells #[v] 31 (0, 0)) := (hgrow.block ob (by simp; omega) (fun e => by have := (hvo ob e.symm).1; omega)).trans ((heap_alloc_old w _ hob).trans hb)
  have f1 := blk_free' hb1 0
  have k1 := (blk_cell' hb1 0).trans (show _ = some v from rfl)
  have hz1 : w.heap.size < w1.heap.size := by have := hgrow.size; simp at this; omega
  have hm1 : w1.cell? ⟨mb, 0, none⟩ = some (.int .i64 (most : Int)) := (World.cell?_of_block (w := w) ((hgrow.block mb (by simp; omega) (fun e => by have := (hvo mb e.symm).1; omega)).trans (heap_alloc_old w _ (by omega)))).trans hm
  rcases hown1.2 with ⟨_, hbad⟩ | ⟨g, cap, cur, rfl, hge, hg, hle, hcm, hcs, htk⟩
  · omega
  have hne : g ≠ ob := by omega
  go_wp2_with fail
  go_ret
  have hb2 : (w1.setCell ⟨ob, 0, none⟩ (.slice (some ⟨g, 0, none⟩) (os.length + 1) cap)).heap[ob]? = some (.cells #[.slice (some ⟨g, 0, none⟩) (os.length + 1) cap] 31 (0, 0)) := by
    rw [setCell_eq_setRow w1 ob 0 _ _ _ _ hb1, setRow_heap w1 ob _ _ _ _ hb1]; rfl
  have hbel : Below ob w w1 := ((below_boxed w _).mono (Nat.le_of_lt hob)).trans ⟨hgrow.os, hgrow.tape, hgrow.output, hgrow.size, fun k hk => hgrow.block k (by simp; omega) (fun e => by have := (hvo k e.symm).1; omega)⟩
  have hoth : Lib.OthersKept 23 (some ob) w w1 := ((Lib.OthersKept.refl _ _ w).alloc _).grown hgrow (fun g' hg' => by
    rcases (hown.alloc (.cells #[.int .u64 (o : Int)] 23)).2 with ⟨rfl, _⟩ | ⟨g2, cap2, cur2, rfl, _, h2, _⟩
    · cases hg'
    · cases hg'; exact ⟨_, _, h2⟩)
  refine ⟨congrArg (fun b => Ending.returned (.bool b)) (decide_eq_decide.2 (by omega)), ⟨⟨_, hb2, ?_⟩, ?_, hlt⟩, ⟨hbel.setCell (Nat.le_refl _) _, hoth.setCell _ rfl _⟩⟩
  · refine ⟨by simp, .inr ⟨g, cap, cur, by simp, hge, (Below.heap_setCell _ _ _ _ hne).trans hg, by simpa using hle, hcm, hcs, ?_⟩⟩
    simp only [List.length_append, List.length_cons, List.length_nil, List.map_append, List.map_cons, List.map_nil, offVal] at htk ⊢
    exact htk
  · exact (World.cell?_of_block (w := w1) (Below.heap_setCell _ _ _ _ (by show mb ≠ ob; omega))).trans hm1
end Go.Proofs.YtobdjcnojbnegaaGreatDoor
