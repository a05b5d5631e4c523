import Derived.Test.YtgdgmegpacmgnaaGreatDoorG05
import Derived.RegionCalls
import Derived.Deep.RegionWith
import Derived.OwnWalk
/- An index sorted by digests, written. -/
namespace Go.Proofs.YtgdgmegpacmgnaaGreatDoor
open Go.RowKit
set_option linter.unusedVariables false
set_option linter.unusedSimpArgs false
attribute [local go_sem] setCell_drewN alloc_drewN

set_option maxRecDepth 100000 in
set_option maxHeartbeats 1600000 in
theorem SwMarshal_ok (B b g gd width n : Nat) (bs data : List UInt8) (w : World) (h : BufAt w B b bs) (hB : B ≤ w.heap.size) (hs : SwAt w g width n (.slice (some ⟨gd, 0, none⟩) data.length data.length)) (hr : w.heap[gd]? = some (.cells (bcells data).toArray 5 (0, 0)))
    (hg : g ≠ b) (hgd : gd < B) (hw : width < 4294967296) (hlim : bs.length + 12 + data.length ≤ 1099511627776) :
    Calls Tryz.prog 215 #[.pointer (some ⟨g, 0, none⟩), .iface 55 (.pointer (some ⟨b, 0, none⟩))] w fun e w' => e = .returned (.tuple #[.int .u64 (12 + (data.length : Int)), .nilIface]) ∧ BufAt w' B b (bs ++ secBytes (width, data)) ∧ WrK B b w w' := by
  have hme := method_bufWrite
  have hna := ahead_bufWrite
  have hmf : ∀ (fn : Fn) (first cap : Array Value) (w : World), (Instr.makeFunc fn first cap).run Tryz.prog w = .ok (.func fn first cap) w := fun _ _ _ _ => rfl
  have hBb : B ≤ b := h.1
  have c0 := (blk_cell' hs 0).trans (show _ = some (Value.int .u32 (width : Int)) from rfl)
  have hdw : IntKind.u64.wrap (data.length : Int) = (data.length : Int) := by rw [IntKind.wrap_u64]; omega
  go_enter Tryz.func215, Tryz.ntmps215
  go_wp2_with fail
  refine (zzWrite32_ok B b bs width hw w h hB (by omega)).mono ?_
  rintro e w1 ⟨rfl, hB1, hK1⟩
  have hs1 : SwAt w1 g width n (.slice (some ⟨gd, 0, none⟩) data.length data.length) := hK1.cells hs hg (fun c fz e => by cases e)
  have hr1 := (hK1.bel.block gd hgd).trans hr
  have hz1 := hK1.bel.size
  have c2 := (blk_cell' hs1 2).trans (show _ = some (Value.slice (some ⟨gd, 0, none⟩) data.length data.length) from rfl)
  clear c0 h hs hr
  go_wp2_with fail
  refine (zzWrite64_ok B b (bs ++ Lib.leBytes 4 width) data.length (by omega) w1 hB1 (by omega) (by rw [List.length_append, le4_len]; omega)).mono ?_
  rintro e w2 ⟨rfl, hB2, hK2⟩
  have hs2 : SwAt w2 g width n (.slice (some ⟨gd, 0, none⟩) data.length data.length) := hK2.cells hs1 hg (fun c fz e => by cases e)
  have hr2 := (hK2.bel.block gd hgd).trans hr1
  have hz2 := hK2.bel.size
  have k2 := (blk_cell' hs2 2).trans (show _ = some (Value.slice (some ⟨gd, 0, none⟩) data.length data.length) from rfl)
  have hW := fun W (hW1 : BufAt W B b (bs ++ Lib.leBytes 4 width ++ Lib.leBytes 8 data.length)) (hW2 : B ≤ W.heap.size) (hW3 : BytesAt W (some ⟨gd, 0, none⟩) data) => bufWrite_ok B b _ data ⟨gd, 0, none⟩ data.length data.length W hW1 hW2 hW3 rfl (by show gd ≠ b; omega) (by rw [List.length_append, List.length_append, le4_len, le8_len]; omega)
  have hrb : BytesAt w2 (some ⟨gd, 0, none⟩) data := by have := row_bytes hr2 0 data.length; rwa [List.drop_zero, List.take_length] at this
  have hK3 := hK1.trans hK2
  have hWd := hW w2.drew (hB2.same rfl) (by show B ≤ w2.heap.size; omega) hrb
  clear c2 hs1 hr1 hB1 hK1 hK2 hr2 hs2 hW
  go_wp2_with fail
  refine wp_region_noPanic ?_
  go_region_with (go_at_call 168; refine hWd.mono ?_; rintro e w3 ⟨rfl, hB4, hK4⟩)
  all_goals
    refine NoPanic.normal ?_
    go_wp2_with fail
    go_ret2
    exact ⟨rfl, by rw [secBytes]; simpa [List.append_assoc] using hB4, (hK3.drewN 1 : WrK B b w w2.drew).trans hK4⟩
end Go.Proofs.YtgdgmegpacmgnaaGreatDoor

/- slices.Sort of at most one element. -/
namespace Go.Proofs.YtgdgmegpacmgnaaGreatDoor
open Go.RowKit
set_option linter.unusedVariables false
set_option linter.unusedSimpArgs false
attribute [local go_sem] setCell_drewN alloc_drewN

def numV (q : IntKind) (n : Nat) : Value := .int q (n : Int)
def sortN (zs : List Nat) : List Nat := zs.mergeSort fun a b => decide (a ≤ b)
/-- A function that sorts rows of at most n numbers. -/
def SortsTo (f : FuncId) (q : IntKind) (t : TypeId) (n : Nat) : Prop := ∀ (g cap : Nat) (zs : List Nat) (tail : List Value) (w : World), zs.length ≤ n → w.heap[g]? = some (.cells (zs.map (numV q) ++ tail).toArray t (0, 0)) →
  Calls Tryz.prog f #[.slice (some ⟨g, 0, none⟩) zs.length cap] w fun e w' => e = .returned (.tuple #[]) ∧ w'.heap[g]? = some (.cells ((sortN zs).map (numV q) ++ tail).toArray t (0, 0)) ∧ Kp (fun i => i = g) w w'
theorem sortN_tiny {zs : List Nat} (h : zs.length ≤ 1) : sortN zs = zs := by
  match zs, h with
  | [], _ => simp [sortN]
  | [x], _ => simp [sortN]

set_option maxRecDepth 100000 in
set_option maxHeartbeats 800000 in
theorem tinySort_32 : SortsTo 214 .u32 103 1 := by
  intro g cap zs tail w hz hg
  rw [sortN_tiny hz]
  have hn : zs.length = 0 ∨ zs.length = 1 := by omega
  generalize zs.length = n at hn
  clear hz
  have hI : Calls Tryz.prog 246 #[.slice (some ⟨g, 0, none⟩) n cap, .int .i64 0, .int .i64 (n : Int)] w fun e w' => e = .returned (.tuple #[]) ∧ w = w' := by
    rcases hn with rfl | rfl
    all_goals
      go_enter Tryz.func246, Tryz.ntmps246
      go_wp2_with fail
      refine wp_loop_rounds 1 ?_
      rw [rounds_succ]
      go_wp2_with fail
      go_end0
      exact ⟨rfl, rfl⟩
  have hP : ∀ L : Int, Calls Tryz.prog 236 #[.slice (some ⟨g, 0, none⟩) n cap, .int .i64 0, .int .i64 (n : Int), .int .i64 L] w fun e w' => e = .returned (.tuple #[]) ∧ w = w' := by
    intro L
    rcases hn with rfl | rfl
    all_goals
      go_enter Tryz.func236, Tryz.ntmps236
      go_wp2_with fail
      refine wp_loop_rounds 1 ?_
      rw [rounds_succ]
      go_wp2_with fail
      refine hI.mono ?_
      rintro e w' ⟨rfl, rfl⟩
      go_wp2_with fail
      exact bodyPost_ret (v := .tuple #[]) (by simp [results, Tryz.results236, go_sem]) rfl ⟨rfl, rfl⟩
  have hd : Calls Tryz.prog 214 #[.slice (some ⟨g, 0, none⟩) n cap] w fun e w' => e = .returned (.tuple #[]) ∧ w = w' := by
    rcases hn with rfl | rfl
    all_goals
      go_enter Tryz.func214, Tryz.ntmps214
      go_wp2_with fail
      refine (Tryz.bits_Len _ _ (by omega) (by omega)).mono ?_
      rintro e w' ⟨rfl, rfl⟩
      generalize ((Lib.bitLen _ : Nat) : Int) = L
      go_wp2_with fail
      refine (hP L).mono ?_
      rintro e w' ⟨rfl, rfl⟩
      go_wp2_with fail
      go_end0
      exact ⟨rfl, rfl⟩
  refine hd.mono ?_
  rintro e w' ⟨rfl, rfl⟩
  exact ⟨rfl, hg, Kp.refl _ _⟩

set_option maxRecDepth 100000 in
set_option maxHeartbeats 800000 in
theorem tinySort_64 : SortsTo 198 .u64 22 1 := by
  intro g cap zs tail w hz hg
  rw [sortN_tiny hz]
  have hn : zs.length = 0 ∨ zs.length = 1 := by omega
  generalize zs.length = n at hn
  clear hz
  have hI : Calls Tryz.prog 227 #[.slice (some ⟨g, 0, none⟩) n cap, .int .i64 0, .int .i64 (n : Int)] w fun e w' => e = .returned (.tuple #[]) ∧ w = w' := by
    rcases hn with rfl | rfl
    all_goals
      go_enter Tryz.func227, Tryz.ntmps227
      go_wp2_with fail
      refine wp_loop_rounds 1 ?_
      rw [rounds_succ]
      go_wp2_with fail
      go_end0
      exact ⟨rfl, rfl⟩
  have hP : ∀ L : Int, Calls Tryz.prog 213 #[.slice (some ⟨g, 0, none⟩) n cap, .int .i64 0, .int .i64 (n : Int), .int .i64 L] w fun e w' => e = .returned (.tuple #[]) ∧ w = w' := by
    intro L
    rcases hn with rfl | rfl
    all_goals
      go_enter Tryz.func213, Tryz.ntmps213
      go_wp2_with fail
      refine wp_loop_rounds 1 ?_
      rw [rounds_succ]
      go_wp2_with fail
      refine hI.mono ?_
      rintro e w' ⟨rfl, rfl⟩
      go_wp2_with fail
      exact bodyPost_ret (v := .tuple #[]) (by simp [results, Tryz.results213, go_sem]) rfl ⟨rfl, rfl⟩
  have hd : Calls Tryz.prog 198 #[.slice (some ⟨g, 0, none⟩) n cap] w fun e w' => e = .returned (.tuple #[]) ∧ w = w' := by
    rcases hn with rfl | rfl
    all_goals
      go_enter Tryz.func198, Tryz.ntmps198
      go_wp2_with fail
      refine (Tryz.bits_Len _ _ (by omega) (by omega)).mono ?_
      rintro e w' ⟨rfl, rfl⟩
      generalize ((Lib.bitLen _ : Nat) : Int) = L
      go_wp2_with fail
      refine (hP L).mono ?_
      rintro e w' ⟨rfl, rfl⟩
      go_wp2_with fail
      go_end0
      exact ⟨rfl, rfl⟩
  refine hd.mono ?_
  rintro e w' ⟨rfl, rfl⟩
  exact ⟨rfl, hg, Kp.refl _ _⟩
end Go.Proofs.YtgdgmegpacmgnaaGreatDoor

/- A whole index sorted by digests, written. -/
namespace Go.Proofs.YtgdgmegpacmgnaaGreatDoor
open Go.RowKit
set_option linter.unusedVariables false
set_option linter.unusedSimpArgs false
attribute [local go_sem] setCell_drewN alloc_drewN

/-- The parts in the order of these widths. -/
def inOrder (secs : List Sec) (ws : List Nat) : List (Nat × List UInt8) := ws.filterMap fun x => (secs.find? fun s => decide (s.width = x)).map Sec.two
theorem inOrder_len {secs : List Sec} {ws : List Nat} (h : ∀ x ∈ ws, ∃ s, secs.find? (fun s => decide (s.width = x)) = some s) : (inOrder secs ws).length = ws.length := by
  induction ws with
  | nil => rfl
  | cons x l ih =>
    obtain ⟨s, hs⟩ := h x (.head _)
    have := ih (fun y hy => h y (.tail _ hy))
    simp only [inOrder] at this ⊢
    rw [List.filterMap_cons, hs]
    simpa using this
/-- The parts, the least width first. -/
def sortedSecs (secs : List Sec) : List (Nat × List UInt8) := inOrder secs (sortN (secs.map Sec.width))
theorem info_u32 : (Tryz.prog.info? 103).map (fun i => (i.zero, i.size, i.bytes)) = some (some (.int .u32 0), 1, 4) := by kernel_rfl

theorem find_width {secs : List Sec} {s : Sec} (hs : s ∈ secs) (hn : (secs.map Sec.width).Nodup) : secs.find? (fun x => decide (x.width = s.width)) = some s := by
  induction secs with
  | nil => cases hs
  | cons x l ih =>
    have hn' := List.nodup_cons.1 hn
    by_cases hx : x.width = s.width
    · rcases List.mem_cons.1 hs with rfl | h
      · simp
      · exact absurd (List.mem_map.2 ⟨s, h, hx.symm⟩) hn'.1
    · rcases List.mem_cons.1 hs with rfl | h
      · exact absurd rfl hx
      · rw [List.find?_cons]; simp only [hx, decide_false]; exact ih h hn'.2

theorem MwAt.nodup {w : World} {a : Addr} {mb : Nat} {secs : List Sec} (h : MwAt w a mb secs) : (secs.map Sec.width).Nodup := by
  have h1 := h.map.nodup
  rw [List.map_map] at h1
  have h2 : (List.map ((fun x : Nat => (x : Int)) ∘ Sec.width) secs).Nodup := h1
  rw [← List.map_map] at h2
  exact (List.pairwise_map.1 h2).imp (fun h e => h (by rw [e]))

theorem WrK.it {B b : Nat} {w w' : World} (h : WrK B b w w') {r m : Nat} {q : IntKind} {L done : List (Int × Value)} (hI : ItAt w r m q L done) (h1 : m ≠ b) (h2 : r ≠ b) : ItAt w' r m q L done := by
  obtain ⟨es, clock, since, seen, c0, g1, g2, g3⟩ := hI
  exact ⟨es, clock, since, seen, c0, h.cells g1 h1 (fun c fz e => by cases e), h.cells g2 h2 (fun c fz e => by cases e), g3⟩
theorem WrK.im {B b : Nat} {w w' : World} (h : WrK B b w w') {m : Nat} {q : IntKind} {L : List (Int × Value)} (hI : ImAt w m q L) (h1 : m ≠ b) : ImAt w' m q L := by
  obtain ⟨es, clock, g1, g3⟩ := hI
  exact ⟨es, clock, h.cells g1 h1 (fun c fz e => by cases e), g3⟩
/-- An index below the buffer stays. -/
theorem WrK.mw {B b : Nat} {w w' : World} (h : WrK B b w w') {a : Addr} {mb : Nat} {secs : List Sec} (hM : MwAt w a mb secs) (h1 : a.block < B) (h2 : mb < B) (h3 : ∀ s ∈ secs, s.gd < B) : MwAt w' a mb secs :=
  ⟨(h.bel.cell h1).trans hM.cell, hM.map.upd (h.bel.block _ h2), fun s hs => (h.bel.block _ (h3 s hs)).trans (hM.row s hs)⟩

theorem sortN_perm {a b : List Nat} (h : a.Perm b) : sortN a = sortN b := by
  have tr : ∀ a b c : Nat, decide (a ≤ b) = true → decide (b ≤ c) = true → decide (a ≤ c) = true := fun a b c h1 h2 => by simp only [decide_eq_true_eq] at *; omega
  have to : ∀ a b : Nat, (decide (a ≤ b) || decide (b ≤ a)) = true := fun a b => by simp only [Bool.or_eq_true, decide_eq_true_eq]; omega
  refine List.Perm.eq_of_pairwise (le := fun a b => decide (a ≤ b) = true) (fun a b _ _ h1 h2 => ?_) (List.pairwise_mergeSort tr to a) (List.pairwise_mergeSort tr to b) (((List.mergeSort_perm a _).trans h).trans (List.mergeSort_perm b _).symm)
  simp only [decide_eq_true_eq] at h1 h2
  omega
theorem sortN_mem {a : List Nat} {x : Nat} : x ∈ sortN a ↔ x ∈ a := (List.mergeSort_perm a _).mem_iff
theorem sortN_len (a : List Nat) : (sortN a).length = a.length := (List.mergeSort_perm a _).length_eq
theorem sortedSecs_len {secs : List Sec} (hn : (secs.map Sec.width).Nodup) : (sortedSecs secs).length = secs.length := by
  rw [sortedSecs, inOrder_len, sortN_len, List.length_map]
  intro x hx
  obtain ⟨s, hs, rfl⟩ := List.mem_map.1 (sortN_mem.1 hx)
  exact ⟨s, find_width hs hn⟩
theorem WrK.kp {B b : Nat} {S : Nat → Prop} {w x y : World} (h : WrK B b w x) (k : Kp S x y) (hs : ∀ i, S i → w.heap.size ≤ i) (hB : B ≤ w.heap.size) : WrK B b w y := by
  have hb : ∀ i, i < w.heap.size → y.heap[i]? = x.heap[i]? := fun i hi => k.block i (Nat.lt_of_lt_of_le hi h.bel.size) (fun e => by have := hs i e; omega)
  refine ⟨⟨k.os.trans h.bel.os, k.tape.trans h.bel.tape, k.output.trans h.bel.output, Nat.le_trans h.bel.size k.size, fun i hi => (hb i (by omega)).trans (h.bel.block i hi)⟩, fun i o hi h1 h2 => ?_⟩
  rw [hb i (Array.getElem?_eq_some_iff.1 hi).1]
  exact h.oth i o hi h1 h2
theorem own_kp {S : Nat → Prop} {w w' : World} {B : Nat} {e : TypeId} {k : Nat} {v : Value} {n : Nat} {xs : List Value} (h : w.ownsRow B e k v n xs) (hk : Kp S w w') (hs : ∀ g, v.ownBlock = some g → ¬ S g) : w'.ownsRow B e k v n xs := by
  refine ⟨h.1, ?_⟩
  rcases h.2 with h | ⟨g, cap, cur, e1, e2, e3, e4⟩
  · exact .inl h
  · exact .inr ⟨g, cap, cur, e1, e2, (hk.block _ (Array.getElem?_eq_some_iff.1 e3).1 (hs g (by rw [e1]; rfl))).trans e3, e4⟩
theorem kp_grown {w w' : World} {row : Option Nat} (h : w.grownBy w' row) : Kp (fun i => some i = row) w w' := ⟨h.os, h.tape, h.output, h.size, fun k hk hn => h.block k hk hn⟩
theorem own_cells {w : World} {B : Nat} {e : TypeId} {k : Nat} {v : Value} {n : Nat} {xs : List Value} (h : w.ownsRow B e k v n xs) {g : Nat} (hg : v.ownBlock = some g) : B ≤ g ∧ ∃ cur, w.heap[g]? = some (.cells cur e (0, 0)) := by
  rcases h.2 with ⟨rfl, _⟩ | ⟨g', cap, cur, rfl, e2, e3, _⟩
  · cases hg
  · cases hg; exact ⟨e2, cur, e3⟩
theorem inOrder_take {secs : List Sec} {ws : List Nat} {i : Nat} {x : Nat} {s : Sec} (hx : ws[i]? = some x) (hs : secs.find? (fun s => decide (s.width = x)) = some s) : inOrder secs (ws.take (i + 1)) = inOrder secs (ws.take i) ++ [s.two] := by
  have hlt := (List.getElem?_eq_some_iff.1 hx).1
  have he := (List.getElem?_eq_some_iff.1 hx).2
  rw [List.take_succ_eq_append_getElem hlt, he]
  simp [inOrder, hs]
theorem inOrder_le {secs : List Sec} {ws : List Nat} (i : Nat) : (secsBytes (inOrder secs (ws.take i))).length ≤ (secsBytes (inOrder secs ws)).length := by
  have : inOrder secs ws = inOrder secs (ws.take i) ++ inOrder secs (ws.drop i) := by rw [inOrder, inOrder, inOrder, ← List.filterMap_append, List.take_append_drop]
  rw [this, secsBytes_append, List.length_append]; omega
theorem make32 (n : Nat) (hn : n ≤ 1000000) (W : World) : (Instr.makeSlice 326 (.int .i64 0) (.int .i64 (n : Int))).run Tryz.prog W = .ok (.slice (some ⟨W.heap.size, 0, none⟩) 0 n) (W.alloc (.cells (Array.replicate n (Value.int .u32 0)) 103)) := by
  obtain ⟨i0, hi, hz0, hz1, hz2⟩ := info_parts info_u32
  have h := run_make (P := Tryz.prog) W 326 103 i0 (.int .u32 0) Tryz.underlying326 hi hz0 .i64 .i64 0 (n : Int) (by omega) (by omega) (by rw [hz2]; omega) (by omega)
  rw [hz1] at h
  simp only [Int.toNat_natCast, Nat.mul_one, Int.toNat_zero] at h
  rw [h, show (Value.int .u32 0).cells = #[Value.int .u32 0] from rfl, madeCells_one, List.toArray_replicate]

set_option maxRecDepth 100000 in
set_option maxHeartbeats 3200000 in
theorem MwMarshal_ok (B b mk most : Nat) (bs : List UInt8) (a : Addr) (secs : List Sec) (w : World) (hsort : SortsTo 214 .u32 103 most) (hmost : secs.length ≤ most) (h : BufAt w B b bs) (hB : B ≤ w.heap.size) (hM : MwAt w a mk secs)
    (hab : a.block < B) (hmk : mk < B) (hgd : ∀ s ∈ secs, s.gd < B) (hw : ∀ s ∈ secs, s.width < 4294967296) (hlen : secs.length ≤ 1000000) (hlim : bs.length + 4 + (secsBytes (sortedSecs secs)).length ≤ 1099511627776) :
    Calls Tryz.prog 200 #[.pointer (some a), .iface 55 (.pointer (some ⟨b, 0, none⟩))] w fun e w' =>
      e = .returned (.tuple #[.int .u64 ((4 + (secsBytes (sortedSecs secs)).length : Nat) : Int), .nilIface]) ∧ BufAt w' B b (bs ++ mwBytes (sortedSecs secs)) ∧ WrK B b w w' := by
  obtain ⟨i0, hi, hz0, hz1, hz2⟩ := info_parts info_u32
  have hBb : B ≤ b := h.1
  have ca := hM.cell
  have hln := hM.map.len (P := Tryz.prog) Tryz.underlying133 3
  rw [List.length_map] at hln
  have hlw : IntKind.u32.wrap (secs.length : Int) = (secs.length : Int) := by rw [IntKind.wrap_u32]; omega
  go_enter Tryz.func200, Tryz.ntmps200
  go_wp2_with fail
  refine (zzWrite32_ok B b bs secs.length (by omega) w h hB (by omega)).mono ?_
  rintro e w1 ⟨rfl, hB1, hK1⟩
  have hM1 := hK1.mw hM hab hmk hgd
  have hz1' := hK1.bel.size
  have ca1 := hM1.cell
  have hln1 := hM1.map.len (P := Tryz.prog) Tryz.underlying133 3
  rw [List.length_map] at hln1
  have hmk1 := make32 secs.length hlen
  have hal : a.block < w1.heap.size := by omega
  have hBw1 : B ≤ w1.heap.size := by omega
  clear hln ca h
  have hown0 : (w1.alloc (.cells (Array.replicate secs.length (Value.int .u32 0)) 103)).ownsRow w1.heap.size 103 1 (.slice (some ⟨w1.heap.size, 0, none⟩) 0 secs.length) 0 [] :=
    World.ownsRow_made w1 _ secs.length (Nat.le_refl _) (by unfold maxLen; omega) (by simp)
  have hIm1 : ImAt (w1.alloc (.cells (Array.replicate secs.length (Value.int .u32 0)) 103)) mk .u32 (secs.map Sec.pair) := hM1.map.upd (heap_alloc_old _ _ hM1.map.lt)
  go_wp2_with (at_range; refine step_range_im rfl _ 133 rfl Tryz.underlying133 rfl hIm1 ?_; intro w2 hIt2 hb2 hs2)
  have er : (w1.alloc (.cells (Array.replicate secs.length (Value.int .u32 0)) 103)).heap.size = w1.heap.size + 1 := by simp
  have hown2 := own_kp hown0 (Kp.of_below (S := fun _ => False) hb2) (fun _ _ => id)
  have hB2 := (hB1.below (below_boxed w1 _)).below hb2
  have hK2 : WrK B b w w2 := (hK1.trans (WrK.of_below (below_boxed w1 _) hBw1)).trans (WrK.of_below hb2 (by omega))
  have hbl1 := hB1.lt
  clear hb2 hown0 hIm1 hmk1 hln1 hB1 hK1
  generalize (w1.alloc (.cells (Array.replicate secs.length (Value.int .u32 0)) 103)).heap.size = r at *
  have hr1 : w1.heap.size < r := by omega
  have hr2 : r < w2.heap.size := by omega
  clear er hs2
  go_frame
  go_loopw [8] (fun v8 wr => ∃ (done : List (Int × Value)) (ws : List Nat), ItAt wr r mk .u32 (secs.map Sec.pair) done ∧ done.map (·.1) = ws.map (fun x : Nat => (x : Int)) ∧ wr.ownsRow w1.heap.size 103 1 v8 ws.length (ws.map (numV .u32)) ∧ v8 ≠ .slice none 0 0 ∧ BufAt wr B b (bs ++ Lib.leBytes 4 secs.length) ∧ WrK B b w wr ∧ r < wr.heap.size) (fun _ wr => secs.length - (wr.iterSeen r).size)
  case atStart => exact ⟨[], [], hIt2, rfl, hown2, by simp, hB2, hK2, hr2⟩
  case round =>
    clear hIt2 hown2 hB2 hK2
    obtain ⟨done, ws, hIt, hdw, hown, hnn, hBf, hK, hzr⟩ := hrel
    have hseen := hIt.seen
    have HSN := Lib.hid hseen; have HDW := Lib.hid hdw
    clear hseen hdw
    go_wp2_with (at_next; refine step_next_im rfl _ rfl rfl hIt ?_ ?_)
    · intro hperm
      have hwp : ws.Perm (secs.map Sec.width) := by
        have h1 := hperm.map (·.1)
        rw [HDW.out, List.map_map] at h1
        have h2 : (secs.map ((fun p : Int × Value => p.1) ∘ Sec.pair)) = (secs.map Sec.width).map (fun x : Nat => (x : Int)) := by rw [List.map_map]; rfl
        rw [h2] at h1
        exact perm_map_inj (fun a b h => by have h' : (a : Int) = (b : Int) := h; omega) h1
      have hwl : ws.length = secs.length := by have := hwp.length_eq; simpa using this
      obtain ⟨g, cap, cur, rfl, hge, hgc, hgle, hgcm, hgs, htk⟩ : ∃ g cap cur, u8 = .slice (some ⟨g, 0, none⟩) ws.length cap ∧ w1.heap.size ≤ g ∧ wr.heap[g]? = some (.cells cur 103 (0, 0)) ∧ ws.length ≤ cap ∧ cap ≤ maxLen ∧ cur.size = cap * 1 ∧ cur.toList.take (ws.length * 1) = ws.map (numV .u32) := by
        rcases hown.2 with ⟨h, _⟩ | h
        · exact absurd h hnn
        · exact h
      rw [Nat.mul_one] at htk
      have hcur : cur = (ws.map (numV .u32) ++ cur.toList.drop ws.length).toArray := by rw [← htk, List.take_append_drop]
      rw [hcur] at hgc
      generalize cur.toList.drop ws.length = tail at hgc
      have hS := hsort g cap ws tail wr (by omega) hgc
      have HWL := Lib.hid hwl
      clear hcur htk hgs hown hnn hwl
      go_wp2_with fail
      refine hS.mono ?_
      clear hS
      rintro e w5 ⟨rfl, hg5, hK5⟩
      have hbg : b ≠ g := by omega
      have hBf5 : BufAt w5 B b (bs ++ Lib.leBytes 4 secs.length) := hBf.kp hK5 hbg (fun g' cs fz e h => by subst e; rw [hgc] at h; cases h)
      have hK6 : WrK B b w w5 := hK.kp hK5 (fun i hi => by omega) hB
      have hsw : sortN ws = sortN (secs.map Sec.width) := sortN_perm hwp
      have hM5 : MwAt w5 a mk secs := hK6.mw hM hab hmk hgd
      rw [hsw] at hg5
      obtain ⟨sw, hswd⟩ : ∃ sw, sw = sortN (secs.map Sec.width) := ⟨_, rfl⟩
      have hsl : sw.length = secs.length := by rw [hswd, sortN_len, List.length_map]
      have hsec : sortedSecs secs = inOrder secs sw := by rw [hswd]; rfl
      rw [← hswd] at hg5
      have hmem : ∀ (i x : Nat), sw[i]? = some x → ∃ s ∈ secs, s.width = x ∧ secs.find? (fun s => decide (s.width = x)) = some s := by
        intro i x hx
        have h1 : x ∈ sortN (secs.map Sec.width) := by rw [← hswd]; exact List.mem_of_getElem? hx
        obtain ⟨s, hs, e⟩ := List.mem_map.1 (sortN_mem.1 h1)
        exact ⟨s, hs, e, by rw [← e]; exact find_width hs hM.nodup⟩
      have hgz : g < w5.heap.size := (Array.getElem?_eq_some_iff.1 hg5).1
      have hz5 : w1.heap.size < w5.heap.size := by have := hK5.size; omega
      have HSL := Lib.hid hsl; have HSE := Lib.hid hsec; have HME := Lib.hid hmem; have HM := Lib.hid hM
      rw [hsec] at hlim
      clear hswd hsl hsec hmem hM hM1 hIt hBf hK hgc hK5 hwp hperm hsw ca1
      go_wp2_with fail
      go_loopw [6, 49] (fun vl vi wx => ∃ i : Nat, vi = .int .i64 (i : Int) ∧ i ≤ secs.length ∧ vl = .int .u64 ((4 + (secsBytes (inOrder secs (sw.take i))).length : Nat) : Int) ∧ BufAt wx B b (bs ++ (Lib.leBytes 4 secs.length ++ secsBytes (inOrder secs (sw.take i)))) ∧ WrK B b w wx ∧ wx.heap[g]? = some (.cells (sw.map (numV .u32) ++ tail).toArray 103 (0, 0)) ∧ w1.heap.size < wx.heap.size) (fun _ vi _ => secs.length - (intOf vi).toNat)
      case atStart => exact ⟨0, rfl, Nat.zero_le _, rfl, by simpa [inOrder, secsBytes] using hBf5, hK6, hg5, hz5⟩
      case round =>
        clear hBf5 hK6 hg5 hz5 hM5
        obtain ⟨i, rfl, hin, rfl, hBx, hKx, hgx, hzx⟩ := hrel
        have hMx := hKx.mw HM.out hab hmk hgd
        have cax := hMx.cell
        have hle := inOrder_le (secs := secs) (ws := sw) i
        by_cases hlt : i < secs.length
        · obtain ⟨x, hx⟩ : ∃ x, sw[i]? = some x := ⟨_, List.getElem?_eq_getElem (by rw [HSL.out]; exact hlt)⟩
          obtain ⟨s, hsm, rfl, hfd⟩ := HME.out i _ hx
          have htk := inOrder_take hx hfd
          have hxl : (sw.map (numV .u32) ++ tail)[i]? = some (numV .u32 s.width) := by rw [List.getElem?_append_left (by rw [List.length_map, HSL.out]; exact hlt), List.getElem?_map, hx]; rfl
          have hgi := (blk_cell' hgx i).trans (show _ = some (Value.int .u32 (s.width : Int)) by rw [List.getElem?_toArray]; exact hxl)
          have hiw : i < ws.length := by rw [HWL.out]; exact hlt
          have hlk := hMx.map.look (P := Tryz.prog) Tryz.underlying133 Tryz.underlying103 (k := (s.width : Int)) (v := s.val) (by rw [find_sec, show (fun t : Sec => decide ((t.width : Int) = (s.width : Int))) = fun t => decide (t.width = s.width) from funext fun s => decide_eq_decide.2 (by omega), hfd]; rfl) false
          simp only [Bool.false_eq_true, if_false] at hlk
          have hrow := hMx.row s hsm
          have hgs := hgd s hsm
          have hsw32 := hw s hsm
          have hTK : Hid (inOrder secs (sw.take (i + 1)) = inOrder secs (sw.take i) ++ [s.two]) := Lib.hid htk
          obtain ⟨ln, hln⟩ : ∃ ln, ln = s.data.length / s.width := ⟨_, rfl⟩
          have hsv : s.val = .agg #[.int .u32 (s.width : Int), .int .u64 (ln : Int), .slice (some ⟨s.gd, 0, none⟩) s.data.length s.data.length] := by unfold Sec.val; rw [hln]
          rw [hsv] at hlk
          have hle1 := inOrder_le (secs := secs) (ws := sw) (i + 1)
          have hL1 : (secsBytes (inOrder secs (sw.take (i + 1)))).length = (secsBytes (inOrder secs (sw.take i))).length + (12 + s.data.length) := by
            rw [htk, secsBytes_append, List.length_append]; simp [secsBytes, secBytes_len, Sec.two]
          have hbel : Below wr.heap.size wr (wr.alloc (.cells #[.int .u32 (s.width : Int), .int .u64 (ln : Int), .slice (some ⟨s.gd, 0, none⟩) s.data.length s.data.length] 287)) := below_boxed wr _
          have hSM := SwMarshal_ok B b wr.heap.size s.gd s.width ln _ s.data _ (hBx.below hbel) (by simp; omega) (heap_alloc_last wr _) ((hbel.block _ (Array.getElem?_eq_some_iff.1 hrow).1).trans hrow) (by have := hBx.lt; omega) hgs hsw32 (by simp only [List.length_append, le4_len]; omega)
          have HL1 : Hid (4 + (secsBytes (inOrder secs (sw.take (i + 1)))).length = 4 + (secsBytes (inOrder secs (sw.take i))).length + (12 + s.data.length)) := Lib.hid (by omega)
          have hlb : (secsBytes (inOrder secs (sw.take i))).length + s.data.length ≤ 1099511627776 := by omega
          have hzx2 : B ≤ wr.heap.size := by omega
          have hKy := hKx.trans (WrK.of_below (b := b) hbel hzx2)
          have hgw : g ≠ b := fun e => hbg e.symm
          have hgy : (wr.alloc (.cells #[.int .u32 (s.width : Int), .int .u64 (ln : Int), .slice (some ⟨s.gd, 0, none⟩) s.data.length s.data.length] 287)).heap[g]? = some (.cells (sw.map (numV .u32) ++ tail).toArray 103 (0, 0)) := (hbel.block _ (Array.getElem?_eq_some_iff.1 hgx).1).trans hgx
          clear htk hfd hx hxl hsv hln hL1 hle hle1 hBx hrow hgx hKx hbel hMx
          generalize hWx : (secsBytes (inOrder secs (sw.take i))).length = Li at *
          have HWx := Lib.hid hWx; clear hWx
          go_wp2_with fail
          refine hSM.mono ?_
          clear hSM
          rintro e wy ⟨rfl, hBy, hKs⟩
          have hgy2 := hKs.cells hgy hgw (fun c fz e => by cases e)
          have hKy2 := hKy.trans hKs
          have hzy : w1.heap.size < wy.heap.size := by have := hKs.bel.size; simp at this; omega
          clear hgy hKy hKs hlk hgi
          go_wp2_with fail
          go_roundw
          case rel =>
            refine ⟨i + 1, by go_num, by omega, ?_, ?_, hKy2, hgy2, hzy⟩
            · rw [HL1.out]; go_num
            · rw [hTK.out, secsBytes_append]; simpa [List.append_assoc, secsBytes, Sec.two] using hBy
          case measure => simp [intOf]; omega
        · obtain rfl : i = secs.length := by omega
          rw [List.take_of_length_le (Nat.le_of_eq HSL.out), ← HSE.out] at hBx
          have HBX := Lib.hid hBx
          have hTK : Hid (inOrder secs (sw.take secs.length) = sortedSecs secs) := Lib.hid (by rw [List.take_of_length_le (Nat.le_of_eq HSL.out), HSE.out])
          have hnl : ws.length ≤ secs.length := by rw [HWL.out]; exact Nat.le_refl _
          clear hBx hle
          go_wp2_with fail
          go_ret2
          refine ⟨?_, ?_, hKx⟩
          · rw [hTK.out]; rfl
          · have hb := HBX.out
            rw [mwBytes, show (sortedSecs secs).length = secs.length from sortedSecs_len HM.out.nodup]
            exact hb
    · intro k v w3 s hsm hsp hdl hIt3 hK3 hs3 hen
      obtain ⟨rfl, rfl⟩ : (s.width : Int) = k ∧ s.val = v := by simpa [Sec.pair] using hsp
      have hrit : ∃ o, wr.heap[r]? = some o ∧ ∀ c t fz, o ≠ .cells c t fz := by
        obtain ⟨es, clock, since, seen, c0, g1, g2, g3⟩ := hIt
        exact ⟨_, g2, fun c t fz e => by cases e⟩
      have hor : u8.ownBlock ≠ some r := by
        intro e
        obtain ⟨_, cur, hc⟩ := own_cells hown e
        obtain ⟨o, ho, hno⟩ := hrit
        rw [ho] at hc; cases hc; exact hno _ _ _ rfl
      have hom : u8.ownBlock ≠ some mk := by
        intro e
        obtain ⟨hle, cur, hc⟩ := own_cells hown e
        omega
      have hown3 := own_kp hown hK3 (fun g e h => by subst h; exact hor e)
      have hBf3 : BufAt w3 B b (bs ++ Lib.leBytes 4 secs.length) := hBf.kp hK3 (by omega) (fun g cs fz e h => by
        subst e
        obtain ⟨o, ho, hno⟩ := hrit
        rw [ho] at h; cases h; exact hno _ _ _ rfl)
      have hwl : ws.length < secs.length := by
        have := congrArg List.length HDW.out
        simp only [List.length_map] at this
        omega
      have HK3 : Hid (WrK B b w w3) := Lib.hid (hK.kp hK3 (fun i hi => by omega) hB)
      have hsz3 : r < w3.heap.size := by omega
      have hsw := hw s hsm
      clear hIt hown hBf hsp hrit hs3 hK
      go_wp2_with (at_builtin; refine wpList_append_own _ rfl _ _ 326 rfl w1.heap.size 103 i0 (.int .u32 0) 1 4 Tryz.underlying326 hi hz0 hz1 hz2 rfl (by decide) _ _ _ rfl (hown3.alloc _) ⟨w3.heap.size, 0, none⟩ 1 1 [.int .u32 (s.width : Int)] rfl rfl (one_cell _ _ _) (ints_oneCell .u32 [(s.width : Int)]) ?c3 ?c4 ?c5 ?_)
      case c3 => unfold maxLen; omega
      case c4 => omega
      case c5 => simp; omega
      intro v' w4 hown4 hgrow hn4
      have hobk : ∀ g, u8.ownBlock = some g → w1.heap.size ≤ g ∧ ∃ cur, w3.heap[g]? = some (.cells cur 103 (0, 0)) := fun g e => own_cells hown3 e
      have hkg := kp_grown hgrow
      have hz4 : w3.heap.size < w4.heap.size := by have := hgrow.size; simp at this; omega
      have hIt4 : ItAt w4 r mk .u32 (secs.map Sec.pair) (done ++ [((s.width : Int), s.val)]) := (hIt3.kp (kp_alloc w3 _) id id).kp hkg (fun e => hom e.symm) (fun e => hor e.symm)
      have hBf4 : BufAt w4 B b (bs ++ Lib.leBytes 4 secs.length) := (hBf3.below (below_boxed w3 _)).kp hkg (fun e => by have := (hobk b e.symm).1; omega) (fun g cs fz e h => by
        obtain ⟨_, cur, hc⟩ := hobk g e.symm
        rw [heap_alloc_old _ _ (Array.getElem?_eq_some_iff.1 hc).1, hc] at h
        cases h)
      have hK4 : WrK B b w w4 := (HK3.out.kp (kp_alloc w3 _) (fun _ h => h.elim) hB).kp hkg (fun i e => by have := (hobk i e.symm).1; omega) hB
      have hd4 : (done ++ [((s.width : Int), s.val)]).map (·.1) = (ws ++ [s.width]).map (fun x : Nat => (x : Int)) := by rw [List.map_append, List.map_append, HDW.out]; rfl
      have ho4 : w4.ownsRow w1.heap.size 103 1 v' (ws ++ [s.width]).length ((ws ++ [s.width]).map (numV .u32)) := by
        rw [List.length_append, List.map_append]; exact hown4
      have hm4 : secs.length - (w4.iterSeen r).size < secs.length - (wr.iterSeen r).size := by
        rw [hIt4.seen, HSN.out]; simp only [List.length_append, List.length_cons, List.length_nil]; omega
      have HM4 := Lib.hid hm4; have HD4 := Lib.hid hd4
      clear hobk hkg hgrow hIt3 hBf3 hown3 hown4 hd4 hm4 hen
      go_wp2_with fail
      go_roundw
      case rel => exact ⟨_, _, hIt4, HD4.out, ho4, by simpa using hn4, hBf4, hK4, by omega⟩
      case measure => exact HM4.out
end Go.Proofs.YtgdgmegpacmgnaaGreatDoor

/- The index 0x0401 is written. -/
namespace Go.Proofs.YtgdgmegpacmgnaaGreatDoor
open Go.RowKit
set_option linter.unusedVariables false
set_option linter.unusedSimpArgs false
attribute [local go_sem] setCell_drewN alloc_drewN

set_option maxRecDepth 100000 in
set_option maxHeartbeats 1600000 in
theorem CoMarshal_ok (B b most : Nat) (bs : List UInt8) (c : Cod) (w : World) (hsort : SortsTo 214 .u32 103 most) (hmost : c.secs.length ≤ most) (h : BufAt w B b bs) (hB : B ≤ w.heap.size) (hC : CodAt w c) (hcode : c.code < 18446744073709551616)
    (hab : c.cb < B) (hmk : c.mb < B) (hgd : ∀ s ∈ c.secs, s.gd < B) (hw : ∀ s ∈ c.secs, s.width < 4294967296) (hlen : c.secs.length ≤ 1000000) (hlim : bs.length + 12 + (secsBytes (sortedSecs c.secs)).length ≤ 1099511627776) :
    Calls Tryz.prog 188 #[.pointer (some ⟨c.cb, 0, none⟩), .iface 55 (.pointer (some ⟨b, 0, none⟩))] w fun e w' =>
      e = .returned (.tuple #[.int .u64 ((12 + (secsBytes (sortedSecs c.secs)).length : Nat) : Int), .nilIface]) ∧ BufAt w' B b (bs ++ codBytes (c.code, sortedSecs c.secs)) ∧ WrK B b w w' := by
  have hBb : B ≤ b := h.1
  have cc := hC.code
  have hW := zzWrite64_ok B b bs c.code hcode w h hB (by omega)
  go_enter Tryz.func188, Tryz.ntmps188
  go_wp2_with fail
  refine hW.mono ?_
  clear hW
  rintro e w1 ⟨rfl, hb1, hK1⟩
  have hM1 : MwAt w1 ⟨c.cb, 0, none⟩ c.mb c.secs := hK1.mw hC.mw hab hmk hgd
  have hM := MwMarshal_ok B b c.mb most (bs ++ Lib.leBytes 8 c.code) ⟨c.cb, 0, none⟩ c.secs w1 hsort hmost hb1 (by have := hK1.bel.size; omega) hM1 hab hmk hgd hw hlen (by rw [List.length_append, le8_len]; omega)
  clear hM1 hC h cc
  go_wp2_with fail
  refine hM.mono ?_
  clear hM
  rintro e w2 ⟨rfl, hb2, hK2⟩
  generalize hS : (secsBytes (sortedSecs c.secs)).length = sl at *
  have hs2 : IntKind.u64.wrap (8 + ((4 + sl : Nat) : Int)) = ((12 + sl : Nat) : Int) := by rw [IntKind.wrap_u64]; omega
  go_wp2_with fail
  go_ret2
  exact ⟨tuple2 (int_eq (by rw [hS]; show (8 : Int) + (4 + (sl : Int)) = ((12 + sl : Nat) : Int); omega)), by rw [codBytes, ← List.append_assoc]; exact hb2, hK1.trans hK2⟩

theorem infoC64 : (Tryz.prog.info? 22).map (fun i => (i.zero, i.size, i.bytes)) = some (some (.int .u64 0), 1, 8) := by kernel_rfl
theorem make64 (n : Nat) (hn : n ≤ 1000000) (W : World) : (Instr.makeSlice 66 (.int .i64 0) (.int .i64 (n : Int))).run Tryz.prog W = .ok (.slice (some ⟨W.heap.size, 0, none⟩) 0 n) (W.alloc (.cells (Array.replicate n (Value.int .u64 0)) 22)) := by
  obtain ⟨i0, hi, hz0, hz1, hz2⟩ := info_parts infoC64
  have h := run_make (P := Tryz.prog) W 66 22 i0 (.int .u64 0) Tryz.underlying66 hi hz0 .i64 .i64 0 (n : Int) (by omega) (by omega) (by rw [hz2]; omega) (by omega)
  rw [hz1] at h
  simp only [Int.toNat_natCast, Nat.mul_one, Int.toNat_zero] at h
  rw [h, show (Value.int .u64 0).cells = #[Value.int .u64 0] from rfl, madeCells_one, List.toArray_replicate]

set_option maxRecDepth 100000 in
set_option maxHeartbeats 3200000 in
theorem MhCodes_ok (most : Nat) (a : Addr) (mk : Nat) (cs : List Cod) (w : World) (hsort : SortsTo 198 .u64 22 most) (hmost : cs.length ≤ most) (hM : MhAt w a mk cs) (hlen : cs.length ≤ 1000000) :
    Calls Tryz.prog 187 #[.pointer (some a)] w fun e w' => ∃ g cap tail, e = .returned (.slice (some ⟨g, 0, none⟩) cs.length cap) ∧
      w'.heap[g]? = some (.cells ((sortN (cs.map Cod.code)).map (numV .u64) ++ tail).toArray 22 (0, 0)) ∧ w.heap.size ≤ g ∧ Below w.heap.size w w' := by
  obtain ⟨i0, hi, hz0, hz1, hz2⟩ := info_parts infoC64
  have ca := hM.cell
  have hln := hM.map.len (P := Tryz.prog) Tryz.underlying136 3
  rw [List.length_map] at hln
  have hmk1 := make64 cs.length hlen
  have hal := World.block_lt_of_cell? w _ ca
  have hmkl := hM.map.lt
  have hown0 : (w.alloc (.cells (Array.replicate cs.length (Value.int .u64 0)) 22)).ownsRow w.heap.size 22 1 (.slice (some ⟨w.heap.size, 0, none⟩) 0 cs.length) 0 [] :=
    World.ownsRow_made w _ cs.length (Nat.le_refl _) (by unfold maxLen; omega) (by simp)
  have hIm1 : ImAt (w.alloc (.cells (Array.replicate cs.length (Value.int .u64 0)) 22)) mk .u64 (cs.map Cod.pair) := hM.map.upd (heap_alloc_old _ _ hM.map.lt)
  have hb1 : Below w.heap.size w (w.alloc (.cells (Array.replicate cs.length (Value.int .u64 0)) 22)) := below_boxed w _
  go_enter Tryz.func187, Tryz.ntmps187
  go_wp2_with (at_range; refine step_range_im rfl _ 136 rfl Tryz.underlying136 rfl hIm1 ?_; intro w2 hIt2 hb2 hs2)
  have er : (w.alloc (.cells (Array.replicate cs.length (Value.int .u64 0)) 22)).heap.size = w.heap.size + 1 := by simp
  have hown2 := own_kp hown0 (Kp.of_below (S := fun _ => False) hb2) (fun _ _ => id)
  have hB2 : Below w.heap.size w w2 := hb1.trans (hb2.mono (by omega))
  clear hb2 hown0 hIm1 hmk1 hb1
  generalize (w.alloc (.cells (Array.replicate cs.length (Value.int .u64 0)) 22)).heap.size = r at *
  have hr1 : w.heap.size < r := by omega
  have hr2 : r < w2.heap.size := by omega
  clear er hs2
  go_frame
  go_loopw [3] (fun v3 wr => ∃ (done : List (Int × Value)) (ws : List Nat), ItAt wr r mk .u64 (cs.map Cod.pair) done ∧ done.map (·.1) = ws.map (fun x : Nat => (x : Int)) ∧ wr.ownsRow w.heap.size 22 1 v3 ws.length (ws.map (numV .u64)) ∧ v3 ≠ .slice none 0 0 ∧ Below w.heap.size w wr ∧ r < wr.heap.size) (fun _ wr => cs.length - (wr.iterSeen r).size)
  case atStart => exact ⟨[], [], hIt2, rfl, hown2, by simp, hB2, hr2⟩
  case round =>
    clear hIt2 hown2 hB2
    obtain ⟨done, ws, hIt, hdw, hown, hnn, hB, hzr⟩ := hrel
    have hseen := hIt.seen
    have HSN := Lib.hid hseen; have HDW := Lib.hid hdw
    clear hseen hdw
    go_wp2_with (at_next; refine step_next_im rfl _ rfl rfl hIt (fun hperm => later ?_) (fun p w3 hpm hdl hIt3 hK3 hs3 hen => later ?_))
    · have hwp : ws.Perm (cs.map Cod.code) := by
        have h1 := hperm.map (·.1)
        rw [HDW.out, List.map_map] at h1
        have h2 : (cs.map ((fun p : Int × Value => p.1) ∘ Cod.pair)) = (cs.map Cod.code).map (fun x : Nat => (x : Int)) := by rw [List.map_map]; rfl
        rw [h2] at h1
        exact perm_map_inj (fun a b h => by have h' : (a : Int) = (b : Int) := h; omega) h1
      have hwl : ws.length = cs.length := by have := hwp.length_eq; simpa using this
      obtain ⟨g, cap, cur, rfl, hge, hgc, hgle, hgcm, hgs, htk⟩ : ∃ g cap cur, u3 = .slice (some ⟨g, 0, none⟩) ws.length cap ∧ w.heap.size ≤ g ∧ wr.heap[g]? = some (.cells cur 22 (0, 0)) ∧ ws.length ≤ cap ∧ cap ≤ maxLen ∧ cur.size = cap * 1 ∧ cur.toList.take (ws.length * 1) = ws.map (numV .u64) := by
        rcases hown.2 with ⟨h, _⟩ | h
        · exact absurd h hnn
        · exact h
      rw [Nat.mul_one] at htk
      have hcur : cur = (ws.map (numV .u64) ++ cur.toList.drop ws.length).toArray := by rw [← htk, List.take_append_drop]
      rw [hcur] at hgc
      generalize cur.toList.drop ws.length = tail at hgc
      have hS := hsort g cap ws tail wr (by omega) hgc
      have HWL := Lib.hid hwl
      clear hcur htk hgs hown hnn hwl
      refine now ?_
      go_wp2_with fail
      refine hS.mono ?_
      clear hS
      rintro e w5 ⟨rfl, hg5, hK5⟩
      have hsw : sortN ws = sortN (cs.map Cod.code) := sortN_perm hwp
      rw [hsw] at hg5
      have hB5 : Below w.heap.size w w5 := hK5.to_below hB (fun i e => by omega)
      clear hsw hwp hperm hgc hK5 hB
      go_wp2_with fail
      go_ret
      exact ⟨g, cap, tail, by rw [HWL.out]; rfl, hg5, hge, hB5⟩
    · obtain ⟨c, hcm, rfl⟩ := List.mem_map.1 hpm
      have hrit : ∃ o, wr.heap[r]? = some o ∧ ∀ c t fz, o ≠ .cells c t fz := by
        obtain ⟨es, clock, since, seen, c0, g1, g2, g3⟩ := hIt
        exact ⟨_, g2, fun c t fz e => by cases e⟩
      have hor : u3.ownBlock ≠ some r := by
        intro e
        obtain ⟨_, cur, hc⟩ := own_cells hown e
        obtain ⟨o, ho, hno⟩ := hrit
        rw [ho] at hc; cases hc; exact hno _ _ _ rfl
      have hom : u3.ownBlock ≠ some mk := by
        intro e
        obtain ⟨hle, cur, hc⟩ := own_cells hown e
        omega
      have hown3 := own_kp hown hK3 (fun g e h => by subst h; exact hor e)
      have hwl : ws.length < cs.length := by
        have := congrArg List.length HDW.out
        simp only [List.length_map] at this hdl
        omega
      have hB3 : Below w.heap.size w w3 := hK3.to_below hB (fun i e => by omega)
      have hsz3 : r < w3.heap.size := by omega
      have hpr : c.pair = ((c.code : Int), .pointer (some ⟨c.cb, 0, none⟩)) := rfl
      rw [hpr] at hIt3 hen
      simp only [hpr] at *
      clear hIt hown hrit hs3 hB hpm hpr
      refine now ?_
      go_wp2_with (at_builtin; refine wpList_append_own _ rfl _ _ 66 rfl w.heap.size 22 i0 (.int .u64 0) 1 8 Tryz.underlying66 hi hz0 hz1 hz2 rfl (by decide) _ _ _ rfl (hown3.alloc _) ⟨w3.heap.size, 0, none⟩ 1 1 [.int .u64 (c.code : Int)] rfl rfl (one_cell _ _ _) (ints_oneCell .u64 [(c.code : Int)]) ?c3 ?c4 ?c5 ?_)
      case c3 => unfold maxLen; omega
      case c4 => omega
      case c5 => simp; omega
      intro v' w4 hown4 hgrow hn4
      have hobk : ∀ g, u3.ownBlock = some g → w.heap.size ≤ g := fun g e => (own_cells hown3 e).1
      have hkg := kp_grown hgrow
      have hz4 : w3.heap.size < w4.heap.size := by have := hgrow.size; simp at this; omega
      have hIt4 : ItAt w4 r mk .u64 (cs.map Cod.pair) (done ++ [((c.code : Int), .pointer (some ⟨c.cb, 0, none⟩))]) := (hIt3.kp (kp_alloc w3 _) id id).kp hkg (fun e => hom e.symm) (fun e => hor e.symm)
      have hB4 : Below w.heap.size w w4 := hkg.to_below (below_box hB3 _) (fun i e => hobk i e.symm)
      have hd4 : (done ++ [((c.code : Int), Value.pointer (some ⟨c.cb, 0, none⟩))]).map (·.1) = (ws ++ [c.code]).map (fun x : Nat => (x : Int)) := by rw [List.map_append, List.map_append, HDW.out]; rfl
      have ho4 : w4.ownsRow w.heap.size 22 1 v' (ws ++ [c.code]).length ((ws ++ [c.code]).map (numV .u64)) := by
        rw [List.length_append, List.map_append]; exact hown4
      have hm4 : cs.length - (w4.iterSeen r).size < cs.length - (wr.iterSeen r).size := by
        simp only [List.length_map] at hdl
        rw [hIt4.seen, HSN.out]; simp only [List.length_append, List.length_cons, List.length_nil]; omega
      have HM4 := Lib.hid hm4; have HD4 := Lib.hid hd4
      clear hobk hkg hgrow hIt3 hown3 hown4 hd4 hm4 hen
      go_wp2_with fail
      go_roundw
      case rel => exact ⟨_, _, hIt4, HD4.out, ho4, by simpa using hn4, hB4, by omega⟩
      case measure => exact HM4.out
end Go.Proofs.YtgdgmegpacmgnaaGreatDoor
