import Derived.Test.YtnhhhjnhmbhdgaaGreatDoorG12
import Derived.Test.YtnhhhjnhmbhdgaaGreatDoorG14
import Derived.Test.YtnhhhjnhmbhdgaaGreatDoorG08
import Derived.Sort.LotA
import Derived.Test.YtnhhhjnhmbhdgaaGreatDoorG00
import Derived.Shelf.SlSortFuncK.SWK
import Derived.Shelf.GgSortMore.Stable
/- spec.Codes: the codes of entries' hash functions. -/
namespace Go.Proofs.YtnhhhjnhmbhdgaaGreatDoor
open Go.RowKit Go.Lib Go.Sort
set_option linter.unusedVariables false
set_option linter.unusedSimpArgs false
attribute [local go_sem] setCell_drewN alloc_drewN

def codeStep (acc : List Nat) (x : CidOf × Int) : List Nat := if x.1.code ∈ acc then acc else acc ++ [x.1.code]
/-- The codes of entries' hash functions, each once. -/
def codesOf (l : List (CidOf × Int)) : List Nat := l.foldl codeStep []
theorem codesOf_snoc (l : List (CidOf × Int)) (x : CidOf × Int) : codesOf (l ++ [x]) = codeStep (codesOf l) x := by simp [codesOf]
theorem codesOf_le (l : List (CidOf × Int)) : (codesOf l).length ≤ l.length := by
  have : ∀ (l : List (CidOf × Int)) (acc : List Nat), (l.foldl codeStep acc).length ≤ acc.length + l.length := by
    intro l
    induction l with
    | nil => intro acc; simp
    | cons x l ih =>
      intro acc
      have h := ih (codeStep acc x)
      have h2 : (codeStep acc x).length ≤ acc.length + 1 := by unfold codeStep; split <;> simp
      simp only [List.foldl_cons, List.length_cons]; omega
  have h := this l []
  simpa [codesOf] using h
/-- Numbers in a variable, in a row behind it. -/
def BoxU (w : World) (ob : Nat) (os : List Nat) : Prop := ∃ v, w.heap[ob]? = some (.cells #[v] 29 (0, 0)) ∧ w.ownsRow (ob + 1) 23 1 v os.length (os.map offVal) ∧ (v = .slice none 0 0 → os = [])
theorem BoxU.lt {w : World} {ob : Nat} {os : List Nat} (h : BoxU w ob os) : ob < w.heap.size := by obtain ⟨v, h1, _⟩ := h; exact (Array.getElem?_eq_some_iff.1 h1).1
theorem BoxU.kp {S : Nat → Prop} {w w' : World} {ob : Nat} {os : List Nat} (h : BoxU w ob os) (k : Kp S w w') (hs : ¬ S ob) (hv : ∀ g cs, w.heap[g]? = some (.cells cs 23 (0, 0)) → ¬ S g) : BoxU w' ob os := by
  obtain ⟨v, h1, h2, h3⟩ := h
  refine ⟨v, (k.block _ (Array.getElem?_eq_some_iff.1 h1).1 hs).trans h1, own_kp h2 k fun g e => ?_, h3⟩
  obtain ⟨_, cur, hc⟩ := own_cells h2 e
  exact hv g cur hc
theorem BoxU.alloc {w : World} {ob : Nat} {os : List Nat} (h : BoxU w ob os) (o : Obj) : BoxU (w.alloc o) ob os := h.kp (S := fun _ => False) (kp_alloc w o) id (fun _ _ _ => id)
/-- The numbers are put in order. -/
theorem perm_sortN {os : List Nat} {l' : List Int} (hP : l'.Perm (os.map fun n : Nat => (n : Int))) (hS : l'.Pairwise (· ≤ ·)) : l' = (sortN os).map fun n : Nat => (n : Int) := by
  rw [← sortInts_eq]
  have tr : ∀ a b c : Int, decide (a ≤ b) = true → decide (b ≤ c) = true → decide (a ≤ c) = true := fun a b c h1 h2 => by simp only [decide_eq_true_eq] at *; omega
  have to : ∀ a b : Int, (decide (a ≤ b) || decide (b ≤ a)) = true := fun a b => by simp only [Bool.or_eq_true, decide_eq_true_eq]; omega
  refine List.Perm.eq_of_pairwise (le := fun a b => decide (a ≤ b) = true) (fun a b _ _ h1 h2 => ?_) (hS.imp fun h => by simpa using h) (List.pairwise_mergeSort tr to _) (hP.trans (List.mergeSort_perm _ _).symm)
  simp only [decide_eq_true_eq] at h1 h2; omega
theorem map_offVal (os : List Nat) : os.map offVal = (os.map fun n : Nat => (n : Int)).map (Value.int .u64) := by rw [List.map_map]; rfl

set_option maxRecDepth 100000 in
set_option maxHeartbeats 3200000 in
/-- The variable's numbers are sorted by sort.Slice, through a closure that sees the variable. -/
theorem sortBox (f : Nat) (hL : LessU f) (eg : ∀ args w, (callFunc f args).run Tryz.prog w = .ok (.enter f args) w) (ob : Nat) (os : List Nat) (v : Value) (w : World) (hos : os.length ≤ 1000000) (hb : w.heap[ob]? = some (.cells #[v] 29 (0, 0))) (hown : w.ownsRow (ob + 1) 23 1 v os.length (os.map offVal)) (hn : v = .slice none 0 0 → os = []) :
    Calls Tryz.prog 13 #[.iface 29 v, .func (.func f) #[] #[.pointer (some ⟨ob, 0, none⟩)]] w fun e w' => e = .returned (.tuple #[]) ∧ w'.heap[ob]? = some (.cells #[v] 29 (0, 0)) ∧ OutOf w' (ob + 1) v (sortN os) ∧ Below (ob + 1) w w' := by
  have hlt := (Array.getElem?_eq_some_iff.1 hb).1
  by_cases hnil : v = .slice none 0 0
  · have h0 := hn hnil
    subst hnil; subst h0
    refine (Any.sort_Slice_tiny Tryz.laysGg6 29 23 u64sT u64E (by kernel_rfl) (by kernel_rfl) (by kernel_rfl) (by kernel_rfl) 11 (fun w => by kernel_rfl) none 0 0 (by omega) 44 (by kernel_rfl) _ _ _ w).mono ?_
    rintro e w' ⟨rfl, os, rfl⟩
    refine ⟨rfl, (heap_grow_old w os hlt).trans hb, ⟨by simp [sortN], .inl ⟨rfl, by simp [sortN]⟩⟩, rfl, rfl, rfl, by rw [size_grow]; omega, fun i hi => heap_grow_old w os (by omega)⟩
  · obtain ⟨g, cap, cur, rfl, hge, hgc, hgle, hgcm, hgs, htk⟩ : ∃ g cap cur, v = .slice (some ⟨g, 0, none⟩) os.length cap ∧ ob + 1 ≤ g ∧ w.heap[g]? = some (.cells cur 23 (0, 0)) ∧ os.length ≤ cap ∧ cap ≤ maxLen ∧ cur.size = cap * 1 ∧ cur.toList.take (os.length * 1) = os.map offVal := by
      rcases hown.2 with ⟨h, _⟩ | h
      · exact absurd h hnil
      · exact h
    rw [Nat.mul_one] at htk hgs
    have hS := SliceU64 f hL eg g cap ob (os.map fun n : Nat => (n : Int)) cur w (by simpa using hos) hgc (by simp; omega) (by rw [List.length_map, htk, map_offVal]) (by rw [List.length_map]; exact (blk_cell' hb 0).trans rfl) (by omega)
    rw [List.length_map] at hS
    refine hS.mono ?_
    rintro e w' ⟨rfl, l', cur', hP, hg', hcs, htk', hPw, hK⟩
    have hl' := perm_sortN hP hPw
    have hll : l'.length = os.length := by rw [hP.length_eq, List.length_map]
    refine ⟨rfl, (hK.block ob hlt (by omega)).trans hb, ⟨by simp, .inr ⟨g, cap, cur', by rw [sortN_len], hge, hg', by rw [sortN_len]; exact hgle, hgcm, by omega, ?_⟩⟩, ?_⟩
    · rw [Nat.mul_one, sortN_len, ← hll, htk', hl', ← map_offVal]
    · exact ⟨hK.os, hK.tape, hK.output, hK.size, fun i hi => hK.block i (by omega) (by omega)⟩

set_option maxRecDepth 100000 in
set_option maxHeartbeats 3200000 in
theorem Codes_ok (l : List (CidOf × Int)) (A : Option Addr) (cap : Nat) (w : World) (hR : RowsAt w A l) (hlen : l.length ≤ 1000000) (hcap : l.length ≤ cap) :
    Calls Tryz.prog 38 #[.slice A l.length cap] w fun e w' => ∃ v, e = .returned v ∧ OutOf w' w.heap.size v (sortN (codesOf l)) ∧ Below w.heap.size w w' := by
  obtain ⟨i0, ti, tz0, tz1, tz2⟩ := info_parts info_u64
  have hmm := @run_makeMap Tryz.prog
  go_enter Tryz.func38, Tryz.ntmps38
  go_wp2_with fail
  go_loopw [10] (fun vi wr => ∃ k : Nat, k ≤ l.length ∧ vi = .int .i64 (k : Int) ∧ ImAt wr (w.heap.size + 1) .u64 (seenPairs (codesOf (l.take k))) ∧ BoxU wr w.heap.size (codesOf (l.take k)) ∧ Below w.heap.size w wr ∧ w.heap.size + 1 < wr.heap.size) (fun vi _ => l.length - (intOf vi).toNat)
  case atStart =>
    refine ⟨0, Nat.zero_le _, rfl, ?_, ?_, by (repeat (first | (with_reducible exact Below.refl _ _) | (with_reducible exact below_boxed _ _) | (with_reducible refine below_box ?_ _) | (with_reducible refine below_drew1 ?_) | (with_reducible refine below_drewn ?_ _) | (with_reducible refine below_bytes ?_ _ _) | (with_reducible refine below_next ?_ (by assumption)) | (with_reducible refine below_set ?_ (by first | (simp; done) | (simp; omega) | omega) _))), by simp⟩
    · have := ImAt.made (w.alloc (.cells #[.slice none 0 0] 29)) .u64
      simpa [codesOf, seenPairs] using this
    · exact BoxU.alloc ⟨_, heap_alloc_new w _, World.ownsRow_nil _ _ _ _, fun _ => rfl⟩ _
  case round =>
    obtain ⟨k, hk, rfl, hI, hBx, hB, hz⟩ := hrel
    by_cases hlt : k < l.length
    · obtain ⟨x, hx⟩ : ∃ x, l[k]? = some x := ⟨_, List.getElem?_eq_getElem hlt⟩
      obtain ⟨g0, o, rfl, hg0, r0, r1, r2, r3, r4⟩ := hR.row hB hx
      have htk := take_snoc' hx
      have hwl := codesOf_le (l.take k)
      rw [List.length_take] at hwl
      obtain ⟨ws, hws⟩ : ∃ ws, ws = codesOf (l.take k) := ⟨_, rfl⟩
      rw [← hws] at hI hBx hwl
      have HW : Hid (codesOf (l.take (k + 1)) = codeStep ws x) := Lib.hid (by rw [htk, codesOf_snoc, hws])
      have hg0r : g0 < wr.heap.size := by have := hB.size; omega
      clear hws htk hx
      have hIb := (hI.upd (w' := wr.alloc (.cells #[.int .u64 x.1.ver, .int .u64 x.1.codec, .int .u64 x.1.code, .string (sOf x.1.dig), .int .u64 x.2] 37)) (heap_alloc_old _ _ hI.lt))
      have hOb := hBx.alloc (.cells #[.int .u64 x.1.ver, .int .u64 x.1.codec, .int .u64 x.1.code, .string (sOf x.1.dig), .int .u64 x.2] 37)
      have hbb : Below w.heap.size w (wr.alloc (.cells #[.int .u64 x.1.ver, .int .u64 x.1.codec, .int .u64 x.1.code, .string (sOf x.1.dig), .int .u64 x.2] 37)) := below_box hB _
      by_cases hmem : x.1.code ∈ ws
      · have hlk := hIb.look (P := Tryz.prog) Tryz.underlying133 Tryz.underlying23 (k := (x.1.code : Int)) (v := .bool true) (by rw [ilook_seen, if_pos hmem]) false
        simp only [Bool.false_eq_true, if_false] at hlk
        have HWW : Hid (codesOf (l.take (k + 1)) = ws) := Lib.hid (by rw [HW.out, codeStep, if_pos hmem])
        clear hmem hBx hI
        go_wp2_with fail
        go_roundw
        case rel => exact ⟨k + 1, by omega, by go_num, by rw [HWW.out]; exact hIb, by rw [HWW.out]; exact hOb, hbb, by simp; omega⟩
        case measure => simp [intOf]; omega
      · have hlk := hIb.look_no (P := Tryz.prog) Tryz.underlying133 Tryz.underlying23 (k := (x.1.code : Int)) (by rw [ilook_seen, if_neg hmem]) false _ boolZero
        simp only [Bool.false_eq_true, if_false] at hlk
        have HWW : Hid (codesOf (l.take (k + 1)) = ws ++ [x.1.code]) := Lib.hid (by rw [HW.out, codeStep, if_neg hmem])
        have HMem := Lib.hid hmem
        have hzb : wr.heap.size < (wr.alloc (.cells #[.int .u64 x.1.ver, .int .u64 x.1.codec, .int .u64 x.1.code, .string (sOf x.1.dig), .int .u64 x.2] 37)).heap.size := by simp
        have hbxe := heap_alloc_new wr (.cells #[.int .u64 x.1.ver, .int .u64 x.1.codec, .int .u64 x.1.code, .string (sOf x.1.dig), .int .u64 x.2] 37)
        clear hmem hBx hI
        go_wp2_with (at_mapUpdate; refine step_put_im rfl _ _ _ 133 rfl Tryz.underlying133 Tryz.underlying23 rfl hIb (k := (x.1.code : Int)) (val := .bool true) rfl rfl ?_; intro w3 hI3 hK3 hs3; refine later ?_)
        rw [iput_seen HMem.out] at hI3
        have hO3 : BoxU w3 w.heap.size ws := hOb.kp hK3 (by omega) (fun g cs hc e => by
          have e' : g = w.heap.size + 1 := e
          subst e'
          obtain ⟨es, cl, hm, _⟩ := hIb
          rw [hm] at hc; cases hc)
        have hB3 : Below w.heap.size w w3 := hbb.trans ⟨hK3.os, hK3.tape, hK3.output, hK3.size, fun i hi => hK3.block i (by have := hbb.size; omega) (by omega)⟩
        have hbx3 := (hK3.block wr.heap.size hzb (by omega)).trans hbxe
        have q2 := (blk_cell' hbx3 2).trans (show _ = some (Value.int .u64 x.1.code) from rfl)
        have hz3 : wr.heap.size < w3.heap.size := by omega
        obtain ⟨v3, hb3, hown3, hn3⟩ := hO3
        have c3 := (blk_cell' hb3 0).trans (show _ = some v3 from rfl)
        clear hIb hOb hbb hlk hK3 hs3 hzb hB hbxe hbx3
        refine now ?_
        go_wp2_with (at_builtin; refine wpList_append_own _ rfl _ _ 29 rfl (w.heap.size + 1) 23 i0 (.int .u64 0) 1 8 Tryz.underlying29 ti tz0 tz1 tz2 rfl (by decide) _ _ _ rfl (hown3.alloc _) ⟨w3.heap.size, 0, none⟩ 1 1 [.int .u64 (x.1.code : Int)] rfl rfl (one_cell _ _ _) (ints_oneCell .u64 [(x.1.code : Int)]) ?c3 ?c4 ?c5 ?_)
        case c3 => unfold maxLen; omega
        case c4 => omega
        case c5 => simp; omega
        intro v' w4 hown4 hgrow hnn
        have hvo : ∀ j, v3.ownBlock = some j → w.heap.size + 1 ≤ j ∧ j < w3.heap.size := hown3.lt
        have hne3 : v3.ownBlock ≠ some (w.heap.size + 1) := by
          intro e
          obtain ⟨_, cur, hc⟩ := own_cells hown3 e
          obtain ⟨es, cl, hm, _⟩ := hI3
          rw [hm] at hc; cases hc
        have hI4 : ImAt w4 (w.heap.size + 1) .u64 (seenPairs (ws ++ [x.1.code])) := (hI3.kp (kp_alloc w3 _) id).kp (kp_grown hgrow) (fun e => hne3 e.symm)
        have hb4 : w4.heap[w.heap.size]? = some (.cells #[v3] 29 (0, 0)) := (hgrow.block _ (by simp; omega) (fun e => by have := (hvo _ e.symm).1; omega)).trans ((heap_alloc_old w3 _ (by omega)).trans hb3)
        have f4 := blk_free' hb4 0
        have c4 := (blk_cell' hb4 0).trans (show _ = some v3 from rfl)
        have hB4 : Below w.heap.size w w4 := (below_box hB3 _).trans ⟨hgrow.os, hgrow.tape, hgrow.output, hgrow.size, fun i hi => hgrow.block i (by simp; omega) (fun e => by have := (hvo i e.symm).1; omega)⟩
        have hz4 : w.heap.size + 1 < w4.heap.size := by have := hgrow.size; simp at this; omega
        rcases hown4.2 with ⟨_, hbad⟩ | ⟨g, capg, cur, rfl, hge, hg, hle, hcm, hcs, htk⟩
        · simp at hbad
        have hne : g ≠ w.heap.size := by omega
        clear hown4 hgrow hI3 hown3 hB3 hvo hnn c3 hb3 q2
        go_wp2_with fail
        go_roundw
        case rel =>
          have hb5 : (w4.setCell ⟨w.heap.size, 0, none⟩ (.slice (some ⟨g, 0, none⟩) (ws.length + 1) capg)).heap[w.heap.size]? = some (.cells #[.slice (some ⟨g, 0, none⟩) (ws.length + 1) capg] 29 (0, 0)) := by
            rw [setCell_eq_setRow w4 w.heap.size 0 _ _ _ _ hb4, setRow_heap w4 w.heap.size _ _ _ _ hb4]; rfl
          refine ⟨k + 1, by omega, by go_num, ?_, ?_, hB4.setCell (Nat.le_refl _) _, by simpa using hz4⟩
          · rw [HWW.out]; exact hI4.upd (Below.heap_setCell _ _ _ _ (by show w.heap.size + 1 ≠ w.heap.size; omega))
          · rw [HWW.out]
            refine ⟨_, hb5, ⟨by simp, .inr ⟨g, capg, cur, by simp, hge, (Below.heap_setCell _ _ _ _ hne).trans hg, by simpa using hle, hcm, hcs, ?_⟩⟩, fun e => by cases e⟩
            simp only [List.length_append, List.length_cons, List.length_nil, List.map_append, List.map_cons, List.map_nil, offVal] at htk ⊢
            exact htk
        case measure => simp [intOf]; omega
    · obtain rfl : k = l.length := by omega
      rw [List.take_length] at hI hBx
      have hwl := codesOf_le l
      obtain ⟨ws, hws⟩ : ∃ ws, ws = codesOf l := ⟨_, rfl⟩
      rw [← hws] at hBx hwl
      have HW := Lib.hid hws
      clear hI hws
      obtain ⟨v, hb, hown, hn⟩ := hBx
      have hS := sortBox 77 less_codes (enters_of Tryz.func77 (by kernel_rfl) rfl) w.heap.size ws v wr (by omega) hb hown hn
      have c0 := (blk_cell' hb 0).trans (show _ = some v from rfl)
      have hmf : ∀ (fn : Fn) (first cap : Array Value) (w : World), (Instr.makeFunc fn first cap).run Tryz.prog w = .ok (.func fn first cap) w := fun _ _ _ _ => rfl
      clear hb hown hn
      go_wp2_with fail
      refine hS.mono ?_
      clear hS
      rintro e w1 ⟨rfl, hb1, hO1, hB1⟩
      have c1 := (blk_cell' hb1 0).trans (show _ = some v from rfl)
      go_wp2_with fail
      go_ret
      refine ⟨v, rfl, by rw [← HW.out]; exact hO1.mono (by omega), hB.trans (hB1.mono (by omega))⟩
end Go.Proofs.YtnhhhjnhmbhdgaaGreatDoor

/- spec.Coded: the entries of one hash function. -/
namespace Go.Proofs.YtnhhhjnhmbhdgaaGreatDoor
open Go.RowKit
set_option linter.unusedVariables false
set_option linter.unusedSimpArgs false
attribute [local go_sem] setCell_drewN alloc_drewN

def hasCode (code : Nat) (x : CidOf × Int) : Bool := decide (x.1.code = code)
/-- The entries of one hash function. -/
def codedOf (l : List (CidOf × Int)) (code : Nat) : List (CidOf × Int) := l.filter (hasCode code)
theorem codedOf_snoc (l : List (CidOf × Int)) (x : CidOf × Int) (code : Nat) : codedOf (l ++ [x]) code = if x.1.code = code then codedOf l code ++ [x] else codedOf l code := by
  by_cases h : x.1.code = code <;> simp [codedOf, hasCode, h]
/-- Entries in a row of the call's own. -/
def EntsOf (w : World) (B : Nat) (v : Value) (l : List (CidOf × Int)) : Prop := w.ownsRow B 37 5 v l.length (entRow l)
theorem EntsOf.rows {w : World} {B : Nat} {v : Value} {l : List (CidOf × Int)} (h : EntsOf w B v l) : ∃ A cap, v = .slice A l.length cap ∧ l.length ≤ cap ∧ RowsAt w A l ∧ (∀ g o, A = some ⟨g, o, none⟩ → B ≤ g ∧ g < w.heap.size) := by
  rcases h.2 with ⟨rfl, h0⟩ | ⟨g, cap, cur, rfl, hge, hg, hle, hcm, hcs, htk⟩
  · have hl : l = [] := by
      exact List.length_eq_zero_iff.1 h0
    subst hl
    exact ⟨none, 0, rfl, Nat.le_refl _, .inl rfl, fun g o e => by cases e⟩
  · refine ⟨some ⟨g, 0, none⟩, cap, rfl, hle, ?_, fun g' o e => by cases e; exact ⟨hge, (Array.getElem?_eq_some_iff.1 hg).1⟩⟩
    have : w.heap[g]? = some (.cells (entRow l ++ cur.toList.drop (l.length * 5)).toArray 37 (0, 0)) := by rw [hg, ← htk, List.take_append_drop]
    exact rows_of_cells this

set_option maxRecDepth 100000 in
set_option maxHeartbeats 3200000 in
theorem Coded_ok (l : List (CidOf × Int)) (A : Option Addr) (cap : Nat) (code : Nat) (w : World) (hR : RowsAt w A l) (hlen : l.length ≤ 1000000) (hcap : l.length ≤ cap) :
    Calls Tryz.prog 40 #[.slice A l.length cap, .int .u64 (code : Int)] w fun e w' => ∃ v, e = .returned v ∧ EntsOf w' w.heap.size v (codedOf l code) ∧ Below w.heap.size w w' := by
  obtain ⟨i0, ti, tz0, tz1, tz2⟩ := info_parts entInfo0
  go_enter Tryz.func40, Tryz.ntmps40
  go_wp2_with fail
  go_loopw [5, 10] (fun v5 vi wr => ∃ k : Nat, k ≤ l.length ∧ vi = .int .i64 (k : Int) ∧ EntsOf wr w.heap.size v5 (codedOf (l.take k) code) ∧ Below w.heap.size w wr) (fun _ vi _ => l.length - (intOf vi).toNat)
  case atStart => exact ⟨0, Nat.zero_le _, rfl, World.ownsRow_nil _ _ _ _, Below.refl _ _⟩
  case round =>
    obtain ⟨k, hk, rfl, hO, hB⟩ := hrel
    by_cases hlt : k < l.length
    · obtain ⟨x, hx⟩ : ∃ x, l[k]? = some x := ⟨_, List.getElem?_eq_getElem hlt⟩
      obtain ⟨g0, o, rfl, hg0, r0, r1, r2, r3, r4⟩ := hR.row hB hx
      have htk := take_snoc' hx
      have hcl : (codedOf (l.take k) code).length ≤ k := by
        have := List.length_filter_le (hasCode code) (l.take k)
        rw [List.length_take] at this
        unfold codedOf; omega
      obtain ⟨cs, hcs⟩ : ∃ cs, cs = codedOf (l.take k) code := ⟨_, rfl⟩
      rw [← hcs] at hO hcl
      have HW : Hid (codedOf (l.take (k + 1)) code = if x.1.code = code then cs ++ [x] else cs) := Lib.hid (by rw [htk, codedOf_snoc, hcs])
      have hg0r : g0 < wr.heap.size := by have := hB.size; omega
      clear hcs htk hx
      have hOb : EntsOf (wr.alloc (.cells #[.int .u64 x.1.ver, .int .u64 x.1.codec, .int .u64 x.1.code, .string (sOf x.1.dig), .int .u64 x.2] 37)) w.heap.size u5 cs := hO.alloc _
      have hbb : Below w.heap.size w (wr.alloc (.cells #[.int .u64 x.1.ver, .int .u64 x.1.codec, .int .u64 x.1.code, .string (sOf x.1.dig), .int .u64 x.2] 37)) := below_box hB _
      by_cases hc : x.1.code = code
      · have HWW : Hid (codedOf (l.take (k + 1)) code = cs ++ [x]) := Lib.hid (by rw [HW.out, if_pos hc])
        subst hc
        clear hO
        go_wp2_with (at_builtin; refine later ?_)
        obtain ⟨W2, hW2⟩ : ∃ W2, W2 = ((wr.alloc (.cells #[.int .u64 x.1.ver, .int .u64 x.1.codec, .int .u64 x.1.code, .string (sOf x.1.dig), .int .u64 x.2] 37)).alloc (.cells #[.int .u64 x.1.ver, .int .u64 x.1.codec, .int .u64 x.1.code, .string (sOf x.1.dig), .int .u64 x.2] 37)) := ⟨_, rfl⟩
        have hO2 : EntsOf W2 w.heap.size u5 cs := by rw [hW2]; exact hOb.alloc _
        have hblk : W2.heap[wr.heap.size + 1]? = some (.cells (EntCells x).toArray 37 (0, 0)) := by
          rw [hW2]
          have := heap_alloc_last (wr.alloc (.cells #[.int .u64 x.1.ver, .int .u64 x.1.codec, .int .u64 x.1.code, .string (sOf x.1.dig), .int .u64 x.2] 37)) (.cells #[.int .u64 x.1.ver, .int .u64 x.1.codec, .int .u64 x.1.code, .string (sOf x.1.dig), .int .u64 x.2] 37)
          simpa [EntCells] using this
        have hnews : ∀ j u, (EntCells x)[j]? = some u → W2.cell? ((⟨wr.heap.size + 1, 0, none⟩ : Addr).add j) = some u := fun j u h => by
          have : W2.cell? ⟨wr.heap.size + 1, j, none⟩ = some u := by rw [blk_cell' hblk, List.getElem?_toArray, h]
          by_cases h0 : j = 0
          · subst h0; simpa [Addr.add] using this
          · simpa [Addr.add, h0] using this
        have hB2 : Below w.heap.size w W2 := by rw [hW2]; exact below_box hbb _
        have hz2 : W2.heap.size = wr.heap.size + 2 := by rw [hW2]; simp
        rw [← hW2]
        clear hOb hW2 hbb
        refine now ?_
        refine wpList_append_own_at _ rfl _ _ 22 rfl w.heap.size 37 i0 _ 5 48 Tryz.underlying22 ti tz0 tz1 tz2 rfl (by decide) _ _ _ rfl hO2 ⟨wr.heap.size + 1, 0, none⟩ 1 1 (EntCells x) rfl rfl hnews (ent_one x) ?c3 ?c4 ?c5 ?_
        case c3 => unfold maxLen; omega
        case c4 => omega
        case c5 => exact hB2.size
        intro v' w3 hown hgrow hnn hloc
        have hO3 : EntsOf w3 w.heap.size v' (cs ++ [x]) := by
          unfold EntsOf
          rw [List.length_append, show entRow (cs ++ [x]) = entRow cs ++ EntCells x by simp [entRow]]
          exact hown
        have hB3 : Below w.heap.size w w3 := hB2.trans ⟨hgrow.os, hgrow.tape, hgrow.output, hgrow.size, fun i hi => hgrow.block i (by have := hB2.size; omega) (fun e => by have := (hO2.lt i e.symm).1; omega)⟩
        clear hown hgrow hnn hloc hnews hblk hO2 hB2
        go_wp2_with fail
        go_roundw
        case rel => exact ⟨k + 1, by omega, by go_num, by rw [HWW.out]; exact hO3, hB3⟩
        case measure => simp [intOf]; omega
      · have HWW : Hid (codedOf (l.take (k + 1)) code = cs) := Lib.hid (by rw [HW.out, if_neg hc])
        have hcb : ((x.1.code : Int) == (code : Int)) = false := by simp; omega
        clear hO
        go_wp2_with fail
        go_roundw
        case rel => exact ⟨k + 1, by omega, by go_num, by rw [HWW.out]; exact hOb, hbb⟩
        case measure => simp [intOf]; omega
    · obtain rfl : k = l.length := by omega
      rw [List.take_length] at hO
      go_wp2_with fail
      go_ret
      exact ⟨_, rfl, hO, hB⟩
end Go.Proofs.YtnhhhjnhmbhdgaaGreatDoor

/- The plain theory of the stable sort: exchanges of neighbouring blocks and merges in place. -/
namespace Go.Proofs.YtnhhhjnhmbhdgaaGreatDoor
open Go.Sort
set_option linter.unusedVariables false
set_option linter.unusedSectionVars false
variable {α : Type} [Inhabited α]

/-- The blocks [a, a+n) and [b, b+n) exchanged. -/
def swpG (f : Nat → α) (a b n : Nat) : Nat → α := fun t => if a ≤ t ∧ t < a + n then f (t - a + b) else if b ≤ t ∧ t < b + n then f (t - b + a) else f t
/-- The blocks [a, m) and [m, b) moved past one another. -/
def rotG (f : Nat → α) (a m b : Nat) : Nat → α := fun t => if a ≤ t ∧ t < a + (b - m) then f (t + (m - a)) else if a + (b - m) ≤ t ∧ t < b then f (t - (b - m)) else f t
def SortedF (lt : α → α → Bool) (a b : Nat) (f : Nat → α) : Prop := ∀ i j, a ≤ i → i < j → j < b → lt (f j) (f i) = false

theorem rot_left (f f' : Nat → α) (m i j : Nat) (hi : i ≤ m) (hj : 0 < j) (hij : j < i) (h : ∀ t, f' t = swpG f (m - i) m j t) (t : Nat) :
    rotG f' (m - (i - j)) m (m + j) t = rotG f (m - i) m (m + j) t := by
  simp only [rotG, h, swpG]
  repeat' split
  all_goals first | (exfalso; omega) | (congr 1; omega) | rfl
theorem rot_right (f f' : Nat → α) (m i j : Nat) (hi : i ≤ m) (hi0 : 0 < i) (hij : i < j) (h : ∀ t, f' t = swpG f (m - i) (m + j - i) i t) (t : Nat) :
    rotG f' (m - i) m (m + (j - i)) t = rotG f (m - i) m (m + j) t := by
  simp only [rotG, h, swpG]
  repeat' split
  all_goals first | (exfalso; omega) | (congr 1; omega) | rfl
theorem rot_same (f : Nat → α) (m i : Nat) (hi : i ≤ m) (t : Nat) : swpG f (m - i) m i t = rotG f (m - i) m (m + i) t := by
  simp only [rotG, swpG]
  repeat' split
  all_goals first | (exfalso; omega) | (congr 1; omega) | rfl

theorem swpG_step (d d' : Array α) (a b n : Nat) (f : Nat → α) (hab : a + n < b) (hb : b + n < d'.size) (h : ∀ t, d'[t]! = swpG f a b n t) (t : Nat) :
    (swp d' (a + n) (b + n))[t]! = swpG f a b (n + 1) t := by
  rw [swp_get d' (by omega) hb]
  simp only [h, swpG]
  repeat' split
  all_goals first | (exfalso; omega) | (congr 1; omega) | rfl
theorem swpG_zero (f : Nat → α) (a b t : Nat) : f t = swpG f a b 0 t := by
  simp only [swpG]
  repeat' split
  all_goals first | (exfalso; omega) | rfl

theorem up_step (d' : Array α) (a k : Nat) (f : Nat → α) (hak : a ≤ k) (hk : k + 1 < d'.size) (h : ∀ t, d'[t]! = rotG f a (a + 1) (k + 1) t) (t : Nat) :
    (swp d' k (k + 1))[t]! = rotG f a (a + 1) (k + 2) t := by
  rw [swp_get d' (by omega) hk]
  simp only [h, rotG]
  repeat' split
  all_goals first | (exfalso; omega) | (congr 1; omega) | rfl
theorem up_zero (f : Nat → α) (a t : Nat) : f t = rotG f a (a + 1) (a + 1) t := by
  simp only [rotG]
  repeat' split
  all_goals first | (exfalso; omega) | (congr 1; omega) | rfl
theorem down_step (d' : Array α) (k m : Nat) (f : Nat → α) (hk : 0 < k) (hkm : k ≤ m) (hm : m < d'.size) (h : ∀ t, d'[t]! = rotG f k m (m + 1) t) (t : Nat) :
    (swp d' k (k - 1))[t]! = rotG f (k - 1) m (m + 1) t := by
  rw [swp_get d' (by omega) (by omega)]
  simp only [h, rotG]
  repeat' split
  all_goals first | (exfalso; omega) | (congr 1; omega) | rfl
theorem down_zero (f : Nat → α) (m t : Nat) : f t = rotG f m m (m + 1) t := by
  simp only [rotG]
  repeat' split
  all_goals first | (exfalso; omega) | (congr 1; omega) | rfl
theorem rot_none (f : Nat → α) (s m e t : Nat) (h : s = m ∨ e = m) (hs : s ≤ m) (he : m ≤ e) : f t = rotG f s m e t := by
  simp only [rotG]
  repeat' split
  all_goals first | (exfalso; omega) | (congr 1; omega) | rfl

section
variable {lt : α → α → Bool} (hO : SWO lt)
include hO
theorem swo_lt_of_le {x y z : α} (h1 : lt y x = false) (h2 : lt y z = true) : lt x z = true := by
  cases h : lt x z with
  | true => rfl
  | false => rw [hO.ntrans y x z h1 h] at h2; cases h2
theorem swo_asymm {x y : α} (h : lt x y = true) : lt y x = false := by
  cases h' : lt y x with
  | false => rfl
  | true => have := hO.trans x y x h h'; rw [hO.irrefl] at this; cases this
theorem sortedF_le {a b : Nat} {f : Nat → α} (h : SortedF lt a b f) {i j : Nat} (hi : a ≤ i) (hij : i ≤ j) (hj : j < b) : lt (f j) (f i) = false := by
  rcases Nat.lt_or_eq_of_le hij with h1 | h1
  · exact h i j hi h1 hj
  · subst h1; exact hO.irrefl _

/-- One element ahead of a sorted block, put where it belongs. -/
theorem merge_up {a b i : Nat} {f : Nat → α} (h : SortedF lt (a + 1) b f) (hi : a + 1 ≤ i) (hib : i ≤ b) (hl : ∀ c, a + 1 ≤ c → c < i → lt (f c) (f a) = true) (hr : ∀ c, i ≤ c → c < b → lt (f c) (f a) = false) :
    SortedF lt a b (rotG f a (a + 1) i) := by
  intro x y hx hxy hy
  simp only [rotG]
  repeat' split
  all_goals first
    | (exfalso; omega)
    | (refine sortedF_le hO h ?_ ?_ ?_ <;> omega)
    | (rw [show x - (i - (a + 1)) = a by omega]; exact hr _ (by omega) (by omega))
    | (rw [show y - (i - (a + 1)) = a by omega]; exact swo_asymm hO (hl _ (by omega) (by omega)))
/-- One element behind a sorted block, put where it belongs. -/
theorem merge_down {a m i : Nat} {f : Nat → α} (h : SortedF lt a m f) (hi : a ≤ i) (him : i ≤ m) (hl : ∀ c, a ≤ c → c < i → lt (f m) (f c) = false) (hr : ∀ c, i ≤ c → c < m → lt (f m) (f c) = true) :
    SortedF lt a (m + 1) (rotG f i m (m + 1)) := by
  intro x y hx hxy hy
  simp only [rotG]
  repeat' split
  all_goals first
    | (exfalso; omega)
    | (refine sortedF_le hO h ?_ ?_ ?_ <;> omega)
    | (rw [show y + (m - i) = m by omega]; exact hl _ (by omega) (by omega))
    | (rw [show x + (m - i) = m by omega]; exact swo_asymm hO (hr _ (by omega) (by omega)))

theorem cross {a m b mid s s0 r0 : Nat} {f : Nat → α} (hA : SortedF lt a m f) (hB : SortedF lt m b f) (ham : a < m) (hmb : m < b) (hmid : mid = (a + b) / 2)
    (hcase : (mid < m ∧ s0 = mid + m - b ∧ r0 = mid) ∨ (m ≤ mid ∧ s0 = a ∧ r0 = m)) (hs0 : s0 ≤ s) (hsr : s ≤ r0)
    (hl : ∀ c, s0 ≤ c → c < s → lt (f (mid + m - 1 - c)) (f c) = false) (hr : ∀ c, s ≤ c → c < r0 → lt (f (mid + m - 1 - c)) (f c) = true) :
    ∀ x y, a ≤ x → x < mid → mid ≤ y → y < b → lt (rotG f s m (mid + m - s) y) (rotG f s m (mid + m - s) x) = false := by
  have hse : s ≤ m ∧ s ≤ mid := by omega
  intro x y hx hxm hy hyb
  by_cases hxs : x < s
  · by_cases hye : y < mid + m - s
    · have e1 : rotG f s m (mid + m - s) x = f x := by simp only [rotG]; (repeat' split) <;> first | (exfalso; omega) | rfl
      have e2 : rotG f s m (mid + m - s) y = f (y - (mid - s)) := by simp only [rotG]; (repeat' split) <;> first | (exfalso; omega) | (congr 1; omega)
      rw [e1, e2]
      exact sortedF_le hO hA hx (by omega) (by omega)
    · have e1 : rotG f s m (mid + m - s) x = f x := by simp only [rotG]; (repeat' split) <;> first | (exfalso; omega) | rfl
      have e2 : rotG f s m (mid + m - s) y = f y := by simp only [rotG]; (repeat' split) <;> first | (exfalso; omega) | rfl
      rw [e1, e2]
      have h1 := hl (s - 1) (by omega) (by omega)
      rw [show mid + m - 1 - (s - 1) = mid + m - s by omega] at h1
      have h2 : lt (f y) (f (mid + m - s)) = false := sortedF_le hO hB (by omega) (by omega) hyb
      have h3 : lt (f (s - 1)) (f x) = false := sortedF_le hO hA hx (by omega) (by omega)
      exact hO.ntrans _ _ _ h2 (hO.ntrans _ _ _ h1 h3)
  · by_cases hye : y < mid + m - s
    · have e1 : rotG f s m (mid + m - s) x = f (x + (m - s)) := by simp only [rotG]; (repeat' split) <;> first | (exfalso; omega) | rfl
      have e2 : rotG f s m (mid + m - s) y = f (y - (mid - s)) := by simp only [rotG]; (repeat' split) <;> first | (exfalso; omega) | (congr 1; omega)
      rw [e1, e2]
      have h1 := swo_asymm hO (hr s (Nat.le_refl _) (by omega))
      have h2 : lt (f (y - (mid - s))) (f s) = false := sortedF_le hO hA (by omega) (by omega) (by omega)
      have h3 : lt (f (mid + m - 1 - s)) (f (x + (m - s))) = false := sortedF_le hO hB (by omega) (by omega) (by omega)
      exact hO.ntrans _ _ _ h2 (hO.ntrans _ _ _ h1 h3)
    · have e1 : rotG f s m (mid + m - s) x = f (x + (m - s)) := by simp only [rotG]; (repeat' split) <;> first | (exfalso; omega) | rfl
      have e2 : rotG f s m (mid + m - s) y = f y := by simp only [rotG]; (repeat' split) <;> first | (exfalso; omega) | rfl
      rw [e1, e2]
      exact sortedF_le hO hB (by omega) (by omega) hyb
omit hO in
theorem rot_parts {a m b mid s : Nat} {f : Nat → α} (hA : SortedF lt a m f) (hB : SortedF lt m b f) (has : a ≤ s) (hsm : s ≤ m) (hs : s ≤ mid) (he : mid + m - s ≤ b) :
    SortedF lt a s (rotG f s m (mid + m - s)) ∧ SortedF lt s mid (rotG f s m (mid + m - s)) ∧ SortedF lt mid (mid + m - s) (rotG f s m (mid + m - s)) ∧ SortedF lt (mid + m - s) b (rotG f s m (mid + m - s)) := by
  refine ⟨?_, ?_, ?_, ?_⟩ <;> intro x y hx hxy hy <;> simp only [rotG] <;> repeat' split
  all_goals first | (exfalso; omega) | (refine hA _ _ ?_ ?_ ?_ <;> omega) | (refine hB _ _ ?_ ?_ ?_ <;> omega)
end

/-- Halves that are sorted, none of the second less than one of the first. -/
theorem sorted_join {lt : α → α → Bool} {a mid b : Nat} {d : Array α} (h1 : SortedIn lt a mid d) (h2 : SortedIn lt mid b d) (hx : ∀ x y, a ≤ x → x < mid → mid ≤ y → y < b → lt d[y]! d[x]! = false) : SortedIn lt a b d := by
  intro i j hi hij hj
  by_cases h : j < mid
  · exact h1 i j hi hij h
  · by_cases h' : i < mid
    · exact hx i j hi h' (by omega) hj
    · exact h2 i j (by omega) hij hj
theorem cross_perm {lt : α → α → Bool} {a mid b : Nat} {d d1 d2 : Array α} (ham : a ≤ mid) (hmb : mid ≤ b) (hb : b ≤ d.size) (h1 : PermIn a mid d d1) (h2 : PermIn mid b d1 d2)
    (hx : ∀ x y, a ≤ x → x < mid → mid ≤ y → y < b → lt d[y]! d[x]! = false) : ∀ x y, a ≤ x → x < mid → mid ≤ y → y < b → lt d2[y]! d2[x]! = false := by
  intro x y hx1 hx2 hy1 hy2
  rw [h2.2.1 x (.inl hx2)]
  have s1 : d1.size = d.size := h1.1
  refine permIn_all d1 d2 mid b (fun v => lt v d1[x]! = false) (by omega) h2 (fun i hi1 hi2 => ?_) y hy1 hy2
  rw [h1.2.1 i (.inr hi1)]
  exact permIn_all d d1 a mid (fun v => lt d[i]! v = false) (by omega) h1 (fun j hj1 hj2 => hx j i hj1 hj2 hi1 hi2) x hx1 hx2
/-- A part that is sorted stays so where another part alone is turned. -/
theorem sorted_other {lt : α → α → Bool} {a b c e : Nat} {d d' : Array α} (h : SortedIn lt a b d) (hp : PermIn c e d d') (hd : b ≤ c ∨ e ≤ a) : SortedIn lt a b d' :=
  fun i j hi hij hj => by rw [hp.2.1 i (by omega), hp.2.1 j (by omega)]; exact h i j hi hij hj
end Go.Proofs.YtnhhhjnhmbhdgaaGreatDoor

/- The stable sort of elements of k cells: swapRange_func, rotate_func. -/
namespace Go.Proofs.YtnhhhjnhmbhdgaaGreatDoor
open Go.Shelf Go.RowKit Go.Lib Go.Sort
set_option linter.unusedVariables false
set_option linter.unusedSimpArgs false
attribute [local go_sem] setCell_drewN alloc_drewN
variable {α : Type} [Inhabited α]

theorem swk_trans {enc : α → List Value} {k : Nat} {w0 W W' : World} {blk off : Nat} {dk dk' : Array α} (h : SWK enc k w0 blk off dk W) (h' : SWK enc k W blk off dk' W') (hblk : blk < w0.heap.size) (hs : dk'.size = dk.size) : SWK enc k w0 blk off dk' W' := by
  obtain ⟨n, os, rfl⟩ := h'
  exact h.on hblk n dk' os hs
theorem swk_cell {enc : α → List Value} {k : Nat} {w0 W : World} {blk off : Nat} {dk : Array α} (h : SWK enc k w0 blk off dk W) {p : Addr} {v : Value} (hv : w0.cell? p = some v) (hb : p.block ≠ blk) : W.cell? p = some v := by
  obtain ⟨n, os, rfl⟩ := h
  have hlt := World.block_lt_of_cell? w0 p hv
  unfold sortWorldK
  rw [cell?_grow _ _ _ (by rw [size_putRowK]; exact hlt), cell?_putRowK_other enc k _ blk off dk _ hb]
  exact hv
theorem holdsK_alloc {enc : α → List Value} {k : Nat} {w : World} {blk off : Nat} {d : Array α} (h : HoldsK enc k w blk off d) (hblk : blk < w.heap.size) (o : Obj) : HoldsK enc k (w.alloc o) blk off d := by
  rw [alloc_eq_grow]; exact holdsK_grow enc k w _ blk off d hblk h
/-- From a world with a block more. -/
theorem swk_of_alloc {enc : α → List Value} {k : Nat} {w W : World} {o : Obj} {blk off : Nat} {dk d : Array α} (h : SWK enc k (w.alloc o) blk off dk W) (hblk : blk < w.heap.size) (hH : HoldsK enc k w blk off d) (hs : dk.size = d.size) : SWK enc k w blk off dk W :=
  swk_trans ((SWK.start hH).alloc o) h hblk hs

/-- What is asked of 'less': it tells how two elements stand, and leaves the memory but for draws and new blocks. -/
def LessG (g : Nat) (lb : Array Value) (enc : α → List Value) (k : Nat) (lt : α → α → Bool) (blk off size : Nat) (w : World) : Prop :=
  ∀ (dk : Array α) (W : World), dk.size = size → SWK enc k w blk off dk W → ∀ i j : Nat, i < size → j < size →
    Calls Tryz.prog g (#[.int .i64 i, .int .i64 j] ++ lb) W fun e w' => e = .returned (.bool (lt dk[i]! dk[j]!)) ∧ SWK enc k W blk off dk w'
theorem lessG_on {g : Nat} {lb : Array Value} {enc : α → List Value} {k : Nat} {lt : α → α → Bool} {blk off size : Nat} {w W : World} {d : Array α} (h : LessG g lb enc k lt blk off size w) (hS : SWK enc k w blk off d W) (hblk : blk < w.heap.size) (hs : d.size = size) : LessG g lb enc k lt blk off size W :=
  fun dk W' hs' h' i j hi hj => h dk W' hs' (swk_trans hS h' hblk (hs'.trans hs.symm)) i j hi hj

set_option maxHeartbeats 1600000 in
set_option maxRecDepth 100000 in
theorem swapRange_ok (enc : α → List Value) (k : Nat) (hk : ∀ x, (enc x).length = k) (lf : Fn) (la lb : Array Value) (sf : Nat) (sb : Array Value) (blk off a b n : Nat) (d : Array α) (w : World)
    (hswap : SwapSwapsK Tryz.prog sf sb enc k blk off d.size) (hH : HoldsK enc k w blk off d) (hblk : blk < w.heap.size) (hab : a + n ≤ b) (hb : b + n ≤ d.size) (hsz : d.size < 4611686018427387904) :
    Calls Tryz.prog 146 #[.agg #[.func lf la lb, .func (.func sf) #[] sb], .int .i64 a, .int .i64 b, .int .i64 n] w fun e w' => e = .returned (.tuple #[]) ∧ ∃ d', SWK enc k w blk off d' w' ∧ PermIn a (b + n) d d' ∧ ∀ t, d'[t]! = swpG (fun t => d[t]!) a b n t := by
  have hH1 := holdsK_alloc hH hblk (.cells #[.func lf la lb, .func (.func sf) #[] sb] 75)
  have hb1 : blk < (w.alloc (.cells #[.func lf la lb, .func (.func sf) #[] sb] 75)).heap.size := by simp; omega
  go_enter Tryz.func146, Tryz.ntmps146
  go_wp2
  go_loopw [8] (fun vi wr => ∃ (i : Nat) (dk : Array α), vi = .int .i64 (i : Int) ∧ i ≤ n ∧ SWK enc k (w.alloc (.cells #[.func lf la lb, .func (.func sf) #[] sb] 75)) blk off dk wr ∧ dk.size = d.size ∧ PermIn a (b + n) d dk ∧ ∀ t, dk[t]! = swpG (fun t => d[t]!) a b i t) (fun vi _ => n - (intOf vi).toNat)
  case atStart => exact ⟨0, d, rfl, Nat.zero_le _, SWK.start hH1, rfl, permIn_refl _ _ _, fun t => swpG_zero (fun t => d[t]!) a b t⟩
  case round =>
    obtain ⟨i, dk, rfl, hin, hS, hds, hP, hG⟩ := hrel
    by_cases hlt : i < n
    · have hHk := hS.holds hb1 hH1 hds
      have c1 := swk_cell hS (p := ⟨w.heap.size, 1, none⟩) (v := .func (.func sf) #[] sb) (by simp) (by show w.heap.size ≠ blk; omega)
      have hs := hswap wr dk hHk hds (a + i) (b + i) (by omega) (by omega)
      have hS2 := hS.swap hk hb1 (a + i) (b + i) (by omega) (by omega)
      have hP2 := permIn_trans _ _ _ _ _ hP (swp_permIn dk a (b + n) (a + i) (b + i) (by omega) (by omega) (by omega) (by omega) (by omega))
      have hG2 := fun t => swpG_step d dk a b i (fun t => d[t]!) (by omega) (by omega) hG t
      have HX := Lib.hid (And.intro hS2 (And.intro hP2 hG2))
      rw [show ((a + i : Nat) : Int) = (a : Int) + i by omega, show ((b + i : Nat) : Int) = (b : Int) + i by omega] at hs
      clear hS2 hP2 hG2 hS hP hG hHk hH hH1 hswap
      go_wp2
      go_roundw
      case rel => exact ⟨i + 1, swp dk (a + i) (b + i), by go_num, by omega, HX.out.1, by rw [size_swp]; exact hds, HX.out.2.1, HX.out.2.2⟩
      case measure => simp [intOf]; omega
    · obtain rfl : i = n := by omega
      go_wp2
      go_end0
      exact ⟨rfl, dk, swk_of_alloc hS hblk hH hds, hP, hG⟩

set_option maxHeartbeats 1600000 in
set_option maxRecDepth 100000 in
theorem rotate_ok (enc : α → List Value) (k : Nat) (hk : ∀ x, (enc x).length = k) (lf : Fn) (la lb : Array Value) (sf : Nat) (sb : Array Value) (blk off a m b : Nat) (d : Array α) (w : World)
    (hswap : SwapSwapsK Tryz.prog sf sb enc k blk off d.size) (hH : HoldsK enc k w blk off d) (hblk : blk < w.heap.size) (ham : a < m) (hmb : m < b) (hb : b ≤ d.size) (hsz : d.size < 4611686018427387904) :
    Calls Tryz.prog 135 #[.agg #[.func lf la lb, .func (.func sf) #[] sb], .int .i64 a, .int .i64 m, .int .i64 b] w fun e w' => e = .returned (.tuple #[]) ∧ ∃ d', SWK enc k w blk off d' w' ∧ PermIn a b d d' ∧ ∀ t, d'[t]! = rotG (fun t => d[t]!) a m b t := by
  have hH1 := holdsK_alloc hH hblk (.cells #[.func lf la lb, .func (.func sf) #[] sb] 75)
  have hb1 : blk < (w.alloc (.cells #[.func lf la lb, .func (.func sf) #[] sb] 75)).heap.size := by simp; omega
  have hx0 : (w.alloc (.cells #[.func lf la lb, .func (.func sf) #[] sb] 75)).cell? ⟨w.heap.size, 0, none⟩ = some (.func lf la lb) := by simp
  have hx1 : (w.alloc (.cells #[.func lf la lb, .func (.func sf) #[] sb] 75)).cell? ⟨w.heap.size, 1, none⟩ = some (.func (.func sf) #[] sb) := by simp
  have HH := Lib.hid hH
  clear hH
  go_enter Tryz.func135, Tryz.ntmps135
  go_wp2
  go_loopw [8, 9] (fun vi vj wr => ∃ (i j : Nat) (dk : Array α), vi = .int .i64 (i : Int) ∧ vj = .int .i64 (j : Int) ∧ 0 < i ∧ 0 < j ∧ i ≤ m - a ∧ j ≤ b - m ∧ SWK enc k (w.alloc (.cells #[.func lf la lb, .func (.func sf) #[] sb] 75)) blk off dk wr ∧ dk.size = d.size ∧ PermIn a b d dk ∧ ∀ t, rotG (fun t => dk[t]!) (m - i) m (m + j) t = rotG (fun t => d[t]!) a m b t) (fun vi vj _ => (intOf vi).toNat + (intOf vj).toNat)
  case atStart => exact ⟨m - a, b - m, d, by go_num, by go_num, by omega, by omega, Nat.le_refl _, Nat.le_refl _, SWK.start hH1, rfl, permIn_refl _ _ _, fun t => by rw [show m - (m - a) = a by omega, show m + (b - m) = b by omega]⟩
  case round =>
    obtain ⟨i, j, dk, rfl, rfl, hi0, hj0, hi, hj, hS, hds, hP, hG⟩ := hrel
    have hHk := hS.holds hb1 hH1 hds
    have hbk := hS.lt hb1
    have c0 := swk_cell hS hx0 (by show w.heap.size ≠ blk; omega)
    have c1 := swk_cell hS hx1 (by show w.heap.size ≠ blk; omega)
    have hsw : SwapSwapsK Tryz.prog sf sb enc k blk off dk.size := by rw [hds]; exact hswap
    rcases Nat.lt_trichotomy i j with hij | hij | hij
    · have hC := swapRange_ok enc k hk lf la lb sf sb blk off (m - i) (m + j - i) i dk wr hsw hHk hbk (by omega) (by omega) (by omega)
      rw [show ((m - i : Nat) : Int) = (m : Int) - i by omega, show ((m + j - i : Nat) : Int) = (m : Int) + j - i by omega] at hC
      have HX := Lib.hid (And.intro hS (And.intro hP hG))
      clear hS hP hG hHk hsw hswap
      go_wp2_with (refine hC.mono ?_; clear hC; rintro e w1 ⟨rfl, d1, hS1, hP1, hG1⟩)
      go_roundw
      case rel => exact ⟨i, j - i, d1, rfl, by go_num, hi0, by omega, hi, by omega, swk_trans HX.out.1 hS1 hb1 (by rw [hP1.1]), by rw [hP1.1, hds], permIn_trans _ _ _ _ _ HX.out.2.1 (permIn_mono _ _ _ _ _ _ (by omega) (by omega) (by omega) hP1), fun t => by rw [rot_right (fun t => dk[t]!) (fun t => d1[t]!) m i j (by omega) hi0 hij hG1 t]; exact HX.out.2.2 t⟩
      case measure => simp [intOf]; omega
    · subst hij
      have hC := swapRange_ok enc k hk lf la lb sf sb blk off (m - i) m i dk wr hsw hHk hbk (by omega) (by omega) (by omega)
      rw [show ((m - i : Nat) : Int) = (m : Int) - i by omega] at hC
      have HX := Lib.hid (And.intro hS (And.intro hP hG))
      clear hS hP hG hHk hsw hswap
      go_wp2_with (refine hC.mono ?_; clear hC; rintro e w1 ⟨rfl, d1, hS1, hP1, hG1⟩)
      go_end0
      exact ⟨rfl, d1, swk_of_alloc (swk_trans HX.out.1 hS1 hb1 (by rw [hP1.1])) hblk HH.out (by rw [hP1.1, hds]), permIn_trans _ _ _ _ _ HX.out.2.1 (permIn_mono _ _ _ _ _ _ (by omega) (by omega) (by omega) hP1), fun t => by rw [hG1 t, rot_same (fun t => dk[t]!) m i (by omega) t]; exact HX.out.2.2 t⟩
    · have hC := swapRange_ok enc k hk lf la lb sf sb blk off (m - i) m j dk wr hsw hHk hbk (by omega) (by omega) (by omega)
      rw [show ((m - i : Nat) : Int) = (m : Int) - i by omega] at hC
      have HX := Lib.hid (And.intro hS (And.intro hP hG))
      clear hS hP hG hHk hsw hswap
      go_wp2_with (refine hC.mono ?_; clear hC; rintro e w1 ⟨rfl, d1, hS1, hP1, hG1⟩)
      go_roundw
      case rel => exact ⟨i - j, j, d1, by go_num, rfl, by omega, hj0, by omega, hj, swk_trans HX.out.1 hS1 hb1 (by rw [hP1.1]), by rw [hP1.1, hds], permIn_trans _ _ _ _ _ HX.out.2.1 (permIn_mono _ _ _ _ _ _ (by omega) (by omega) (by omega) hP1), fun t => by rw [rot_left (fun t => dk[t]!) (fun t => d1[t]!) m i j (by omega) hj0 hij hG1 t]; exact HX.out.2.2 t⟩
      case measure => simp [intOf]; omega
end Go.Proofs.YtnhhhjnhmbhdgaaGreatDoor
