/- spec.Widths: the lengths of entries' digests. -/
import Derived.Test.YtfjclhfhbclbhaaGreatDoorEs
import Derived.Test.YtfjclhfhbclbhaaGreatDoorLw
import Derived.Test.YtfjclhfhbclbhaaGreatDoorShelf
import Derived.Sort.OwnSortedInts
namespace Go.Proofs.YtfjclhfhbclbhaaGreatDoor
open Go.RowKit
set_option linter.unusedVariables false
set_option linter.unusedSimpArgs false
attribute [local go_sem] setCell_drewN alloc_drewN

def widthStep (acc : List Nat) (x : CidOf × Int) : List Nat := if x.1.dig.length ∈ acc then acc else acc ++ [x.1.dig.length]
/-- The lengths of entries' digests, each once. -/
def widthsOf (l : List (CidOf × Int)) : List Nat := l.foldl widthStep []
theorem widthsOf_snoc (l : List (CidOf × Int)) (x : CidOf × Int) : widthsOf (l ++ [x]) = widthStep (widthsOf l) x := by simp [widthsOf]
theorem take_snoc' {l : List (CidOf × Int)} {k : Nat} {x : CidOf × Int} (h : l[k]? = some x) : l.take (k + 1) = l.take k ++ [x] := by
  have hlt := (List.getElem?_eq_some_iff.1 h).1
  have he := (List.getElem?_eq_some_iff.1 h).2
  rw [List.take_succ_eq_append_getElem hlt, he]
theorem widthsOf_le (l : List (CidOf × Int)) : (widthsOf l).length ≤ l.length := by
  have : ∀ (l : List (CidOf × Int)) (acc : List Nat), (l.foldl widthStep acc).length ≤ acc.length + l.length := by
    intro l
    induction l with
    | nil => intro acc; simp
    | cons x l ih =>
      intro acc
      have h := ih (widthStep acc x)
      have h2 : (widthStep acc x).length ≤ acc.length + 1 := by unfold widthStep; split <;> simp
      simp only [List.foldl_cons, List.length_cons]; omega
  have h := this l []
  simpa [widthsOf] using h

def seenPairs (ws : List Nat) : List (Int × Value) := ws.map fun n : Nat => ((n : Int), .bool true)
theorem ilook_seen {ws : List Nat} {n : Nat} : ilook (seenPairs ws) (n : Int) = if n ∈ ws then some (.bool true) else none := by
  induction ws with
  | nil => rfl
  | cons x l ih =>
    simp only [ilook, seenPairs, List.map_cons, List.find?_cons] at ih ⊢
    by_cases h : x = n
    · subst h; simp
    · have h' : ¬ ((x : Int) = (n : Int)) := by omega
      have h2 : ¬ n = x := fun e => h e.symm
      simp only [h', decide_false]
      rw [ih]
      simp [h2]
theorem iput_seen {ws : List Nat} {n : Nat} (h : n ∉ ws) : iput (seenPairs ws) (n : Int) (.bool true) = seenPairs (ws ++ [n]) := by
  rw [iput_new, seenPairs, seenPairs, List.map_append]; rfl
  intro p hp e
  obtain ⟨x, hx, rfl⟩ := List.mem_map.1 hp
  simp only at e
  exact h (by rw [← show x = n by omega]; exact hx)
theorem sortInts_eq (ws : List Nat) : (ws.map (fun n : Nat => (n : Int))).mergeSort (fun x y => decide (x ≤ y)) = (sortN ws).map (fun n : Nat => (n : Int)) := by
  have tr : ∀ a b c : Int, decide (a ≤ b) = true → decide (b ≤ c) = true → decide (a ≤ c) = true := fun a b c h1 h2 => by simp only [decide_eq_true_eq] at *; omega
  have to : ∀ a b : Int, (decide (a ≤ b) || decide (b ≤ a)) = true := fun a b => by simp only [Bool.or_eq_true, decide_eq_true_eq]; omega
  have trn : ∀ a b c : Nat, decide (a ≤ b) = true → decide (b ≤ c) = true → decide (a ≤ c) = true := fun a b c h1 h2 => by simp only [decide_eq_true_eq] at *; omega
  have ton : ∀ a b : Nat, (decide (a ≤ b) || decide (b ≤ a)) = true := fun a b => by simp only [Bool.or_eq_true, decide_eq_true_eq]; omega
  refine List.Perm.eq_of_pairwise (le := fun a b => decide (a ≤ b) = true) (fun a b _ _ h1 h2 => ?_) (List.pairwise_mergeSort tr to _) ?_ ((List.mergeSort_perm _ _).trans ((List.mergeSort_perm ws _).symm.map _))
  · simp only [decide_eq_true_eq] at h1 h2; omega
  · refine List.pairwise_map.2 ((List.pairwise_mergeSort trn ton ws).imp (fun h => ?_))
    simp only [decide_eq_true_eq] at h ⊢; omega
theorem boolZero (W : World) : (zeroValue 4).run Tryz.prog W = .ok (.bool false) W := by kernel_rfl
theorem info_int : (Tryz.prog.info? 3).map (fun i => (i.zero, i.size, i.bytes)) = some (some (.int .i64 0), 1, 8) := by kernel_rfl
/-- A slice of numbers of the call's own. -/
def IntsOf (w : World) (B : Nat) (v : Value) (l : List Nat) : Prop := w.ownsRow B 3 1 v l.length (l.map (numV .i64))

set_option maxRecDepth 100000 in
set_option maxHeartbeats 3200000 in
theorem Widths_ok (l : List (CidOf × Int)) (A : Option Addr) (cap : Nat) (w : World) (hR : RowsAt w A l) (hlen : l.length ≤ 1000000) (hcap : l.length ≤ cap) (hd : ∀ x ∈ l, x.1.dig.length ≤ 1000000) :
    Calls Tryz.prog 63 #[.slice A l.length cap] w fun e w' => ∃ v, e = .returned v ∧ IntsOf w' w.heap.size v (sortN (widthsOf l)) ∧ Below w.heap.size w w' := by
  obtain ⟨i0, ti, tz0, tz1, tz2⟩ := info_parts info_int
  have hmm := @run_makeMap Tryz.prog
  go_enter Tryz.func63, Tryz.ntmps63
  go_wp2_with fail
  go_loopw [3, 11] (fun v3 vi wr => ∃ k : Nat, k ≤ l.length ∧ vi = .int .i64 (k : Int) ∧ ImAt wr w.heap.size .i64 (seenPairs (widthsOf (l.take k))) ∧ IntsOf wr w.heap.size v3 (widthsOf (l.take k)) ∧ (v3 = .slice none 0 0 → widthsOf (l.take k) = []) ∧ Below w.heap.size w wr ∧ w.heap.size < wr.heap.size) (fun _ vi _ => l.length - (intOf vi).toNat)
  case atStart => exact ⟨0, Nat.zero_le _, rfl, ImAt.made w .i64, ⟨rfl, .inl ⟨rfl, rfl⟩⟩, fun _ => rfl, below_boxed w _, by simp⟩
  case round =>
    obtain ⟨k, hk, rfl, hI, hO, hN, hB, hz⟩ := hrel
    by_cases hlt : k < l.length
    · obtain ⟨x, hx⟩ : ∃ x, l[k]? = some x := ⟨_, List.getElem?_eq_getElem hlt⟩
      obtain ⟨g0, o, rfl, hg0, r0, r1, r2, r3, r4⟩ := hR.row hB hx
      have hsz : (sOf x.1.dig).size = x.1.dig.length := by simp [sOf, ByteArray.size]
      have htk := take_snoc' hx
      have hdx := hd x (List.mem_of_getElem? hx)
      have hwl := widthsOf_le (l.take k)
      rw [List.length_take] at hwl
      obtain ⟨ws, hws⟩ : ∃ ws, ws = widthsOf (l.take k) := ⟨_, rfl⟩
      rw [← hws] at hI hO hN hwl
      have HW : Hid (widthsOf (l.take (k + 1)) = widthStep ws x) := Lib.hid (by rw [htk, widthsOf_snoc, hws])
      have hg0r : g0 < wr.heap.size := by have := hB.size; omega
      clear hws htk hx
      have hIb := (hI.upd (w' := wr.alloc (.cells #[.int .u64 x.1.ver, .int .u64 x.1.codec, .int .u64 x.1.code, .string (sOf x.1.dig), .int .u64 x.2] 54)) (heap_alloc_old _ _ hI.lt))
      have hOb := hO.alloc (.cells #[.int .u64 x.1.ver, .int .u64 x.1.codec, .int .u64 x.1.code, .string (sOf x.1.dig), .int .u64 x.2] 54)
      have hbb : Below w.heap.size w (wr.alloc (.cells #[.int .u64 x.1.ver, .int .u64 x.1.codec, .int .u64 x.1.code, .string (sOf x.1.dig), .int .u64 x.2] 54)) := below_box hB _
      by_cases hmem : x.1.dig.length ∈ ws
      · have hlk := hIb.look (P := Tryz.prog) Tryz.underlying165 Tryz.underlying3 (k := (x.1.dig.length : Int)) (v := .bool true) (by rw [ilook_seen, if_pos hmem]) false
        simp only [Bool.false_eq_true, if_false] at hlk
        have HWW : Hid (widthsOf (l.take (k + 1)) = ws) := Lib.hid (by rw [HW.out, widthStep, if_pos hmem])
        clear hmem hO hI
        go_wp2_with fail
        go_roundw
        case rel => exact ⟨k + 1, by omega, by go_num, by rw [HWW.out]; exact hIb, by rw [HWW.out]; exact hOb, by rw [HWW.out]; exact hN, hbb, by simp; omega⟩
        case measure => simp [intOf]; omega
      · have hlk := hIb.look_no (P := Tryz.prog) Tryz.underlying165 Tryz.underlying3 (k := (x.1.dig.length : Int)) (by rw [ilook_seen, if_neg hmem]) false _ boolZero
        simp only [Bool.false_eq_true, if_false] at hlk
        have HWW : Hid (widthsOf (l.take (k + 1)) = ws ++ [x.1.dig.length]) := Lib.hid (by rw [HW.out, widthStep, if_neg hmem])
        have HMem := Lib.hid hmem
        have hzb : wr.heap.size < (wr.alloc (.cells #[.int .u64 x.1.ver, .int .u64 x.1.codec, .int .u64 x.1.code, .string (sOf x.1.dig), .int .u64 x.2] 54)).heap.size := by simp
        clear hmem hO hI
        go_wp2_with (at_mapUpdate; refine step_put_im rfl _ _ _ 165 rfl Tryz.underlying165 Tryz.underlying3 rfl hIb (k := (x.1.dig.length : Int)) (val := .bool true) rfl rfl ?_; intro w3 hI3 hK3 hs3; refine later ?_)
        rw [iput_seen HMem.out] at hI3
        have hne : u3.ownBlock ≠ some w.heap.size := by
          intro e
          obtain ⟨_, cur, hc⟩ := own_cells hOb e
          obtain ⟨es, cl, hm, _⟩ := hIb
          rw [hm] at hc; cases hc
        have hO3 := own_kp hOb hK3 (fun g e h => by subst h; exact hne e)
        have hB3 : Below w.heap.size w w3 := hbb.trans ⟨hK3.os, hK3.tape, hK3.output, hK3.size, fun i hi => hK3.block i (by have := hbb.size; omega) (by omega)⟩
        have hz3 : wr.heap.size < w3.heap.size := by omega
        clear hIb hOb hbb hlk hK3 hs3 hzb hB
        refine now ?_
        go_wp2_with (at_builtin; refine wpList_append_own_at _ rfl _ _ 151 rfl w.heap.size 3 i0 (.int .i64 0) 1 8 Tryz.underlying151 ti tz0 tz1 tz2 rfl (by decide) _ _ _ rfl (hO3.alloc _) ⟨w3.heap.size, 0, none⟩ 1 1 [.int .i64 (x.1.dig.length : Int)] rfl rfl (one_cell _ _ _) (ints_oneCell .i64 [(x.1.dig.length : Int)]) ?c3 ?c4 ?c5 ?_)
        case c3 => unfold maxLen; omega
        case c4 => omega
        case c5 => simp; omega
        intro v' w4 hown4 hgrow hnn hloc
        have hI4 : ImAt w4 w.heap.size .i64 (seenPairs (ws ++ [x.1.dig.length])) := (hI3.kp (kp_alloc w3 _) id).kp (kp_grown hgrow) (fun e => hne e.symm)
        have hO4 : IntsOf w4 w.heap.size v' (ws ++ [x.1.dig.length]) := by
          unfold IntsOf; rw [List.length_append, List.map_append]; exact hown4
        have hB4 : Below w.heap.size w w4 := (below_box hB3 _).trans ⟨hgrow.os, hgrow.tape, hgrow.output, hgrow.size, fun i hi => hgrow.block i (by simp; omega) (fun e => by have := (hO3.lt i e.symm).1; omega)⟩
        have hz4 : w.heap.size < w4.heap.size := by have := hgrow.size; simp at this; omega
        clear hown4 hgrow hloc hI3 hO3 hB3
        go_wp2_with fail
        go_roundw
        case rel => exact ⟨k + 1, by omega, by go_num, by rw [HWW.out]; exact hI4, by rw [HWW.out]; exact hO4, fun e => absurd e (by simpa using hnn), hB4, hz4⟩
        case measure => simp [intOf]; omega
    · obtain rfl : k = l.length := by omega
      rw [List.take_length] at hI hO hN
      have hwl := widthsOf_le l
      obtain ⟨ws, hws⟩ : ∃ ws, ws = widthsOf l := ⟨_, rfl⟩
      rw [← hws] at hI hO hN hwl
      have HW := Lib.hid hws
      clear hI hws
      by_cases hnil : u3 = .slice none 0 0
      · have hw0 := hN hnil
        subst hnil
        have HW0 := Lib.hid hw0
        clear hN hO hw0
        go_wp2_with fail
        refine (Tryz.sort_Ints_none none 0 _).mono ?_
        rintro e w1 ⟨rfl, rfl⟩
        go_wp2_with fail
        go_ret
        refine ⟨_, rfl, ?_, hB⟩
        rw [← HW.out, HW0.out]
        exact ⟨by simp [sortN], .inl ⟨rfl, by simp [sortN]⟩⟩
      · obtain ⟨g, cap3, cur, rfl, hge, hgc, hgle, hgcm, hgs, htk⟩ : ∃ g cap cur, u3 = .slice (some ⟨g, 0, none⟩) ws.length cap ∧ w.heap.size ≤ g ∧ wr.heap[g]? = some (.cells cur 3 (0, 0)) ∧ ws.length ≤ cap ∧ cap ≤ maxLen ∧ cur.size = cap * 1 ∧ cur.toList.take (ws.length * 1) = ws.map (numV .i64) := by
          rcases hO.2 with ⟨h, _⟩ | h
          · exact absurd h hnil
          · exact h
        rw [Nat.mul_one] at htk
        have htk2 : cur.toList.take (ws.map (fun n : Nat => (n : Int))).length = (ws.map (fun n : Nat => (n : Int))).map (Value.int .i64) := by rw [List.length_map, htk, List.map_map]; rfl
        have hH := holds_of_blockI hgc htk2
        have hS := Tryz.sort_Ints g 0 cap3 (ws.map (fun n : Nat => (n : Int))) wr hH (Array.getElem?_eq_some_iff.1 hgc).1 (by rw [List.length_map]; omega)
        rw [List.length_map, sortInts_eq] at hS
        have HG := Lib.hid (And.intro hgc hgs)
        clear hH htk2 htk hO hN hgc hgs hnil
        go_wp2_with fail
        refine hS.mono ?_
        rintro e w1 ⟨rfl, n, os, rfl⟩
        have hown := ownsRow_sortedI (w := wr) (base := w.heap.size) (n := n) (os := os) (ss := ws.map (fun n : Nat => (n : Int))) (ts := (sortN ws).map (fun n : Nat => (n : Int))) (by simp [sortN_len]) hge HG.out.1 (by simpa using hgle) hgcm HG.out.2
        have hgb := grownBy_sortedI (w := wr) (g := g) (n := n) (os := os) ((sortN ws).map (fun n : Nat => (n : Int))).toArray
        have HO := Lib.hid hown
        clear hown hS
        generalize Sort.grow (Sort.putRow (Value.int .i64) (Sort.ahead wr n) g 0 ((sortN ws).map (fun n : Nat => (n : Int))).toArray) os = W at *
        go_wp2_with fail
        go_ret
        refine ⟨_, rfl, ?_, hB.trans ⟨hgb.os, hgb.tape, hgb.output, hgb.size, fun i hi => hgb.block i (by have := hB.size; omega) (fun e => by cases e; omega)⟩⟩
        have h := HO.out
        rw [List.length_map, List.map_map] at h
        rw [← HW.out]
        unfold IntsOf
        rw [sortN_len]
        exact h
end Go.Proofs.YtfjclhfhbclbhaaGreatDoor
