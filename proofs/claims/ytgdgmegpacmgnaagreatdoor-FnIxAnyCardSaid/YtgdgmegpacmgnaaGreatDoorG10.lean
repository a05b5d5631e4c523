import Derived.Test.YtgdgmegpacmgnaaGreatDoorG06
import Derived.Maps.AppendAt
import Derived.Laws.ShiftsVarLaws
import Derived.Test.YtgdgmegpacmgnaaGreatDoorG09
import Derived.Test.YtgdgmegpacmgnaaGreatDoorShelf
import Derived.Sort.OwnSortedInts
import Derived.Shelf.GgSortMore.Stable
/- spec.low: a number's bytes, appended. -/
namespace Go.Proofs.YtgdgmegpacmgnaaGreatDoor
open Go.RowKit
set_option linter.unusedVariables false
set_option linter.unusedSimpArgs false
attribute [local go_sem] setCell_drewN alloc_drewN

/-- A slice of bytes of the call's own. -/
def RowU (w : World) (B : Nat) (v : Value) (l : List UInt8) : Prop := w.ownsRow B 5 1 v l.length (bcells l)
/-- What an append to the slice v keeps, and where what it gives lies. -/
structure AppK (w w' : World) (v v' : Value) : Prop where
  kp : Kp (fun i => some i = v.ownBlock) w w'
  loc : v'.ownBlock = v.ownBlock ∨ ∃ k, v'.ownBlock = some k ∧ w.heap.size ≤ k
theorem AppK.refl (w : World) (v : Value) : AppK w w v v := ⟨Kp.refl _ _, .inl rfl⟩
theorem AppK.trans {a b c : World} {u v x : Value} (h : AppK a b u v) (k : AppK b c v x) : AppK a c u x := by
  refine ⟨h.kp.trans k.kp (fun i hi => ?_), ?_⟩
  · rcases h.loc with e | ⟨g, e, hg⟩
    · rw [e] at hi; exact .inl hi
    · rw [e] at hi; cases hi; exact .inr hg
  · rcases k.loc with e | ⟨g, e, hg⟩
    · rw [e]; exact h.loc
    · exact .inr ⟨g, e, Nat.le_trans h.kp.size hg⟩
theorem le_snoc : ∀ (k n : Nat), Lib.leBytes (k + 1) n = Lib.leBytes k n ++ [(n / 256 ^ k % 256).toUInt8]
  | 0, n => by simp [Lib.leBytes]
  | k + 1, n => by
    rw [Lib.leBytes, le_snoc k (n / 256)]
    rw [show n / 256 / 256 ^ k = n / 256 ^ (k + 1) by rw [Nat.div_div_eq_div_mul, Nat.pow_succ, Nat.mul_comm]]
    simp [Lib.leBytes]
theorem le_length : ∀ (k n : Nat), (Lib.leBytes k n).length = k
  | 0, _ => rfl
  | k + 1, n => by rw [Lib.leBytes, List.length_cons, le_length k]

set_option maxRecDepth 100000 in
set_option maxHeartbeats 1600000 in
theorem low_ok (B n size : Nat) (v : Value) (l : List UInt8) (hn : n < 18446744073709551616) (hs : size ≤ 8) (hl : l.length ≤ 1099511627776) (w : World) (hB : B ≤ w.heap.size) (hv : RowU w B v l) :
    Calls Tryz.prog 50 #[v, .int .u64 (n : Int), .int .i64 (size : Int)] w fun e w' => ∃ v', e = .returned v' ∧ RowU w' B v' (l ++ Lib.leBytes size n) ∧ AppK w w' v v' := by
  obtain ⟨i0, hi, hz0, hz1, hz2⟩ := info_parts info3_u8
  go_enter Tryz.func50, Tryz.ntmps50
  go_wp2_with fail
  go_loopw [0, 7] (fun v0 vi wr => ∃ k : Nat, k ≤ size ∧ vi = .int .i64 (k : Int) ∧ RowU wr B v0 (l ++ Lib.leBytes k n) ∧ AppK w wr v v0 ∧ B ≤ wr.heap.size) (fun _ vi _ => size - (intOf vi).toNat)
  case atStart => exact ⟨0, Nat.zero_le _, rfl, by simpa [Lib.leBytes] using hv, AppK.refl _ _, hB⟩
  case round =>
    obtain ⟨k, hk, rfl, hR, hK, hBr⟩ := hrel
    by_cases hlt : k < size
    · have hk8 : (k : Int) < 8 := by omega
      have hb : (n : Int) / 2 ^ (8 * k) % 256 = (((n / 256 ^ k % 256).toUInt8.toNat : Nat) : Int) := by
        rw [toU8_nat (Nat.mod_lt _ (by omega))]
        have : (256 : Nat) ^ k = 2 ^ (8 * k) := by rw [Nat.pow_mul]
        rw [this]; simp
      have hvl := hR.lt
      have HB := Lib.hid hb; clear hb
      have HR := Lib.hid hR
      have hlk : (l ++ Lib.leBytes k n).length = l.length + k := by rw [List.length_append, le_length]
      have hRa := hR.alloc (.cells #[.int .u8 ((n : Int) / 2 ^ (8 * k) % 256)] 5)
      have HLK := Lib.hid hlk
      go_wp2_with (at_builtin; refine wpList_append_own_at _ rfl _ _ 42 rfl B 5 i0 (.int .u8 0) 1 1 Tryz.underlying42 hi hz0 hz1 hz2 rfl (by decide) _ _ _ rfl hRa ⟨wr.heap.size, 0, none⟩ 1 1 [.int .u8 ((n : Int) / 2 ^ (8 * k) % 256)] rfl rfl (one_cell _ _ _) (ints_oneCell .u8 [(n : Int) / 2 ^ (8 * k) % 256]) ?c3 ?c4 ?c5 ?_)
      case c3 => unfold maxLen; omega
      case c4 => omega
      case c5 => simp; omega
      intro v' w2 hown' hgrow hnn hloc
      have hA : AppK wr w2 u0 v' := by
        refine ⟨(kp_alloc wr (.cells #[.int .u8 ((n : Int) / 2 ^ (8 * k) % 256)] 5)).mono (S' := fun i => some i = u0.ownBlock) (fun _ h => h.elim) |>.trans (kp_grown hgrow) (fun i h => .inl h), ?_⟩
        rcases hloc with h | h
        · exact .inl h
        · exact .inr ⟨_, h, by simp⟩
      have hz2' : B ≤ w2.heap.size := by have := hgrow.size; simp at this; omega
      have hnew : RowU w2 B v' (l ++ Lib.leBytes (k + 1) n) := by
        have e1 : (l ++ Lib.leBytes (k + 1) n).length = (l ++ Lib.leBytes k n).length + 1 := by simp only [List.length_append, le_length]; omega
        have e2 : bcells (l ++ Lib.leBytes (k + 1) n) = bcells (l ++ Lib.leBytes k n) ++ [.int .u8 ((n : Int) / 2 ^ (8 * k) % 256)] := by
          rw [le_snoc, ← List.append_assoc, ← bcells_append, HB.out]; rfl
        unfold RowU
        rw [e1, e2, HLK.out]; exact hown'
      have HN := Lib.hid (hK.trans hA)
      clear hown' hgrow hloc hRa hlk hA hnn hR
      go_wp2_with fail
      go_roundw
      case rel => exact ⟨k + 1, by omega, by go_num, hnew, HN.out, hz2'⟩
      case measure => simp [intOf]; omega
    · obtain rfl : k = size := by omega
      have HR := Lib.hid hR; clear hR
      go_wp2_with fail
      go_ret
      exact ⟨_, rfl, HR.out, hK⟩
end Go.Proofs.YtgdgmegpacmgnaaGreatDoor

/- spec.Widths: the lengths of entries' digests. -/
namespace Go.Proofs.YtgdgmegpacmgnaaGreatDoor
open Go.RowKit
set_option linter.unusedVariables false
set_option linter.unusedSimpArgs false
attribute [local go_sem] setCell_drewN alloc_drewN

def widthStep (acc : List Nat) (x : CidOf × Int) : List Nat := if x.1.dig.length ∈ acc then acc else acc ++ [x.1.dig.length]
/-- The lengths of entries' digests, each once. -/
def widthsOf (l : List (CidOf × Int)) : List Nat := l.foldl widthStep []
theorem widthsOf_snoc (l : List (CidOf × Int)) (x : CidOf × Int) : widthsOf (l ++ [x]) = widthStep (widthsOf l) x := by simp [widthsOf]
theorem take_snoc' {l : List (CidOf × Int)} {k : Nat} {x : CidOf × Int} (h : l[k]? = some x) : l.take (k + 1) = l.take k ++ [x] := by
  have hlt := (List.getElem?_eq_some_iff.1 h).1
  have he := (List.getElem?_eq_some_iff.1 h).2
  rw [List.take_succ_eq_append_getElem hlt, he]
theorem widthsOf_le (l : List (CidOf × Int)) : (widthsOf l).length ≤ l.length := by
  have : ∀ (l : List (CidOf × Int)) (acc : List Nat), (l.foldl widthStep acc).length ≤ acc.length + l.length := by
    intro l
    induction l with
    | nil => intro acc; simp
    | cons x l ih =>
      intro acc
      have h := ih (widthStep acc x)
      have h2 : (widthStep acc x).length ≤ acc.length + 1 := by unfold widthStep; split <;> simp
      simp only [List.foldl_cons, List.length_cons]; omega
  have h := this l []
  simpa [widthsOf] using h

def seenPairs (ws : List Nat) : List (Int × Value) := ws.map fun n : Nat => ((n : Int), .bool true)
theorem ilook_seen {ws : List Nat} {n : Nat} : ilook (seenPairs ws) (n : Int) = if n ∈ ws then some (.bool true) else none := by
  induction ws with
  | nil => rfl
  | cons x l ih =>
    simp only [ilook, seenPairs, List.map_cons, List.find?_cons] at ih ⊢
    by_cases h : x = n
    · subst h; simp
    · have h' : ¬ ((x : Int) = (n : Int)) := by omega
      have h2 : ¬ n = x := fun e => h e.symm
      simp only [h', decide_false]
      rw [ih]
      simp [h2]
theorem iput_seen {ws : List Nat} {n : Nat} (h : n ∉ ws) : iput (seenPairs ws) (n : Int) (.bool true) = seenPairs (ws ++ [n]) := by
  rw [iput_new, seenPairs, seenPairs, List.map_append]; rfl
  intro p hp e
  obtain ⟨x, hx, rfl⟩ := List.mem_map.1 hp
  simp only at e
  exact h (by rw [← show x = n by omega]; exact hx)
theorem sortInts_eq (ws : List Nat) : (ws.map (fun n : Nat => (n : Int))).mergeSort (fun x y => decide (x ≤ y)) = (sortN ws).map (fun n : Nat => (n : Int)) := by
  have tr : ∀ a b c : Int, decide (a ≤ b) = true → decide (b ≤ c) = true → decide (a ≤ c) = true := fun a b c h1 h2 => by simp only [decide_eq_true_eq] at *; omega
  have to : ∀ a b : Int, (decide (a ≤ b) || decide (b ≤ a)) = true := fun a b => by simp only [Bool.or_eq_true, decide_eq_true_eq]; omega
  have trn : ∀ a b c : Nat, decide (a ≤ b) = true → decide (b ≤ c) = true → decide (a ≤ c) = true := fun a b c h1 h2 => by simp only [decide_eq_true_eq] at *; omega
  have ton : ∀ a b : Nat, (decide (a ≤ b) || decide (b ≤ a)) = true := fun a b => by simp only [Bool.or_eq_true, decide_eq_true_eq]; omega
  refine List.Perm.eq_of_pairwise (le := fun a b => decide (a ≤ b) = true) (fun a b _ _ h1 h2 => ?_) (List.pairwise_mergeSort tr to _) ?_ ((List.mergeSort_perm _ _).trans ((List.mergeSort_perm ws _).symm.map _))
  · simp only [decide_eq_true_eq] at h1 h2; omega
  · refine List.pairwise_map.2 ((List.pairwise_mergeSort trn ton ws).imp (fun h => ?_))
    simp only [decide_eq_true_eq] at h ⊢; omega
theorem boolZero (W : World) : (zeroValue 4).run Tryz.prog W = .ok (.bool false) W := by kernel_rfl
theorem info_int : (Tryz.prog.info? 3).map (fun i => (i.zero, i.size, i.bytes)) = some (some (.int .i64 0), 1, 8) := by kernel_rfl
/-- A slice of numbers of the call's own. -/
def IntsOf (w : World) (B : Nat) (v : Value) (l : List Nat) : Prop := w.ownsRow B 3 1 v l.length (l.map (numV .i64))

set_option maxRecDepth 100000 in
set_option maxHeartbeats 3200000 in
theorem Widths_ok (l : List (CidOf × Int)) (A : Option Addr) (cap : Nat) (w : World) (hR : RowsAt w A l) (hlen : l.length ≤ 1000000) (hcap : l.length ≤ cap) (hd : ∀ x ∈ l, x.1.dig.length ≤ 1000000) :
    Calls Tryz.prog 63 #[.slice A l.length cap] w fun e w' => ∃ v, e = .returned v ∧ IntsOf w' w.heap.size v (sortN (widthsOf l)) ∧ Below w.heap.size w w' := by
  obtain ⟨i0, ti, tz0, tz1, tz2⟩ := info_parts info_int
  have hmm := @run_makeMap Tryz.prog
  go_enter Tryz.func63, Tryz.ntmps63
  go_wp2_with fail
  go_loopw [3, 11] (fun v3 vi wr => ∃ k : Nat, k ≤ l.length ∧ vi = .int .i64 (k : Int) ∧ ImAt wr w.heap.size .i64 (seenPairs (widthsOf (l.take k))) ∧ IntsOf wr w.heap.size v3 (widthsOf (l.take k)) ∧ (v3 = .slice none 0 0 → widthsOf (l.take k) = []) ∧ Below w.heap.size w wr ∧ w.heap.size < wr.heap.size) (fun _ vi _ => l.length - (intOf vi).toNat)
  case atStart => exact ⟨0, Nat.zero_le _, rfl, ImAt.made w .i64, ⟨rfl, .inl ⟨rfl, rfl⟩⟩, fun _ => rfl, below_boxed w _, by simp⟩
  case round =>
    obtain ⟨k, hk, rfl, hI, hO, hN, hB, hz⟩ := hrel
    by_cases hlt : k < l.length
    · obtain ⟨x, hx⟩ : ∃ x, l[k]? = some x := ⟨_, List.getElem?_eq_getElem hlt⟩
      obtain ⟨g0, o, rfl, hg0, r0, r1, r2, r3, r4⟩ := hR.row hB hx
      have hsz : (sOf x.1.dig).size = x.1.dig.length := by simp [sOf, ByteArray.size]
      have htk := take_snoc' hx
      have hdx := hd x (List.mem_of_getElem? hx)
      have hwl := widthsOf_le (l.take k)
      rw [List.length_take] at hwl
      obtain ⟨ws, hws⟩ : ∃ ws, ws = widthsOf (l.take k) := ⟨_, rfl⟩
      rw [← hws] at hI hO hN hwl
      have HW : Hid (widthsOf (l.take (k + 1)) = widthStep ws x) := Lib.hid (by rw [htk, widthsOf_snoc, hws])
      have hg0r : g0 < wr.heap.size := by have := hB.size; omega
      clear hws htk hx
      have hIb := (hI.upd (w' := wr.alloc (.cells #[.int .u64 x.1.ver, .int .u64 x.1.codec, .int .u64 x.1.code, .string (sOf x.1.dig), .int .u64 x.2] 62)) (heap_alloc_old _ _ hI.lt))
      have hOb := hO.alloc (.cells #[.int .u64 x.1.ver, .int .u64 x.1.codec, .int .u64 x.1.code, .string (sOf x.1.dig), .int .u64 x.2] 62)
      have hbb : Below w.heap.size w (wr.alloc (.cells #[.int .u64 x.1.ver, .int .u64 x.1.codec, .int .u64 x.1.code, .string (sOf x.1.dig), .int .u64 x.2] 62)) := below_box hB _
      by_cases hmem : x.1.dig.length ∈ ws
      · have hlk := hIb.look (P := Tryz.prog) Tryz.underlying173 Tryz.underlying3 (k := (x.1.dig.length : Int)) (v := .bool true) (by rw [ilook_seen, if_pos hmem]) false
        simp only [Bool.false_eq_true, if_false] at hlk
        have HWW : Hid (widthsOf (l.take (k + 1)) = ws) := Lib.hid (by rw [HW.out, widthStep, if_pos hmem])
        clear hmem hO hI
        go_wp2_with fail
        go_roundw
        case rel => exact ⟨k + 1, by omega, by go_num, by rw [HWW.out]; exact hIb, by rw [HWW.out]; exact hOb, by rw [HWW.out]; exact hN, hbb, by simp; omega⟩
        case measure => simp [intOf]; omega
      · have hlk := hIb.look_no (P := Tryz.prog) Tryz.underlying173 Tryz.underlying3 (k := (x.1.dig.length : Int)) (by rw [ilook_seen, if_neg hmem]) false _ boolZero
        simp only [Bool.false_eq_true, if_false] at hlk
        have HWW : Hid (widthsOf (l.take (k + 1)) = ws ++ [x.1.dig.length]) := Lib.hid (by rw [HW.out, widthStep, if_neg hmem])
        have HMem := Lib.hid hmem
        have hzb : wr.heap.size < (wr.alloc (.cells #[.int .u64 x.1.ver, .int .u64 x.1.codec, .int .u64 x.1.code, .string (sOf x.1.dig), .int .u64 x.2] 62)).heap.size := by simp
        clear hmem hO hI
        go_wp2_with (at_mapUpdate; refine step_put_im rfl _ _ _ 173 rfl Tryz.underlying173 Tryz.underlying3 rfl hIb (k := (x.1.dig.length : Int)) (val := .bool true) rfl rfl ?_; intro w3 hI3 hK3 hs3; refine later ?_)
        rw [iput_seen HMem.out] at hI3
        have hne : u3.ownBlock ≠ some w.heap.size := by
          intro e
          obtain ⟨_, cur, hc⟩ := own_cells hOb e
          obtain ⟨es, cl, hm, _⟩ := hIb
          rw [hm] at hc; cases hc
        have hO3 := own_kp hOb hK3 (fun g e h => by subst h; exact hne e)
        have hB3 : Below w.heap.size w w3 := hbb.trans ⟨hK3.os, hK3.tape, hK3.output, hK3.size, fun i hi => hK3.block i (by have := hbb.size; omega) (by omega)⟩
        have hz3 : wr.heap.size < w3.heap.size := by omega
        clear hIb hOb hbb hlk hK3 hs3 hzb hB
        refine now ?_
        go_wp2_with (at_builtin; refine wpList_append_own_at _ rfl _ _ 158 rfl w.heap.size 3 i0 (.int .i64 0) 1 8 Tryz.underlying158 ti tz0 tz1 tz2 rfl (by decide) _ _ _ rfl (hO3.alloc _) ⟨w3.heap.size, 0, none⟩ 1 1 [.int .i64 (x.1.dig.length : Int)] rfl rfl (one_cell _ _ _) (ints_oneCell .i64 [(x.1.dig.length : Int)]) ?c3 ?c4 ?c5 ?_)
        case c3 => unfold maxLen; omega
        case c4 => omega
        case c5 => simp; omega
        intro v' w4 hown4 hgrow hnn hloc
        have hI4 : ImAt w4 w.heap.size .i64 (seenPairs (ws ++ [x.1.dig.length])) := (hI3.kp (kp_alloc w3 _) id).kp (kp_grown hgrow) (fun e => hne e.symm)
        have hO4 : IntsOf w4 w.heap.size v' (ws ++ [x.1.dig.length]) := by
          unfold IntsOf; rw [List.length_append, List.map_append]; exact hown4
        have hB4 : Below w.heap.size w w4 := (below_box hB3 _).trans ⟨hgrow.os, hgrow.tape, hgrow.output, hgrow.size, fun i hi => hgrow.block i (by simp; omega) (fun e => by have := (hO3.lt i e.symm).1; omega)⟩
        have hz4 : w.heap.size < w4.heap.size := by have := hgrow.size; simp at this; omega
        clear hown4 hgrow hloc hI3 hO3 hB3
        go_wp2_with fail
        go_roundw
        case rel => exact ⟨k + 1, by omega, by go_num, by rw [HWW.out]; exact hI4, by rw [HWW.out]; exact hO4, fun e => absurd e (by simpa using hnn), hB4, hz4⟩
        case measure => simp [intOf]; omega
    · obtain rfl : k = l.length := by omega
      rw [List.take_length] at hI hO hN
      have hwl := widthsOf_le l
      obtain ⟨ws, hws⟩ : ∃ ws, ws = widthsOf l := ⟨_, rfl⟩
      rw [← hws] at hI hO hN hwl
      have HW := Lib.hid hws
      clear hI hws
      by_cases hnil : u3 = .slice none 0 0
      · have hw0 := hN hnil
        subst hnil
        have HW0 := Lib.hid hw0
        clear hN hO hw0
        go_wp2_with fail
        refine (Tryz.sort_Ints_none none 0 _).mono ?_
        rintro e w1 ⟨rfl, rfl⟩
        go_wp2_with fail
        go_ret
        refine ⟨_, rfl, ?_, hB⟩
        rw [← HW.out, HW0.out]
        exact ⟨by simp [sortN], .inl ⟨rfl, by simp [sortN]⟩⟩
      · obtain ⟨g, cap3, cur, rfl, hge, hgc, hgle, hgcm, hgs, htk⟩ : ∃ g cap cur, u3 = .slice (some ⟨g, 0, none⟩) ws.length cap ∧ w.heap.size ≤ g ∧ wr.heap[g]? = some (.cells cur 3 (0, 0)) ∧ ws.length ≤ cap ∧ cap ≤ maxLen ∧ cur.size = cap * 1 ∧ cur.toList.take (ws.length * 1) = ws.map (numV .i64) := by
          rcases hO.2 with ⟨h, _⟩ | h
          · exact absurd h hnil
          · exact h
        rw [Nat.mul_one] at htk
        have htk2 : cur.toList.take (ws.map (fun n : Nat => (n : Int))).length = (ws.map (fun n : Nat => (n : Int))).map (Value.int .i64) := by rw [List.length_map, htk, List.map_map]; rfl
        have hH := holds_of_blockI hgc htk2
        have hS := Tryz.sort_Ints g 0 cap3 (ws.map (fun n : Nat => (n : Int))) wr hH (Array.getElem?_eq_some_iff.1 hgc).1 (by rw [List.length_map]; omega)
        rw [List.length_map, sortInts_eq] at hS
        have HG := Lib.hid (And.intro hgc hgs)
        clear hH htk2 htk hO hN hgc hgs hnil
        go_wp2_with fail
        refine hS.mono ?_
        rintro e w1 ⟨rfl, n, os, rfl⟩
        have hown := ownsRow_sortedI (w := wr) (base := w.heap.size) (n := n) (os := os) (ss := ws.map (fun n : Nat => (n : Int))) (ts := (sortN ws).map (fun n : Nat => (n : Int))) (by simp [sortN_len]) hge HG.out.1 (by simpa using hgle) hgcm HG.out.2
        have hgb := grownBy_sortedI (w := wr) (g := g) (n := n) (os := os) ((sortN ws).map (fun n : Nat => (n : Int))).toArray
        have HO := Lib.hid hown
        clear hown hS
        generalize Sort.grow (Sort.putRow (Value.int .i64) (Sort.ahead wr n) g 0 ((sortN ws).map (fun n : Nat => (n : Int))).toArray) os = W at *
        go_wp2_with fail
        go_ret
        refine ⟨_, rfl, ?_, hB.trans ⟨hgb.os, hgb.tape, hgb.output, hgb.size, fun i hi => hgb.block i (by have := hB.size; omega) (fun e => by cases e; omega)⟩⟩
        have h := HO.out
        rw [List.length_map, List.map_map] at h
        rw [← HW.out]
        unfold IntsOf
        rw [sortN_len]
        exact h
end Go.Proofs.YtgdgmegpacmgnaaGreatDoor

/- spec.ByDigest: entries sorted by their digests. -/
namespace Go.Proofs.YtgdgmegpacmgnaaGreatDoor
open Go.RowKit Go.Lib Go.Sort
set_option linter.unusedVariables false
set_option linter.unusedSimpArgs false
attribute [local go_sem] setCell_drewN alloc_drewN

def entRow (l : List (CidOf × Int)) : List Value := l.flatMap EntCells
def SortedD (l : List (CidOf × Int)) : Prop := l.Pairwise fun x y => Lib.compareBytes x.1.dig y.1.dig ≤ 0
/-- sort.SliceStable by digests, of at most so many entries. -/
def StableEnts (most : Nat) : Prop := ∀ (g cap vb : Nat) (l : List (CidOf × Int)) (tail : List Value) (w : World), l.length ≤ most → w.heap[g]? = some (.cells (entRow l ++ tail).toArray 62 (0, 0)) →
  w.cell? ⟨vb, 0, none⟩ = some (.slice (some ⟨g, 0, none⟩) l.length cap) →
  Calls Tryz.prog 77 #[.iface 63 (.slice (some ⟨g, 0, none⟩) l.length cap), .func (.func 78) #[] #[.pointer (some ⟨vb, 0, none⟩)]] w fun e w' =>
    e = .returned (.tuple #[]) ∧ ∃ l', l'.Perm l ∧ SortedD l' ∧ w'.heap[g]? = some (.cells (entRow l' ++ tail).toArray 62 (0, 0)) ∧ Kp (fun i => i = g) w w'

theorem entRow_get : ∀ {l : List (CidOf × Int)} {i : Nat} {x : CidOf × Int} {j : Nat} {v : Value}, l[i]? = some x → (EntCells x)[j]? = some v → (entRow l)[i * 5 + j]? = some v := by
  intro l
  induction l with
  | nil => intro i x j v h; simp at h
  | cons y l ih =>
    intro i x j v h hj
    have hjl : j < 5 := by have := (List.getElem?_eq_some_iff.1 hj).1; simpa [EntCells] using this
    rw [entRow, List.flatMap_cons]
    cases i with
    | zero =>
      simp only [List.getElem?_cons_zero, Option.some.injEq] at h
      subst h
      rw [List.getElem?_append_left (by simp [EntCells]; omega)]
      simpa using hj
    | succ i =>
      rw [List.getElem?_append_right (by simp [EntCells]; omega)]
      have := ih (i := i) (x := x) (j := j) (v := v) (by simpa using h) hj
      rw [show (i + 1) * 5 + j - (EntCells y).length = i * 5 + j by simp [EntCells]; omega]
      exact this
theorem entRow_len (l : List (CidOf × Int)) : (entRow l).length = l.length * 5 := by
  induction l with
  | nil => rfl
  | cons x l ih => rw [entRow, List.flatMap_cons, List.length_append, List.length_cons]; have : (EntCells x).length = 5 := rfl; rw [this]; rw [entRow] at ih; omega
theorem rows_of_cells {w : World} {g : Nat} {l : List (CidOf × Int)} {tail : List Value} {t : TypeId} {fz : Nat × Nat} (h : w.heap[g]? = some (.cells (entRow l ++ tail).toArray t fz)) : RowsAt w (some ⟨g, 0, none⟩) l := by
  refine .inr ⟨g, 0, rfl, fun i x hx j v hj => ?_⟩
  have hjl : j < 5 := by have := (List.getElem?_eq_some_iff.1 hj).1; simpa [EntCells] using this
  have hil := (List.getElem?_eq_some_iff.1 hx).1
  rw [blk_cell' h, List.getElem?_toArray, Nat.zero_add, List.getElem?_append_left (by rw [entRow_len]; omega)]
  exact entRow_get hx hj

theorem entInfo : (Tryz.prog.info? 62).map (fun i => (i.size, i.bytes)) = some (5, 48) := by kernel_rfl
noncomputable def entsT : TypeInfo := (Tryz.prog.info? 63).get (by kernel_rfl)
noncomputable def entT : TypeInfo := (Tryz.prog.info? 62).get (by kernel_rfl)
theorem entInfo0 : (Tryz.prog.info? 62).map (fun i => (i.zero, i.size, i.bytes)) = some (some (.agg #[.int .u64 0, .int .u64 0, .int .u64 0, .string ⟨#[]⟩, .int .u64 0]), 5, 48) := by kernel_rfl
theorem ent_one (x : CidOf × Int) : ∀ u ∈ EntCells x, u.oneCell' = true := by
  intro u hu
  simp [EntCells] at hu
  rcases hu with rfl | rfl | rfl | rfl | rfl <;> rfl
theorem entRow_one (l : List (CidOf × Int)) : ∀ u ∈ entRow l, u.oneCell' = true := by
  intro u hu
  obtain ⟨x, _, h⟩ := List.mem_flatMap.1 hu
  exact ent_one x u h
theorem entRow_news {w : World} {g o : Nat} {l : List (CidOf × Int)} (hc : ∀ i x, l[i]? = some x → ∀ j v, (EntCells x)[j]? = some v → w.cell? ⟨g, o + i * 5 + j, none⟩ = some v) :
    ∀ j u, (entRow l)[j]? = some u → w.cell? ((⟨g, o, none⟩ : Addr).add j) = some u := by
  intro j u hj
  have hlt : j < l.length * 5 := by have := (List.getElem?_eq_some_iff.1 hj).1; rwa [entRow_len] at this
  have hi : j / 5 < l.length := by omega
  obtain ⟨x, hx⟩ : ∃ x, l[j / 5]? = some x := ⟨_, List.getElem?_eq_getElem hi⟩
  obtain ⟨v, hv⟩ : ∃ v, (EntCells x)[j % 5]? = some v := ⟨_, List.getElem?_eq_getElem (by show j % 5 < 5; omega)⟩
  have h1 := entRow_get hx hv
  rw [show j / 5 * 5 + j % 5 = j by omega, hj] at h1
  cases h1
  have := hc _ _ hx _ _ hv
  rw [show o + j / 5 * 5 + j % 5 = o + j by omega] at this
  by_cases h0 : j = 0
  · subst h0; simpa [Addr.add] using this
  · simpa [Addr.add, h0] using this

set_option maxRecDepth 100000 in
set_option maxHeartbeats 1600000 in
theorem ByDigest_ok (most : Nat) (hS : StableEnts most) (l : List (CidOf × Int)) (A : Option Addr) (cap : Nat) (w : World) (hR : RowsAt w A l) (h0 : 0 < l.length) (hlen : l.length ≤ 1000000) (hle : l.length ≤ most) :
    Calls Tryz.prog 64 #[.slice A l.length cap] w fun e w' => ∃ l' g c, l'.Perm l ∧ SortedD l' ∧ e = .returned (.slice (some ⟨g, 0, none⟩) l.length c) ∧ w.heap.size ≤ g ∧ RowsAt w' (some ⟨g, 0, none⟩) l' ∧ g < w'.heap.size ∧ Below w.heap.size w w' := by
  obtain ⟨i0, hi, hz0, hz1, hz2⟩ := info_parts entInfo0
  obtain ⟨g0, o, rfl, hc⟩ : ∃ g o, A = some ⟨g, o, none⟩ ∧ ∀ i x, l[i]? = some x → ∀ j v, (EntCells x)[j]? = some v → w.cell? ⟨g, o + i * 5 + j, none⟩ = some v := by
    rcases hR with h | h
    · subst h; simp at h0
    · exact h
  have hN := entRow_news hc
  have HN := Lib.hid hN
  have HL := Lib.hid hlen
  have HE := Lib.hid hle
  clear hN hc
  go_enter Tryz.func64, Tryz.ntmps64
  go_wp2_with (at_builtin; refine later ?_)
  have hO0 : (w.alloc (.cells #[] 62)).ownsRow w.heap.size 62 5 (.slice (some ⟨w.heap.size, 0, none⟩) 0 0) 0 [] := ⟨rfl, .inr ⟨_, 0, #[], rfl, Nat.le_refl _, heap_alloc_new w _, Nat.le_refl _, by unfold maxLen; omega, rfl, rfl⟩⟩
  have hnews : ∀ j u, (entRow l)[j]? = some u → (w.alloc (.cells #[] 62)).cell? ((⟨g0, o, none⟩ : Addr).add j) = some u := fun j u h => by
    have h1 := HN.out j u h
    exact ((below_boxed w _).cell (World.block_lt_of_cell? w _ h1)).trans h1
  refine now ?_
  refine wpList_append_own_at _ rfl _ _ 63 rfl w.heap.size 62 i0 _ 5 48 Tryz.underlying63 hi hz0 hz1 hz2 rfl (by decide) _ _ _ rfl hO0 ⟨g0, o, none⟩ l.length cap (entRow l) rfl (entRow_len l) hnews (entRow_one l) ?c3 ?c4 ?c5 ?_
  case c3 => unfold maxLen; omega
  case c4 => omega
  case c5 => simp
  intro v' w2 hown hgrow hnn hloc
  have hB2 : Below w.heap.size w w2 := (below_boxed w _).trans ⟨hgrow.os, hgrow.tape, hgrow.output, hgrow.size, fun i hi => hgrow.block i (by simp; omega) (fun e => by have e' : some i = some w.heap.size := e; cases e'; omega)⟩
  have hz2 : w.heap.size < w2.heap.size := by have := hgrow.size; simp at this; omega
  obtain ⟨g, cap2, cur, rfl, hge, hgc, hgle, hgcm, hgs, htk⟩ : ∃ g cap cur, v' = .slice (some ⟨g, 0, none⟩) l.length cap ∧ w.heap.size ≤ g ∧ w2.heap[g]? = some (.cells cur 62 (0, 0)) ∧ l.length ≤ cap ∧ cap ≤ maxLen ∧ cur.size = cap * 5 ∧ cur.toList.take (l.length * 5) = entRow l := by
    rcases hown.2 with ⟨_, h⟩ | h
    · omega
    · simpa using h
  have hgw : w2.heap[g]? = some (.cells (entRow l ++ cur.toList.drop (l.length * 5)).toArray 62 (0, 0)) := by
    rw [hgc, ← htk, List.take_append_drop]
  have hglt := (Array.getElem?_eq_some_iff.1 hgc).1
  clear hown hgrow hnn hloc hgc htk hgs hO0 hnews hgcm
  go_wp2_with fail
  have hg3 : (w2.alloc (.cells #[.slice (some ⟨g, 0, none⟩) l.length cap2] 63)).heap[g]? = some (.cells (entRow l ++ cur.toList.drop (l.length * 5)).toArray 62 (0, 0)) := (heap_alloc_old w2 _ hglt).trans hgw
  have hbox := heap_alloc_new w2 (.cells #[.slice (some ⟨g, 0, none⟩) l.length cap2] 63)
  refine (hS g cap2 w2.heap.size l _ _ HE.out hg3 (blk_cell' hbox 0)).mono ?_
  rintro e w3 ⟨rfl, l', hp, hsd, hg', hK⟩
  have hb3 := (hK.block w2.heap.size (by simp) (by omega)).trans hbox
  have k1 := (blk_cell' hb3 0).trans (show _ = some (Value.slice (some ⟨g, 0, none⟩) l.length cap2) from rfl)
  have hB3 : Below w.heap.size w w3 := (below_box hB2 _).trans ⟨hK.os, hK.tape, hK.output, hK.size, fun i hi => hK.block i (by simp; omega) (by omega)⟩
  have hR3 : RowsAt w3 (some ⟨g, 0, none⟩) l' := rows_of_cells hg'
  have hlt3 := (Array.getElem?_eq_some_iff.1 hg').1
  clear hK hg' hg3 hbox hgw hB2 HN HE hR
  go_wp2_with fail
  go_ret
  exact ⟨l', g, cap2, hp, hsd, rfl, hge, hR3, hlt3, hB3⟩

theorem kp_growS (w : World) (os : Array Obj) (S : Nat → Prop) : Kp S w (grow w os) := ⟨rfl, rfl, rfl, by rw [size_grow]; omega, fun i hi _ => heap_grow_old w os hi⟩
/-- One entry or none is sorted. -/
theorem stable_one : StableEnts 1 := by
  intro g cap vb l tail w hl hg hv
  have hglt := (Array.getElem?_eq_some_iff.1 hg).1
  have hE : Calls Tryz.prog 77 #[.iface 63 (.slice (some ⟨g, 0, none⟩) l.length cap), .func (.func 78) #[] #[.pointer (some ⟨vb, 0, none⟩)]] w fun e w' => e = .returned (.tuple #[]) ∧ ∃ os, w' = grow w os := by
    match l, hl with
    | [], _ => exact Any.sort_SliceStable_tiny Tryz.laysGt8 63 62 entsT entT (by kernel_rfl) (by kernel_rfl) (by kernel_rfl) (by kernel_rfl) 25 (fun w => by kernel_rfl) _ 0 cap (by omega) 93 (by kernel_rfl) _ _ _ w
    | [x], _ => exact Any.sort_SliceStable_tiny Tryz.laysGt8 63 62 entsT entT (by kernel_rfl) (by kernel_rfl) (by kernel_rfl) (by kernel_rfl) 25 (fun w => by kernel_rfl) _ 1 cap (by omega) 94 (by kernel_rfl) _ _ _ w
  refine hE.mono ?_
  rintro e w' ⟨rfl, os, rfl⟩
  refine ⟨rfl, l, List.Perm.refl _, ?_, (heap_grow_old w os hglt).trans hg, kp_growS w os _⟩
  clear hE hg hv hglt
  match l, hl with
  | [], _ => exact List.Pairwise.nil
  | [x], _ => exact List.pairwise_singleton _ _
end Go.Proofs.YtgdgmegpacmgnaaGreatDoor
