import Derived.Test.YtobdjcnojbnegaaGreatDoorG16
import Derived.Test.YtobdjcnojbnegaaGreatDoorG09
import Derived.Laws.AppendOwnNone
import Derived.Test.YtobdjcnojbnegaaGreatDoorG04
import Derived.Test.YtobdjcnojbnegaaGreatDoorG06
import Derived.Deep.AppendLies
import Derived.Test.YtobdjcnojbnegaaGreatDoorG00
import Derived.Sort.LotA
import Derived.Sort.LotB
import Derived.Sort.LotD2
/- All offsets that an index tells of a digest. Plain. -/
namespace Go.Proofs.YtobdjcnojbnegaaGreatDoor
open Go.RowKit
set_option linter.unusedVariables false

def isDig (d : List UInt8) (x : CidOf × Int) : Bool := decide (x.1.dig = d)
/-- The offsets of the entries with a digest. -/
def offsOf (l : Ents) (d : List UInt8) : List Nat := (l.filter (isDig d)).map fun x => x.2.toNat
theorem offsOf_perm {l m : Ents} (h : l.Perm m) (d : List UInt8) : (offsOf l d).Perm (offsOf m d) := (h.filter _).map _
theorem offsOf_le (l : Ents) (d : List UInt8) : (offsOf l d).length ≤ l.length := by rw [offsOf, List.length_map]; exact List.length_filter_le _ _

theorem run_all (n : Nat) (d : List UInt8) (F : Ents) (hF : ∀ x ∈ F, x.1.dig.length = n) (hoff : ∀ x ∈ F, 0 ≤ x.2 ∧ x.2 < 18446744073709551616) : ∀ k r, r + k = F.length →
    runFrom (n + 8) (F.flatMap rowB) d k r = ((F.drop r).takeWhile (isDig d)).map fun x => x.2.toNat := by
  have hR := (rows_at n F hF).2
  intro k
  induction k with
  | zero => intro r hr; rw [List.drop_of_length_le (by omega)]; rfl
  | succ k ih =>
    intro r hr
    have hlt : r < F.length := by omega
    obtain ⟨h1, h2⟩ := hR r F[r] (List.getElem?_eq_getElem hlt)
    rw [List.drop_eq_getElem_cons hlt, runFrom, h1, List.takeWhile_cons]
    have ho := hoff F[r] (List.getElem_mem hlt)
    by_cases he : F[r].1.dig = d
    · rw [if_pos he.symm, if_pos (by simp [isDig, he]), List.map_cons, ih (r + 1) (by omega), h2, Lib.leNat_leBytes 8 _ (by omega)]
    · rw [if_neg (fun e => he e.symm), if_neg (by simp [isDig, he])]; rfl

theorem filter_run (d : List UInt8) : ∀ G : Ents, (∀ x ∈ G, Lib.compareBytes d x.1.dig ≤ 0) → SortedD G → G.filter (isDig d) = G.takeWhile (isDig d) := by
  intro G
  induction G with
  | nil => intro _ _; rfl
  | cons x G ih =>
    intro h hs
    have hs' := List.pairwise_cons.1 hs
    by_cases he : x.1.dig = d
    · rw [List.filter_cons_of_pos (by simp [isDig, he]), List.takeWhile_cons_of_pos (by simp [isDig, he]), ih (fun y hy => h y (List.mem_cons_of_mem _ hy)) hs'.2]
    · rw [List.filter_cons_of_neg (by simp [isDig, he]), List.takeWhile_cons_of_neg (by simp [isDig, he]), List.filter_eq_nil_iff]
      intro y hy e
      have e' : y.1.dig = d := of_decide_eq_true e
      have h1 := hs'.1 y hy
      have h2 := h x List.mem_cons_self
      rw [e'] at h1
      have h3 := co_neg d x.1.dig
      exact he (co_eq _ _ (by omega))

/-- THE LAW: an index tells the offsets of all entries with a digest. -/
theorem tells_all {l l' : Ents} (hP : l'.Perm l) (hS : SortedD l') (hoff : ∀ x ∈ l, 0 ≤ x.2 ∧ x.2 < 18446744073709551616) {d : List UInt8} {M : List Nat} (hT : Tells (secsOf l l') d M) : M = offsOf l' d := by
  rcases hT with ⟨h, rfl⟩ | ⟨s, hs, hw, n, r, hn, ⟨h1, h2, h3⟩, hM⟩
  · have hno : l'.filter (isDig d) = [] := by
      rw [List.filter_eq_nil_iff]
      intro x hx e
      have e' : x.1.dig = d := of_decide_eq_true e
      refine h (x.1.dig.length + 8, rowsOf l' x.1.dig.length) (List.mem_map.2 ⟨x.1.dig.length, ?_, rfl⟩) (by rw [e'])
      exact sortN_mem.2 (widthsOf_all x (hP.mem_iff.1 hx))
    rw [offsOf, hno]; rfl
  · obtain ⟨m, hm, rfl⟩ := List.mem_map.1 hs
    simp only at hw hn hM h1 h2 h3
    obtain rfl : m = d.length := by omega
    have hFF : l'.filter (isDig d) = (l'.filter (hasLen d.length)).filter (isDig d) := by
      rw [List.filter_filter]
      refine List.filter_congr fun x _ => ?_
      simp only [isDig, hasLen]
      by_cases hx : x.1.dig = d
      · simp [hx]
      · simp [hx]
    rw [rowsOf_eq] at hn hM h2 h3
    rw [offsOf, hFF]
    generalize hF : l'.filter (hasLen d.length) = F at *
    have hFl : ∀ x ∈ F, x ∈ l ∧ x.1.dig.length = d.length := fun x hx => by rw [← hF] at hx; obtain ⟨a, b⟩ := mem_hasLen.1 hx; exact ⟨hP.mem_iff.1 a, b⟩
    have hFS : SortedD F := by rw [← hF]; exact hS.filter _
    obtain ⟨r1, r2⟩ := rows_at d.length F (fun x hx => (hFl x hx).2)
    obtain rfl : n = F.length := by
      rw [r1] at hn
      exact (Nat.eq_of_mul_eq_mul_right (by omega) hn).symm
    have hp : ∀ i x, F[i]? = some x → decide (Lib.compareBytes d (rowDig (d.length + 8) (F.flatMap rowB) i) ≤ 0) = decide (Lib.compareBytes d x.1.dig ≤ 0) := fun i x hx => by rw [(r2 i x hx).1]
    rw [hM, run_all d.length d F (fun x hx => (hFl x hx).2) (fun x hx => hoff x (hFl x hx).1) (F.length - r) r (by omega)]
    have htake : (F.take r).filter (isDig d) = [] := by
      rw [List.filter_eq_nil_iff]
      intro x hx e
      have e' : x.1.dig = d := of_decide_eq_true e
      obtain ⟨i, hi⟩ := List.getElem?_of_mem hx
      have hil : i < r := by have := (List.getElem?_eq_some_iff.1 hi).1; rw [List.length_take] at this; omega
      rw [List.getElem?_take_of_lt hil] at hi
      rcases h2 with h2 | h2
      · omega
      · obtain ⟨y, hy⟩ : ∃ y, F[r - 1]? = some y := ⟨_, List.getElem?_eq_getElem (by omega)⟩
        rw [hp _ y hy] at h2
        simp only [decide_eq_false_iff_not] at h2
        have hxy : Lib.compareBytes x.1.dig y.1.dig ≤ 0 := by
          rcases Nat.lt_or_eq_of_le (show i ≤ r - 1 by omega) with h | h
          · have hxe := (List.getElem?_eq_some_iff.1 hi).2
            have hye := (List.getElem?_eq_some_iff.1 hy).2
            rw [← hxe, ← hye]
            exact List.pairwise_iff_getElem.1 hFS i (r - 1) _ _ h
          · subst h; rw [hi] at hy; cases hy; rw [co_self]; omega
        rw [e'] at hxy
        exact h2 hxy
    have hdrop : ∀ x ∈ F.drop r, Lib.compareBytes d x.1.dig ≤ 0 := by
      intro x hx
      obtain ⟨i, hi⟩ := List.getElem?_of_mem hx
      rw [List.getElem?_drop] at hi
      have hil := (List.getElem?_eq_some_iff.1 hi).1
      rcases h3 with h3 | h3
      · omega
      · obtain ⟨y, hy⟩ : ∃ y, F[r]? = some y := ⟨_, List.getElem?_eq_getElem (by omega)⟩
        rw [hp _ y hy] at h3
        simp only [decide_eq_true_eq] at h3
        rcases Nat.eq_zero_or_pos i with h | h
        · subst h; rw [Nat.add_zero] at hi; rw [hi] at hy; cases hy; exact h3
        · have hxe := (List.getElem?_eq_some_iff.1 hi).2
          have hye := (List.getElem?_eq_some_iff.1 hy).2
          have hyx : Lib.compareBytes y.1.dig x.1.dig ≤ 0 := by
            rw [← hxe, ← hye]
            exact List.pairwise_iff_getElem.1 hFS r (r + i) _ _ (by omega)
          exact co_trans _ _ _ h3 hyx
    have hfd := filter_run d (F.drop r) hdrop (hFS.sublist (List.drop_sublist _ _))
    conv => rhs; rw [← List.take_append_drop r F, List.filter_append, htake, List.nil_append, hfd]

/-- By the codes of an index: what it tells of a digest by each of them. -/
theorem tellsC_all {l : Ents} {cs : List Cod} (h : CodsFor l cs) (hoff : ∀ x ∈ l, 0 ≤ x.2 ∧ x.2 < 18446744073709551616) {code : Nat} {d : List UInt8} {M : List Nat} (hT : TellsC (sortedCods cs) code d M) : M.Perm (offsOf (codedOf l code) d) := by
  obtain ⟨h1, h2, h3, h4⟩ := h.one
  rcases hT with ⟨hn, rfl⟩ | ⟨p, hp, rfl, hT⟩
  · have : codedOf l code = [] := by
      rw [codedOf, List.filter_eq_nil_iff]
      intro x hx e
      obtain ⟨p, hp, e2⟩ := h3 x hx
      exact hn p hp (e2.trans (by simpa [hasCode] using e))
    rw [this]; exact .refl _
  · obtain ⟨l', hP, hS, e⟩ := h1 p hp
    rw [e] at hT
    rw [tells_all hP hS (fun x hx => hoff x (List.mem_filter.1 hx).1) hT]
    exact offsOf_perm hP d
/-- All codes together: every entry once. -/
theorem codes_all (d : List UInt8) : ∀ (ws : List Nat), ws.Nodup → ∀ l : Ents, (∀ x ∈ l, x.1.code ∈ ws) → (ws.flatMap fun c => offsOf (codedOf l c) d).Perm (offsOf l d) := by
  intro ws
  induction ws with
  | nil =>
    intro _ l hl
    cases l with
    | nil => exact .refl _
    | cons x l => exact absurd (hl x List.mem_cons_self) (by simp)
  | cons c ws ih =>
    intro hn l hl
    have hn' := List.nodup_cons.1 hn
    have h1 : ((l.filter (hasCode c)) ++ (l.filter fun x => !hasCode c x)).Perm l := List.filter_append_perm _ l
    have h2 := ih hn'.2 (l.filter fun x => !hasCode c x) (fun x hx => by
      obtain ⟨hx1, hx2⟩ := List.mem_filter.1 hx
      rcases List.mem_cons.1 (hl x hx1) with e | e
      · simp [hasCode, e] at hx2
      · exact e)
    have h3 : (ws.flatMap fun k => offsOf (codedOf (l.filter fun x => !hasCode c x) k) d) = ws.flatMap fun k => offsOf (codedOf l k) d := by
      have hall : ∀ k ∈ ws, offsOf (codedOf (l.filter fun x => !hasCode c x) k) d = offsOf (codedOf l k) d := by
        intro k hk
        have hkc : k ≠ c := fun e => hn'.1 (e ▸ hk)
        have e : codedOf (l.filter fun x => !hasCode c x) k = codedOf l k := by
          rw [codedOf, codedOf, List.filter_filter]
          refine List.filter_congr fun x _ => ?_
          simp only [hasCode]
          by_cases hx : x.1.code = k
          · simp [hx, hkc]
          · simp [hx]
        rw [e]
      clear ih h1 h2 hn hl hn'
      induction ws with
      | nil => rfl
      | cons k ws ih2 => rw [List.flatMap_cons, List.flatMap_cons, hall k List.mem_cons_self, ih2 (fun j hj => hall j (List.mem_cons_of_mem _ hj))]
    rw [h3] at h2
    rw [List.flatMap_cons]
    refine ((List.Perm.refl _).append h2).trans ?_
    have := offsOf_perm h1 d
    rwa [show offsOf (List.filter (hasCode c) l ++ List.filter (fun x => !hasCode c x) l) d = offsOf (codedOf l c) d ++ offsOf (List.filter (fun x => !hasCode c x) l) d by simp [offsOf, codedOf, List.filter_append]] at this
end Go.Proofs.YtobdjcnojbnegaaGreatDoor

/- laws.ixSorted and laws.ixSame. -/
namespace Go.Proofs.YtobdjcnojbnegaaGreatDoor
open Go.RowKit
set_option linter.unusedVariables false
set_option linter.unusedSimpArgs false
attribute [local go_sem] setCell_drewN alloc_drewN

set_option maxRecDepth 100000 in
set_option maxHeartbeats 1600000 in
theorem less_ixs : LessU 24 := by
  intro g c vb n W G hs hc i j hi hj hn
  have ci := hc i hi
  have cj := hc j hj
  clear hc
  go_enter Tryz.func24, Tryz.ntmps24
  go_wp2
  go_quiet (fail)
  go_wp2
  go_ret
  exact ⟨rfl, nq, rfl⟩

theorem out_shape {w : World} {B : Nat} {v : Value} {os : List Nat} (h : OutOf w B v os) : v = .slice none 0 0 ∧ os = [] ∨ ∃ g cap, v = .slice (some ⟨g, 0, none⟩) os.length cap ∧ os.length ≤ cap ∧ (∀ (j n : Nat), os[j]? = some n → w.cell? ⟨g, j, none⟩ = some (.int .u64 (n : Int))) := by
  rcases h.2 with ⟨e, e2⟩ | ⟨g, cap, cur, e, _, _, hn, _⟩
  · exact .inl ⟨e, List.eq_nil_of_length_eq_zero e2⟩
  · refine .inr ⟨g, cap, e, hn, fun j n hj => ?_⟩
    subst e
    have := World.ownsRow.cells h (g := g) rfl j (offVal n) (by rw [List.getElem?_map, hj]; rfl)
    rw [Addr.add_mid] at this
    simpa [offVal] using this

set_option maxRecDepth 100000 in
set_option maxHeartbeats 3200000 in
theorem ixSorted_ok (B : Nat) (v : Value) (os : List Nat) (w : World) (hO : OutOf w B v os) (hn : os.length ≤ 1000000) :
    Calls Tryz.prog 14 #[v] w fun e w' => ∃ v', e = .returned v' ∧ OutOf w' w.heap.size v' (sortN os) ∧ Below w.heap.size w w' := by
  obtain ⟨i0, ti, tz0, tz1, tz2⟩ := info_parts info_u64
  have hmf : ∀ (fn : Fn) (first cap : Array Value) (w : World), (Instr.makeFunc fn first cap).run Tryz.prog w = .ok (.func fn first cap) w := fun _ _ _ _ => rfl
  have hown0 : (w.alloc (.cells #[] 23)).ownsRow w.heap.size 23 1 (.slice (some ⟨w.heap.size, 0, none⟩) 0 0) 0 [] := World.ownsRow_made w #[] 0 (Nat.le_refl _) (Nat.zero_le _) rfl
  have hgo : ∀ (v1 : Value) (w1 : World), w1.ownsRow w.heap.size 23 1 v1 os.length (os.map offVal) → v1 ≠ .slice none 0 0 → Below w.heap.size w w1 →
      ∃ g cap, v1 = .slice (some ⟨g, 0, none⟩) os.length cap ∧ g < w1.heap.size ∧ Calls Tryz.prog 22 #[.iface 31 (.slice (some ⟨g, 0, none⟩) os.length cap), .func (.func 24) #[] #[.pointer (some ⟨w1.heap.size, 0, none⟩)]] (w1.alloc (.cells #[v1] 31)) fun e w' => e = .returned (.tuple #[]) ∧
        w'.cell? ⟨w1.heap.size, 0, none⟩ = some (.slice (some ⟨g, 0, none⟩) os.length cap) ∧ w1.heap.size < w'.heap.size ∧ OutOf w' w.heap.size v1 (sortN os) ∧ Below w.heap.size w w' := by
    intro v1 w1 hown hne hB
    rcases hown.2 with ⟨h, _⟩ | ⟨g, cap, cur, rfl, hge, hgc, hgle, hgcm, hgs, htk⟩
    · exact absurd h hne
    rw [Nat.mul_one] at htk hgs
    have hgl := (Array.getElem?_eq_some_iff.1 hgc).1
    have hbx := heap_alloc_last w1 (.cells #[.slice (some ⟨g, 0, none⟩) os.length cap] 31)
    refine ⟨g, cap, rfl, hgl, ?_⟩
    have hS := SliceU64 24 less_ixs (enters_of Tryz.func24 (by kernel_rfl) rfl) g cap w1.heap.size (os.map fun n : Nat => (n : Int)) cur (w1.alloc (.cells #[.slice (some ⟨g, 0, none⟩) os.length cap] 31)) (by simpa using hn) ((heap_alloc_old w1 _ hgl).trans hgc) (by simp; omega) (by rw [List.length_map, htk, map_offVal]) (by rw [List.length_map]; exact (blk_cell' hbx 0).trans rfl) (by omega)
    rw [List.length_map] at hS
    refine hS.mono ?_
    rintro e w' ⟨rfl, l', cur', hP, hg', hcs, htk', hPw, hK⟩
    have hl' := perm_sortN hP hPw
    have hll : l'.length = os.length := by rw [hP.length_eq, List.length_map]
    have hb' := (hK.block w1.heap.size (by simp) (by omega)).trans hbx
    refine ⟨rfl, (blk_cell' hb' 0).trans rfl, (Array.getElem?_eq_some_iff.1 hb').1, ⟨by simp, .inr ⟨g, cap, cur', by rw [sortN_len], hge, hg', by rw [sortN_len]; exact hgle, hgcm, by omega, ?_⟩⟩, ?_⟩
    · rw [Nat.mul_one, sortN_len, ← hll, htk', hl', ← map_offVal]
    · exact hK.to_below (below_box hB _) (fun i e => by omega)
  have HGO := Lib.hid hgo
  clear hgo
  go_enter Tryz.func14, Tryz.ntmps14
  go_wp2_with (at_builtin; refine later ?_)
  rcases out_shape hO with ⟨rfl, rfl⟩ | ⟨g0, c0, rfl, hc0, hcell⟩
  · refine now ?_
    refine wpList_append_own_none rfl _ _ 31 rfl w.heap.size 23 i0 1 Tryz.underlying31 ti _ _ _ rfl hown0 rfl ?_
    obtain ⟨g, cap, hv, hgl, hS⟩ := HGO.out _ _ hown0 (by simp) (below_boxed w _)
    have hz1 : (w.alloc (.cells #[] 23)).heap.size = w.heap.size + 1 := by simp
    obtain ⟨w1, hw1⟩ : ∃ w1, w1 = w.alloc (.cells #[] 23) := ⟨_, rfl⟩
    rw [← hw1] at hS hgl ⊢
    rw [hv] at hS ⊢
    clear hw1 hown0
    go_wp2_with fail
    refine hS.mono ?_
    clear hS
    rintro e w2 ⟨rfl, k0, hz2, hO2, hB2⟩
    have HX := Lib.hid (And.intro hO2 hB2)
    clear hO2 hB2
    go_wp2_with fail
    go_ret
    exact ⟨_, rfl, HX.out.1, HX.out.2⟩
  · refine now ?_
    refine wpList_append_own _ rfl _ _ 31 rfl w.heap.size 23 i0 (.int .u64 0) 1 8 Tryz.underlying31 ti tz0 tz1 tz2 rfl (by decide) _ _ _ rfl hown0 ⟨g0, 0, none⟩ os.length c0 (os.map offVal) rfl (by simp) ?c1 ?c2 ?c3 ?c4 ?c5 ?_
    case c1 =>
      intro j u hj
      rw [List.getElem?_map] at hj
      cases hq : os[j]? with
      | none => rw [hq] at hj; cases hj
      | some n =>
        rw [hq] at hj; cases hj
        rw [Addr.add_mid, Nat.zero_add]
        have h := hcell j n hq
        exact (World.cell?_of_block (w := w) (heap_alloc_old w _ (World.block_lt_of_cell? w _ h))).trans h
    case c2 =>
      intro u hu
      obtain ⟨n, _, rfl⟩ := List.mem_map.1 hu
      rfl
    case c3 => unfold maxLen; omega
    case c4 => omega
    case c5 => simp
    intro v1 w1 hown1 hgrow hnn
    have hB1 : Below w.heap.size w w1 := (kp_grown hgrow).to_below (below_boxed w _) (fun i e => Nat.le_of_eq (by cases e; rfl))
    rw [Nat.zero_add, List.nil_append] at hown1
    obtain ⟨g, cap, hv, hgl, hS⟩ := HGO.out _ _ hown1 (fun e => by cases (hnn.1 e).1) hB1
    rw [hv] at hS ⊢
    clear hown1 hgrow hnn hB1 hown0 hcell
    go_wp2_with fail
    refine hS.mono ?_
    clear hS
    rintro e w2 ⟨rfl, k0, hz2, hO2, hB2⟩
    have HX := Lib.hid (And.intro hO2 hB2)
    clear hO2 hB2
    go_wp2_with fail
    go_ret
    exact ⟨_, rfl, HX.out.1, HX.out.2⟩

set_option maxRecDepth 100000 in
set_option maxHeartbeats 3200000 in
/-- Of equal lists. -/
theorem ixSame_eq (B1 B2 : Nat) (v1 v2 : Value) (os : List Nat) (w : World) (h1 : OutOf w B1 v1 os) (h2 : OutOf w B2 v2 os) (hn : os.length ≤ 1000000) :
    Calls Tryz.prog 13 #[v1, v2] w fun e w' => e = .returned (.bool true) ∧ Below w.heap.size w w' := by
  obtain ⟨p1, c1, rfl⟩ : ∃ p c, v1 = .slice p os.length c := by
    rcases out_shape h1 with ⟨rfl, rfl⟩ | ⟨g, c, rfl, _⟩
    · exact ⟨none, 0, rfl⟩
    · exact ⟨_, _, rfl⟩
  obtain ⟨p2, c2, rfl⟩ : ∃ p c, v2 = .slice p os.length c := by
    rcases out_shape h2 with ⟨rfl, rfl⟩ | ⟨g, c, rfl, _⟩
    · exact ⟨none, 0, rfl⟩
    · exact ⟨_, _, rfl⟩
  have H1 := Lib.hid (out_shape h1)
  have H2 := Lib.hid (out_shape h2)
  clear h1 h2
  have hself : ((os.length : Int) == (os.length : Int)) = true := by simp
  go_enter Tryz.func13, Tryz.ntmps13
  go_wp2_with fail
  go_loopw [13] (fun vi wr => ∃ (k m : Nat), k ≤ os.length ∧ vi = .int .i64 (k : Int) ∧ wr = w.drewN m) (fun vi _ => os.length - (intOf vi).toNat)
  case atStart => exact ⟨0, 0, Nat.zero_le _, rfl, rfl⟩
  case round =>
    obtain ⟨k, m, hk, rfl, rfl⟩ := hrel
    by_cases hlt : k < os.length
    · obtain ⟨n, hnk⟩ : ∃ n, os[k]? = some n := ⟨_, List.getElem?_eq_getElem hlt⟩
      obtain ⟨g1, rfl, k1⟩ : ∃ g1, p1 = some ⟨g1, 0, none⟩ ∧ w.cell? ⟨g1, k, none⟩ = some (.int .u64 (n : Int)) := by
        rcases H1.out with ⟨_, h⟩ | ⟨g, c, e, _, h⟩
        · rw [h] at hlt; simp at hlt
        · cases e; exact ⟨g, rfl, h k n hnk⟩
      obtain ⟨g2, rfl, k2⟩ : ∃ g2, p2 = some ⟨g2, 0, none⟩ ∧ w.cell? ⟨g2, k, none⟩ = some (.int .u64 (n : Int)) := by
        rcases H2.out with ⟨_, h⟩ | ⟨g, c, e, _, h⟩
        · rw [h] at hlt; simp at hlt
        · cases e; exact ⟨g, rfl, h k n hnk⟩
      have q1 : ∀ m, (w.drewN m).cell? ⟨g1, k, none⟩ = some (.int .u64 (n : Int)) := fun _ => k1
      have q2 : ∀ m, (w.drewN m).cell? ⟨g2, k, none⟩ = some (.int .u64 (n : Int)) := fun _ => k2
      clear hnk k1 k2
      go_wp2_with fail
      go_quiet (fail)
      go_wp2_with fail
      go_roundw
      case rel => exact ⟨k + 1, _, by omega, by go_num, rfl⟩
      case measure => simp [intOf]; omega
    · go_wp2_with fail
      go_ret
      exact ⟨rfl, below_drewn (Below.refl _ _) _⟩
end Go.Proofs.YtobdjcnojbnegaaGreatDoor

/- Rows that are kept in a map by keys: what lies there. -/
namespace Go.Proofs.YtobdjcnojbnegaaGreatDoor
open Go.RowKit
set_option linter.unusedVariables false
set_option linter.unusedSimpArgs false

structure Grp (α : Type) where
  key : Int
  g : Nat
  cap : Nat
  items : List α
variable {α : Type}
def Grp.val (G : Grp α) : Value := .slice (some ⟨G.g, 0, none⟩) G.items.length G.cap
def Grp.pair (G : Grp α) : Int × Value := (G.key, G.val)
theorem Grp.own (G : Grp α) : G.val.ownBlock = some G.g := rfl

/-- The map at block mi holds these rows, each of two cells an item. -/
structure GrpsAt (enc : α → List Value) (w : World) (mi : Nat) (q : IntKind) (T : TypeId) (z : Nat) (Gs : List (Grp α)) : Prop where
  im : ImAt w mi q (Gs.map Grp.pair)
  own : ∀ G ∈ Gs, w.ownsRow z T 2 G.val G.items.length (G.items.flatMap enc)
  gs : (Gs.map Grp.g).Nodup

variable {enc : α → List Value} {w w' : World} {mi : Nat} {q : IntKind} {T : TypeId} {z : Nat} {Gs : List (Grp α)}

theorem GrpsAt.lt (h : GrpsAt enc w mi q T z Gs) {G : Grp α} (hG : G ∈ Gs) : z ≤ G.g ∧ G.g < w.heap.size := (h.own G hG).lt _ G.own
theorem GrpsAt.ne (h : GrpsAt enc w mi q T z Gs) {G : Grp α} (hG : G ∈ Gs) : G.g ≠ mi := by
  intro e
  obtain ⟨_, cur, hc⟩ := own_cells (h.own G hG) G.own
  obtain ⟨es, cl, hm, _⟩ := h.im
  rw [e, hm] at hc; cases hc
theorem GrpsAt.row (h : GrpsAt enc w mi q T z Gs) {G : Grp α} (hG : G ∈ Gs) : ∃ cur, w.heap[G.g]? = some (.cells cur T (0, 0)) := (own_cells (h.own G hG) G.own).2
theorem GrpsAt.kp {S : Nat → Prop} (h : GrpsAt enc w mi q T z Gs) (k : Kp S w w') (hm : ¬ S mi) (hg : ∀ G ∈ Gs, ¬ S G.g) : GrpsAt enc w' mi q T z Gs :=
  ⟨h.im.kp k hm, fun G hG => own_kp (h.own G hG) k (fun g e => by cases e; exact hg G hG), h.gs⟩
theorem GrpsAt.below (h : GrpsAt enc w mi q T z Gs) (hb : Below w.heap.size w w') : GrpsAt enc w' mi q T z Gs := h.kp (S := fun _ => False) (Kp.of_below hb) id (fun _ _ => id)
theorem GrpsAt.none (w : World) (z : Nat) : GrpsAt enc (w.alloc (.map #[] 0)) w.heap.size q T z [] := ⟨ImAt.made w q, by simp, List.nodup_nil⟩

theorem grp_keys (Gs : List (Grp α)) : (Gs.map Grp.pair).map (·.1) = Gs.map Grp.key := by simp [Function.comp_def, Grp.pair]
theorem GrpsAt.keys (h : GrpsAt enc w mi q T z Gs) : (Gs.map Grp.key).Nodup := by rw [← grp_keys]; exact h.im.nodup
theorem grp_look {Gs : List (Grp α)} (hn : (Gs.map Grp.key).Nodup) {G : Grp α} (hG : G ∈ Gs) : ilook (Gs.map Grp.pair) G.key = some G.val :=
  ilook_of_mem (by rw [grp_keys]; exact hn) (List.mem_map.2 ⟨G, hG, rfl⟩)
theorem grp_no {Gs : List (Grp α)} {k : Int} (h : ∀ G ∈ Gs, G.key ≠ k) : ilook (Gs.map Grp.pair) k = .none := by
  rw [ilook_none]
  intro p hp
  obtain ⟨G, hG, rfl⟩ := List.mem_map.1 hp
  exact h G hG

/-- A new row, with nothing in it yet. -/
theorem GrpsAt.new (h : GrpsAt enc w mi q T z Gs) {k : Int} {w3 : World} {g : Nat} (hno : ∀ G ∈ Gs, G.key ≠ k) (hg : g = w.heap.size) (hz : z ≤ w.heap.size)
    (hI : ImAt w3 mi q (iput (Gs.map Grp.pair) k (.slice (some ⟨g, 0, .none⟩) 0 0))) (hK : Kp (fun i => i = mi) (w.alloc (.cells #[] T)) w3) : GrpsAt enc w3 mi q T z (Gs ++ [⟨k, g, 0, []⟩]) := by
  subst hg
  have ha := h.below (below_boxed w (.cells #[] T))
  have hlt := h.im.lt
  refine ⟨?_, ?_, ?_⟩
  · rw [iput_new (fun p hp => by obtain ⟨G, hG, rfl⟩ := List.mem_map.1 hp; exact hno G hG)] at hI
    simpa [Grp.pair, Grp.val] using hI
  · intro G hG
    rcases List.mem_append.1 hG with hG | hG
    · exact own_kp (ha.own G hG) hK (fun g e => by cases e; exact h.ne hG)
    · rw [List.mem_singleton] at hG; subst hG
      exact own_kp (World.ownsRow_made w #[] 0 hz (Nat.zero_le _) rfl) hK (fun g e => by cases e; show ¬ w.heap.size = mi; omega)
  · rw [List.map_append, List.nodup_append]
    refine ⟨h.gs, by simp, fun a ha b hb => ?_⟩
    obtain ⟨G, hG, rfl⟩ := List.mem_map.1 ha
    simp only [List.map_cons, List.map_nil, List.mem_singleton] at hb
    subst hb
    have := (h.lt hG).2
    omega

theorem nodup_set {β : Type} {l : List β} {j : Nat} {x y : β} (hn : l.Nodup) (hj : l[j]? = some x) (hy : y = x ∨ y ∉ l) : (l.set j y).Nodup := by
  rcases hy with rfl | hy
  · have : l.set j y = l := by
      apply List.ext_getElem?
      intro i
      by_cases e : j = i
      · subst e
        rw [List.getElem?_set_self (List.getElem?_eq_some_iff.1 hj).1]; exact hj.symm
      · rw [List.getElem?_set_ne e]
    rw [this]; exact hn
  · have : l.set j y = l.take j ++ y :: l.drop (j + 1) := by
      rw [List.set_eq_take_append_cons_drop, if_pos (by rcases Nat.lt_or_ge j l.length with h | h; exact h; rw [List.getElem?_eq_none h] at hj; cases hj)]
    rw [this]
    have hsub : (l.take j ++ l.drop (j + 1)).Sublist l := by
      have h1 := List.take_append_drop j l
      have h2 : (l.drop (j + 1)).Sublist (l.drop j) := by
        rw [show l.drop (j + 1) = (l.drop j).drop 1 by rw [List.drop_drop]]
        exact List.drop_sublist _ _
      have := (List.Sublist.refl (l.take j)).append h2
      rwa [h1] at this
    have hn2 := hn.sublist hsub
    rw [List.nodup_append] at hn2 ⊢
    refine ⟨hn2.1, List.nodup_cons.2 ⟨fun h => hy (List.mem_of_mem_drop h), hn2.2.1⟩, fun a ha b hb => ?_⟩
    rcases List.mem_cons.1 hb with rfl | hb
    · intro e; subst e; exact hy (List.mem_of_mem_take ha)
    · exact hn2.2.2 a ha b hb

theorem nodup_at {β : Type} {l : List β} (hn : l.Nodup) {i j : Nat} {x : β} (hi : l[i]? = some x) (hj : l[j]? = some x) : i = j := by
  have h1 : i < l.length := (List.getElem?_eq_some_iff.1 hi).1
  exact (List.getElem?_inj h1 hn).1 (hi.trans hj.symm)

/-- A row with one item more. -/
theorem GrpsAt.append (h : GrpsAt enc w mi q T z Gs) {j : Nat} {G : Grp α} (hj : Gs[j]? = some G) (x : α) {g4 cap4 : Nat} {w4 w5 : World}
    (hown : w4.ownsRow z T 2 (.slice (some ⟨g4, 0, .none⟩) (G.items.length + 1) cap4) (G.items.length + 1) (G.items.flatMap enc ++ enc x)) (hgrow : w.grownBy w4 G.val.ownBlock) (hloc : G.val.ownBlock = some g4 ∨ g4 = w.heap.size)
    (hI : ImAt w5 mi q (iput (Gs.map Grp.pair) G.key (.slice (some ⟨g4, 0, .none⟩) (G.items.length + 1) cap4))) (hK : Kp (fun i => i = mi) w4 w5) : GrpsAt enc w5 mi q T z (Gs.set j ⟨G.key, g4, cap4, G.items ++ [x]⟩) := by
  have hG := List.mem_of_getElem? hj
  have hlen := (List.getElem?_eq_some_iff.1 hj).1
  have hlt := h.im.lt
  have hk4 := kp_grown hgrow
  have hg4 : g4 ≠ mi := by
    rcases hloc with e | e
    · rw [G.own] at e; cases e; exact h.ne hG
    · omega
  refine ⟨?_, ?_, ?_⟩
  · rw [iput_old (j := j) (x := G.val) (by rw [grp_keys]; exact h.keys) (by rw [List.getElem?_map, hj]; rfl)] at hI
    rw [List.map_set]
    simpa [Grp.pair, Grp.val] using hI
  · intro G' hG'
    obtain ⟨i, hi⟩ := List.getElem?_of_mem hG'
    by_cases hne : j = i
    · subst hne
      rw [List.getElem?_set_self hlen] at hi
      cases hi
      refine own_kp ?_ hK (fun g e => by cases e; exact hg4)
      simpa [Grp.val, List.flatMap_append] using hown
    · rw [List.getElem?_set_ne hne] at hi
      have hGi := List.mem_of_getElem? hi
      refine own_kp (own_kp (h.own G' hGi) hk4 (fun g e => ?_)) hK (fun g e => by cases e; exact h.ne hGi)
      cases e
      rw [G.own]
      intro e
      injection e with e
      exact hne (nodup_at h.gs (i := j) (j := i) (by rw [List.getElem?_map, hj]; rfl) (by rw [List.getElem?_map, hi]; show some G'.g = some G.g; exact congrArg some (by first | exact e | exact e.symm | (have := e; simp only [] at this; omega))))
  · rw [List.map_set]
    refine nodup_set h.gs (x := G.g) (by rw [List.getElem?_map, hj]; rfl) ?_
    rcases hloc with e | e
    · rw [G.own] at e; cases e; exact .inl rfl
    · refine .inr fun hm => ?_
      obtain ⟨G', hG', e'⟩ := List.mem_map.1 hm
      have := (h.lt hG').2
      have e2 : G'.g = g4 := e'
      omega

/-- Items, kept by their keys. -/
structure Grouped (key : α → Int) (Gs : List (Grp α)) (done : List α) : Prop where
  eq : ∀ G ∈ Gs, G.items = done.filter (fun x => decide (key x = G.key))
  ne : ∀ G ∈ Gs, ∃ x ∈ done, key x = G.key
  all : ∀ x ∈ done, ∃ G ∈ Gs, G.key = key x
structure GMid (key : α → Int) (Gs : List (Grp α)) (done : List α) (k : Int) : Prop where
  eq : ∀ G ∈ Gs, G.items = done.filter (fun x => decide (key x = G.key))
  ne : ∀ G ∈ Gs, G.key = k ∨ ∃ x ∈ done, key x = G.key
  all : ∀ x ∈ done, ∃ G ∈ Gs, G.key = key x
variable {key : α → Int} {done : List α}
theorem Grouped.none : Grouped key [] [] := ⟨by simp, by simp, by simp⟩
theorem Grouped.old (h : Grouped key Gs done) (k : Int) : GMid key Gs done k := ⟨h.eq, fun G hG => .inr (h.ne G hG), h.all⟩
theorem Grouped.new (h : Grouped key Gs done) {k : Int} (hno : ∀ G ∈ Gs, G.key ≠ k) (g cap : Nat) : GMid key (Gs ++ [⟨k, g, cap, []⟩]) done k := by
  refine ⟨fun G hG => ?_, fun G hG => ?_, fun x hx => ?_⟩
  · rcases List.mem_append.1 hG with hG | hG
    · exact h.eq G hG
    · rw [List.mem_singleton] at hG; subst hG
      symm
      rw [List.filter_eq_nil_iff]
      intro x hx e
      obtain ⟨G, hG, e'⟩ := h.all x hx
      exact hno G hG (e'.trans (of_decide_eq_true e))
  · rcases List.mem_append.1 hG with hG | hG
    · exact .inr (h.ne G hG)
    · rw [List.mem_singleton] at hG; subst hG; exact .inl rfl
  · obtain ⟨G, hG, e⟩ := h.all x hx
    exact ⟨G, List.mem_append_left _ hG, e⟩
theorem GMid.append {x : α} (hn : (Gs.map Grp.key).Nodup) (h : GMid key Gs done (key x)) {j : Nat} {G : Grp α} (hj : Gs[j]? = some G) (hk : G.key = key x) (g cap : Nat) : Grouped key (Gs.set j ⟨G.key, g, cap, G.items ++ [x]⟩) (done ++ [x]) := by
  have hG := List.mem_of_getElem? hj
  have hother : ∀ G' ∈ Gs.set j ⟨G.key, g, cap, G.items ++ [x]⟩, G' = ⟨G.key, g, cap, G.items ++ [x]⟩ ∨ (G' ∈ Gs ∧ G'.key ≠ key x) := by
    intro G' hG'
    obtain ⟨i, hi⟩ := List.getElem?_of_mem hG'
    by_cases hne : j = i
    · subst hne
      rw [List.getElem?_set_self (List.getElem?_eq_some_iff.1 hj).1] at hi
      cases hi; exact .inl rfl
    · rw [List.getElem?_set_ne hne] at hi
      refine .inr ⟨List.mem_of_getElem? hi, fun e => hne ?_⟩
      exact nodup_at hn (i := j) (j := i) (x := key x) (by rw [List.getElem?_map, hj]; show some G.key = _; rw [hk]) (by rw [List.getElem?_map, hi]; show some G'.key = _; rw [e])
  have hset : (⟨G.key, g, cap, G.items ++ [x]⟩ : Grp α) ∈ Gs.set j ⟨G.key, g, cap, G.items ++ [x]⟩ := by
    refine List.mem_of_getElem? (i := j) ?_
    rw [List.getElem?_set_self (List.getElem?_eq_some_iff.1 hj).1]
  refine ⟨fun G' hG' => ?_, fun G' hG' => ?_, fun y hy => ?_⟩
  · rcases hother G' hG' with rfl | ⟨h1, h2⟩
    · rw [List.filter_append, ← h.eq G hG]
      simp [hk]
    · rw [List.filter_append, ← h.eq G' h1]
      simp [show ¬ key x = G'.key from fun e => h2 e.symm]
  · rcases hother G' hG' with rfl | ⟨h1, h2⟩
    · exact ⟨x, by simp, hk.symm⟩
    · rcases h.ne G' h1 with e | ⟨y, hy, e⟩
      · exact absurd e h2
      · exact ⟨y, List.mem_append_left _ hy, e⟩
  · by_cases he : key y = key x
    · exact ⟨_, hset, hk.trans he.symm⟩
    · rcases List.mem_append.1 hy with hy | hy
      · obtain ⟨G', hG', e⟩ := h.all y hy
        obtain ⟨i, hi⟩ := List.getElem?_of_mem hG'
        refine ⟨G', List.mem_of_getElem? (i := i) ?_, e⟩
        by_cases e2 : j = i
        · subst e2
          rw [hi] at hj; cases hj
          exact absurd (e.symm.trans hk) he
        · rw [List.getElem?_set_ne e2]; exact hi
      · rw [List.mem_singleton] at hy; subst hy; exact absurd rfl he
end Go.Proofs.YtobdjcnojbnegaaGreatDoor

/- The partitions of a row: what holds between the steps. -/
namespace Go.Proofs.YtobdjcnojbnegaaGreatDoor
open Go.Sort
set_option linter.unusedVariables false
variable {α : Type} [Inhabited α] {lt : α → α → Bool}

/-- Behind the pivot p at a: what stands left of i, and what stands right of j. -/
structure QInv (lf : α → Bool) (p : α) (a b i j : Nat) (d dk : Array α) : Prop where
  size : dk.size = d.size
  perm : PermIn a b d dk
  piv : dk[a]! = p
  left : ∀ t, a < t → t < i → lf dk[t]! = true
  right : ∀ t, j < t → t < b → lf dk[t]! = false
  ai : a < i
  jb : j < b
  ij : i ≤ j + 1
theorem QInv.up {lf : α → Bool} {p : α} {a b i j : Nat} {d dk : Array α} (h : QInv lf p a b i j d dk) (hij : i ≤ j) (hx : lf dk[i]! = true) : QInv lf p a b (i + 1) j d dk :=
  ⟨h.size, h.perm, h.piv, fun t h1 h2 => by
    by_cases e : t = i
    · subst e; exact hx
    · exact h.left t h1 (by omega), h.right, by have := h.ai; omega, h.jb, by omega⟩
theorem QInv.down {lf : α → Bool} {p : α} {a b i j : Nat} {d dk : Array α} (h : QInv lf p a b i j d dk) (hij : i ≤ j) (hx : lf dk[j]! = false) : QInv lf p a b i (j - 1) d dk :=
  ⟨h.size, h.perm, h.piv, h.left, fun t h1 h2 => by
    by_cases e : t = j
    · subst e; exact hx
    · exact h.right t (by omega) h2, h.ai, by have := h.jb; omega, by have := h.ai; omega⟩
theorem QInv.swap {lf : α → Bool} {p : α} {a b i j : Nat} {d dk : Array α} (h : QInv lf p a b i j d dk) (hb : b ≤ d.size) (hij : i ≤ j) (hi : lf dk[i]! = false) (hj : lf dk[j]! = true) : QInv lf p a b (i + 1) (j - 1) d (swp dk i j) := by
  have hs := h.size
  have hjb := h.jb
  have hai := h.ai
  have hne : i ≠ j := fun e => by subst e; rw [hi] at hj; cases hj
  have hi' : i < dk.size := by omega
  have hj' : j < dk.size := by omega
  refine ⟨by rw [size_swp]; exact hs, permIn_trans _ _ _ _ _ h.perm (swp_permIn dk a b i j (by omega) (by omega) (by omega) (by omega) (by omega)), ?_, ?_, ?_, by omega, by omega, by omega⟩
  · rw [swp_get dk hi' hj', if_neg (by omega), if_neg (by omega)]; exact h.piv
  · intro t h1 h2
    rw [swp_get dk hi' hj']
    split
    · next e => subst e; omega
    · split
      · exact hj
      · exact h.left t h1 (by omega)
  · intro t h1 h2
    rw [swp_get dk hi' hj']
    split
    · exact hi
    · split
      · next e => subst e; omega
      · exact h.right t (by omega) h2
theorem QInv.start {lf : α → Bool} {a b c : Nat} {d : Array α} (hab : a < b) (hb : b ≤ d.size) (hac : a ≤ c) (hcb : c < b) : QInv lf d[c]! a b (a + 1) (b - 1) d (swp d a c) := by
  refine ⟨size_swp _ _ _, swp_permIn d a b a c (by omega) hab hac hcb hb, ?_, fun t h1 h2 => by omega, fun t h1 h2 => by omega, by omega, by omega, by omega⟩
  rw [swp_get d (show a < d.size by omega) (show c < d.size by omega)]
  split
  · next e => subst e; rfl
  · rw [if_pos rfl]
/-- The end of a partition: the pivot between the two sides. -/
theorem QInv.fin {p : α} {a b i j : Nat} {d dk : Array α} (h : QInv (fun x => lt x p) p a b i j d dk) (hb : b ≤ d.size) (hij : j < i) :
    a ≤ j ∧ j < b ∧ PermIn a b d (swp dk j a) ∧ (∀ t, a ≤ t → t < j → lt (swp dk j a)[t]! (swp dk j a)[j]! = true) ∧ (∀ t, j < t → t < b → lt (swp dk j a)[t]! (swp dk j a)[j]! = false) := by
  have hs := h.size
  have hjb := h.jb
  have hai := h.ai
  have hij2 := h.ij
  have hj' : j < dk.size := by omega
  have ha' : a < dk.size := by omega
  have hj : (swp dk j a)[j]! = p := by
    rw [swp_get dk hj' ha']
    split
    · next e => rw [e]; exact h.piv
    · rw [if_pos rfl]; exact h.piv
  refine ⟨by omega, hjb, permIn_trans _ _ _ _ _ h.perm (swp_permIn dk a b j a (by omega) hjb (by omega) (by omega) (by omega)), fun t h1 h2 => ?_, fun t h1 h2 => ?_⟩
  · rw [hj, swp_get dk hj' ha']
    split
    · exact h.left j (by omega) (by omega)
    · rw [if_neg (by omega)]
      exact h.left t (by omega) (by omega)
  · rw [hj, swp_get dk hj' ha', if_neg (by omega), if_neg (by omega)]
    exact h.right t h1 h2
theorem gsift_stop {hi first r : Nat} {d : Array α} (h : hi ≤ 2 * r + 1) : siftDown lt hi first r d = d := by
  rw [siftDown, dif_pos h]
theorem gsift_right {hi first r ch c2 : Nat} {d : Array α} (hch : ch = 2 * r + 1) (hc2 : c2 = ch + 1) (h : c2 < hi) (hl : lt d[first + ch]! d[first + ch + 1]! = true) :
    siftDown lt hi first r d = if lt d[first + r]! d[first + c2]! = true then siftDown lt hi first c2 (swp d (first + r) (first + c2)) else d := by
  subst hc2; subst hch
  have e : first + (2 * r + 2) = first + (2 * r + 1 + 1) := by omega
  rw [siftDown, dif_neg (by omega), if_pos (by simp only [Bool.and_eq_true, decide_eq_true_eq]; exact ⟨by omega, hl⟩)]
  by_cases h1 : lt d[first + r]! d[first + (2 * r + 1 + 1)]! = true
  · rw [if_pos h1, if_neg (by rw [e]; simpa using h1), dif_pos (by omega)]
  · rw [if_neg h1, if_pos (by rw [e]; simpa using h1)]
theorem gsift_left {hi first r ch : Nat} {d : Array α} (hch : ch = 2 * r + 1) (h : ch < hi) (hl : ch + 1 < hi → lt d[first + ch]! d[first + ch + 1]! = false) :
    siftDown lt hi first r d = if lt d[first + r]! d[first + ch]! = true then siftDown lt hi first ch (swp d (first + r) (first + ch)) else d := by
  subst hch
  rw [siftDown, dif_neg (by omega), if_neg (by
    simp only [Bool.and_eq_true, decide_eq_true_eq, not_and, Bool.not_eq_true]
    intro h1; exact hl (by omega))]
  by_cases h1 : lt d[first + r]! d[first + (2 * r + 1)]! = true
  · rw [if_pos h1, if_neg (by simpa using h1)]
  · rw [if_neg h1, if_pos (by simpa using h1)]
theorem gsize_sift (lt : α → α → Bool) (hi first : Nat) : ∀ (m r : Nat) (d : Array α), hi - r ≤ m → (siftDown lt hi first r d).size = d.size := by
  intro m
  induction m with
  | zero => intro r d h; rw [gsift_stop (by omega)]
  | succ m ih =>
    intro r d h
    by_cases h0 : hi ≤ 2 * r + 1
    · rw [gsift_stop h0]
    · by_cases h1 : 2 * r + 1 + 1 < hi ∧ lt d[first + (2 * r + 1)]! d[first + (2 * r + 1) + 1]! = true
      · rw [gsift_right rfl rfl h1.1 h1.2]
        split
        · rw [ih _ _ (by omega), size_swp]
        · rfl
      · rw [gsift_left rfl (by omega) (fun h2 => by simpa using fun h3 => h1 ⟨h2, h3⟩)]
        split
        · rw [ih _ _ (by omega), size_swp]
        · rfl
theorem gscan_go {d : Array α} {b i : Nat} (h : i < b) (hl : lt d[i]! d[i - 1]! = false) : scanSorted lt d b i = scanSorted lt d b (i + 1) := by
  rw [scanSorted, if_pos (by simp [h, hl])]
theorem gscan_end {d : Array α} {b i : Nat} (h : ¬ i < b) : scanSorted lt d b i = i := by
  rw [scanSorted, if_neg (by simp [h])]
theorem gscan_stop {d : Array α} {b i : Nat} (hl : lt d[i]! d[i - 1]! = true) : scanSorted lt d b i = i := by
  rw [scanSorted, if_neg (by simp [hl])]
theorem gdown_go {d : Array α} {j : Nat} (h : 1 ≤ j) (hl : lt d[j]! d[j - 1]! = true) : shiftDown lt j d = shiftDown lt (j - 1) (swp d j (j - 1)) := by
  obtain ⟨k, rfl⟩ : ∃ k, j = k + 1 := ⟨j - 1, by omega⟩
  rw [shiftDown, if_neg (by simpa using hl)]
  rfl
theorem gdown_stop {d : Array α} {j : Nat} (hl : 1 ≤ j → lt d[j]! d[j - 1]! = false) : shiftDown lt j d = d := by
  cases j with
  | zero => rfl
  | succ k => rw [shiftDown, if_pos (by simpa using hl (by omega))]
theorem gup_go {d : Array α} {b j : Nat} (h : j < b) (hl : lt d[j]! d[j - 1]! = true) : shiftUp lt b j d = shiftUp lt b (j + 1) (swp d j (j - 1)) := by
  rw [shiftUp, if_pos h, if_neg (by simpa using hl)]
theorem gup_stop {d : Array α} {b j : Nat} (hl : j < b → lt d[j]! d[j - 1]! = false) : shiftUp lt b j d = d := by
  rw [shiftUp]
  split
  · rename_i h
    rw [if_pos (by simpa using hl h)]
  · rfl
theorem gsize_down : ∀ (j : Nat) (d : Array α), (shiftDown lt j d).size = d.size
  | 0, d => rfl
  | j + 1, d => by
    rw [shiftDown]
    split
    · rfl
    · rw [gsize_down j, size_swp]
theorem gsize_up (b : Nat) : ∀ (m j : Nat) (d : Array α), b - j ≤ m → (shiftUp lt b j d).size = d.size := by
  intro m
  induction m with
  | zero => intro j d h; rw [shiftUp, if_neg (by omega)]
  | succ m ih =>
    intro j d h
    rw [shiftUp]
    split
    · split
      · rfl
      · rw [ih _ _ (by omega), size_swp]
    · rfl
/-- Down, and up, as far as asked. -/
def gshD (lt : α → α → Bool) (a i : Nat) (d : Array α) : Array α := if i - a ≥ 2 then shiftDown lt (i - 1) d else d
def gshU (lt : α → α → Bool) (b i : Nat) (d : Array α) : Array α := if b - i ≥ 2 then shiftUp lt b (i + 1) d else d
theorem gsize_shD (a i : Nat) (d : Array α) : (gshD lt a i d).size = d.size := by
  unfold gshD; split
  · exact gsize_down _ _
  · rfl
theorem gsize_shU (b i : Nat) (d : Array α) : (gshU lt b i d).size = d.size := by
  unfold gshU; split
  · exact gsize_up b _ _ _ (Nat.le_refl _)
  · rfl
theorem gins_none {a b i : Nat} {d : Array α} : partialIns lt a b 0 i d = (d, false) := rfl
theorem gins_done {a b s i i1 : Nat} {d : Array α} (h : scanSorted lt d b i = i1) (e : i1 = b) : partialIns lt a b (s + 1) i d = (d, true) := by
  rw [partialIns]
  simp only [h]
  rw [if_pos e]
theorem gins_short {a b s i i1 : Nat} {d : Array α} (h : scanSorted lt d b i = i1) (e : i1 ≠ b) (h5 : b - a < 50) : partialIns lt a b (s + 1) i d = (d, false) := by
  rw [partialIns]
  simp only [h]
  rw [if_neg e, if_pos h5]
theorem gins_round {a b s i i1 : Nat} {d : Array α} (h : scanSorted lt d b i = i1) (e : i1 ≠ b) (h5 : ¬ b - a < 50) : partialIns lt a b (s + 1) i d = partialIns lt a b s i1 (gshU lt b i1 (gshD lt a i1 (swp d i1 (i1 - 1)))) := by
  rw [partialIns]
  simp only [h]
  rw [if_neg e, if_neg h5]
  rfl
/-- What holds at each round: all that is left to do is to sort [a1, b1). -/
structure Gn (lt : α → α → Bool) (a b : Nat) (d : Array α) (a1 b1 : Nat) (dk : Array α) : Prop where
  lo : a ≤ a1
  le : a1 ≤ b1
  hi : b1 ≤ b
  size : dk.size = d.size
  below : Below lt a1 b1 dk
  fin : ∀ R, PermIn a1 b1 dk R → SortedIn lt a1 b1 R → PermIn a b d R ∧ SortedIn lt a b R
theorem Gn.start {a b : Nat} {d : Array α} (hab : a ≤ b) (hB : Below lt a b d) : Gn lt a b d a b d :=
  ⟨Nat.le_refl _, hab, Nat.le_refl _, rfl, hB, fun R h h' => ⟨h, h'⟩⟩
theorem Gn.perm {a b a1 b1 : Nat} {d dk dk' : Array α} (h : Gn lt a b d a1 b1 dk) (hb : b ≤ d.size) (hp : PermIn a1 b1 dk dk') : Gn lt a b d a1 b1 dk' :=
  ⟨h.lo, h.le, h.hi, hp.1.trans h.size, h.below.perm (by rw [h.size]; exact Nat.le_trans h.hi hb) hp, fun R h1 h2 => h.fin R (permIn_trans _ _ _ _ _ hp h1) h2⟩
/-- Behind partitionEqual. -/
theorem Gn.equal {a b a1 b1 c m : Nat} {d dk d4 : Array α} (hO : SWO lt) (h : Gn lt a b d a1 b1 dk) (hb : b ≤ d.size) (ha0 : 0 < a1) (hnl : lt dk[a1 - 1]! dk[c]! = false) (h1 : a1 < m) (h2 : m ≤ b1) (hperm : PermIn a1 b1 dk d4)
    (hle : ∀ t, a1 ≤ t → t < m → lt dk[c]! d4[t]! = false) (hgt : ∀ t, m ≤ t → t < b1 → lt dk[c]! d4[t]! = true) : Gn lt a b d m b1 d4 := by
  have hb3 : b1 ≤ dk.size := by rw [h.size]; exact Nat.le_trans h.hi hb
  have hge : ∀ i, a1 ≤ i → i < b1 → lt dk[i]! dk[c]! = false := fun i hi hi' => by
    rcases h.below with h0 | hB
    · omega
    · exact hO.ntrans _ _ _ (hB i hi hi') hnl
  have hge4 := permIn_all dk d4 a1 b1 (fun x => lt x dk[c]! = false) hb3 hperm hge
  have hb4 : b1 ≤ d4.size := by rw [hperm.1]; exact hb3
  refine ⟨by have := h.lo; omega, h2, h.hi, hperm.1.trans h.size, Or.inr fun i hi hi' => ?_, fun R hR hs => h.fin R (permIn_trans _ _ _ _ _ hperm (permIn_mono _ _ m b1 a1 b1 (by omega) (Nat.le_refl _) hb4 hR)) ?_⟩
  · cases hc : lt d4[i]! d4[m - 1]! with
    | false => rfl
    | true => have := hO.trans _ _ _ (hgt i hi hi') hc; rw [hle (m - 1) (by omega) (by omega)] at this; cases this
  · refine sorted_glue_eq hO dk[c]! hs (fun i hi hi' => ?_) (fun i hi hi' => ?_) (permIn_all d4 R m b1 (fun x => lt dk[c]! x = true) hb4 hR fun i hi hi' => (hgt i hi hi'))
    · rw [hR.2.1 i (Or.inl hi')]; exact (hle i hi hi')
    · rw [hR.2.1 i (Or.inl hi')]; exact hge4 i hi (by omega)
/-- Behind partition: the left part is sorted, the right part is left. -/
theorem Gn.left {a b a1 b1 m : Nat} {d dk d4 L : Array α} (hO : SWO lt) (h : Gn lt a b d a1 b1 dk) (hb : b ≤ d.size) (h1 : a1 ≤ m) (h2 : m < b1) (hperm : PermIn a1 b1 dk d4)
    (hlo : ∀ t, a1 ≤ t → t < m → lt d4[t]! d4[m]! = true) (hhi : ∀ t, m < t → t < b1 → lt d4[t]! d4[m]! = false) (hL : PermIn a1 m d4 L) (hsL : SortedIn lt a1 m L) : Gn lt a b d (m + 1) b1 L := by
  have hb3 : b1 ≤ dk.size := by rw [h.size]; exact Nat.le_trans h.hi hb
  have hb4 : b1 ≤ d4.size := by rw [hperm.1]; exact hb3
  have hbL : b1 ≤ L.size := by rw [hL.1]; exact hb4
  have eL : ∀ i, m ≤ i → L[i]! = d4[i]! := fun i hi => hL.2.1 i (Or.inr hi)
  refine ⟨by have := h.lo; omega, h2, h.hi, (hL.1.trans hperm.1).trans h.size, Or.inr fun i hi hi' => ?_, fun R hR hsR => h.fin R ?_ ?_⟩
  · rw [Nat.add_sub_cancel, eL i (by omega), eL m (Nat.le_refl _)]; exact (hhi i (by omega) hi')
  · exact permIn_trans _ _ _ _ _ hperm (permIn_trans _ _ _ _ _ (permIn_mono _ _ a1 m a1 b1 (Nat.le_refl _) (by omega) hb4 hL) (permIn_mono _ _ (m + 1) b1 a1 b1 (by omega) (Nat.le_refl _) hbL hR))
  · have eR : ∀ i, i ≤ m → R[i]! = L[i]! := fun i hi => hR.2.1 i (Or.inl (by omega))
    refine sorted_glue hO (hsL.congr fun i _ hi' => eR i (by omega)) hsR (fun i hi hi' => ?_) (fun i hi hi' => ?_)
    · rw [eR i (by omega), eR m (Nat.le_refl _), eL m (Nat.le_refl _)]
      exact permIn_all d4 L a1 m (fun x => lt x d4[m]! = true) (by omega) hL (fun k hk hk' => (hlo k hk hk')) i hi hi'
    · rw [eR m (Nat.le_refl _), eL m (Nat.le_refl _)]
      exact permIn_all L R (m + 1) b1 (fun x => lt x d4[m]! = false) hbL hR (fun k hk hk' => by rw [eL k (by omega)]; exact (hhi k (by omega) hk')) i (by omega) hi'
/-- Behind partition: the right part is sorted, the left part is left. -/
theorem Gn.right {a b a1 b1 m : Nat} {d dk d4 L : Array α} (hO : SWO lt) (h : Gn lt a b d a1 b1 dk) (hb : b ≤ d.size) (h1 : a1 ≤ m) (h2 : m < b1) (hperm : PermIn a1 b1 dk d4)
    (hlo : ∀ t, a1 ≤ t → t < m → lt d4[t]! d4[m]! = true) (hhi : ∀ t, m < t → t < b1 → lt d4[t]! d4[m]! = false) (hL : PermIn (m + 1) b1 d4 L) (hsL : SortedIn lt (m + 1) b1 L) : Gn lt a b d a1 m L := by
  have hb3 : b1 ≤ dk.size := by rw [h.size]; exact Nat.le_trans h.hi hb
  have hb4 : b1 ≤ d4.size := by rw [hperm.1]; exact hb3
  have hbL : b1 ≤ L.size := by rw [hL.1]; exact hb4
  have eL : ∀ i, i ≤ m → L[i]! = d4[i]! := fun i hi => hL.2.1 i (Or.inl (by omega))
  have hBa : Below lt a1 m d4 := (h.below.perm hb3 hperm).mono (by omega)
  refine ⟨h.lo, h1, by have := h.hi; omega, (hL.1.trans hperm.1).trans h.size, ?_, fun R hR hsR => h.fin R ?_ ?_⟩
  · rcases hBa with h0 | hBa
    · exact Or.inl h0
    · exact Or.inr fun i hi hi' => by rw [eL i (by omega), eL (a1 - 1) (by omega)]; exact hBa i hi hi'
  · exact permIn_trans _ _ _ _ _ hperm (permIn_trans _ _ _ _ _ (permIn_mono _ _ (m + 1) b1 a1 b1 (by omega) (Nat.le_refl _) hb4 hL) (permIn_mono _ _ a1 m a1 b1 (Nat.le_refl _) (by omega) hbL hR))
  · have eR : ∀ i, m ≤ i → R[i]! = L[i]! := fun i hi => hR.2.1 i (Or.inr hi)
    refine sorted_glue hO hsR (hsL.congr fun i hi _ => eR i (by omega)) (fun i hi hi' => ?_) (fun i hi hi' => ?_)
    · rw [eR m (Nat.le_refl _), eL m (Nat.le_refl _)]
      exact permIn_all L R a1 m (fun x => lt x d4[m]! = true) (by omega) hR (fun k hk hk' => by rw [eL k (by omega)]; exact (hlo k hk hk')) i hi hi'
    · rw [eR i (by omega), eR m (Nat.le_refl _), eL m (Nat.le_refl _)]
      exact permIn_all d4 L (m + 1) b1 (fun x => lt x d4[m]! = false) hb4 hL (fun k hk hk' => (hhi k (by omega) hk')) i (by omega) hi'
theorem Gn.belowL {a b a1 b1 m : Nat} {d dk d4 : Array α} (hO : SWO lt) (h : Gn lt a b d a1 b1 dk) (hb : b ≤ d.size) (h2 : m < b1) (hperm : PermIn a1 b1 dk d4) : Below lt a1 m d4 :=
  (h.below.perm (by rw [h.size]; exact Nat.le_trans h.hi hb) hperm).mono (by omega)
theorem Gn.belowR {b1 m : Nat} {d4 : Array α} (hhi : ∀ t, m < t → t < b1 → lt d4[t]! d4[m]! = false) : Below lt (m + 1) b1 d4 :=
  Or.inr fun i hi hi' => by rw [Nat.add_sub_cancel]; exact (hhi i (by omega) hi')
end Go.Proofs.YtobdjcnojbnegaaGreatDoor
