import Derived.Test.YtgdgmegpacmgnaaGreatDoorG17
import Derived.Deep.CutBlock
import Derived.Deep.DeepCutAuto
import Derived.Deep.RegionLaw
import Derived.Deep.AppendLies
import Derived.Test.YtgdgmegpacmgnaaGreatDoorG00
/- spec.indexReader: rows. -/
namespace Go.Proofs.YtgdgmegpacmgnaaGreatDoor
open Go.RowKit
set_option linter.unusedVariables false
set_option linter.unusedSimpArgs false
attribute [local go_sem] setCell_drewN alloc_drewN

theorem num_lt (st : RSt) (k : Nat) (hk : k ≤ 8) : (st.num k).1 < 18446744073709551616 ∧ (k ≤ 4 → (st.num k).1 < 4294967296) ∧ (st.num k).2.s.length ≤ st.s.length := by
  unfold RSt.num
  split
  · rename_i h
    have h1 := Lib.leNat_lt (st.s.take k)
    rw [List.length_take, Nat.min_eq_left h.2.2] at h1
    refine ⟨Nat.lt_of_lt_of_le h1 ?_, fun h4 => Nat.lt_of_lt_of_le h1 ?_, by simp⟩
    · exact Nat.pow_le_pow_right (by omega) hk
    · exact Nat.pow_le_pow_right (by omega) h4
  · exact ⟨by simp, fun _ => by simp, Nat.le_refl _⟩

theorem sec2_t {s : List UInt8} {ok ord left : Bool} {wd : Nat} (h : true = (ok && decide (wd < 8))) : RSt.sec2 (wd, ⟨s, ok, ord, left⟩) = ⟨s, false, ord, left⟩ := by
  cases ok with
  | false => cases h
  | true =>
    have h8 : wd < 8 := by simpa using h.symm
    simp [RSt.sec2, h8]
theorem sec2_f {s : List UInt8} {ok ord left : Bool} {wd : Nat} (h : false = (ok && decide (wd < 8))) : RSt.sec2 (wd, ⟨s, ok, ord, left⟩) = ⟨s, ok, ord, left⟩ := by
  cases ok with
  | false => simp [RSt.sec2]
  | true =>
    have h8 : ¬ wd < 8 := by simpa using h.symm
    simp [RSt.sec2, h8]

theorem sec4_t {st : RSt} {wd size : Nat} (h : true = decide (33554432 < wd ∨ st.s.length < size ∨ size % wd ≠ 0)) : st.sec4 wd size = { st with left := true } := by
  unfold RSt.sec4; rw [if_pos (of_decide_eq_true h.symm)]
theorem sec4_f {st : RSt} {wd size : Nat} (h : false = decide (33554432 < wd ∨ st.s.length < size ∨ size % wd ≠ 0)) : st.sec4 wd size = st := by
  unfold RSt.sec4; rw [if_neg (of_decide_eq_false h.symm)]

def rowT : TypeId := 74
theorem info_Row : (Tryz.prog.info? 74).map (fun i => (i.zero, i.size, i.bytes)) = some (some (.agg #[.int .u64 0, .string ⟨#[]⟩, .int .u64 0]), 3, 32) := by kernel_rfl
abbrev RowC := Nat × List UInt8 × Nat
def rowCells (rs : List RowC) : List Value := rs.flatMap fun r => [.int .u64 (r.1 : Int), .string (sOf r.2.1), .int .u64 (r.2.2 : Int)]
theorem rowCells_append (a b : List RowC) : rowCells (a ++ b) = rowCells a ++ rowCells b := by rw [rowCells, rowCells, rowCells, List.flatMap_append]
theorem rowCells_one (rs : List RowC) : ∀ u ∈ rowCells rs, u.oneCell' = true := fun u hu => by
  obtain ⟨r, _, hr⟩ := List.mem_flatMap.1 hu
  simp only [List.mem_cons, List.not_mem_nil, or_false] at hr
  rcases hr with rfl | rfl | rfl <;> rfl
/-- Rows of the call's own, at most so many. -/
def RowsV (w w' : World) (v : Value) (n : Nat) : Prop := ∃ (m : Nat) (rs : List RowC), w'.ownsRow w.heap.size rowT 3 v m (rowCells rs) ∧ m ≤ n

set_option maxRecDepth 100000 in
set_option maxHeartbeats 12800000 in
theorem rows_ok (b hash : Nat) (st : RSt) (w : World) (h : RdrAt w b st) (hbig : st.s.length ≤ 1000000) :
    Calls Tryz.prog 8 #[.pointer (some ⟨b, 0, none⟩), .int .u64 (hash : Int)] w fun e w' => ∃ v : Value, e = .returned v ∧ RowsV w w' v (st.s.length - st.rows.s.length) ∧ RdrAt w' b st.rows ∧ Kp (fun i => i = b) w w' := by
  have hmm := @run_makeMap Tryz.prog
  have hbl := (Array.getElem?_eq_some_iff.1 h).1
  have hsb : ImAt (w.alloc (.map #[] 0)) w.heap.size .u64 (seenP []) := ImAt.made w .u64
  obtain ⟨w0, hw0⟩ : ∃ w0, w0 = (w.alloc (.map #[] 0)).alloc (.cells #[.int .u64 0] 22) := ⟨_, rfl⟩
  have hb0 : Below w.heap.size w w0 := by rw [hw0]; exact below_box (below_boxed w _) _
  have hS0 : ImAt w0 w.heap.size .u64 (seenP []) := by rw [hw0]; exact hsb.upd (heap_alloc_old _ _ hsb.lt)
  have hL0 : w0.heap[w.heap.size + 1]? = some (.cells #[.int .u64 ((0 : Nat) : Int)] 22 (0, 0)) := by
    rw [hw0]
    have := heap_alloc_last (w.alloc (.map #[] 0)) (.cells #[.int .u64 0] 22)
    simpa using this
  have hR0 : RdrAt w0 b st := (hb0.block b hbl).trans h
  have hz0 : w0.heap.size = w.heap.size + 2 := by rw [hw0]; simp
  have hN := number_ok b st 4 (by omega) w0 hR0 hbig
  have H0 := Lib.hid (And.intro hb0 (And.intro hS0 hL0))
  have hnl := num_lt st 4 (by omega)
  have HST : Hid (RSt.secs (st.num 4).1 ((st.num 4).2.many (st.num 4).1) [] 0 = st.rows) := Lib.hid rfl
  clear hb0 hS0 hL0 hR0 hsb h
  generalize st.num 4 = nm at *
  obtain ⟨n, st1⟩ := nm
  simp only at hN hnl HST
  go_enter Tryz.func8, Tryz.ntmps8
  go_wp2_with fail
  rw [← hw0]
  clear hw0
  refine hN.mono ?_
  clear hN
  rintro e w1 ⟨rfl, hR1, hK1⟩
  have hS1 : ImAt w1 w.heap.size .u64 (seenP []) := H0.out.2.1.kp hK1 (by omega)
  have hL1 : w1.heap[w.heap.size + 1]? = some (.cells #[.int .u64 ((0 : Nat) : Int)] 22 (0, 0)) := (hK1.block _ (by omega) (by omega)).trans H0.out.2.2
  have hk1 : Kp (fun i => i = b) w w1 := (Kp.of_below (S := fun i => i = b) H0.out.1).trans hK1 (fun i h => .inl h)
  have hz1 : w.heap.size + 2 ≤ w1.heap.size := by have := hK1.size; omega
  obtain ⟨s1, ok1, ord1, left1⟩ := st1
  have hr : w1.heap[b]? = some (.cells #[.string (sOf s1), .bool ok1, .bool ord1, .bool left1] 34 (0, 0)) := hR1
  have c3 := (blk_cell' hr 3).trans (show _ = some (Value.bool left1) from rfl)
  have f3 := blk_free' hr 3
  have hbl1 := (Array.getElem?_eq_some_iff.1 hr).1
  have H1 := Lib.hid (And.intro hS1 (And.intro hL1 (And.intro hk1 hr)))
  clear hS1 hL1 hk1 hr hR1 hK1
  go_upto_region 4 with fail
  go_cut [24] (fun _ wx => RdrAt wx b ((⟨s1, ok1, ord1, left1⟩ : RSt).many n) ∧ Kp (fun i => i = b) w1 wx)
  case first =>
    cases left1 with
    | true =>
      have hF : RdrAt (w1.setCell ⟨b, 3, none⟩ (.bool true)) b ((⟨s1, ok1, ord1, true⟩ : RSt).many n) := (row4_set H1.out.2.2.2 _).2.2.2
      have hK := kp_set w1 ⟨b, 3, none⟩ (.bool true)
      have HF := Lib.hid (And.intro hF hK)
      clear hF hK
      go_wp2_with fail
      go_meet
      exact HF.out
    | false =>
      by_cases hn : 2147483648 ≤ n
      · have hni : (2147483648 : Int) ≤ (n : Int) := by omega
        have e : ((⟨s1, ok1, ord1, false⟩ : RSt).many n) = ⟨s1, ok1, ord1, true⟩ := by simp [RSt.many, hn]
        have hF : RdrAt (w1.setCell ⟨b, 3, none⟩ (.bool true)) b ((⟨s1, ok1, ord1, false⟩ : RSt).many n) := by rw [e]; exact (row4_set H1.out.2.2.2 _).2.2.2
        have hK := kp_set w1 ⟨b, 3, none⟩ (.bool true)
        have HF := Lib.hid (And.intro hF hK)
        clear hF hK e
        go_wp2_with fail
        go_meet
        exact HF.out
      · have hni : ¬ (2147483648 : Int) ≤ (n : Int) := by omega
        have e : ((⟨s1, ok1, ord1, false⟩ : RSt).many n) = ⟨s1, ok1, ord1, false⟩ := by simp [RSt.many, hn]
        have hF : RdrAt (w1.setCell ⟨b, 3, none⟩ (.bool false)) b ((⟨s1, ok1, ord1, false⟩ : RSt).many n) := by rw [e]; exact (row4_set H1.out.2.2.2 _).2.2.2
        have hK := kp_set w1 ⟨b, 3, none⟩ (.bool false)
        have HF := Lib.hid (And.intro hF hK)
        clear hF hK e
        go_wp2_with fail
        go_meet
        exact HF.out
  case rest =>
    obtain ⟨hR2, hK2⟩ := hcut
    have hml : ((⟨s1, ok1, ord1, left1⟩ : RSt).many n).s.length ≤ st.s.length := hnl.2.2
    have hn4 := hnl.2.1 (Nat.le_refl _)
    have hS2 : ImAt wc w.heap.size .u64 (seenP []) := H1.out.1.kp hK2 (by omega)
    have hL2 : wc.heap[w.heap.size + 1]? = some (.cells #[.int .u64 ((0 : Nat) : Int)] 22 (0, 0)) := (hK2.block _ (by omega) (by omega)).trans H1.out.2.1
    have hk2 : Kp (fun i => i = b) w wc := H1.out.2.2.1.trans hK2 (fun i h => .inl h)
    have hz2 : w.heap.size + 2 ≤ wc.heap.size := by have := hK2.size; omega
    generalize ((⟨s1, ok1, ord1, left1⟩ : RSt).many n) = st2 at *
    have H2 := Lib.hid (And.intro hS2 (And.intro hL2 (And.intro hk2 hR2)))
    clear hS2 hL2 hk2 hR2 hK2 c3 f3 hnl
    go_wp2_with fail
    go_loopw [5, 8] (fun v5 v8 wr => ∃ (n' : Nat) (st' : RSt) (S : List Nat) (last m : Nat) (u : Value) (xs : List RowC), u = v5 ∧ v8 = .int .u64 (n' : Int) ∧ n' < 4294967296 ∧ wr.ownsRow (w.heap.size + 2) rowT 3 u m (rowCells xs) ∧ m + st'.s.length ≤ st.s.length ∧ RdrAt wr b st' ∧ ImAt wr w.heap.size .u64 (seenP S) ∧ wr.heap[w.heap.size + 1]? = some (.cells #[.int .u64 (last : Int)] 22 (0, 0)) ∧ Kp (fun i => i = b) w wr ∧ RSt.secs n' st' S last = st.rows) (fun _ v8 _ => (intOf v8).toNat)
    case atStart => exact ⟨n, st2, [], 0, 0, _, [], rfl, rfl, hn4, World.ownsRow_nil _ _ _ _, by omega, H2.out.2.2.2, H2.out.1, H2.out.2.1, H2.out.2.2.1, HST.out⟩
    case round =>
      obtain ⟨n', st', S, last, m, u, xs, hu, rfl, hn', hown, hm, hR, hS, hL, hK, hE⟩ := hrel
      subst hu
      clear H2 H1 H0 HST
      obtain ⟨s', ok', ord', left'⟩ := st'
      have hm : m + s'.length ≤ st.s.length := hm
      have hr : wr.heap[b]? = some (.cells #[.string (sOf s'), .bool ok', .bool ord', .bool left'] 34 (0, 0)) := hR
      have c1 := (blk_cell' hr 1).trans (show _ = some (Value.bool ok') from rfl)
      have c3 := (blk_cell' hr 3).trans (show _ = some (Value.bool left') from rfl)
      have HX := Lib.hid (And.intro hown (And.intro hR (And.intro hK hE)))
      have hdone : (¬ (ok' = true ∧ left' = false) ∨ n' = 0) → st.rows = ⟨s', ok', ord', left'⟩ := fun h => by
        rw [← hE]
        cases n' with
        | zero => rfl
        | succ k => rw [RSt.secs, if_neg]; rcases h with h | h; exact h; omega
      have HDone := Lib.hid hdone
      have hbr := (Array.getElem?_eq_some_iff.1 hr).1
      have HR := Lib.hid (And.intro hS hL)
      clear hdone hown hK hE hr hR hS hL
      cases ok' with
      | false =>
        go_wp2_with fail
        go_ret
        exact ⟨u, rfl, ⟨m, xs, own_mono HX.out.1 (by omega), by rw [HDone.out (.inl (by simp))]; show m ≤ st.s.length - s'.length; omega⟩, by rw [HDone.out (.inl (by simp))]; exact HX.out.2.1, HX.out.2.2.1⟩
      | true =>
        cases left' with
        | true =>
          go_wp2_with fail
          go_ret
          exact ⟨u, rfl, ⟨m, xs, own_mono HX.out.1 (by omega), by rw [HDone.out (.inl (by simp))]; show m ≤ st.s.length - s'.length; omega⟩, by rw [HDone.out (.inl (by simp))]; exact HX.out.2.1, HX.out.2.2.1⟩
        | false =>
          cases n' with
          | zero =>
            go_wp2_with fail
            go_ret
            exact ⟨u, rfl, ⟨m, xs, own_mono HX.out.1 (by omega), by rw [HDone.out (.inr (by first | rfl | trivial))]; show m ≤ st.s.length - s'.length; omega⟩, by rw [HDone.out (.inr (by first | rfl | trivial))]; exact HX.out.2.1, HX.out.2.2.1⟩
          | succ k =>
            have hpos : (0 : Int) < ((k + 1 : Nat) : Int) := by omega
            have hNA := number_ok b ⟨s', true, ord', false⟩ 4 (by omega) wr HX.out.2.1 (show s'.length ≤ 1000000 by omega)
            have hnl := num_lt ⟨s', true, ord', false⟩ 4 (by omega)
            have hE := HX.out.2.2.2
            rw [RSt.secs, if_pos ⟨rfl, rfl⟩, RSt.sec] at hE
            have HO := Lib.hid (And.intro HX.out.1 HX.out.2.2.1)
            clear HX HDone
            generalize (⟨s', true, ord', false⟩ : RSt).num 4 = nm at *
            obtain ⟨wd, stA⟩ := nm
            simp only at hNA hnl hE
            have HE := Lib.hid hE
            have hwd4 := hnl.2.1 (Nat.le_refl _)
            have hlA := hnl.2.2
            clear hE hnl
            have hlA : stA.s.length ≤ s'.length := hlA
            go_wp2_with fail
            refine hNA.mono ?_
            clear hNA
            rintro e wA ⟨rfl, hRA, hKA⟩
            have hzA := hKA.size
            have hSA : ImAt wA w.heap.size .u64 (seenP S) := HR.out.1.kp hKA (by omega)
            have hLA : wA.heap[w.heap.size + 1]? = some (.cells #[.int .u64 (last : Int)] 22 (0, 0)) := (hKA.block _ (Array.getElem?_eq_some_iff.1 HR.out.2).1 (by omega)).trans HR.out.2
            obtain ⟨sA, okA, ordA, leftA⟩ := stA
            have hlA : sA.length ≤ s'.length := hlA
            have hrA : wA.heap[b]? = some (.cells #[.string (sOf sA), .bool okA, .bool ordA, .bool leftA] 34 (0, 0)) := hRA
            have c1 := (blk_cell' hrA 1).trans (show _ = some (Value.bool okA) from rfl)
            have f1 := blk_free' hrA 1
            have hbA := (Array.getElem?_eq_some_iff.1 hrA).1
            have HA := Lib.hid (And.intro hSA (And.intro hLA (And.intro hKA hrA)))
            clear hSA hLA hKA hrA hRA c3
            go_upto_region 8 with fail
            go_cut [53] (fun s53 wx => s53 = .bool (okA && decide (wd < 8)) ∧ wx = wA)
            case first =>
              cases okA with
              | false =>
                go_wp2_with fail
                go_meet
                exact ⟨rfl, rfl⟩
              | true =>
                by_cases h8 : wd < 8
                · have h8i : (wd : Int) < 8 := by omega
                  go_wp2_with fail
                  go_meet
                  exact ⟨by simp [h8], rfl⟩
                · have h8i : ¬ (wd : Int) < 8 := by omega
                  go_wp2_with fail
                  go_meet
                  exact ⟨by simp [h8], rfl⟩
            case rest =>
            obtain ⟨h53, rfl⟩ := hcut
            obtain ⟨wA, rfl⟩ : ∃ wA, wA = wc := ⟨_, rfl⟩
            obtain ⟨t53, ht53⟩ : ∃ x, x = (okA && decide (wd < 8)) := ⟨_, rfl⟩
            rw [← ht53] at h53
            subst h53
            have HT := Lib.hid ht53
            clear ht53
            go_upto_if 53 with fail
            go_cut [54] (fun _ wx => RdrAt wx b (RSt.sec2 (wd, ⟨sA, okA, ordA, leftA⟩)) ∧ Kp (fun i => i = b) wA wx)
            case first =>
              cases t53 with
              | false =>
                have e2 := sec2_f (s := sA) (ord := ordA) (left := leftA) HT.out
                have HF : Hid (RdrAt wA b (RSt.sec2 (wd, ⟨sA, okA, ordA, leftA⟩))) := Lib.hid (by rw [e2]; exact HA.out.2.2.2)
                clear e2
                go_wp2_with fail
                go_meet
                exact ⟨HF.out, Kp.refl _ _⟩
              | true =>
                have e2 := sec2_t (s := sA) (ord := ordA) (left := leftA) HT.out
                have HF : Hid (RdrAt (wA.setCell ⟨b, 1, none⟩ (.bool false)) b (RSt.sec2 (wd, ⟨sA, okA, ordA, leftA⟩)) ∧ Kp (fun i => i = b) wA (wA.setCell ⟨b, 1, none⟩ (.bool false))) := Lib.hid ⟨by rw [e2]; exact (row4_set HA.out.2.2.2 _).2.1, kp_set wA ⟨b, 1, none⟩ _⟩
                clear e2
                go_wp2_with fail
                go_meet
                exact HF.out
            case rest =>
              obtain ⟨hRB, hKB⟩ := hcut
              have hlB : (RSt.sec2 (wd, ⟨sA, okA, ordA, leftA⟩)).s.length ≤ s'.length := by unfold RSt.sec2; split <;> exact hlA
              have hokB : (RSt.sec2 (wd, ⟨sA, okA, ordA, leftA⟩)).ok = true → 8 ≤ wd := by
                unfold RSt.sec2
                split
                · intro h; cases h
                · rename_i h; intro h2; simp only at h h2; rcases Nat.lt_or_ge wd 8 with h3 | h3
                  · exact absurd ⟨h2, h3⟩ h
                  · exact h3
              have hNB := number_ok b _ 8 (Nat.le_refl _) wc hRB (by omega)
              have hnl := num_lt (RSt.sec2 (wd, ⟨sA, okA, ordA, leftA⟩)) 8 (Nat.le_refl _)
              have hokC : ((RSt.sec2 (wd, ⟨sA, okA, ordA, leftA⟩)).num 8).2.ok = true → 8 ≤ wd := fun h => hokB (by
                unfold RSt.num at h
                split at h
                · exact h
                · cases h)
              have HKB := Lib.hid ((HA.out.2.2.1.trans hKB (fun i h => .inl h)))
              have hSB : ImAt wc w.heap.size .u64 (seenP S) := HA.out.1.kp hKB (by omega)
              have hLB : wc.heap[w.heap.size + 1]? = some (.cells #[.int .u64 (last : Int)] 22 (0, 0)) := (hKB.block _ (Array.getElem?_eq_some_iff.1 HA.out.2.1).1 (by omega)).trans HA.out.2.1
              have HB := Lib.hid (And.intro hSB hLB)
              obtain ⟨wB, rfl⟩ : ∃ wB, wB = wc := ⟨_, rfl⟩
              have hzB := hKB.size
              generalize (RSt.sec2 (wd, ⟨sA, okA, ordA, leftA⟩)).num 8 = nm at *
              obtain ⟨size, stC⟩ := nm
              simp only at hNB hnl hokC
              clear hRB hKB hSB hLB HA c1 f1 hokB HR
              go_wp2_with fail
              refine hNB.mono ?_
              clear hNB
              rintro e wC ⟨rfl, hRC, hKC⟩
              obtain ⟨sC, okC, ordC, leftC⟩ := stC
              have hrC : wC.heap[b]? = some (.cells #[.string (sOf sC), .bool okC, .bool ordC, .bool leftC] 34 (0, 0)) := hRC
              have c1 := (blk_cell' hrC 1).trans (show _ = some (Value.bool okC) from rfl)
              have hkC : Kp (fun i => i = b) w wC := (HO.out.2.trans HKB.out (fun i h => .inl h)).trans hKC (fun i h => .inl h)
              have hSC : ImAt wC w.heap.size .u64 (seenP S) := HB.out.1.kp hKC (by omega)
              have hLC : wC.heap[w.heap.size + 1]? = some (.cells #[.int .u64 (last : Int)] 22 (0, 0)) := (hKC.block _ (Array.getElem?_eq_some_iff.1 HB.out.2).1 (by omega)).trans HB.out.2
              have hownC : wC.ownsRow (w.heap.size + 2) rowT 3 u m (rowCells xs) := own_kp (own_kp HO.out.1 HKB.out (fun g e => by have := (World.ownsRow.lt HO.out.1 g e).1; show ¬ g = b; omega)) hKC (fun g e => by have := (World.ownsRow.lt HO.out.1 g e).1; show ¬ g = b; omega)
              have HC := Lib.hid (And.intro hRC (And.intro hkC (And.intro hSC (And.intro hLC hownC))))
              have hzC := hKC.size
              clear hRC hkC hSC hLC hownC hKC hrC HB HKB HO
              cases okC with
              | false =>
                have hrows : st.rows = ⟨sC, false, ordC, leftC⟩ := by rw [← HE.out]; simp [RSt.sec3]
                have HF := Lib.hid hrows
                clear hrows HE
                go_wp2_with fail
                go_ret
                exact ⟨_, rfl, ⟨0, [], World.ownsRow_nil _ _ _ _, Nat.zero_le _⟩, by rw [HF.out]; exact HC.out.1, HC.out.2.1⟩
              | true =>
                have h8 := hokC rfl
                have hNx := next_ok b w.heap.size (w.heap.size + 1) ⟨sC, true, ordC, leftC⟩ S last wd wC HC.out.1 HC.out.2.2.1 HC.out.2.2.2.1 (by omega) (by omega) (by omega)
                have hlC : sC.length ≤ s'.length := Nat.le_trans hnl.2.2 hlB
                have hsz := hnl.1
                clear hokC hnl
                go_wp2_with fail
                refine hNx.mono ?_
                clear hNx
                rintro e wD ⟨rfl, hRD, hSD, hLD, hKD⟩
                have hkD : Kp (fun i => i = b) w wD := HC.out.2.1.trans hKD (fun i h => by rcases h with h | h | h; exact .inl h; exact .inr (by omega); exact .inr (by omega))
                have hownD : wD.ownsRow (w.heap.size + 2) rowT 3 u m (rowCells xs) := own_kp HC.out.2.2.2.2 hKD (fun g e => by have := (World.ownsRow.lt HC.out.2.2.2.2 g e).1; show ¬ (g = b ∨ g = w.heap.size ∨ g = w.heap.size + 1); omega)
                have hrD : wD.heap[b]? = some (.cells #[.string (sOf sC), .bool true, .bool (ordC && (decide (S = []) || decide (last < wd))), .bool (leftC || decide (wd ∈ S))] 34 (0, 0)) := hRD
                obtain ⟨ordD, hoD⟩ : ∃ x, x = (ordC && (decide (S = []) || decide (last < wd))) := ⟨_, rfl⟩
                obtain ⟨leftD, hlD⟩ : ∃ x, x = (leftC || decide (wd ∈ S)) := ⟨_, rfl⟩
                have hnx : (⟨sC, true, ordC, leftC⟩ : RSt).next S last wd = ⟨sC, true, ordD, leftD⟩ := by rw [hoD, hlD]; rfl
                rw [← hoD, ← hlD] at hrD
                have c0 := (blk_cell' hrD 0).trans (show _ = some (Value.string (sOf sC)) from rfl)
                have c3 := (blk_cell' hrD 3).trans (show _ = some (Value.bool leftD) from rfl)
                have f3 := blk_free' hrD 3
                have HNX := Lib.hid hnx
                have HD := Lib.hid (And.intro hrD (And.intro hkD (And.intro hSD (And.intro hLD hownD))))
                have hbD := (Array.getElem?_eq_some_iff.1 hrD).1
                clear hRD hkD hownD hrD hoD hlD hnx hSD hLD hKD HC c1
                obtain ⟨rm, hrm⟩ : ∃ rm, rm = size % wd := ⟨_, rfl⟩
                have hmod1 : (size : Int) % (wd : Int) = (rm : Int) := by rw [hrm]; exact (Int.natCast_emod size wd).symm
                have hmod2 : (size : Int).tmod (wd : Int) = (rm : Int) := by rw [Int.tmod_eq_emod_of_nonneg (Int.natCast_nonneg _)]; exact hmod1
                have hss : (sOf sC).size = sC.length := rfl
                have hwz : ((wd : Int) == 0) = false := beq_eq_false_iff_ne.2 (by omega)
                have HRM := Lib.hid hrm
                clear hrm
                go_upto_region 14 with fail
                go_cut [85] (fun s85 wx => s85 = .bool (decide (33554432 < wd ∨ sC.length < size ∨ rm ≠ 0)) ∧ wx = wD)
                case first =>
                  by_cases a1 : 33554432 < wd
                  · have a1i : (33554432 : Int) < (wd : Int) := by omega
                    go_wp2_with fail
                    go_meet
                    exact ⟨by simp [a1], rfl⟩
                  · have a1i : ¬ (33554432 : Int) < (wd : Int) := by omega
                    by_cases a2 : sC.length < size
                    · have a2i : (sC.length : Int) < (size : Int) := by omega
                      go_wp2_with fail
                      go_meet
                      exact ⟨by simp [a2], rfl⟩
                    · have a2i : ¬ (sC.length : Int) < (size : Int) := by omega
                      by_cases a3 : rm = 0
                      · have a3i : ((rm : Int) == 0) = true := beq_iff_eq.2 (by omega)
                        go_wp2_with fail
                        go_meet
                        exact ⟨by simp [a1, a2, a3], rfl⟩
                      · have a3i : ((rm : Int) == 0) = false := beq_eq_false_iff_ne.2 (by omega)
                        go_wp2_with fail
                        go_meet
                        exact ⟨by simp [a3], rfl⟩
                case rest =>
                  obtain ⟨h85, rfl⟩ := hcut
                  obtain ⟨wD, rfl⟩ : ∃ wD, wD = wc := ⟨_, rfl⟩
                  obtain ⟨t85, ht85⟩ : ∃ x, x = decide (33554432 < wd ∨ sC.length < size ∨ rm ≠ 0) := ⟨_, rfl⟩
                  rw [← ht85] at h85
                  subst h85
                  rw [HRM.out] at ht85
                  have HT5 := Lib.hid ht85
                  clear ht85
                  go_upto_if 85 with fail
                  go_cut [86] (fun _ wx => RdrAt wx b ((⟨sC, true, ordD, leftD⟩ : RSt).sec4 wd size) ∧ Kp (fun i => i = b) wD wx)
                  case first =>
                    cases t85 with
                    | false =>
                      have e2 := sec4_f (st := ⟨sC, true, ordD, leftD⟩) HT5.out
                      have HF : Hid (RdrAt wD b ((⟨sC, true, ordD, leftD⟩ : RSt).sec4 wd size)) := Lib.hid (by rw [e2]; exact HD.out.1)
                      clear e2
                      go_wp2_with fail
                      go_meet
                      exact ⟨HF.out, Kp.refl _ _⟩
                    | true =>
                      have e2 := sec4_t (st := ⟨sC, true, ordD, leftD⟩) HT5.out
                      have HF : Hid (RdrAt (wD.setCell ⟨b, 3, none⟩ (.bool true)) b ((⟨sC, true, ordD, leftD⟩ : RSt).sec4 wd size) ∧ Kp (fun i => i = b) wD (wD.setCell ⟨b, 3, none⟩ (.bool true))) := Lib.hid ⟨by rw [e2]; exact (row4_set HD.out.1 _).2.2.2, kp_set wD ⟨b, 3, none⟩ _⟩
                      clear e2
                      go_wp2_with fail
                      go_meet
                      exact HF.out
                  case rest =>
                    obtain ⟨hRE, hKE⟩ := hcut
                    have hzE := hKE.size
                    have hkE : Kp (fun i => i = b) w wc := HD.out.2.1.trans hKE (fun i h => .inl h)
                    have hSE : ImAt wc w.heap.size .u64 (seenP (addN S wd)) := HD.out.2.2.1.kp hKE (by omega)
                    have hLE : wc.heap[w.heap.size + 1]? = some (.cells #[.int .u64 (wd : Int)] 22 (0, 0)) := (hKE.block _ (Array.getElem?_eq_some_iff.1 HD.out.2.2.2.1).1 (by omega)).trans HD.out.2.2.2.1
                    have hownE : wc.ownsRow (w.heap.size + 2) rowT 3 u m (rowCells xs) := own_kp HD.out.2.2.2.2 hKE (fun g e => by have := (World.ownsRow.lt HD.out.2.2.2.2 g e).1; show ¬ g = b; omega)
                    have hEn : RSt.secs k (((⟨sC, true, ordD, leftD⟩ : RSt).sec4 wd size).sec5 size) (addN S wd) wd = st.rows := by
                      have h := HE.out
                      simp only [RSt.sec3] at h
                      rw [HNX.out] at h
                      simpa using h
                    have hs4 : ((⟨sC, true, ordD, leftD⟩ : RSt).sec4 wd size).s = sC ∧ ((⟨sC, true, ordD, leftD⟩ : RSt).sec4 wd size).ok = true := by unfold RSt.sec4; split <;> exact ⟨rfl, rfl⟩
                    have hl4 : ((⟨sC, true, ordD, leftD⟩ : RSt).sec4 wd size).left = false → size ≤ sC.length ∧ size % wd = 0 := by
                      unfold RSt.sec4
                      split
                      · intro h; cases h
                      · rename_i h
                        intro _
                        have h' : ¬ (33554432 < wd ∨ sC.length < size ∨ size % wd ≠ 0) := h
                        omega
                    obtain ⟨q, hq⟩ : ∃ q, q = size / wd := ⟨_, rfl⟩
                    have hdiv1 : (size : Int) / (wd : Int) = (q : Int) := by rw [hq]; exact (Int.natCast_ediv size wd).symm
                    have hdiv2 : (size : Int).tdiv (wd : Int) = (q : Int) := by rw [hq]; exact (Int.ofNat_tdiv size wd).symm
                    have hqs : q ≤ size := by rw [hq]; exact Nat.div_le_self _ _
                    have HQ := Lib.hid hq
                    have HEN := Lib.hid hEn
                    have HE2 := Lib.hid (And.intro hRE (And.intro hkE (And.intro hSE (And.intro hLE hownE))))
                    have HL4 := Lib.hid hl4
                    clear hRE hkE hSE hLE hownE hEn hl4 hq HD hKE c0 c3 f3 HE HNX
                    generalize ((⟨sC, true, ordD, leftD⟩ : RSt).sec4 wd size) = stE at *
                    obtain ⟨sE, okE, ordE, leftE⟩ := stE
                    obtain ⟨e1, e2⟩ := hs4
                    obtain rfl : sE = sC := e1
                    obtain rfl : okE = true := e2
                    obtain ⟨wE, rfl⟩ : ∃ wE, wE = wc := ⟨_, rfl⟩
                    go_wp2_with fail
                    go_loopw [5, 11] (fun v5 v11 wr => ∃ (j m' : Nat) (u' : Value) (xs' : List RowC), u' = v5 ∧ v11 = .int .u64 (j : Int) ∧ j ≤ q ∧ (leftE = true → j = 0) ∧ wr.ownsRow (w.heap.size + 2) rowT 3 u' m' (rowCells xs') ∧ m' ≤ m + j ∧ RdrAt wr b ⟨sE.drop (j * wd), true, ordE, leftE⟩ ∧ Kp (fun i => i = b ∨ w.heap.size + 2 ≤ i) wE wr) (fun _ v11 _ => q - (intOf v11).toNat)
                    case atStart => exact ⟨0, m, u, xs, rfl, rfl, Nat.zero_le _, fun _ => rfl, HE2.out.2.2.2.2, Nat.le_refl _, by rw [Nat.zero_mul, List.drop_zero]; exact HE2.out.1, Kp.refl _ _⟩
                    case round =>
                      obtain ⟨j, m', u', xs', hu', rfl, hj, hj0, hown', hm', hR', hK'⟩ := hrel
                      subst hu'
                      have hr' : wr.heap[b]? = some (.cells #[.string (sOf (sE.drop (j * wd))), .bool true, .bool ordE, .bool leftE] 34 (0, 0)) := hR'
                      have c0 := (blk_cell' hr' 0).trans (show _ = some (Value.string (sOf (sE.drop (j * wd)))) from rfl)
                      have c3 := (blk_cell' hr' 3).trans (show _ = some (Value.bool leftE) from rfl)
                      have hSr : ImAt wr w.heap.size .u64 (seenP (addN S wd)) := HE2.out.2.2.1.kp hK' (by omega)
                      have hLr : wr.heap[w.heap.size + 1]? = some (.cells #[.int .u64 (wd : Int)] 22 (0, 0)) := (hK'.block _ (Array.getElem?_eq_some_iff.1 HE2.out.2.2.2.1).1 (by omega)).trans HE2.out.2.2.2.1
                      have hkr : Kp (fun i => i = b) w wr := HE2.out.2.1.trans hK' (fun i h => by rcases h with h | h; exact .inl h; exact .inr (by omega))
                      have HI := Lib.hid (And.intro hown' (And.intro hR' (And.intro hSr (And.intro hLr (And.intro hkr HEN.out)))))
                      have HKI := Lib.hid hK'
                      clear hown' hR' hSr hLr hkr hr' hK'
                      cases leftE with
                      | true =>
                        obtain rfl : j = 0 := hj0 rfl
                        go_wp2_with fail
                        go_roundw
                        case rel => exact ⟨k, _, addN S wd, wd, m', u', xs', rfl, by go_num, by omega, HI.out.1, (by rw [Nat.zero_mul, List.drop_zero]; omega : m' + (sE.drop (0 * wd)).length ≤ st.s.length), HI.out.2.1, HI.out.2.2.1, HI.out.2.2.2.1, HI.out.2.2.2.2.1, by rw [Nat.zero_mul, List.drop_zero]; simpa [RSt.sec5] using HI.out.2.2.2.2.2⟩
                        case measure => first | (simp [intOf]; done) | (simp [intOf]; omega)
                      | false =>
                        have hsz := HL4.out rfl
                        have hqw : q * wd = size := by rw [HQ.out]; exact Nat.div_mul_cancel (Nat.dvd_of_mod_eq_zero hsz.2)
                        by_cases hjq : j < q
                        · have hji : (j : Int) < (q : Int) := by omega
                          have hmul : j * wd + wd ≤ size := by
                            have := Nat.mul_le_mul_right wd (show j + 1 ≤ q by omega)
                            rw [Nat.add_mul, hqw] at this; omega
                          obtain ⟨tt, htt⟩ : ∃ tt, tt = sE.drop (j * wd) := ⟨_, rfl⟩
                          have htl : wd ≤ tt.length := by rw [htt, List.length_drop]; omega
                          have htl2 : tt.length + j * wd = sE.length := by rw [htt, List.length_drop]; omega
                          have hdd : tt.drop wd = sE.drop ((j + 1) * wd) := by rw [htt, List.drop_drop, Nat.add_mul, Nat.one_mul]
                          rw [← htt] at c0
                          have t1 := fun W => str_to tt wd htl .u64 W
                          have t2 := fun W => str_from tt wd htl .u64 W
                          obtain ⟨row, hrow⟩ : ∃ row, row = tt.take wd := ⟨_, rfl⟩
                          have hrl : row.length = wd := by rw [hrow, List.length_take]; omega
                          rw [← hrow] at t1
                          have hI1 := HI.out.2.1
                          rw [← htt] at hI1
                          have hr1 : wr.heap[b]? = some (.cells #[.string (sOf tt), .bool true, .bool ordE, .bool false] 34 (0, 0)) := hI1
                          have f0 := blk_free' hr1 0
                          have t3 := fun W => str_to row (wd - 8) (by omega) .u64 W
                          have t4 := fun W => str_from row (wd - 8) (by omega) .u64 W
                          have hRL := fun W => ReadLittle_ok (row.drop (wd - 8)) (by rw [List.length_drop]; omega) W
                          have hcast : ((wd - 8 : Nat) : Int) = (wd : Int) - 8 := by omega
                          rw [hcast] at t3 t4
                          have hsub : IntKind.u64.wrap ((wd : Int) - 8) = (wd : Int) - 8 := by rw [IntKind.wrap_u64]; omega
                          have HX := Lib.hid (And.intro hr1 (And.intro hdd (And.intro htl2 hmul)))
                          clear hr1 hdd hI1 htt hrow hmul
                          go_upto_region 21 with fail
                          have hset := (row4_set HX.out.1 (.string (sOf (tt.drop wd)))).1
                          have hkset := kp_set wr ⟨b, 0, none⟩ (.string (sOf (tt.drop wd)))
                          obtain ⟨wS, hwS⟩ : ∃ wS, wS = wr.setCell ⟨b, 0, none⟩ (.string (sOf (tt.drop wd))) := ⟨_, rfl⟩
                          rw [← hwS] at hset hkset ⊢
                          have hzS := hkset.size
                          have hownS : ∀ o, ((wS.drew).alloc o).ownsRow (w.heap.size + 2) rowT 3 u' m' (rowCells xs') := fun o => own_kp (own_kp HI.out.1 hkset (fun g e => by have := (World.ownsRow.lt HI.out.1 g e).1; show ¬ g = b; omega)) (S := fun _ => False) (w' := (wS.drew).alloc o) ((Kp.refl _ wS).drew.trans (kp_alloc wS.drew o) (fun i h => h.elim)) (fun _ _ => id)
                          have hlast : ∀ o : Obj, ((wS.drew).alloc o).heap[wS.heap.size]? = some o := fun o => heap_alloc_last wS.drew o
                          have HS := Lib.hid (And.intro hset hkset)
                          obtain ⟨i0, ui, uz0, uz1, uz2⟩ := info_parts info_Row
                          have hbz := HI.out.2.2.1.lt
                          have hLz := (Array.getElem?_eq_some_iff.1 HI.out.2.2.2.1).1
                          clear hset hkset hwS t1 t2 c0 c3 f0
                          go_region_law (first | (go_simp; go_at_call 20; refine (hRL _).mono ?_; rintro e w1 ⟨rfl, rfl⟩) | (refine step_append_lies _ rfl (.tmp 118) (.tmp 130) 23 rfl (w.heap.size + 2) rowT i0 (.agg #[.int .u64 0, .string ⟨#[]⟩, .int .u64 0]) 3 32 Tryz.underlying23 ui uz0 uz1 uz2 rfl (by decide) u' m' (rowCells xs') rfl (hownS _) ⟨wS.heap.size, 0, none⟩ 1 1 [.int .u64 (hash : Int), .string (sOf (row.take (wd - 8))), .int .u64 (Lib.leNat (row.drop (wd - 8)) : Nat)] rfl rfl (World.news_of_block (hlast _)) (by simp [Value.oneCell']) (by omega) (by unfold maxLen; omega) (by omega) (by simp; omega) _ rfl ?_; intro g2 cap2 w2 hown2 hgrow2 hat2 hlt2))
                          have hgk : Kp (fun i => i = b ∨ w.heap.size + 2 ≤ i) wS w2 := ((Kp.refl (fun i => i = b ∨ w.heap.size + 2 ≤ i) wS).drew.trans (kp_alloc wS.drew _) (fun i h => h.elim)).trans (kp_grown hgrow2) (fun i h => .inl (.inr (World.ownsRow.lt HI.out.1 i h.symm).1))
                          have hbS : w2.heap[b]? = some (.cells #[.string (sOf (tt.drop wd)), .bool true, .bool ordE, .bool false] 34 (0, 0)) := ((kp_grown hgrow2).block b (by simp; omega) (fun e => by have := (World.ownsRow.lt HI.out.1 b e.symm).1; omega)).trans (((heap_alloc_old wS.drew _ (show b < wS.heap.size by omega)).trans HS.out.1))
                          have hkF : Kp (fun i => i = b ∨ w.heap.size + 2 ≤ i) wE w2 := (HKI.out.trans HS.out.2 (fun i h => .inl (.inl h))).trans hgk (fun i h => .inl h)
                          have HF := Lib.hid (And.intro hown2 (And.intro hbS hkF))
                          clear hown2 hgrow2 hgk hbS hkF hownS hlast ui uz0 uz1 uz2 t3 t4 hRL
                          go_wp2_with fail
                          go_roundw
                          case rel =>
                            refine ⟨j + 1, m' + 1, _, xs' ++ [(hash, row.take (wd - 8), Lib.leNat (row.drop (wd - 8)))], rfl, congrArg (Value.int .u64) (Int.natCast_succ j).symm, hjq, (fun h => Bool.noConfusion h), by rw [rowCells_append]; exact HF.out.1, Nat.succ_le_succ hm', ?_, HF.out.2.2⟩
                            rw [← HX.out.2.1]; exact HF.out.2.1
                          case measure =>
                            show q - (((j + 1 : Nat) : Int)).toNat < q - ((j : Nat) : Int).toNat
                            rw [Int.toNat_natCast, Int.toNat_natCast]; exact Nat.sub_lt_sub_left hjq (Nat.lt_succ_self j)
                        · obtain rfl : j = q := by omega
                          have hji : ¬ (j : Int) < (j : Int) := by omega
                          have hrl : m' + (sE.drop (j * wd)).length ≤ st.s.length := by
                            rw [List.length_drop]
                            have : j ≤ j * wd := Nat.le_mul_of_pos_right _ (by omega)
                            omega
                          go_wp2_with fail
                          go_roundw
                          case rel => exact ⟨k, _, addN S wd, wd, m', u', xs', rfl, by go_num, by omega, HI.out.1, hrl, HI.out.2.1, HI.out.2.2.1, HI.out.2.2.2.1, HI.out.2.2.2.2.1, by rw [hqw]; simpa [RSt.sec5] using HI.out.2.2.2.2.2⟩
                          case measure => first | (simp [intOf]; done) | (simp [intOf]; omega)
end Go.Proofs.YtgdgmegpacmgnaaGreatDoor

/- spec.ReadVarint. -/
namespace Go.Proofs.YtgdgmegpacmgnaaGreatDoor
open Go.RowKit
set_option linter.unusedVariables false
set_option linter.unusedSimpArgs false

/-- No varint begins here: the place where that is seen. -/
def VBad (t : List UInt8) : Prop := ∃ k, k ≤ 8 ∧ (∀ j, j < k → ∃ x, t[j]? = some x ∧ 128 ≤ x.toNat) ∧ (k = t.length ∨ (k = 8 ∧ ∃ x, t[k]? = some x ∧ 128 ≤ x.toNat) ∨ (0 < k ∧ t[k]? = some 0))
theorem varint_cases_from : ∀ (m : Nat) (t : List UInt8), (∃ n rest, t = Lib.uvarint n ++ rest ∧ n < 2 ^ (7 * (m + 1))) ∨
    ∃ k, k ≤ m ∧ (∀ j, j < k → ∃ x, t[j]? = some x ∧ 128 ≤ x.toNat) ∧ (k = t.length ∨ (k = m ∧ ∃ x, t[k]? = some x ∧ 128 ≤ x.toNat) ∨ (0 < k ∧ t[k]? = some 0)) := by
  intro m
  induction m with
  | zero =>
    intro t
    cases t with
    | nil => exact .inr ⟨0, Nat.le_refl _, by intro j hj; omega, .inl rfl⟩
    | cons b t =>
      by_cases hb : b.toNat < 128
      · exact .inl ⟨b.toNat, t, by rw [Lib.uvarint_small hb]; simp, by simpa using hb⟩
      · exact .inr ⟨0, Nat.le_refl _, by intro j hj; omega, .inr (.inl ⟨rfl, b, rfl, by omega⟩)⟩
  | succ m ih =>
    intro t
    cases t with
    | nil => exact .inr ⟨0, Nat.zero_le _, by intro j hj; omega, .inl rfl⟩
    | cons b t =>
      have hpow : 2 ^ (7 * (m + 1 + 1)) = 128 * 2 ^ (7 * (m + 1)) := by rw [Nat.mul_add 7 (m + 1), Nat.pow_add]; omega
      by_cases hb : b.toNat < 128
      · refine .inl ⟨b.toNat, t, by rw [Lib.uvarint_small hb]; simp, ?_⟩
        have : 1 ≤ 2 ^ (7 * (m + 1)) := Nat.one_le_two_pow
        omega
      · have hstep : ∀ k, (∀ j, j < k → ∃ x, t[j]? = some x ∧ 128 ≤ x.toNat) → ∀ j, j < k + 1 → ∃ x, (b :: t)[j]? = some x ∧ 128 ≤ x.toNat := by
          intro k h j hj
          cases j with
          | zero => exact ⟨b, rfl, by omega⟩
          | succ j => simpa using h j (by omega)
        rcases ih t with ⟨n, rest, ht, hn⟩ | ⟨k, hk, h1, h2⟩
        · by_cases h0 : n = 0
          · right
            refine ⟨1, by omega, ?_, .inr (.inr ⟨by omega, ?_⟩)⟩
            · intro j hj; obtain rfl : j = 0 := by omega
              exact ⟨b, rfl, by omega⟩
            · subst h0
              rw [ht, Lib.uvarint_small (by omega)]; rfl
          · left
            have hbl := b.toNat_lt
            refine ⟨b.toNat - 128 + 128 * n, rest, ?_, by omega⟩
            rw [Lib.uvarint_big (by omega), ht]
            have e1 : (b.toNat - 128 + 128 * n) / 128 = n := by omega
            have e2 : (b.toNat - 128 + 128 * n) % 128 + 128 = b.toNat := by omega
            rw [e1, e2]; simp
        · right
          refine ⟨k + 1, by omega, hstep k h1, ?_⟩
          rcases h2 with h2 | ⟨h2, x, h3⟩ | ⟨h2, h3⟩
          · exact .inl (by simp [h2])
          · exact .inr (.inl ⟨by omega, x, by simpa using h3.1, h3.2⟩)
          · exact .inr (.inr ⟨by omega, by simpa using h3⟩)
theorem varint_cases (t : List UInt8) : (∃ n rest, t = Lib.uvarint n ++ rest ∧ n < 9223372036854775808) ∨ VBad t := by
  rcases varint_cases_from 8 t with ⟨n, rest, h, hn⟩ | h
  · exact .inl ⟨n, rest, h, hn⟩
  · exact .inr h

set_option maxRecDepth 100000 in
set_option maxHeartbeats 1600000 in
/-- A varint is read. -/
theorem ReadVarint_ok (n : Nat) (hn : n < 9223372036854775808) (rest : List UInt8) (s : ByteArray) (hs : s.data.toList = Lib.uvarint n ++ rest) (hl : s.size ≤ 1000000) (w : World) :
    Calls Tryz.prog 7 #[.string s] w fun e w' => e = .returned (.tuple #[.int .u64 (n : Int), .int .i64 ((Lib.uvarint n).length : Int), .int .i64 0]) ∧ w = w' := by
  have hat : ∀ j (x : UInt8), (Lib.uvarint n ++ rest)[j]? = some x → ∃ h : j < s.size, s[j]'h = x := by
    intro j x h
    rw [← hs, Array.getElem?_toList] at h
    obtain ⟨h1, h2⟩ := Array.getElem?_eq_some_iff.1 h
    exact ⟨h1, h2⟩
  have HAT := Lib.hid hat
  clear hat hs
  go_enter Tryz.func7, Tryz.ntmps7
  go_wp2_with fail
  go_loopw [5, 6] (fun vx vi wr => ∃ (k y acc : Nat) (pre : List UInt8), vi = .int .i64 (k : Int) ∧ vx = .int .u64 acc ∧ pre.length = k ∧ Lib.uvarint n = pre ++ Lib.uvarint y ∧ acc < 2 ^ (7 * k) ∧ n = acc + y * 2 ^ (7 * k) ∧ (k = 0 ∨ 0 < y) ∧ wr = w)
    (fun _ vi _ => 1000 - (intOf vi).toNat)
  case atStart => exact ⟨0, n, 0, [], rfl, rfl, rfl, rfl, by decide, by simp, .inl rfl, rfl⟩
  case round =>
    obtain ⟨k, y, acc, pre, rfl, rfl, hk, hsplit, hacc, hval, hy, rfl⟩ := hrel
    by_cases hb : y < 128
    · obtain ⟨hks, hcell⟩ := HAT.out k y.toUInt8 (by rw [hsplit, Lib.uvarint_small hb, List.append_assoc, List.getElem?_append_right (by omega), hk]; simp)
      have hk9 : k < 9 := pow_bound hn hval hy
      have hy0 : y = 0 → k = 0 := by omega
      have HL : Hid ((Lib.uvarint n).length = k + 1) := Lib.hid (by rw [hsplit, List.length_append, hk, Lib.uvarint_small hb]; rfl)
      have H2 := Lib.hid hval
      have hcn : (s[k]'hks).toNat = y := by rw [hcell]; simp [Nat.toUInt8, UInt8.toNat_ofNat', Nat.mod_eq_of_lt (show y < 256 by omega)]
      clear hsplit hval hk hcell
      have hyb : (y : Int) < 128 := by omega
      have hyb2 : ¬ (128 : Int) ≤ (y : Int) := by omega
      have hk9'' : ¬ (9 : Int) ≤ (k : Int) := by omega
      have hksi : (k : Int) < (s.size : Int) := by omega
      have fin : ∀ X, X = IntKind.u64.wrap (IntKind.u64.wrap (bits .and .u8 (y : Int) 127) * 2 ^ (7 * k)) → bits .or .u64 (acc : Int) X = (n : Int) := by
        intro X hX
        rw [hX, u8_and127n y (by omega), Nat.mod_eq_of_lt hb, u64_wrap_nat y (by omega)]
        exact or_done hn hacc H2.out
      have HF := Lib.hid fin
      clear fin
      obtain ⟨t8, ht8⟩ : ∃ t8, ((k : Int) == 8) = t8 := ⟨_, rfl⟩
      cases t8 with
      | true =>
        have hk0 : (0 : Int) < (k : Int) := by have := beq_iff_eq.1 ht8; omega
        have hy0' : ((y : Int) == 0) = false := beq_eq_false_iff_ne.2 (by have := beq_iff_eq.1 ht8; omega)
        go_wp2_with fail
        go_ret3
        exact ⟨tuple3 (int_eq (HF.out _ rfl)) (int_eq (by rw [HL.out]; omega)), rfl⟩
      | false =>
        by_cases hk0 : 0 < k
        · have hk0' : (0 : Int) < (k : Int) := by omega
          have hy0' : ((y : Int) == 0) = false := beq_eq_false_iff_ne.2 (by omega)
          go_wp2_with fail
          go_ret3
          exact ⟨tuple3 (int_eq (HF.out _ rfl)) (int_eq (by rw [HL.out]; omega)), rfl⟩
        · have hk0' : ¬ (0 : Int) < (k : Int) := by omega
          go_wp2_with fail
          go_ret3
          exact ⟨tuple3 (int_eq (HF.out _ rfl)) (int_eq (by rw [HL.out]; omega)), rfl⟩
    · obtain ⟨hks, hcell⟩ := HAT.out k (y % 128 + 128).toUInt8 (by rw [hsplit, Lib.uvarint_big (by omega), List.append_assoc, List.getElem?_append_right (by omega), hk]; simp)
      have hy9 : 0 < y := by omega
      have hk9 : k + 1 < 9 := pow_bound (y := y / 128) (acc := acc + y % 128 * 2 ^ (7 * k)) hn (by rw [hval]; exact pow_step acc y k) (.inr (by omega))
      obtain ⟨z, hz⟩ : ∃ z, z = y % 128 + 128 := ⟨_, rfl⟩
      rw [← hz] at hcell
      have hcn : (s[k]'hks).toNat = z := by rw [hcell]; simp [Nat.toUInt8, UInt8.toNat_ofNat', Nat.mod_eq_of_lt (show z < 256 by omega)]
      have H1 := Lib.hid hsplit
      have H2 := Lib.hid hval
      have H3 := Lib.hid hk
      have HZ := Lib.hid hz.symm
      have hzb : (128 : Int) ≤ (z : Int) := by omega
      have hzb1 : ¬ (z : Int) < 128 := by omega
      have hzb2 : (z : Int) < 256 := by omega
      have hk8f : ((k : Int) == 8) = false := beq_eq_false_iff_ne.2 (by omega)
      have hk9'' : ¬ (9 : Int) ≤ (k : Int) := by omega
      have hksi : (k : Int) < (s.size : Int) := by omega
      clear hcell hsplit hval hk hz
      go_wp2_with fail
      go_roundw
      case rel =>
        refine ⟨k + 1, y / 128, acc + y % 128 * 2 ^ (7 * k), pre ++ [(y % 128 + 128).toUInt8], by go_num, ?_, by simp [H3.out], by rw [H1.out, Lib.uvarint_big (by omega)]; simp, pow_lt_step hacc, ?_, .inr (by omega), by first | rfl | trivial⟩
        · exact int_eq (or_more hn hacc H2.out HZ.out)
        · rw [H2.out]; exact pow_step acc y k
      case measure => first | (simp [intOf]; done) | (simp [intOf]; omega)

set_option maxRecDepth 100000 in
set_option maxHeartbeats 1600000 in
/-- No varint. -/
theorem ReadVarint_bad (s : ByteArray) (hb : VBad s.data.toList) (hl : s.size ≤ 1000000) (w : World) :
    Calls Tryz.prog 7 #[.string s] w fun e w' => (∃ y : Nat, e = .returned (.tuple #[.int .u64 0, .int .i64 0, .int .i64 (y : Int)]) ∧ 0 < y) ∧ w = w' := by
  have hat : ∀ j (x : UInt8), s.data.toList[j]? = some x → ∃ h : j < s.size, s[j]'h = x := by
    intro j x h
    rw [Array.getElem?_toList] at h
    obtain ⟨h1, h2⟩ := Array.getElem?_eq_some_iff.1 h
    exact ⟨h1, h2⟩
  obtain ⟨k, hk8, hpre, hend⟩ := hb
  have hsl : s.data.toList.length = s.size := by rw [Array.length_toList]; rfl
  rw [hsl] at hend
  have HPRE : Hid (∀ j, j < k → ∃ h : j < s.size, 128 ≤ (s[j]'h).toNat) := Lib.hid fun j hj => by
    obtain ⟨x, hx, h128⟩ := hpre j hj
    obtain ⟨h1, h2⟩ := hat j x hx
    exact ⟨h1, by rw [h2]; exact h128⟩
  have HEND : Hid (k = s.size ∨ (k = 8 ∧ ∃ h : k < s.size, 128 ≤ (s[k]'h).toNat) ∨ (0 < k ∧ ∃ h : k < s.size, (s[k]'h).toNat = 0)) := Lib.hid (by
    rcases hend with h | ⟨h, x, hx, h128⟩ | ⟨h, hx⟩
    · exact .inl h
    · obtain ⟨h1, h2⟩ := hat k x hx
      exact .inr (.inl ⟨h, h1, by rw [h2]; exact h128⟩)
    · obtain ⟨h1, h2⟩ := hat k 0 hx
      exact .inr (.inr ⟨h, h1, by rw [h2]; rfl⟩))
  have hks : k ≤ s.size := by
    rcases HEND.out with h | ⟨_, h, _⟩ | ⟨_, h, _⟩ <;> omega
  clear hat hpre hend hsl
  go_enter Tryz.func7, Tryz.ntmps7
  go_wp2_with fail
  go_loopw [5, 6] (fun vx vi wr => ∃ (i : Nat) (q : Int), vi = .int .i64 (i : Int) ∧ vx = .int .u64 q ∧ i ≤ k ∧ wr = w)
    (fun _ vi _ => 1000 - (intOf vi).toNat)
  case atStart => exact ⟨0, 0, rfl, rfl, Nat.zero_le _, rfl⟩
  case round =>
    obtain ⟨i, q, rfl, rfl, hik, rfl⟩ := hrel
    by_cases hlt : i < k
    · obtain ⟨hi, h128⟩ := HPRE.out i hlt
      obtain ⟨z, hz⟩ : ∃ z, (s[i]'hi).toNat = z := ⟨_, rfl⟩
      have hz256 : z < 256 := by rw [← hz]; exact (s[i]'hi).toNat_lt
      have hzb : (128 : Int) ≤ (z : Int) := by omega
      have hzb1 : ¬ (z : Int) < 128 := by omega
      have hk8f : ((i : Int) == 8) = false := beq_eq_false_iff_ne.2 (by omega)
      have hk9'' : ¬ (9 : Int) ≤ (i : Int) := by omega
      have hksi : (i : Int) < (s.size : Int) := by omega
      clear h128 HEND HPRE
      go_wp2_with fail
      go_roundw
      case rel => exact ⟨i + 1, _, by go_num, rfl, by omega, by first | rfl | trivial⟩
      case measure => first | (simp [intOf]; done) | (simp [intOf]; omega)
    · obtain rfl : i = k := by omega
      rcases HEND.out with h | ⟨h, hi, h128⟩ | ⟨h, hi, h0⟩
      · have hksi : ¬ (i : Int) < (s.size : Int) := by omega
        clear HEND HPRE
        go_wp2_with fail
        go_ret3
        exact ⟨⟨1, rfl, by omega⟩, rfl⟩
      · obtain ⟨z, hz⟩ : ∃ z, (s[i]'hi).toNat = z := ⟨_, rfl⟩
        have hz256 : z < 256 := by rw [← hz]; exact (s[i]'hi).toNat_lt
        have hzb : (128 : Int) ≤ (z : Int) := by omega
        have hk8f : ((i : Int) == 8) = true := beq_iff_eq.2 (by omega)
        have hksi : (i : Int) < (s.size : Int) := by omega
        clear h128 HEND HPRE h
        go_wp2_with fail
        go_ret3
        exact ⟨⟨2, rfl, by omega⟩, rfl⟩
      · have hksi : (i : Int) < (s.size : Int) := by omega
        have hk0 : (0 : Int) < (i : Int) := by omega
        have hk9'' : ¬ (9 : Int) ≤ (i : Int) := by omega
        obtain ⟨t8, ht8⟩ : ∃ t8, ((i : Int) == 8) = t8 := ⟨_, rfl⟩
        clear HEND HPRE
        cases t8 with
        | true =>
          go_wp2_with fail
          go_ret3
          exact ⟨⟨3, rfl, by omega⟩, rfl⟩
        | false =>
          go_wp2_with fail
          go_ret3
          exact ⟨⟨3, rfl, by omega⟩, rfl⟩
end Go.Proofs.YtgdgmegpacmgnaaGreatDoor
