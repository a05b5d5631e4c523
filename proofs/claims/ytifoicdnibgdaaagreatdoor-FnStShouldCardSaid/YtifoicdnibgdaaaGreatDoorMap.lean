/- A map from entries to counts. -/
import Derived.Test.YtifoicdnibgdaaaGreatDoorAll
import Derived.DeepKeys4
import Derived.WideKeyEntry
namespace Go.Proofs.YtifoicdnibgdaaaGreatDoor
open Go.RowKit
open Go.WideMaps (KeyLaw)
open Go.ChangeMaps (setBlock)
set_option linter.unusedVariables false
set_option linter.unusedSimpArgs false
set_option maxRecDepth 100000

theorem mLaid : laidOutB Tryz.prog = true := by kernel_rfl
theorem mRow : (30 : TypeId) < Tryz.prog.types.size := of_decide_eq_true (by kernel_rfl)
theorem mWide : (match Tryz.prog.underlying 30 with | some (.array _ _) | some (.struct _) => true | _ => false) = true := by kernel_rfl
theorem mLaw : KeyLaw Tryz.prog 30 := deep_law_laid mLaid (m := 3) (by omega) mRow (by kernel_rfl) mWide
theorem mZero (w : World) : (zeroValue 3).run Tryz.prog w = .ok (.int .i64 0) w := by kernel_rfl
theorem mKeyType : Tryz.prog.keyType 30 = true := by kernel_rfl

def entVal (x : CidOf × Int) : Value := .agg #[.int .u64 x.1.ver, .int .u64 x.1.codec, .int .u64 x.1.code, .string (sOf x.1.dig), .int .u64 x.2]

theorem entVal_inj {x y : CidOf × Int} (h : entVal x = entVal y) : x = y := by
  obtain ⟨⟨v, c, d, g⟩, o⟩ := x
  obtain ⟨⟨v', c', d', g'⟩, o'⟩ := y
  simp [entVal, sOf] at h
  obtain ⟨h1, h2, h3, h4, h5⟩ := h
  simp only [Prod.mk.injEq, CidOf.mk.injEq]
  exact ⟨⟨by omega, by omega, by omega, h4⟩, h5⟩

structure Fine (x : CidOf × Int) : Prop where
  ver : x.1.ver < 18446744073709551616
  codec : x.1.codec < 18446744073709551616
  code : x.1.code < 18446744073709551616
  dig : x.1.dig.length ≤ maxLen
  off : 0 ≤ x.2 ∧ x.2 < 18446744073709551616

theorem mKey {x : CidOf × Int} (h : Fine x) : ∃ kl, keyOf Tryz.prog 30 (entVal x) = some kl := by
  obtain ⟨⟨v, c, d, g⟩, o⟩ := x
  obtain ⟨h1, h2, h3, h4, h5⟩ := h
  simp only at h1 h2 h3 h4 h5
  have w1 : (Lit.int .u64 (v : Int)).wf = true := WalkArith.wf_u64 (by omega)
  have w2 : (Lit.int .u64 (c : Int)).wf = true := WalkArith.wf_u64 (by omega)
  have w3 : (Lit.int .u64 (d : Int)).wf = true := WalkArith.wf_u64 (by omega)
  have w5 : (Lit.int .u64 o).wf = true := WalkArith.wf_u64 (by omega)
  have w4 : (sOf g).size ≤ maxLen := h4
  have hn : ∃ n, Tryz.prog.types.size + 1 = n + 4 := ⟨Tryz.prog.types.size - 3, by have : (4 : Nat) < Tryz.prog.types.size := of_decide_eq_true (by kernel_rfl); omega⟩
  obtain ⟨n, hn⟩ := hn
  have hf : (entVal (⟨v, c, d, g⟩, o)).formed Tryz.prog 30 = true := by kernel_rfl
  unfold keyOf
  rw [hf, mKeyType, hn, Tryz.underlying30]
  have hc : Tryz.prog.cellsOf 30 = 5 := by kernel_rfl
  have hc2 : Tryz.prog.cellsOf 28 = 4 := by kernel_rfl
  have hc3 : Tryz.prog.cellsOf 26 = 1 := by kernel_rfl
  have hc4 : Tryz.prog.cellsOf 9 = 1 := by kernel_rfl
  simp [Program.keyLits, entVal, Value.cells, Tryz.underlying30, Tryz.underlying28, Tryz.underlying26, Tryz.underlying9, hc, hc2, hc3, hc4, w1, w2, w3, w4, w5]
  rw [if_pos (by decide)]
  exact ⟨_, rfl⟩

/-- A map of the call's own, at block b, that counts. -/
structure MapAt (w : World) (b : Nat) (cnt : CidOf × Int → Int) : Prop where
  is : ∃ es clock, w.heap[b]? = some (.map es clock) ∧ (∀ e, e ∈ es.toList → e.born < clock) ∧ (es.toList.map (·.born)).Nodup ∧
    (∀ e, e ∈ es.toList → ∃ x, Fine x ∧ e.key = entVal x ∧ e.val = .int .i64 (cnt x)) ∧
    (∀ x, (∀ e, e ∈ es.toList → e.key ≠ entVal x) → cnt x = 0) ∧ (es.toList.map (·.key)).Nodup

theorem MapAt.made (w : World) : MapAt (w.alloc (.map #[] 0)) w.heap.size fun _ => 0 :=
  ⟨⟨#[], 0, heap_alloc_new w _, by simp, by simp, by simp, fun _ _ => rfl, by simp⟩⟩

theorem MapAt.same {w w' : World} {b : Nat} {cnt : CidOf × Int → Int} (h : MapAt w b cnt) (hs : w'.heap[b]? = w.heap[b]?) : MapAt w' b cnt := by
  obtain ⟨es, clock, h0, h1⟩ := h.is
  exact ⟨⟨es, clock, hs.trans h0, h1⟩⟩

theorem MapAt.keys {es : List MapEntry} {cnt : CidOf × Int → Int} (h : ∀ e, e ∈ es → ∃ x, Fine x ∧ e.key = entVal x ∧ e.val = .int .i64 (cnt x)) : ∀ e, e ∈ es → ∃ l, keyOf Tryz.prog 30 e.key = some l := by
  intro e he
  obtain ⟨x, hx, hk, _⟩ := h e he
  rw [hk]; exact mKey hx

theorem MapAt.look {w : World} {b : Nat} {cnt : CidOf × Int → Int} (h : MapAt w b cnt) {x : CidOf × Int} (hx : Fine x) : (Instr.lookup 25 (.map (some b)) (entVal x) false).run Tryz.prog w = .ok (.int .i64 (cnt x)) w := by
  obtain ⟨es, clock, hb, _, _, hks, hz, _⟩ := h.is
  obtain ⟨kl, hkl⟩ := mKey hx
  rcases mLaw.find w hkl es.toList (MapAt.keys hks) with ⟨h1, h2⟩ | ⟨j, e0, h1, h2, h3⟩
  · rw [hz x h2]
    simp [Instr.lookup, run_underlying Tryz.underlying25, MapKept.run_getObj_map hb, mLaw.check w _ hkl, h1, mZero, Result.andThen]
  · obtain ⟨y, hy, hky, hv⟩ := hks e0 (List.mem_of_getElem? h2)
    have hxy : x = y := entVal_inj (h3.symm.trans hky)
    subst hxy
    simp [Instr.lookup, run_underlying Tryz.underlying25, MapKept.run_getObj_map hb, mLaw.check w _ hkl, h1, hv, Result.andThen]

instance : DecidableEq CidOf := fun a b => decidable_of_iff (a.ver = b.ver ∧ a.codec = b.codec ∧ a.code = b.code ∧ a.dig = b.dig) (by cases a; cases b; simp)
def upd (cnt : CidOf × Int → Int) (x : CidOf × Int) (v : Int) : CidOf × Int → Int := fun y => if y = x then v else cnt y

theorem MapAt.push {w : World} {b : Nat} {cnt : CidOf × Int → Int} {es : Array MapEntry} {clock : Nat} {x : CidOf × Int} (hx : Fine x) (v : Int) (h1 : ∀ e, e ∈ es.toList → e.born < clock) (h2 : (es.toList.map (·.born)).Nodup)
    (h3 : ∀ e, e ∈ es.toList → ∃ y, Fine y ∧ e.key = entVal y ∧ e.val = .int .i64 (cnt y)) (h4 : ∀ y, (∀ e, e ∈ es.toList → e.key ≠ entVal y) → cnt y = 0) (h5 : (es.toList.map (·.key)).Nodup) (hn : ∀ e, e ∈ es.toList → e.key ≠ entVal x)
    (hb : w.heap[b]? = some (.map (es.push ⟨entVal x, .int .i64 v, clock⟩) (clock + 1))) : MapAt w b (upd cnt x v) := by
  refine ⟨⟨_, _, hb, ?_, ?_, ?_, ?_, ?_⟩⟩
  · intro e he
    simp only [Array.toList_push, List.mem_append, List.mem_singleton] at he
    rcases he with he | rfl
    · have := h1 e he; omega
    · simp
  · simp only [Array.toList_push, List.map_append, List.map_cons, List.map_nil]
    refine List.nodup_append.2 ⟨h2, by simp, fun a ha c hc e1 => ?_⟩
    simp only [List.mem_singleton] at hc
    obtain ⟨e, he, rfl⟩ := List.mem_map.1 ha
    have := h1 e he
    omega
  · intro e he
    simp only [Array.toList_push, List.mem_append, List.mem_singleton] at he
    rcases he with he | rfl
    · obtain ⟨y, hy, hk, hv⟩ := h3 e he
      have hne : y ≠ x := by rintro rfl; exact hn e he hk
      exact ⟨y, hy, hk, by simp [upd, hne, hv]⟩
    · exact ⟨x, hx, rfl, by simp [upd]⟩
  · intro y hy
    simp only [Array.toList_push, List.mem_append, List.mem_singleton] at hy
    have hne : y ≠ x := by rintro rfl; exact hy _ (.inr rfl) rfl
    simp only [upd, hne, if_false]
    exact h4 y fun e he => hy e (.inl he)
  · simp only [Array.toList_push, List.map_append, List.map_cons, List.map_nil]
    refine List.nodup_append.2 ⟨h5, by simp, fun a ha c hc e1 => ?_⟩
    simp only [List.mem_singleton] at hc
    obtain ⟨e, he, rfl⟩ := List.mem_map.1 ha
    exact hn e he (by rw [e1, hc])

theorem upd_self (cnt : CidOf × Int → Int) (x : CidOf × Int) : upd cnt x (cnt x) = cnt := by
  funext y
  unfold upd
  split
  · rename_i h; rw [h]
  · rfl

theorem MapAt.put {w : World} {b : Nat} {cnt : CidOf × Int → Int} {es : Array MapEntry} {clock : Nat} {x : CidOf × Int} (hx : Fine x) (v : Int) (h1 : ∀ e, e ∈ es.toList → e.born < clock) (h2 : (es.toList.map (·.born)).Nodup)
    (h3 : ∀ e, e ∈ es.toList → ∃ y, Fine y ∧ e.key = entVal y ∧ e.val = .int .i64 (cnt y)) (h4 : ∀ y, (∀ e, e ∈ es.toList → e.key ≠ entVal y) → cnt y = 0) (h5 : (es.toList.map (·.key)).Nodup) {j : Nat} {e0 : MapEntry} (hj : es.toList[j]? = some e0) (hk0 : e0.key = entVal x)
    (hb : w.heap[b]? = some (.map (es.modify j fun e => { e with val := .int .i64 v }) clock)) : MapAt w b (upd cnt x v) := by
  have hl : (es.modify j fun e => { e with val := .int .i64 v }).toList = es.toList.set j { e0 with val := .int .i64 v } := by
    rw [Array.toList_modify]
    apply List.ext_getElem?
    intro i
    rw [List.getElem?_modify, List.getElem?_set]
    by_cases hij : j = i
    · subst hij
      have := (List.getElem?_eq_some_iff.1 hj).1
      have this' : j < es.size := by simpa using this
      have hjv : es[j] = e0 := by have := (List.getElem?_eq_some_iff.1 hj).2; simpa using this
      simp [hj, this', hjv]
    · simp [hij]
  have hlt := (List.getElem?_eq_some_iff.1 hj).1
  have hlt' : j < es.size := by simpa using hlt
  have hjv' : es[j] = e0 := by have := (List.getElem?_eq_some_iff.1 hj).2; simpa using this
  have hb1 : (es.toList.set j { e0 with val := .int .i64 v }).map (·.born) = es.toList.map (·.born) := by
    rw [List.map_set]
    apply List.ext_getElem?
    intro i
    rw [List.getElem?_set]
    split
    · rename_i h; subst h; simp [hj, hlt', hjv']
    · rfl
  have hb2 : (es.toList.set j { e0 with val := .int .i64 v }).map (·.key) = es.toList.map (·.key) := by
    rw [List.map_set]
    apply List.ext_getElem?
    intro i
    rw [List.getElem?_set]
    split
    · rename_i h; subst h; simp [hj, hlt', hjv']
    · rfl
  refine ⟨⟨_, _, hb, ?_, ?_, ?_, ?_, ?_⟩⟩
  · intro e he
    rw [hl] at he
    rcases List.mem_or_eq_of_mem_set he with he | rfl
    · exact h1 e he
    · exact h1 e0 (List.mem_of_getElem? hj)
  · rw [hl, hb1]; exact h2
  · intro e he
    rw [hl] at he
    obtain ⟨i, hi⟩ := List.getElem?_of_mem he
    rw [List.getElem?_set] at hi
    split at hi
    · simp only [hlt, if_true, Option.some.injEq] at hi
      subst hi
      exact ⟨x, hx, hk0, by simp [upd]⟩
    · rename_i hij
      obtain ⟨y, hy, hk, hv⟩ := h3 e (List.mem_of_getElem? hi)
      have hne : y ≠ x := by
        rintro rfl
        have n1 : (es.toList.map (·.key))[j]? = (es.toList.map (·.key))[i]? := by rw [List.getElem?_map, List.getElem?_map, hj, hi]; simp [hk0, hk]
        exact hij ((List.getElem?_inj (by simpa using hlt') h5).1 n1)
      exact ⟨y, hy, hk, by simp [upd, hne, hv]⟩
  · intro y hy
    rw [hl] at hy
    have hmem : { e0 with val := .int .i64 v } ∈ es.toList.set j { e0 with val := .int .i64 v } := List.mem_iff_getElem?.2 ⟨j, by rw [List.getElem?_set]; simp [hlt']⟩
    have hne : y ≠ x := by rintro rfl; exact hy _ hmem hk0
    simp only [upd, hne, if_false]
    refine h4 y fun e he hke => ?_
    obtain ⟨i, hi⟩ := List.getElem?_of_mem he
    by_cases hij : j = i
    · subst hij
      rw [hj] at hi
      obtain rfl := Option.some.inj hi
      exact hne (entVal_inj (hke.symm.trans hk0))
    · exact hy e (List.mem_iff_getElem?.2 ⟨i, by rw [List.getElem?_set]; simp [hij, hi]⟩) hke
  · rw [hl, hb2]; exact h5

theorem kp_setBlock {w : World} {b : Nat} (o : Obj) : Kp (fun i => i = b) w (setBlock w b o) :=
  ⟨rfl, rfl, rfl, by simp [setBlock], fun k _ hk => by simp only [setBlock]; rw [Array.getElem?_setIfInBounds_ne (fun e => hk e.symm)]⟩

theorem MapAt.entry {w : World} {b : Nat} {cnt : CidOf × Int → Int} (h : MapAt w b cnt) {x : CidOf × Int} (hx : Fine x) :
    ∃ (st : Nat) (w1 : World), (Instr.mapEntry 25 (.map (some b)) (entVal x)).run Tryz.prog w = .ok (.tuple #[.int .i64 (cnt x), .int .i64 st]) w1 ∧ MapAt w1 b cnt ∧ Kp (fun i => i = b) w w1 ∧ w1.heap.size = w.heap.size ∧ w1.drawn = w.drawn ∧
      ∀ (w2 : World) (v : Int), w2.heap[b]? = w1.heap[b]? → ∃ w3, (Instr.entryStore 25 (.map (some b)) (.int .i64 st) (.int .i64 v)).run Tryz.prog w2 = .ok () w3 ∧ MapAt w3 b (upd cnt x v) ∧ Kp (fun i => i = b) w2 w3 ∧ w3.heap.size = w2.heap.size := by
  obtain ⟨es, clock, hb, h1, h2, hks, hz, h5⟩ := h.is
  have hblt := (Array.getElem?_eq_some_iff.1 hb).1
  obtain ⟨kl, hkl⟩ := mKey hx
  rcases mLaw.find w hkl es.toList (MapAt.keys hks) with ⟨f1, f2⟩ | ⟨j, e0, f1, f2, f3⟩
  · have hc := hz x f2
    have hset : (setBlock w b (.map (es.push ⟨entVal x, .int .i64 0, clock⟩) (clock + 1))).heap[b]? = some (.map (es.push ⟨entVal x, .int .i64 0, clock⟩) (clock + 1)) := by simp [setBlock, hblt]
    refine ⟨clock, setBlock w b (.map (es.push ⟨entVal x, .int .i64 0, clock⟩) (clock + 1)), ?_, ?_, kp_setBlock _, by simp [setBlock], rfl, fun w2 v hw2 => ?_⟩
    · rw [hc]
      simp [Instr.mapEntry, run_underlying Tryz.underlying25, MapKept.run_getObj_map hb, mLaw.check w false hkl, f1, mZero, MapKept.run_setObj_map _ hb, Result.andThen, setBlock, goInt]
    · have := MapAt.push hx 0 h1 h2 hks hz h5 f2 hset
      have hu := upd_self cnt x
      rw [hc] at hu
      rw [hu] at this
      exact this
    · rw [hset] at hw2
      have hidx : (es.push ⟨entVal x, .int .i64 0, clock⟩).findIdx? (fun e => ((e.born : Nat) : Int) == ((clock : Nat) : Int)) = some es.size := by
        rw [WideElems.findIdx_arr]
        have := WideElems.findIdx_born (l := (es.push ⟨entVal x, .int .i64 0, clock⟩).toList) (j := es.size) (e0 := ⟨entVal x, .int .i64 0, clock⟩) (by
          simp only [Array.toList_push, List.map_append, List.map_cons, List.map_nil]
          refine List.nodup_append.2 ⟨h2, by simp, fun a ha c hc e1 => ?_⟩
          simp only [List.mem_singleton] at hc
          obtain ⟨e, he, rfl⟩ := List.mem_map.1 ha
          have := h1 e he
          omega) (by simp)
        exact this
      have hmod : (es.push ⟨entVal x, .int .i64 0, clock⟩).modify es.size (fun e => { e with val := .int .i64 v }) = es.push ⟨entVal x, .int .i64 v, clock⟩ := by
        apply Array.ext'
        rw [Array.toList_modify, Array.toList_push, Array.toList_push, ← Array.length_toList, WideElems.modify_last]
      have hb2lt := (Array.getElem?_eq_some_iff.1 hw2).1
      refine ⟨setBlock w2 b (.map (es.push ⟨entVal x, .int .i64 v, clock⟩) (clock + 1)), ?_, ?_, kp_setBlock _, by simp [setBlock]⟩
      · simp [Instr.entryStore, MapKept.run_getObj_map hw2, asInt, asIntOf, hidx, hmod, MapKept.run_setObj_map _ hw2, Result.andThen, setBlock]
      · exact MapAt.push hx v h1 h2 hks hz h5 f2 (by simp [setBlock, hb2lt])
  · obtain ⟨y, hy, hky, hv⟩ := hks e0 (List.mem_of_getElem? f2)
    have hxy : x = y := entVal_inj (f3.symm.trans hky)
    subst hxy
    have hj : es[j]? = some e0 := by simpa using f2
    have hsame : es.modify j (fun e => { e with key := entVal x }) = es := by
      apply Array.ext'
      rw [Array.toList_modify, ChangeMaps.modify_eq_set _ _ _ _ f2]
      have : ({ e0 with key := entVal x } : MapEntry) = e0 := by rw [← f3]
      rw [this]
      exact WideElems.set_self _ _ _ f2
    have hself : setBlock w b (.map es clock) = w := by
      unfold setBlock
      have : w.heap.setIfInBounds b (.map es clock) = w.heap := by
        apply Array.ext_getElem?
        intro i
        by_cases hi : b = i
        · subst hi; rw [hb]; simp [hblt]
        · rw [Array.getElem?_setIfInBounds_ne hi]
      rw [this]
    refine ⟨e0.born, w, ?_, h, Kp.refl _ _, rfl, rfl, fun w2 v hw2 => ?_⟩
    · have h' : w.heap.setIfInBounds b (.map es clock) = w.heap := congrArg World.heap hself
      simp [Instr.mapEntry, run_underlying Tryz.underlying25, MapKept.run_getObj_map hb, mLaw.check w false hkl, f1, hj, f3, mLaw.stays w hkl, hsame, MapKept.run_setObj_map _ hb, Result.andThen, goInt, hv, h']
    · rw [hb] at hw2
      have hb2lt := (Array.getElem?_eq_some_iff.1 hw2).1
      have hidx : es.findIdx? (fun e => ((e.born : Nat) : Int) == ((e0.born : Nat) : Int)) = some j := by
        rw [WideElems.findIdx_arr]
        exact WideElems.findIdx_born h2 f2
      refine ⟨setBlock w2 b (.map (es.modify j fun e => { e with val := .int .i64 v }) clock), ?_, ?_, kp_setBlock _, by simp [setBlock]⟩
      · simp [Instr.entryStore, MapKept.run_getObj_map hw2, asInt, asIntOf, hidx, MapKept.run_setObj_map _ hw2, Result.andThen, setBlock]
      · exact MapAt.put hx v h1 h2 hks hz h5 f2 f3 (by simp [setBlock, hb2lt])
end Go.Proofs.YtifoicdnibgdaaaGreatDoor
