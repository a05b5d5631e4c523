/- Maps keyed by integers: their entries as a list; lookups, stores, ranges. -/
import Derived.Test.YtfjclhfhbclbhaaGreatDoorKp
import Derived.MapKept
import Derived.ChangeMaps
import Derived.Maps.RangeWalk
namespace Go.Proofs.YtfjclhfhbclbhaaGreatDoor
open Go.RowKit
open Go.ChangeMaps (setBlock)
set_option linter.unusedVariables false
set_option linter.unusedSimpArgs false

/-- A goal that the walk does not take on: so that it stands still there. -/
def Later (p : Prop) : Prop := p
theorem later {p : Prop} (h : Later p) : p := h
theorem now {p : Prop} (h : p) : Later p := h

/-- An entry as it lies in a map keyed by integers of kind q. -/
def imv (q : IntKind) (p : Int × Value) : Value × Value := (.int q p.1, p.2)
/-- A map keyed by integers, at block b: its pairs, in the order in which they were laid. -/
def ImAt (w : World) (b : Nat) (q : IntKind) (L : List (Int × Value)) : Prop :=
  ∃ es clock, w.heap[b]? = some (.map es clock) ∧ MapKept.Stamped es clock ∧ es.toList.map (fun e => (e.key, e.val)) = L.map (imv q)

def ilook (L : List (Int × Value)) (k : Int) : Option Value := (L.find? (fun p => decide (p.1 = k))).map (·.2)
/-- The pairs behind a store. -/
def iput : List (Int × Value) → Int → Value → List (Int × Value)
  | [], k, v => [(k, v)]
  | p :: L, k, v => if p.1 = k then (k, v) :: L else p :: iput L k v

theorem ImAt.upd {w w' : World} {b : Nat} {q : IntKind} {L : List (Int × Value)} (h : ImAt w b q L) (k : w'.heap[b]? = w.heap[b]?) : ImAt w' b q L := by
  obtain ⟨es, clock, h0, h1⟩ := h
  exact ⟨es, clock, k.trans h0, h1⟩
theorem ImAt.lt {w : World} {b : Nat} {q : IntKind} {L : List (Int × Value)} (h : ImAt w b q L) : b < w.heap.size := by
  obtain ⟨es, clock, h0, h1⟩ := h
  exact (Array.getElem?_eq_some_iff.1 h0).1
theorem ImAt.kp {S : Nat → Prop} {w w' : World} {b : Nat} {q : IntKind} {L : List (Int × Value)} (h : ImAt w b q L) (k : Kp S w w') (hs : ¬ S b) : ImAt w' b q L := h.upd (k.block b h.lt hs)
theorem ImAt.made (w : World) (q : IntKind) : ImAt (w.alloc (.map #[] 0)) w.heap.size q [] := ⟨#[], 0, heap_alloc_new w _, MapKept.stamped_empty 0, rfl⟩

theorem im_keys {q : IntKind} {es : List MapEntry} {L : List (Int × Value)} (h : es.map (fun e => (e.key, e.val)) = L.map (imv q)) : ∀ x ∈ es, MapKept.IsKey (.int q) x.key := by
  intro x hx
  have : (x.key, x.val) ∈ L.map (imv q) := by rw [← h]; exact List.mem_map.2 ⟨x, hx, rfl⟩
  obtain ⟨p, _, hp⟩ := List.mem_map.1 this
  simp only [imv, Prod.mk.injEq] at hp
  rw [← hp.1]; rfl
theorem im_get {q : IntKind} {es : List MapEntry} {L : List (Int × Value)} (h : es.map (fun e => (e.key, e.val)) = L.map (imv q)) (j : Nat) : (es[j]?).map (fun e => (e.key, e.val)) = (L[j]?).map (imv q) := by
  rw [← List.getElem?_map, ← List.getElem?_map, h]
theorem im_mem {q : IntKind} {es : List MapEntry} {L : List (Int × Value)} (h : es.map (fun e => (e.key, e.val)) = L.map (imv q)) {e : MapEntry} (he : e ∈ es) : ∃ p ∈ L, e.key = .int q p.1 ∧ e.val = p.2 := by
  have : (e.key, e.val) ∈ L.map (imv q) := by rw [← h]; exact List.mem_map.2 ⟨e, he, rfl⟩
  obtain ⟨p, hp, hq⟩ := List.mem_map.1 this
  simp only [imv, Prod.mk.injEq] at hq
  exact ⟨p, hp, hq.1.symm, hq.2.symm⟩
theorem im_mem' {q : IntKind} {es : List MapEntry} {L : List (Int × Value)} (h : es.map (fun e => (e.key, e.val)) = L.map (imv q)) {p : Int × Value} (hp : p ∈ L) : ∃ e ∈ es, e.key = .int q p.1 ∧ e.val = p.2 := by
  have : imv q p ∈ es.map (fun e => (e.key, e.val)) := by rw [h]; exact List.mem_map.2 ⟨p, hp, rfl⟩
  obtain ⟨e, he, hq⟩ := List.mem_map.1 this
  simp only [imv, Prod.mk.injEq] at hq
  exact ⟨e, he, hq.1, hq.2⟩

theorem ImAt.nodup {w : World} {b : Nat} {q : IntKind} {L : List (Int × Value)} (h : ImAt w b q L) : (L.map (·.1)).Nodup := by
  obtain ⟨es, clock, h0, ⟨_, _, h1⟩, h2⟩ := h
  have e1 : es.toList.map (·.key) = (L.map (·.1)).map (Value.int q) := by
    have := congrArg (List.map Prod.fst) h2
    simpa [imv, Function.comp_def] using this
  rw [e1] at h1
  refine List.Pairwise.imp ?_ (List.pairwise_map.1 h1)
  intro a b h e
  exact h (by rw [e])

theorem ilook_none {L : List (Int × Value)} {k : Int} : ilook L k = none ↔ ∀ p ∈ L, p.1 ≠ k := by
  simp [ilook]
theorem ilook_some {L : List (Int × Value)} {k : Int} {v : Value} (h : ilook L k = some v) : (k, v) ∈ L := by
  unfold ilook at h
  obtain ⟨p, hp, rfl⟩ := Option.map_eq_some_iff.1 h
  have h1 := List.mem_of_find?_eq_some hp
  have h2 := List.find?_some hp
  simp only [decide_eq_true_eq] at h2
  rw [← h2]; exact h1
theorem ilook_of_mem {L : List (Int × Value)} (hn : (L.map (·.1)).Nodup) {k : Int} {v : Value} (h : (k, v) ∈ L) : ilook L k = some v := by
  induction L with
  | nil => cases h
  | cons p L ih =>
    have hn' := List.nodup_cons.1 hn
    by_cases hp : p.1 = k
    · rcases List.mem_cons.1 h with e | e
      · subst e; simp [ilook]
      · exact absurd (List.mem_map.2 ⟨_, e, hp.symm⟩) hn'.1
    · rcases List.mem_cons.1 h with e | e
      · subst e; exact absurd rfl hp
      · have := ih hn'.2 e
        simpa [ilook, List.find?_cons, hp] using this
theorem iput_fst {L : List (Int × Value)} {k : Int} {v : Value} : (iput L k v).map (·.1) = if k ∈ L.map (·.1) then L.map (·.1) else L.map (·.1) ++ [k] := by
  induction L with
  | nil => simp [iput]
  | cons p L ih =>
    by_cases hp : p.1 = k
    · simp [iput, hp]
    · have hp' : ¬ k = p.1 := fun e => hp e.symm
      rw [show iput (p :: L) k v = p :: iput L k v by simp [iput, hp], List.map_cons, ih]
      by_cases hm : k ∈ L.map (·.1)
      · rw [if_pos hm, if_pos (by simp only [List.map_cons, List.mem_cons]; exact .inr hm), List.map_cons]
      · rw [if_neg hm, if_neg (by simp only [List.map_cons, List.mem_cons, not_or]; exact ⟨hp', hm⟩)]
        rfl
theorem iput_new {L : List (Int × Value)} {k : Int} {v : Value} (h : ∀ p ∈ L, p.1 ≠ k) : iput L k v = L ++ [(k, v)] := by
  induction L with
  | nil => rfl
  | cons p L ih => simp [iput, h p (.head _), ih (fun x hx => h x (.tail _ hx))]
theorem iput_old {L : List (Int × Value)} {k : Int} {v : Value} (hn : (L.map (·.1)).Nodup) {j : Nat} {x : Value} (h : L[j]? = some (k, x)) : iput L k v = L.set j (k, v) := by
  induction L generalizing j with
  | nil => simp at h
  | cons p L ih =>
    have hn' := List.nodup_cons.1 hn
    cases j with
    | zero => simp only [List.getElem?_cons_zero, Option.some.injEq] at h; subst h; simp [iput]
    | succ j =>
      simp only [List.getElem?_cons_succ] at h
      have hp : p.1 ≠ k := by
        intro e
        exact hn'.1 (List.mem_map.2 ⟨_, List.mem_of_getElem? h, e.symm⟩)
      simp only [iput, hp, if_false, List.set_cons_succ]
      rw [ih hn'.2 h]

section
variable {P : Program} {t kt et : TypeId} {q : IntKind} (hm : P.underlying t = some (.map kt et)) (hk : P.underlying kt = some (.int q))
include hm hk

theorem ImAt.look {w : World} {b : Nat} {L : List (Int × Value)} (h : ImAt w b q L) {k : Int} {v : Value} (hv : ilook L k = some v) (ok : Bool) :
    (Instr.lookup t (.map (some b)) (.int q k) ok).run P w = .ok (if ok then .tuple #[v, .bool true] else v) w := by
  have hn := h.nodup
  obtain ⟨es, clock, h0, h1, h2⟩ := h
  have hkey : MapKept.IsKey (.int q) (.int q k) := rfl
  rcases MapKept.findNow_spec hkey es.toList 0 (im_keys h2) with ⟨g1, g2⟩ | ⟨j, e, g1, g2, g3⟩
  · obtain ⟨e, he, hek, _⟩ := im_mem' h2 (ilook_some hv)
    exact absurd hek (g2 e he)
  · have hev : e.val = v := by
      obtain ⟨p, hp, hpk, hpv⟩ := im_mem h2 (List.mem_of_getElem? g2)
      have : p.1 = k := by rw [g3] at hpk; injection hpk with _ h; exact h.symm
      have := ilook_of_mem hn (show (k, p.2) ∈ L by rw [← this]; exact hp)
      rw [hv] at this
      rw [hpv]; injection this with h; exact h.symm
    cases ok <;> simp [Instr.lookup, run_underlying hm, MapKept.run_getObj_map h0, MapKept.run_checkKey hk hkey, MapKept.run_findKey hk g1, hev, Result.andThen]

theorem ImAt.look_no {w : World} {b : Nat} {L : List (Int × Value)} (h : ImAt w b q L) {k : Int} (hv : ilook L k = none) (ok : Bool) (z : Value) (hz : ∀ W, (zeroValue et).run P W = .ok z W) :
    (Instr.lookup t (.map (some b)) (.int q k) ok).run P w = .ok (if ok then .tuple #[z, .bool false] else z) w := by
  obtain ⟨es, clock, h0, h1, h2⟩ := h
  have hkey : MapKept.IsKey (.int q) (.int q k) := rfl
  rcases MapKept.findNow_spec hkey es.toList 0 (im_keys h2) with ⟨g1, g2⟩ | ⟨j, e, g1, g2, g3⟩
  · cases ok <;> simp [Instr.lookup, run_underlying hm, MapKept.run_getObj_map h0, MapKept.run_checkKey hk hkey, MapKept.run_findKey hk g1, hz, Result.andThen]
  · obtain ⟨p, hp, hpk, hpv⟩ := im_mem h2 (List.mem_of_getElem? g2)
    have : p.1 = k := by rw [g3] at hpk; injection hpk with _ h; exact h.symm
    exact absurd this (ilook_none.1 hv p hp)

/-- A store: an object behind it, whatever world has this heap. -/
theorem ImAt.put {w : World} {b : Nat} {L : List (Int × Value)} (h : ImAt w b q L) (k : Int) (v : Value) :
    ∃ o, (∀ W : World, W.heap[b]? = w.heap[b]? → (Instr.mapUpdate t (.map (some b)) (.int q k) v).run P W = .ok () (setBlock W b o)) ∧ ∀ W : World, W.heap[b]? = w.heap[b]? → ImAt (setBlock W b o) b q (iput L k v) := by
  have hn := h.nodup
  obtain ⟨es, clock, h0, h1, h2⟩ := h
  have hkey : MapKept.IsKey (.int q) (.int q k) := rfl
  have hset : ∀ (W : World) (o : Obj), W.heap[b]? = w.heap[b]? → (setBlock W b o).heap[b]? = some o := by
    intro W o hW
    have hlt := (Array.getElem?_eq_some_iff.1 (hW.trans h0)).1
    simp [setBlock, hlt]
  rcases MapKept.findNow_spec hkey es.toList 0 (im_keys h2) with ⟨g1, g2⟩ | ⟨j, e, g1, g2, g3⟩
  · refine ⟨.map (es.push ⟨.int q k, v, clock⟩) (clock + 1), fun W hW => ?_, fun W hW => ⟨_, _, hset W _ hW, MapKept.stamped_push h1 g2, ?_⟩⟩
    · simp [Instr.mapUpdate, run_underlying hm, MapKept.run_getObj_map (hW.trans h0), MapKept.run_checkKey hk hkey, MapKept.run_findKey hk g1, MapKept.run_setObj_map _ (hW.trans h0), Result.andThen, setBlock]
    · rw [iput_new]
      · simp [h2, imv]
      · intro p hp e1
        obtain ⟨e, he, hek, _⟩ := im_mem' h2 hp
        exact g2 e he (by rw [hek, e1])
  · have hj : es[j]? = some e := by simpa using g2
    have hkey2 : ∀ e', es[j]? = some e' → ({ e' with key := .int q k, val := v } : MapEntry).key = e'.key := fun e' he' => by rw [hj] at he'; cases he'; exact g3.symm
    refine ⟨.map (es.modify j fun e => { e with key := .int q k, val := v }) clock, fun W hW => ?_, fun W hW => ⟨_, _, hset W _ hW, MapKept.stamped_modify h1 _ _ (fun _ _ => rfl) (fun e' _ he' => hkey2 e' he'), ?_⟩⟩
    · simp [Instr.mapUpdate, run_underlying hm, MapKept.run_getObj_map (hW.trans h0), MapKept.run_checkKey hk hkey, MapKept.run_findKey hk g1, hj, g3, MapKept.run_keyThatStays hkey, MapKept.run_setObj_map _ (hW.trans h0), Result.andThen, setBlock]
    · have hLj : ∃ x, L[j]? = some (k, x) := by
        have := im_get h2 j
        rw [g2] at this
        cases hL : L[j]? with
        | none => rw [hL] at this; cases this
        | some p =>
          rw [hL] at this
          simp only [Option.map_some, imv, Option.some.injEq, Prod.mk.injEq] at this
          rw [g3] at this
          have hpk : p.1 = k := by have := this.1; injection this with _ h; exact h.symm
          exact ⟨p.2, by rw [← hpk]⟩
      obtain ⟨x, hx⟩ := hLj
      rw [iput_old hn hx]
      apply List.ext_getElem?
      intro i
      rw [List.getElem?_map, List.getElem?_map, Array.toList_modify, List.getElem?_modify, List.getElem?_set]
      by_cases hij : j = i
      · subst hij
        have hjl := (List.getElem?_eq_some_iff.1 hx).1
        simp [hj, hjl, imv]
      · simp only [hij, if_false]
        have := im_get h2 i
        simpa using this
end

theorem ImAt.len {P : Program} {w : World} {b : Nat} {q : IntKind} {L : List (Int × Value)} (h : ImAt w b q L) {t k e : TypeId} (ht : P.underlying t = some (.map k e)) (ty : TypeId) : (Builtin.len_ #[t] ty #[.map (some b)]).run P w = .ok (.int .i64 (L.length : Int)) w := by
  obtain ⟨es, clock, h0, h1, h2⟩ := h
  have e1 : es.size = L.length := by
    have := congrArg List.length h2
    simpa using this
  simp [Builtin.len_, run_underlying ht, MapKept.run_getObj_map h0, goInt, Result.andThen, e1]

theorem one_cell (w : World) (x : Value) (t : TypeId) : ∀ (j : Nat) (u : Value), [x][j]? = some u → (w.alloc (.cells #[x] t)).cell? ((⟨w.heap.size, 0, none⟩ : Addr).add j) = some u := by
  intro j u hj
  match j, hj with
  | 0, hj => simp at hj; subst hj; simp [Addr.add]

theorem kp_setBlk {w : World} {b : Nat} (o : Obj) : Kp (fun i => i = b) w (setBlock w b o) :=
  ⟨rfl, rfl, rfl, by simp [setBlock], fun k _ hk => by simp only [setBlock]; rw [Array.getElem?_setIfInBounds_ne (fun e => hk e.symm)]⟩
theorem setBlk_size (w : World) (b : Nat) (o : Obj) : (setBlock w b o).heap.size = w.heap.size := by simp [setBlock]
theorem setBlk_other {w : World} {b i : Nat} (o : Obj) (h : i ≠ b) : (setBlock w b o).heap[i]? = w.heap[i]? := by simp only [setBlock]; rw [Array.getElem?_setIfInBounds_ne (fun e => h e.symm)]
theorem setBlk_self {w : World} {b : Nat} (o : Obj) (h : b < w.heap.size) : (setBlock w b o).heap[b]? = some o := by simp [setBlock, h]

/-! ### Ranges -/

/-- An iterator at block r over the map at block b that holds L: the pairs that it has handed out, in their order. -/
def ItAt (w : World) (r b : Nat) (q : IntKind) (L done : List (Int × Value)) : Prop :=
  ∃ es clock since seen c0, w.heap[b]? = some (.map es clock) ∧ w.heap[r]? = some (.mapIter (some b) since seen c0) ∧ MapKept.Stamped es clock ∧ es.toList.map (fun e => (e.key, e.val)) = L.map (imv q) ∧
    (∀ x ∈ es.toList, x.born < since) ∧ since ≤ c0 ∧ c0 ≤ clock ∧ ∃ ds : List MapEntry, seen.toList = ds.map (·.born) ∧ (∀ d ∈ ds, d ∈ es.toList) ∧ (ds.map (·.born)).Nodup ∧ ds.map (fun e => (e.key, e.val)) = done.map (imv q)

theorem ItAt.im {w : World} {r b : Nat} {q : IntKind} {L done : List (Int × Value)} (h : ItAt w r b q L done) : ImAt w b q L := by
  obtain ⟨es, clock, since, seen, c0, h1, h2, h3, h4, _⟩ := h
  exact ⟨es, clock, h1, h3, h4⟩
theorem ItAt.upd {w w' : World} {r b : Nat} {q : IntKind} {L done : List (Int × Value)} (h : ItAt w r b q L done) (h1 : w'.heap[b]? = w.heap[b]?) (h2 : w'.heap[r]? = w.heap[r]?) : ItAt w' r b q L done := by
  obtain ⟨es, clock, since, seen, c0, g1, g2, g3⟩ := h
  exact ⟨es, clock, since, seen, c0, h1.trans g1, h2.trans g2, g3⟩
theorem ItAt.lt {w : World} {r b : Nat} {q : IntKind} {L done : List (Int × Value)} (h : ItAt w r b q L done) : r < w.heap.size := by
  obtain ⟨es, clock, since, seen, c0, g1, g2, g3⟩ := h
  exact (Array.getElem?_eq_some_iff.1 g2).1
theorem ItAt.kp {S : Nat → Prop} {w w' : World} {r b : Nat} {q : IntKind} {L done : List (Int × Value)} (h : ItAt w r b q L done) (k : Kp S w w') (h1 : ¬ S b) (h2 : ¬ S r) : ItAt w' r b q L done := h.upd (k.block b h.im.lt h1) (k.block r h.lt h2)
theorem ItAt.seen {w : World} {r b : Nat} {q : IntKind} {L done : List (Int × Value)} (h : ItAt w r b q L done) : (w.iterSeen r).size = done.length := by
  obtain ⟨es, clock, since, seen, c0, g1, g2, g3, g4, g5, g6, g7, ds, d1, d2, d3, d4⟩ := h
  have h1 := congrArg List.length d1
  have h2 := congrArg List.length d4
  simp only [List.length_map, Array.length_toList] at h1 h2
  simp only [World.iterSeen, g2]
  omega
theorem perm_of_same {α : Type} : ∀ {a b : List α}, a.Nodup → b.Nodup → (∀ x, x ∈ a ↔ x ∈ b) → a.Perm b
  | [], b, _, _, h => by
    cases b with
    | nil => exact .refl _
    | cons x b => exact absurd ((h x).2 (.head _)) (by simp)
  | x :: a, b, ha, hb, h => by
    have ha' := List.nodup_cons.1 ha
    obtain ⟨b1, b2, rfl⟩ := List.append_of_mem ((h x).1 (.head _))
    refine (List.Perm.cons x (perm_of_same ha'.2 (b := b1 ++ b2) ?_ ?_)).trans (List.perm_middle.symm)
    · exact (List.Sublist.append (List.Sublist.refl b1) (List.sublist_cons_self x b2)).nodup hb
    · have hx : x ∉ b1 ++ b2 := (List.nodup_cons.1 ((List.perm_middle (a := x)).nodup_iff.1 hb)).1
      intro y
      have hy := h y
      constructor
      · intro hm
        have hne : y ≠ x := fun e => ha'.1 (e ▸ hm)
        have := hy.1 (.tail _ hm)
        simp only [List.mem_append, List.mem_cons] at this ⊢
        rcases this with h1 | h1 | h1
        · exact .inl h1
        · exact absurd h1 hne
        · exact .inr h1
      · intro hm
        have hne : y ≠ x := fun e => hx (e ▸ hm)
        have h2 : y ∈ b1 ++ x :: b2 := by
          simp only [List.mem_append, List.mem_cons] at hm ⊢
          rcases hm with h1 | h1
          · exact .inl h1
          · exact .inr (.inr h1)
        rcases List.mem_cons.1 (hy.2 h2) with e | e
        · exact absurd e hne
        · exact e
theorem imv_inj (q : IntKind) {a b : Int × Value} (h : imv q a = imv q b) : a = b := by
  simp only [imv, Prod.mk.injEq, Value.int.injEq, true_and] at h
  exact Prod.ext h.1 h.2
theorem map_inj {α β : Type} {f : α → β} (hf : ∀ a b, f a = f b → a = b) : ∀ {a b : List α}, a.map f = b.map f → a = b
  | [], [], _ => rfl
  | [], _ :: _, h => by simp at h
  | _ :: _, [], h => by simp at h
  | x :: a, y :: b, h => by
    simp only [List.map_cons, List.cons.injEq] at h
    rw [hf _ _ h.1, map_inj hf h.2]
theorem perm_map_inj {α β : Type} {f : α → β} (hf : ∀ a b, f a = f b → a = b) {a b : List α} (h : (a.map f).Perm (b.map f)) : a.Perm b := by
  induction a generalizing b with
  | nil =>
    cases b with
    | nil => exact .refl _
    | cons y b => have := h.length_eq; simp at this
  | cons x a ih =>
    have hm : f x ∈ b.map f := h.subset (.head _)
    obtain ⟨y, hy, e⟩ := List.mem_map.1 hm
    have hyx := hf _ _ e
    subst hyx
    obtain ⟨b1, b2, rfl⟩ := List.append_of_mem hy
    have h2 : (y :: a).map f |>.Perm ((y :: (b1 ++ b2)).map f) := h.trans (List.Perm.map f List.perm_middle)
    simp only [List.map_cons] at h2
    exact (List.Perm.cons y (ih (List.Perm.cons_inv h2))).trans List.perm_middle.symm

section
variable {P : Program}
theorem ImAt.range {w : World} {b : Nat} {q : IntKind} {L : List (Int × Value)} (h : ImAt w b q L) {t k e : TypeId} (ht : P.underlying t = some (.map k e)) :
    ∃ o, (Instr.range t (.map (some b))).run P w = .ok (.pointer (some ⟨w.heap.size, 0, none⟩)) (w.alloc o) ∧ ItAt (w.alloc o) w.heap.size b q L [] := by
  have hlt := h.lt
  obtain ⟨es, clock, h0, h1, h2⟩ := h
  refine ⟨_, run_range_map w t k e b es clock ht h0, es, clock, clock, #[], clock, ?_, heap_alloc_new w _, h1, h2, h1.1, Nat.le_refl _, Nat.le_refl _, [], rfl, by simp, by simp, rfl⟩
  rw [heap_alloc_old w _ hlt]; exact h0

theorem ItAt.next {w : World} {r b : Nat} {q : IntKind} {L done : List (Int × Value)} (h : ItAt w r b q L done) (ty : TypeId) :
    (done.Perm L ∧ (Instr.next (.pointer (some ⟨r, 0, none⟩)) false ty).run P w = .ok (.tuple #[.bool false]) w) ∨
    ∃ p w', p ∈ L ∧ done.length < L.length ∧ (Instr.next (.pointer (some ⟨r, 0, none⟩)) false ty).run P w = .ok (.tuple #[.bool true, .int q p.1, p.2]) w' ∧ ItAt w' r b q L (done ++ [p]) ∧ Kp (fun i => i = r) w w' ∧ w'.heap.size = w.heap.size ∧
      (Instr.entry (.pointer (some ⟨r, 0, none⟩))).run P w' = .ok (.tuple #[.int q p.1, p.2]) w' := by
  obtain ⟨es, clock, since, seen, c0, g1, g2, g3, g4, g5, g6, g7, ds, d1, d2, d3, d4⟩ := h
  have hrlt := (Array.getElem?_eq_some_iff.1 g2).1
  have hrb : r ≠ b := by intro e; rw [e, g1] at g2; cases g2
  have hnes : es.toList.Nodup := by
    have h : (es.toList.map (·.born)).Pairwise (· ≠ ·) := g3.2.1
    exact (List.pairwise_map.1 h).imp (fun h e => h (by rw [e]))
  have hnds : ds.Nodup := by
    have h : (ds.map (·.born)).Pairwise (· ≠ ·) := d3
    exact (List.pairwise_map.1 h).imp (fun h e => h (by rw [e]))
  have hbi : ∀ x ∈ es.toList, ∀ y ∈ es.toList, x.born = y.born → x = y := by
    intro x hx y hy e
    have h1 := find_born x es.toList g3.2.1 hx
    have h2 := find_born y es.toList g3.2.1 hy
    rw [e, h2] at h1
    injection h1 with h; exact h.symm
  have hmem : ∀ x, x ∈ (leftOf es seen).toList ↔ x ∈ es.toList ∧ x ∉ ds := by
    intro x
    have hc : (!seen.contains x.born) = true ↔ x.born ∉ ds.map (·.born) := by
      rw [← d1, Bool.not_eq_true', ← Bool.not_eq_true, Array.contains_iff_mem, Array.mem_toList_iff]
    simp only [leftOf, Array.toList_filter, List.mem_filter, hc]
    constructor
    · rintro ⟨hx, hs⟩
      exact ⟨hx, fun hd => hs (List.mem_map.2 ⟨x, hd, rfl⟩)⟩
    · rintro ⟨hx, hs⟩
      refine ⟨hx, fun hd => ?_⟩
      obtain ⟨y, hy, e⟩ := List.mem_map.1 hd
      rw [hbi x hx y (d2 y hy) e.symm] at hs
      exact hs hy
  rcases run_next_at (P := P) w ty r b since c0 seen es clock g2 g1 g5 g6 with ⟨h0, hrun⟩ | ⟨e, he, w1, hw1, hrun⟩
  · refine .inl ⟨?_, hrun⟩
    have hnil : (leftOf es seen).toList = [] := List.length_eq_zero_iff.1 (by simpa using h0)
    have hp : ds.Perm es.toList := perm_of_same hnds hnes fun x => ⟨fun h => d2 x h, fun h => by
      by_cases hx : x ∈ ds
      · exact hx
      · have := (hmem x).2 ⟨h, hx⟩
        rw [hnil] at this; cases this⟩
    have hp2 := hp.map (fun e => (e.key, e.val))
    rw [d4, g4] at hp2
    exact perm_map_inj (fun a b => imv_inj q) hp2
  · obtain ⟨hee, hed⟩ := (hmem e).1 he
    obtain ⟨p, hp, hpk, hpv⟩ := im_mem g4 hee
    rw [hpk, hpv] at hrun
    have hw1h : w1.heap = w.heap := by rcases hw1 with rfl | rfl <;> rfl
    have hb' : (setBlock w1 r (.mapIter (some b) since (seen.push e.born) clock)).heap[b]? = some (.map es clock) := by rw [setBlk_other _ (fun e => hrb e.symm), hw1h]; exact g1
    have hr' : (setBlock w1 r (.mapIter (some b) since (seen.push e.born) clock)).heap[r]? = some (.mapIter (some b) since (seen.push e.born) clock) := setBlk_self _ (by rw [hw1h]; exact hrlt)
    have hnd' : (ds ++ [e]).map (·.born) |>.Nodup := by
      simp only [List.map_append, List.map_cons, List.map_nil]
      refine List.nodup_append.2 ⟨d3, by simp, fun a ha c hc e1 => ?_⟩
      simp only [List.mem_singleton] at hc
      obtain ⟨y, hy, rfl⟩ := List.mem_map.1 ha
      rw [hc] at e1
      rw [hbi y (d2 y hy) e hee e1] at hy
      exact hed hy
    have hlen : done.length < L.length := by
      have h1 := congrArg List.length d4
      have h2 := congrArg List.length g4
      simp only [List.length_map] at h1 h2
      have hnn : (ds ++ [e]).Nodup := by
        have h : ((ds ++ [e]).map (·.born)).Pairwise (· ≠ ·) := hnd'
        exact (List.pairwise_map.1 h).imp (fun h e => h (by rw [e]))
      have h3 := hnn.length_le_of_subset (l₂ := es.toList) (by
        intro x hx
        simp only [List.mem_append, List.mem_singleton] at hx
        rcases hx with hx | rfl
        · exact d2 x hx
        · exact hee)
      simp only [List.length_append, List.length_cons, List.length_nil] at h3
      omega
    refine .inr ⟨p, _, hp, hlen, hrun, ⟨es, clock, since, _, clock, hb', hr', g3, g4, g5, by omega, Nat.le_refl _, ds ++ [e], by simp [d1], ?_, hnd', ?_⟩, ?_, by rw [setBlk_size, hw1h], ?_⟩
    · intro d hd
      simp only [List.mem_append, List.mem_singleton] at hd
      rcases hd with hd | rfl
      · exact d2 d hd
      · exact hee
    · simp only [List.map_append, d4, List.map_cons, List.map_nil, imv, hpk, hpv]
    · have hk := kp_setBlk (w := w1) (b := r) (.mapIter (some b) since (seen.push e.born) clock)
      refine ⟨?_, ?_, ?_, by rw [setBlk_size, hw1h]; exact Nat.le_refl _, fun k h1 h2 => ?_⟩
      · rcases hw1 with rfl | rfl <;> rfl
      · rcases hw1 with rfl | rfl <;> rfl
      · rcases hw1 with rfl | rfl <;> rfl
      · rw [setBlk_other _ h2, hw1h]
    · rw [run_entry_at _ r b since seen es clock e hr' hb' hee g3.2.1, hpk, hpv]

variable {ops : Array Oper} {rest : List Oper} {o : Oper} {a : Act} {Q : Exit → Act → World → Prop} {w : World}
/-- 'range m'. -/
theorem step_range_im (hg : o.guard = none) (m : Operand) (t : TypeId) (hop : o.op = Op.range t m) {k e : TypeId} (ht : P.underlying t = some (.map k e)) {b : Nat} {q : IntKind} {L : List (Int × Value)} (hm : a.eval m = .map (some b)) (h : ImAt w b q L)
    (hK : ∀ w', ItAt w' w.heap.size b q L [] → Below w.heap.size w w' → w'.heap.size = w.heap.size + 1 → wpList P ops Q rest (a.put o.dst (.pointer (some ⟨w.heap.size, 0, none⟩))) w') :
    wpList P ops Q (o :: rest) a w := by
  obtain ⟨o', hrun, hI⟩ := h.range (P := P) ht
  exact event_run hg (by simp [execOp, hop, hm, hrun, Result.andThen]) (hK _ hI (below_boxed w _) (by simp))
/-- 'm[k] = v'. -/
theorem step_put_im (hg : o.guard = none) (m x v : Operand) (t : TypeId) (hop : o.op = Op.mapUpdate t m x v) {kt e : TypeId} {q : IntKind} (ht : P.underlying t = some (.map kt e)) (hkt : P.underlying kt = some (.int q)) {b : Nat} {L : List (Int × Value)} (hm : a.eval m = .map (some b))
    (h : ImAt w b q L) {k : Int} {val : Value} (hx : a.eval x = .int q k) (hv : a.eval v = val)
    (hK : ∀ w', ImAt w' b q (iput L k val) → Kp (fun i => i = b) w w' → w'.heap.size = w.heap.size → wpList P ops Q rest (a.put o.dst undef) w') :
    wpList P ops Q (o :: rest) a w := by
  obtain ⟨o', h1, h2⟩ := h.put (P := P) ht hkt k val
  refine wpList_plain hg fun K' hK' => ?_
  unfold Oper.wp
  simp [execOp, hop, hm, hx, hv, h1 w rfl, Result.andThen]
  exact hK' _ _ (hK _ (h2 w rfl) (kp_setBlk o') (setBlk_size w b o'))
/-- A range's step. -/
theorem step_next_im (hg : o.guard = none) (it : Operand) (hop : o.op = Op.next it false) {r b : Nat} {q : IntKind} {L done : List (Int × Value)} (hit : a.eval it = .pointer (some ⟨r, 0, none⟩)) (h : ItAt w r b q L done)
    (hDone : done.Perm L → wpList P ops Q rest (a.put o.dst (.tuple #[.bool false])) w)
    (hMore : ∀ p w', p ∈ L → done.length < L.length → ItAt w' r b q L (done ++ [p]) → Kp (fun i => i = r) w w' → w'.heap.size = w.heap.size → (Instr.entry (.pointer (some ⟨r, 0, none⟩))).run P w' = .ok (.tuple #[.int q p.1, p.2]) w' →
      wpList P ops Q rest (a.put o.dst (.tuple #[.bool true, .int q p.1, p.2])) w') :
    wpList P ops Q (o :: rest) a w := by
  rcases h.next (P := P) o.type with ⟨h1, hrun⟩ | ⟨p, w', h1, h2, hrun, h3, h4, h5, h6⟩
  · exact event_run hg (by simp [execOp, hop, hit, hrun, Result.andThen]) (hDone h1)
  · exact event_run hg (by simp [execOp, hop, hit, hrun, Result.andThen]) (hMore p w' h1 h2 h3 h4 h5 h6)
end
end Go.Proofs.YtfjclhfhbclbhaaGreatDoor
