import Derived.Test.YtgdgmegpacmgnaaGreatDoorG00
import Derived.MapKept
import Derived.ChangeMaps
import Derived.Maps.RangeWalk
import Derived.Test.YtgdgmegpacmgnaaGreatDoorG03
import Derived.LoopTactic
/- Maps keyed by integers: their entries as a list; lookups, stores, ranges. -/
namespace Go.Proofs.YtgdgmegpacmgnaaGreatDoor
open Go.RowKit
open Go.ChangeMaps (setBlock)
set_option linter.unusedVariables false
set_option linter.unusedSimpArgs false

/-- A goal that the walk does not take on: so that it stands still there. -/
def Later (p : Prop) : Prop := p
theorem later {p : Prop} (h : Later p) : p := h
theorem now {p : Prop} (h : p) : Later p := h

/-- An entry as it lies in a map keyed by integers of kind q. -/
def imv (q : IntKind) (p : Int × Value) : Value × Value := (.int q p.1, p.2)
/-- A map keyed by integers, at block b: its pairs, in the order in which they were laid. -/
def ImAt (w : World) (b : Nat) (q : IntKind) (L : List (Int × Value)) : Prop :=
  ∃ es clock, w.heap[b]? = some (.map es clock) ∧ MapKept.Stamped es clock ∧ es.toList.map (fun e => (e.key, e.val)) = L.map (imv q)

def ilook (L : List (Int × Value)) (k : Int) : Option Value := (L.find? (fun p => decide (p.1 = k))).map (·.2)
/-- The pairs behind a store. -/
def iput : List (Int × Value) → Int → Value → List (Int × Value)
  | [], k, v => [(k, v)]
  | p :: L, k, v => if p.1 = k then (k, v) :: L else p :: iput L k v

theorem ImAt.upd {w w' : World} {b : Nat} {q : IntKind} {L : List (Int × Value)} (h : ImAt w b q L) (k : w'.heap[b]? = w.heap[b]?) : ImAt w' b q L := by
  obtain ⟨es, clock, h0, h1⟩ := h
  exact ⟨es, clock, k.trans h0, h1⟩
theorem ImAt.lt {w : World} {b : Nat} {q : IntKind} {L : List (Int × Value)} (h : ImAt w b q L) : b < w.heap.size := by
  obtain ⟨es, clock, h0, h1⟩ := h
  exact (Array.getElem?_eq_some_iff.1 h0).1
theorem ImAt.kp {S : Nat → Prop} {w w' : World} {b : Nat} {q : IntKind} {L : List (Int × Value)} (h : ImAt w b q L) (k : Kp S w w') (hs : ¬ S b) : ImAt w' b q L := h.upd (k.block b h.lt hs)
theorem ImAt.made (w : World) (q : IntKind) : ImAt (w.alloc (.map #[] 0)) w.heap.size q [] := ⟨#[], 0, heap_alloc_new w _, MapKept.stamped_empty 0, rfl⟩

theorem im_keys {q : IntKind} {es : List MapEntry} {L : List (Int × Value)} (h : es.map (fun e => (e.key, e.val)) = L.map (imv q)) : ∀ x ∈ es, MapKept.IsKey (.int q) x.key := by
  intro x hx
  have : (x.key, x.val) ∈ L.map (imv q) := by rw [← h]; exact List.mem_map.2 ⟨x, hx, rfl⟩
  obtain ⟨p, _, hp⟩ := List.mem_map.1 this
  simp only [imv, Prod.mk.injEq] at hp
  rw [← hp.1]; rfl
theorem im_get {q : IntKind} {es : List MapEntry} {L : List (Int × Value)} (h : es.map (fun e => (e.key, e.val)) = L.map (imv q)) (j : Nat) : (es[j]?).map (fun e => (e.key, e.val)) = (L[j]?).map (imv q) := by
  rw [← List.getElem?_map, ← List.getElem?_map, h]
theorem im_mem {q : IntKind} {es : List MapEntry} {L : List (Int × Value)} (h : es.map (fun e => (e.key, e.val)) = L.map (imv q)) {e : MapEntry} (he : e ∈ es) : ∃ p ∈ L, e.key = .int q p.1 ∧ e.val = p.2 := by
  have : (e.key, e.val) ∈ L.map (imv q) := by rw [← h]; exact List.mem_map.2 ⟨e, he, rfl⟩
  obtain ⟨p, hp, hq⟩ := List.mem_map.1 this
  simp only [imv, Prod.mk.injEq] at hq
  exact ⟨p, hp, hq.1.symm, hq.2.symm⟩
theorem im_mem' {q : IntKind} {es : List MapEntry} {L : List (Int × Value)} (h : es.map (fun e => (e.key, e.val)) = L.map (imv q)) {p : Int × Value} (hp : p ∈ L) : ∃ e ∈ es, e.key = .int q p.1 ∧ e.val = p.2 := by
  have : imv q p ∈ es.map (fun e => (e.key, e.val)) := by rw [h]; exact List.mem_map.2 ⟨p, hp, rfl⟩
  obtain ⟨e, he, hq⟩ := List.mem_map.1 this
  simp only [imv, Prod.mk.injEq] at hq
  exact ⟨e, he, hq.1, hq.2⟩

theorem ImAt.nodup {w : World} {b : Nat} {q : IntKind} {L : List (Int × Value)} (h : ImAt w b q L) : (L.map (·.1)).Nodup := by
  obtain ⟨es, clock, h0, ⟨_, _, h1⟩, h2⟩ := h
  have e1 : es.toList.map (·.key) = (L.map (·.1)).map (Value.int q) := by
    have := congrArg (List.map Prod.fst) h2
    simpa [imv, Function.comp_def] using this
  rw [e1] at h1
  refine List.Pairwise.imp ?_ (List.pairwise_map.1 h1)
  intro a b h e
  exact h (by rw [e])

theorem ilook_none {L : List (Int × Value)} {k : Int} : ilook L k = none ↔ ∀ p ∈ L, p.1 ≠ k := by
  simp [ilook]
theorem ilook_some {L : List (Int × Value)} {k : Int} {v : Value} (h : ilook L k = some v) : (k, v) ∈ L := by
  unfold ilook at h
  obtain ⟨p, hp, rfl⟩ := Option.map_eq_some_iff.1 h
  have h1 := List.mem_of_find?_eq_some hp
  have h2 := List.find?_some hp
  simp only [decide_eq_true_eq] at h2
  rw [← h2]; exact h1
theorem ilook_of_mem {L : List (Int × Value)} (hn : (L.map (·.1)).Nodup) {k : Int} {v : Value} (h : (k, v) ∈ L) : ilook L k = some v := by
  induction L with
  | nil => cases h
  | cons p L ih =>
    have hn' := List.nodup_cons.1 hn
    by_cases hp : p.1 = k
    · rcases List.mem_cons.1 h with e | e
      · subst e; simp [ilook]
      · exact absurd (List.mem_map.2 ⟨_, e, hp.symm⟩) hn'.1
    · rcases List.mem_cons.1 h with e | e
      · subst e; exact absurd rfl hp
      · have := ih hn'.2 e
        simpa [ilook, List.find?_cons, hp] using this
theorem iput_fst {L : List (Int × Value)} {k : Int} {v : Value} : (iput L k v).map (·.1) = if k ∈ L.map (·.1) then L.map (·.1) else L.map (·.1) ++ [k] := by
  induction L with
  | nil => simp [iput]
  | cons p L ih =>
    by_cases hp : p.1 = k
    · simp [iput, hp]
    · have hp' : ¬ k = p.1 := fun e => hp e.symm
      rw [show iput (p :: L) k v = p :: iput L k v by simp [iput, hp], List.map_cons, ih]
      by_cases hm : k ∈ L.map (·.1)
      · rw [if_pos hm, if_pos (by simp only [List.map_cons, List.mem_cons]; exact .inr hm), List.map_cons]
      · rw [if_neg hm, if_neg (by simp only [List.map_cons, List.mem_cons, not_or]; exact ⟨hp', hm⟩)]
        rfl
theorem iput_new {L : List (Int × Value)} {k : Int} {v : Value} (h : ∀ p ∈ L, p.1 ≠ k) : iput L k v = L ++ [(k, v)] := by
  induction L with
  | nil => rfl
  | cons p L ih => simp [iput, h p (.head _), ih (fun x hx => h x (.tail _ hx))]
theorem iput_old {L : List (Int × Value)} {k : Int} {v : Value} (hn : (L.map (·.1)).Nodup) {j : Nat} {x : Value} (h : L[j]? = some (k, x)) : iput L k v = L.set j (k, v) := by
  induction L generalizing j with
  | nil => simp at h
  | cons p L ih =>
    have hn' := List.nodup_cons.1 hn
    cases j with
    | zero => simp only [List.getElem?_cons_zero, Option.some.injEq] at h; subst h; simp [iput]
    | succ j =>
      simp only [List.getElem?_cons_succ] at h
      have hp : p.1 ≠ k := by
        intro e
        exact hn'.1 (List.mem_map.2 ⟨_, List.mem_of_getElem? h, e.symm⟩)
      simp only [iput, hp, if_false, List.set_cons_succ]
      rw [ih hn'.2 h]

section
variable {P : Program} {t kt et : TypeId} {q : IntKind} (hm : P.underlying t = some (.map kt et)) (hk : P.underlying kt = some (.int q))
include hm hk

theorem ImAt.look {w : World} {b : Nat} {L : List (Int × Value)} (h : ImAt w b q L) {k : Int} {v : Value} (hv : ilook L k = some v) (ok : Bool) :
    (Instr.lookup t (.map (some b)) (.int q k) ok).run P w = .ok (if ok then .tuple #[v, .bool true] else v) w := by
  have hn := h.nodup
  obtain ⟨es, clock, h0, h1, h2⟩ := h
  have hkey : MapKept.IsKey (.int q) (.int q k) := rfl
  rcases MapKept.findNow_spec hkey es.toList 0 (im_keys h2) with ⟨g1, g2⟩ | ⟨j, e, g1, g2, g3⟩
  · obtain ⟨e, he, hek, _⟩ := im_mem' h2 (ilook_some hv)
    exact absurd hek (g2 e he)
  · have hev : e.val = v := by
      obtain ⟨p, hp, hpk, hpv⟩ := im_mem h2 (List.mem_of_getElem? g2)
      have : p.1 = k := by rw [g3] at hpk; injection hpk with _ h; exact h.symm
      have := ilook_of_mem hn (show (k, p.2) ∈ L by rw [← this]; exact hp)
      rw [hv] at this
      rw [hpv]; injection this with h; exact h.symm
    cases ok <;> simp [Instr.lookup, run_underlying hm, MapKept.run_getObj_map h0, MapKept.run_checkKey hk hkey, MapKept.run_findKey hk g1, hev, Result.andThen]

theorem ImAt.look_no {w : World} {b : Nat} {L : List (Int × Value)} (h : ImAt w b q L) {k : Int} (hv : ilook L k = none) (ok : Bool) (z : Value) (hz : ∀ W, (zeroValue et).run P W = .ok z W) :
    (Instr.lookup t (.map (some b)) (.int q k) ok).run P w = .ok (if ok then .tuple #[z, .bool false] else z) w := by
  obtain ⟨es, clock, h0, h1, h2⟩ := h
  have hkey : MapKept.IsKey (.int q) (.int q k) := rfl
  rcases MapKept.findNow_spec hkey es.toList 0 (im_keys h2) with ⟨g1, g2⟩ | ⟨j, e, g1, g2, g3⟩
  · cases ok <;> simp [Instr.lookup, run_underlying hm, MapKept.run_getObj_map h0, MapKept.run_checkKey hk hkey, MapKept.run_findKey hk g1, hz, Result.andThen]
  · obtain ⟨p, hp, hpk, hpv⟩ := im_mem h2 (List.mem_of_getElem? g2)
    have : p.1 = k := by rw [g3] at hpk; injection hpk with _ h; exact h.symm
    exact absurd this (ilook_none.1 hv p hp)

/-- A store: an object behind it, whatever world has this heap. -/
theorem ImAt.put {w : World} {b : Nat} {L : List (Int × Value)} (h : ImAt w b q L) (k : Int) (v : Value) :
    ∃ o, (∀ W : World, W.heap[b]? = w.heap[b]? → (Instr.mapUpdate t (.map (some b)) (.int q k) v).run P W = .ok () (setBlock W b o)) ∧ ∀ W : World, W.heap[b]? = w.heap[b]? → ImAt (setBlock W b o) b q (iput L k v) := by
  have hn := h.nodup
  obtain ⟨es, clock, h0, h1, h2⟩ := h
  have hkey : MapKept.IsKey (.int q) (.int q k) := rfl
  have hset : ∀ (W : World) (o : Obj), W.heap[b]? = w.heap[b]? → (setBlock W b o).heap[b]? = some o := by
    intro W o hW
    have hlt := (Array.getElem?_eq_some_iff.1 (hW.trans h0)).1
    simp [setBlock, hlt]
  rcases MapKept.findNow_spec hkey es.toList 0 (im_keys h2) with ⟨g1, g2⟩ | ⟨j, e, g1, g2, g3⟩
  · refine ⟨.map (es.push ⟨.int q k, v, clock⟩) (clock + 1), fun W hW => ?_, fun W hW => ⟨_, _, hset W _ hW, MapKept.stamped_push h1 g2, ?_⟩⟩
    · simp [Instr.mapUpdate, run_underlying hm, MapKept.run_getObj_map (hW.trans h0), MapKept.run_checkKey hk hkey, MapKept.run_findKey hk g1, MapKept.run_setObj_map _ (hW.trans h0), Result.andThen, setBlock]
    · rw [iput_new]
      · simp [h2, imv]
      · intro p hp e1
        obtain ⟨e, he, hek, _⟩ := im_mem' h2 hp
        exact g2 e he (by rw [hek, e1])
  · have hj : es[j]? = some e := by simpa using g2
    have hkey2 : ∀ e', es[j]? = some e' → ({ e' with key := .int q k, val := v } : MapEntry).key = e'.key := fun e' he' => by rw [hj] at he'; cases he'; exact g3.symm
    refine ⟨.map (es.modify j fun e => { e with key := .int q k, val := v }) clock, fun W hW => ?_, fun W hW => ⟨_, _, hset W _ hW, MapKept.stamped_modify h1 _ _ (fun _ _ => rfl) (fun e' _ he' => hkey2 e' he'), ?_⟩⟩
    · simp [Instr.mapUpdate, run_underlying hm, MapKept.run_getObj_map (hW.trans h0), MapKept.run_checkKey hk hkey, MapKept.run_findKey hk g1, hj, g3, MapKept.run_keyThatStays hkey, MapKept.run_setObj_map _ (hW.trans h0), Result.andThen, setBlock]
    · have hLj : ∃ x, L[j]? = some (k, x) := by
        have := im_get h2 j
        rw [g2] at this
        cases hL : L[j]? with
        | none => rw [hL] at this; cases this
        | some p =>
          rw [hL] at this
          simp only [Option.map_some, imv, Option.some.injEq, Prod.mk.injEq] at this
          rw [g3] at this
          have hpk : p.1 = k := by have := this.1; injection this with _ h; exact h.symm
          exact ⟨p.2, by rw [← hpk]⟩
      obtain ⟨x, hx⟩ := hLj
      rw [iput_old hn hx]
      apply List.ext_getElem?
      intro i
      rw [List.getElem?_map, List.getElem?_map, Array.toList_modify, List.getElem?_modify, List.getElem?_set]
      by_cases hij : j = i
      · subst hij
        have hjl := (List.getElem?_eq_some_iff.1 hx).1
        simp [hj, hjl, imv]
      · simp only [hij, if_false]
        have := im_get h2 i
        simpa using this
end

theorem ImAt.len {P : Program} {w : World} {b : Nat} {q : IntKind} {L : List (Int × Value)} (h : ImAt w b q L) {t k e : TypeId} (ht : P.underlying t = some (.map k e)) (ty : TypeId) : (Builtin.len_ #[t] ty #[.map (some b)]).run P w = .ok (.int .i64 (L.length : Int)) w := by
  obtain ⟨es, clock, h0, h1, h2⟩ := h
  have e1 : es.size = L.length := by
    have := congrArg List.length h2
    simpa using this
  simp [Builtin.len_, run_underlying ht, MapKept.run_getObj_map h0, goInt, Result.andThen, e1]

theorem one_cell (w : World) (x : Value) (t : TypeId) : ∀ (j : Nat) (u : Value), [x][j]? = some u → (w.alloc (.cells #[x] t)).cell? ((⟨w.heap.size, 0, none⟩ : Addr).add j) = some u := by
  intro j u hj
  match j, hj with
  | 0, hj => simp at hj; subst hj; simp [Addr.add]

theorem kp_setBlk {w : World} {b : Nat} (o : Obj) : Kp (fun i => i = b) w (setBlock w b o) :=
  ⟨rfl, rfl, rfl, by simp [setBlock], fun k _ hk => by simp only [setBlock]; rw [Array.getElem?_setIfInBounds_ne (fun e => hk e.symm)]⟩
theorem setBlk_size (w : World) (b : Nat) (o : Obj) : (setBlock w b o).heap.size = w.heap.size := by simp [setBlock]
theorem setBlk_other {w : World} {b i : Nat} (o : Obj) (h : i ≠ b) : (setBlock w b o).heap[i]? = w.heap[i]? := by simp only [setBlock]; rw [Array.getElem?_setIfInBounds_ne (fun e => h e.symm)]
theorem setBlk_self {w : World} {b : Nat} (o : Obj) (h : b < w.heap.size) : (setBlock w b o).heap[b]? = some o := by simp [setBlock, h]

/-! ### Ranges -/

/-- An iterator at block r over the map at block b that holds L: the pairs that it has handed out, in their order. -/
def ItAt (w : World) (r b : Nat) (q : IntKind) (L done : List (Int × Value)) : Prop :=
  ∃ es clock since seen c0, w.heap[b]? = some (.map es clock) ∧ w.heap[r]? = some (.mapIter (some b) since seen c0) ∧ MapKept.Stamped es clock ∧ es.toList.map (fun e => (e.key, e.val)) = L.map (imv q) ∧
    (∀ x ∈ es.toList, x.born < since) ∧ since ≤ c0 ∧ c0 ≤ clock ∧ ∃ ds : List MapEntry, seen.toList = ds.map (·.born) ∧ (∀ d ∈ ds, d ∈ es.toList) ∧ (ds.map (·.born)).Nodup ∧ ds.map (fun e => (e.key, e.val)) = done.map (imv q)

theorem ItAt.im {w : World} {r b : Nat} {q : IntKind} {L done : List (Int × Value)} (h : ItAt w r b q L done) : ImAt w b q L := by
  obtain ⟨es, clock, since, seen, c0, h1, h2, h3, h4, _⟩ := h
  exact ⟨es, clock, h1, h3, h4⟩
theorem ItAt.upd {w w' : World} {r b : Nat} {q : IntKind} {L done : List (Int × Value)} (h : ItAt w r b q L done) (h1 : w'.heap[b]? = w.heap[b]?) (h2 : w'.heap[r]? = w.heap[r]?) : ItAt w' r b q L done := by
  obtain ⟨es, clock, since, seen, c0, g1, g2, g3⟩ := h
  exact ⟨es, clock, since, seen, c0, h1.trans g1, h2.trans g2, g3⟩
theorem ItAt.lt {w : World} {r b : Nat} {q : IntKind} {L done : List (Int × Value)} (h : ItAt w r b q L done) : r < w.heap.size := by
  obtain ⟨es, clock, since, seen, c0, g1, g2, g3⟩ := h
  exact (Array.getElem?_eq_some_iff.1 g2).1
theorem ItAt.kp {S : Nat → Prop} {w w' : World} {r b : Nat} {q : IntKind} {L done : List (Int × Value)} (h : ItAt w r b q L done) (k : Kp S w w') (h1 : ¬ S b) (h2 : ¬ S r) : ItAt w' r b q L done := h.upd (k.block b h.im.lt h1) (k.block r h.lt h2)
theorem ItAt.seen {w : World} {r b : Nat} {q : IntKind} {L done : List (Int × Value)} (h : ItAt w r b q L done) : (w.iterSeen r).size = done.length := by
  obtain ⟨es, clock, since, seen, c0, g1, g2, g3, g4, g5, g6, g7, ds, d1, d2, d3, d4⟩ := h
  have h1 := congrArg List.length d1
  have h2 := congrArg List.length d4
  simp only [List.length_map, Array.length_toList] at h1 h2
  simp only [World.iterSeen, g2]
  omega
theorem perm_of_same {α : Type} : ∀ {a b : List α}, a.Nodup → b.Nodup → (∀ x, x ∈ a ↔ x ∈ b) → a.Perm b
  | [], b, _, _, h => by
    cases b with
    | nil => exact .refl _
    | cons x b => exact absurd ((h x).2 (.head _)) (by simp)
  | x :: a, b, ha, hb, h => by
    have ha' := List.nodup_cons.1 ha
    obtain ⟨b1, b2, rfl⟩ := List.append_of_mem ((h x).1 (.head _))
    refine (List.Perm.cons x (perm_of_same ha'.2 (b := b1 ++ b2) ?_ ?_)).trans (List.perm_middle.symm)
    · exact (List.Sublist.append (List.Sublist.refl b1) (List.sublist_cons_self x b2)).nodup hb
    · have hx : x ∉ b1 ++ b2 := (List.nodup_cons.1 ((List.perm_middle (a := x)).nodup_iff.1 hb)).1
      intro y
      have hy := h y
      constructor
      · intro hm
        have hne : y ≠ x := fun e => ha'.1 (e ▸ hm)
        have := hy.1 (.tail _ hm)
        simp only [List.mem_append, List.mem_cons] at this ⊢
        rcases this with h1 | h1 | h1
        · exact .inl h1
        · exact absurd h1 hne
        · exact .inr h1
      · intro hm
        have hne : y ≠ x := fun e => hx (e ▸ hm)
        have h2 : y ∈ b1 ++ x :: b2 := by
          simp only [List.mem_append, List.mem_cons] at hm ⊢
          rcases hm with h1 | h1
          · exact .inl h1
          · exact .inr (.inr h1)
        rcases List.mem_cons.1 (hy.2 h2) with e | e
        · exact absurd e hne
        · exact e
theorem imv_inj (q : IntKind) {a b : Int × Value} (h : imv q a = imv q b) : a = b := by
  simp only [imv, Prod.mk.injEq, Value.int.injEq, true_and] at h
  exact Prod.ext h.1 h.2
theorem map_inj {α β : Type} {f : α → β} (hf : ∀ a b, f a = f b → a = b) : ∀ {a b : List α}, a.map f = b.map f → a = b
  | [], [], _ => rfl
  | [], _ :: _, h => by simp at h
  | _ :: _, [], h => by simp at h
  | x :: a, y :: b, h => by
    simp only [List.map_cons, List.cons.injEq] at h
    rw [hf _ _ h.1, map_inj hf h.2]
theorem perm_map_inj {α β : Type} {f : α → β} (hf : ∀ a b, f a = f b → a = b) {a b : List α} (h : (a.map f).Perm (b.map f)) : a.Perm b := by
  induction a generalizing b with
  | nil =>
    cases b with
    | nil => exact .refl _
    | cons y b => have := h.length_eq; simp at this
  | cons x a ih =>
    have hm : f x ∈ b.map f := h.subset (.head _)
    obtain ⟨y, hy, e⟩ := List.mem_map.1 hm
    have hyx := hf _ _ e
    subst hyx
    obtain ⟨b1, b2, rfl⟩ := List.append_of_mem hy
    have h2 : (y :: a).map f |>.Perm ((y :: (b1 ++ b2)).map f) := h.trans (List.Perm.map f List.perm_middle)
    simp only [List.map_cons] at h2
    exact (List.Perm.cons y (ih (List.Perm.cons_inv h2))).trans List.perm_middle.symm

section
variable {P : Program}
theorem ImAt.range {w : World} {b : Nat} {q : IntKind} {L : List (Int × Value)} (h : ImAt w b q L) {t k e : TypeId} (ht : P.underlying t = some (.map k e)) :
    ∃ o, (Instr.range t (.map (some b))).run P w = .ok (.pointer (some ⟨w.heap.size, 0, none⟩)) (w.alloc o) ∧ ItAt (w.alloc o) w.heap.size b q L [] := by
  have hlt := h.lt
  obtain ⟨es, clock, h0, h1, h2⟩ := h
  refine ⟨_, run_range_map w t k e b es clock ht h0, es, clock, clock, #[], clock, ?_, heap_alloc_new w _, h1, h2, h1.1, Nat.le_refl _, Nat.le_refl _, [], rfl, by simp, by simp, rfl⟩
  rw [heap_alloc_old w _ hlt]; exact h0

theorem ItAt.next {w : World} {r b : Nat} {q : IntKind} {L done : List (Int × Value)} (h : ItAt w r b q L done) (ty : TypeId) :
    (done.Perm L ∧ (Instr.next (.pointer (some ⟨r, 0, none⟩)) false ty).run P w = .ok (.tuple #[.bool false]) w) ∨
    ∃ p w', p ∈ L ∧ done.length < L.length ∧ (Instr.next (.pointer (some ⟨r, 0, none⟩)) false ty).run P w = .ok (.tuple #[.bool true, .int q p.1, p.2]) w' ∧ ItAt w' r b q L (done ++ [p]) ∧ Kp (fun i => i = r) w w' ∧ w'.heap.size = w.heap.size ∧
      (Instr.entry (.pointer (some ⟨r, 0, none⟩))).run P w' = .ok (.tuple #[.int q p.1, p.2]) w' := by
  obtain ⟨es, clock, since, seen, c0, g1, g2, g3, g4, g5, g6, g7, ds, d1, d2, d3, d4⟩ := h
  have hrlt := (Array.getElem?_eq_some_iff.1 g2).1
  have hrb : r ≠ b := by intro e; rw [e, g1] at g2; cases g2
  have hnes : es.toList.Nodup := by
    have h : (es.toList.map (·.born)).Pairwise (· ≠ ·) := g3.2.1
    exact (List.pairwise_map.1 h).imp (fun h e => h (by rw [e]))
  have hnds : ds.Nodup := by
    have h : (ds.map (·.born)).Pairwise (· ≠ ·) := d3
    exact (List.pairwise_map.1 h).imp (fun h e => h (by rw [e]))
  have hbi : ∀ x ∈ es.toList, ∀ y ∈ es.toList, x.born = y.born → x = y := by
    intro x hx y hy e
    have h1 := find_born x es.toList g3.2.1 hx
    have h2 := find_born y es.toList g3.2.1 hy
    rw [e, h2] at h1
    injection h1 with h; exact h.symm
  have hmem : ∀ x, x ∈ (leftOf es seen).toList ↔ x ∈ es.toList ∧ x ∉ ds := by
    intro x
    have hc : (!seen.contains x.born) = true ↔ x.born ∉ ds.map (·.born) := by
      rw [← d1, Bool.not_eq_true', ← Bool.not_eq_true, Array.contains_iff_mem, Array.mem_toList_iff]
    simp only [leftOf, Array.toList_filter, List.mem_filter, hc]
    constructor
    · rintro ⟨hx, hs⟩
      exact ⟨hx, fun hd => hs (List.mem_map.2 ⟨x, hd, rfl⟩)⟩
    · rintro ⟨hx, hs⟩
      refine ⟨hx, fun hd => ?_⟩
      obtain ⟨y, hy, e⟩ := List.mem_map.1 hd
      rw [hbi x hx y (d2 y hy) e.symm] at hs
      exact hs hy
  rcases run_next_at (P := P) w ty r b since c0 seen es clock g2 g1 g5 g6 with ⟨h0, hrun⟩ | ⟨e, he, w1, hw1, hrun⟩
  · refine .inl ⟨?_, hrun⟩
    have hnil : (leftOf es seen).toList = [] := List.length_eq_zero_iff.1 (by simpa using h0)
    have hp : ds.Perm es.toList := perm_of_same hnds hnes fun x => ⟨fun h => d2 x h, fun h => by
      by_cases hx : x ∈ ds
      · exact hx
      · have := (hmem x).2 ⟨h, hx⟩
        rw [hnil] at this; cases this⟩
    have hp2 := hp.map (fun e => (e.key, e.val))
    rw [d4, g4] at hp2
    exact perm_map_inj (fun a b => imv_inj q) hp2
  · obtain ⟨hee, hed⟩ := (hmem e).1 he
    obtain ⟨p, hp, hpk, hpv⟩ := im_mem g4 hee
    rw [hpk, hpv] at hrun
    have hw1h : w1.heap = w.heap := by rcases hw1 with rfl | rfl <;> rfl
    have hb' : (setBlock w1 r (.mapIter (some b) since (seen.push e.born) clock)).heap[b]? = some (.map es clock) := by rw [setBlk_other _ (fun e => hrb e.symm), hw1h]; exact g1
    have hr' : (setBlock w1 r (.mapIter (some b) since (seen.push e.born) clock)).heap[r]? = some (.mapIter (some b) since (seen.push e.born) clock) := setBlk_self _ (by rw [hw1h]; exact hrlt)
    have hnd' : (ds ++ [e]).map (·.born) |>.Nodup := by
      simp only [List.map_append, List.map_cons, List.map_nil]
      refine List.nodup_append.2 ⟨d3, by simp, fun a ha c hc e1 => ?_⟩
      simp only [List.mem_singleton] at hc
      obtain ⟨y, hy, rfl⟩ := List.mem_map.1 ha
      rw [hc] at e1
      rw [hbi y (d2 y hy) e hee e1] at hy
      exact hed hy
    have hlen : done.length < L.length := by
      have h1 := congrArg List.length d4
      have h2 := congrArg List.length g4
      simp only [List.length_map] at h1 h2
      have hnn : (ds ++ [e]).Nodup := by
        have h : ((ds ++ [e]).map (·.born)).Pairwise (· ≠ ·) := hnd'
        exact (List.pairwise_map.1 h).imp (fun h e => h (by rw [e]))
      have h3 := hnn.length_le_of_subset (l₂ := es.toList) (by
        intro x hx
        simp only [List.mem_append, List.mem_singleton] at hx
        rcases hx with hx | rfl
        · exact d2 x hx
        · exact hee)
      simp only [List.length_append, List.length_cons, List.length_nil] at h3
      omega
    refine .inr ⟨p, _, hp, hlen, hrun, ⟨es, clock, since, _, clock, hb', hr', g3, g4, g5, by omega, Nat.le_refl _, ds ++ [e], by simp [d1], ?_, hnd', ?_⟩, ?_, by rw [setBlk_size, hw1h], ?_⟩
    · intro d hd
      simp only [List.mem_append, List.mem_singleton] at hd
      rcases hd with hd | rfl
      · exact d2 d hd
      · exact hee
    · simp only [List.map_append, d4, List.map_cons, List.map_nil, imv, hpk, hpv]
    · have hk := kp_setBlk (w := w1) (b := r) (.mapIter (some b) since (seen.push e.born) clock)
      refine ⟨?_, ?_, ?_, by rw [setBlk_size, hw1h]; exact Nat.le_refl _, fun k h1 h2 => ?_⟩
      · rcases hw1 with rfl | rfl <;> rfl
      · rcases hw1 with rfl | rfl <;> rfl
      · rcases hw1 with rfl | rfl <;> rfl
      · rw [setBlk_other _ h2, hw1h]
    · rw [run_entry_at _ r b since seen es clock e hr' hb' hee g3.2.1, hpk, hpv]

variable {ops : Array Oper} {rest : List Oper} {o : Oper} {a : Act} {Q : Exit → Act → World → Prop} {w : World}
/-- 'range m'. -/
theorem step_range_im (hg : o.guard = none) (m : Operand) (t : TypeId) (hop : o.op = Op.range t m) {k e : TypeId} (ht : P.underlying t = some (.map k e)) {b : Nat} {q : IntKind} {L : List (Int × Value)} (hm : a.eval m = .map (some b)) (h : ImAt w b q L)
    (hK : ∀ w', ItAt w' w.heap.size b q L [] → Below w.heap.size w w' → w'.heap.size = w.heap.size + 1 → wpList P ops Q rest (a.put o.dst (.pointer (some ⟨w.heap.size, 0, none⟩))) w') :
    wpList P ops Q (o :: rest) a w := by
  obtain ⟨o', hrun, hI⟩ := h.range (P := P) ht
  exact event_run hg (by simp [execOp, hop, hm, hrun, Result.andThen]) (hK _ hI (below_boxed w _) (by simp))
/-- 'm[k] = v'. -/
theorem step_put_im (hg : o.guard = none) (m x v : Operand) (t : TypeId) (hop : o.op = Op.mapUpdate t m x v) {kt e : TypeId} {q : IntKind} (ht : P.underlying t = some (.map kt e)) (hkt : P.underlying kt = some (.int q)) {b : Nat} {L : List (Int × Value)} (hm : a.eval m = .map (some b))
    (h : ImAt w b q L) {k : Int} {val : Value} (hx : a.eval x = .int q k) (hv : a.eval v = val)
    (hK : ∀ w', ImAt w' b q (iput L k val) → Kp (fun i => i = b) w w' → w'.heap.size = w.heap.size → wpList P ops Q rest (a.put o.dst undef) w') :
    wpList P ops Q (o :: rest) a w := by
  obtain ⟨o', h1, h2⟩ := h.put (P := P) ht hkt k val
  refine wpList_plain hg fun K' hK' => ?_
  unfold Oper.wp
  simp [execOp, hop, hm, hx, hv, h1 w rfl, Result.andThen]
  exact hK' _ _ (hK _ (h2 w rfl) (kp_setBlk o') (setBlk_size w b o'))
/-- A range's step. -/
theorem step_next_im (hg : o.guard = none) (it : Operand) (hop : o.op = Op.next it false) {r b : Nat} {q : IntKind} {L done : List (Int × Value)} (hit : a.eval it = .pointer (some ⟨r, 0, none⟩)) (h : ItAt w r b q L done)
    (hDone : done.Perm L → wpList P ops Q rest (a.put o.dst (.tuple #[.bool false])) w)
    (hMore : ∀ p w', p ∈ L → done.length < L.length → ItAt w' r b q L (done ++ [p]) → Kp (fun i => i = r) w w' → w'.heap.size = w.heap.size → (Instr.entry (.pointer (some ⟨r, 0, none⟩))).run P w' = .ok (.tuple #[.int q p.1, p.2]) w' →
      wpList P ops Q rest (a.put o.dst (.tuple #[.bool true, .int q p.1, p.2])) w') :
    wpList P ops Q (o :: rest) a w := by
  rcases h.next (P := P) o.type with ⟨h1, hrun⟩ | ⟨p, w', h1, h2, hrun, h3, h4, h5, h6⟩
  · exact event_run hg (by simp [execOp, hop, hit, hrun, Result.andThen]) (hDone h1)
  · exact event_run hg (by simp [execOp, hop, hit, hrun, Result.andThen]) (hMore p w' h1 h2 h3 h4 h5 h6)
end
end Go.Proofs.YtgdgmegpacmgnaaGreatDoor

/- An index sorted by digests, in memory; read from its bytes. -/
namespace Go.Proofs.YtgdgmegpacmgnaaGreatDoor
open Go.RowKit
open Go.ChangeMaps (setBlock)
set_option linter.unusedVariables false
set_option linter.unusedSimpArgs false
attribute [local go_sem] setCell_drewN alloc_drewN

/-- A part of an index: rows of one width, and the block in which their bytes lie. -/
structure Sec where
  width : Nat
  data : List UInt8
  gd : Nat
def Sec.val (s : Sec) : Value := .agg #[.int .u32 (s.width : Int), .int .u64 ((s.data.length / s.width : Nat) : Int), .slice (some ⟨s.gd, 0, none⟩) s.data.length s.data.length]
def Sec.pair (s : Sec) : Int × Value := ((s.width : Int), s.val)
def Sec.two (s : Sec) : Nat × List UInt8 := (s.width, s.data)
def secBytes (p : Nat × List UInt8) : List UInt8 := Lib.leBytes 4 p.1 ++ (Lib.leBytes 8 p.2.length ++ p.2)
def secsBytes (l : List (Nat × List UInt8)) : List UInt8 := (l.map secBytes).flatten
def mwBytes (l : List (Nat × List UInt8)) : List UInt8 := Lib.leBytes 4 l.length ++ secsBytes l
def mwT : TypeId := 134

/-- An index at address a, its map at block mb. -/
structure MwAt (w : World) (a : Addr) (mb : Nat) (secs : List Sec) : Prop where
  cell : w.cell? a = some (.map (some mb))
  map : ImAt w mb .u32 (secs.map Sec.pair)
  row : ∀ s ∈ secs, w.heap[s.gd]? = some (.cells (bcells s.data).toArray 5 (0, 0))
theorem MwAt.kp {S : Nat → Prop} {w w' : World} {a : Addr} {mb : Nat} {secs : List Sec} (h : MwAt w a mb secs) (k : Kp S w w') (h1 : ¬ S a.block) (h2 : ¬ S mb) (h3 : ∀ s ∈ secs, ¬ S s.gd) : MwAt w' a mb secs :=
  ⟨(k.cell (World.block_lt_of_cell? w _ h.cell) h1).trans h.cell, h.map.kp k h2, fun s hs => (k.block _ (Array.getElem?_eq_some_iff.1 (h.row s hs)).1 (h3 s hs)).trans (h.row s hs)⟩
theorem find_sec {secs : List Sec} {k : Int} : ilook (secs.map Sec.pair) k = (secs.find? (fun s => decide ((s.width : Int) = k))).map Sec.val := by
  induction secs with
  | nil => rfl
  | cons s l ih =>
    by_cases h : (s.width : Int) = k
    · simp [ilook, Sec.pair, h]
    · have := ih
      simp only [ilook] at this ⊢
      rw [List.map_cons, List.find?_cons, List.find?_cons]
      simp only [Sec.pair, h, decide_false]
      exact this
theorem Kp.box {S S' : Nat → Prop} {a b c : World} {o : Obj} (h : Kp S a b) (k : Kp S' (b.alloc o) c) (hs : ∀ i, S' i → S i ∨ i = b.heap.size) : Kp S a c :=
  h.trans (((kp_alloc b o).mono (S' := fun i => S' i ∨ i = b.heap.size) (fun i hi => hi.elim)).trans (k.mono (S' := fun i => S' i ∨ i = b.heap.size) (fun i hi => .inl (.inl hi))) (fun i hi => .inl hi))
    (fun i hi => hi.elim (fun h1 => (hs i h1).elim .inl (fun e => .inr (by have := h.size; omega))) (fun e => .inr (by have := h.size; omega)))
theorem RdAt.blt {w : World} {b : Nat} {A : Option Addr} {cap : Nat} {bs : List UInt8} {pos : Nat} (h : RdAt w b A cap bs pos) : b < w.heap.size := by
  obtain ⟨pr, hp⟩ := h.blk; exact (Array.getElem?_eq_some_iff.1 hp).1

theorem le4_len (v : Nat) : (Lib.leBytes 4 v).length = 4 := rfl
theorem le8_len (v : Nat) : (Lib.leBytes 8 v).length = 8 := rfl
theorem secBytes_len (p : Nat × List UInt8) : (secBytes p).length = 12 + p.2.length := by simp only [secBytes, List.length_append, le4_len, le8_len]; omega
theorem secsBytes_cons (p : Nat × List UInt8) (l : List (Nat × List UInt8)) : secsBytes (p :: l) = secBytes p ++ secsBytes l := by simp [secsBytes]
theorem secsBytes_append (k l : List (Nat × List UInt8)) : secsBytes (k ++ l) = secsBytes k ++ secsBytes l := by simp [secsBytes]
theorem secsBytes_len (l : List (Nat × List UInt8)) : 12 * l.length ≤ (secsBytes l).length := by
  induction l with
  | nil => simp [secsBytes]
  | cons p l ih => rw [secsBytes_cons, List.length_append, secBytes_len, List.length_cons]; omega
theorem secs_split {ss : List (Nat × List UInt8)} {k : Nat} {p : Nat × List UInt8} (h : ss[k]? = some p) : ss = ss.take k ++ p :: ss.drop (k + 1) := by
  have hlt := (List.getElem?_eq_some_iff.1 h).1
  have he := (List.getElem?_eq_some_iff.1 h).2
  rw [← he, List.getElem_cons_drop hlt, List.take_append_drop]
theorem secs_at {ss : List (Nat × List UInt8)} {k : Nat} {p : Nat × List UInt8} (h : ss[k]? = some p) (bs rest : List UInt8) (q : Nat) (hbs : bs.drop q = secsBytes ss ++ rest) :
    bs.drop (q + (secsBytes (ss.take k)).length) = Lib.leBytes 4 p.1 ++ (Lib.leBytes 8 p.2.length ++ (p.2 ++ (secsBytes (ss.drop (k + 1)) ++ rest))) := by
  rw [← List.drop_drop, hbs]
  conv => lhs; rw [secs_split h, secsBytes_append, secsBytes_cons]
  rw [← secs_split h, List.append_assoc, List.drop_left' rfl]
  simp only [secBytes, List.append_assoc]
theorem secs_take {ss : List (Nat × List UInt8)} {k : Nat} {p : Nat × List UInt8} (h : ss[k]? = some p) : ss.take (k + 1) = ss.take k ++ [p] := by
  have hlt := (List.getElem?_eq_some_iff.1 h).1
  have he := (List.getElem?_eq_some_iff.1 h).2
  rw [List.take_succ_eq_append_getElem hlt, he]

set_option maxRecDepth 100000 in
theorem newSorted_ok (w : World) : Calls Tryz.prog 31 #[] w fun e w' => e = .returned (.iface mwT (.pointer (some ⟨w.heap.size + 1, 0, none⟩))) ∧ MwAt w' ⟨w.heap.size + 1, 0, none⟩ w.heap.size [] ∧ Below w.heap.size w w' := by
  have hmm := @run_makeMap Tryz.prog
  go_enter Tryz.func31, Tryz.ntmps31
  go_wp2_with fail
  go_ret
  refine ⟨rfl, ⟨?_, ?_, by simp⟩, by (repeat (first | (with_reducible exact Below.refl _ _) | (with_reducible exact below_boxed _ _) | (with_reducible refine below_box ?_ _) | (with_reducible refine below_drew1 ?_) | (with_reducible refine below_drewn ?_ _) | (with_reducible refine below_bytes ?_ _ _) | (with_reducible refine below_next ?_ (by assumption)) | (with_reducible refine below_set ?_ (by first | (simp; done) | (simp; omega) | omega) _)))⟩
  · simp [go_sem]
  · exact (ImAt.made w .u32).upd (heap_alloc_old _ _ (by simp))

set_option maxRecDepth 100000 in
set_option maxHeartbeats 3200000 in
theorem MwUnmarshal_ok (b : Nat) (A : Option Addr) (cap : Nat) (bs : List UInt8) (pos : Nat) (a : Addr) (mb : Nat) (ss : List (Nat × List UInt8)) (rest : List UInt8) (hw : ∀ s ∈ ss, 8 ≤ s.1 ∧ s.1 ≤ 33554432) (hnd : (ss.map (·.1)).Nodup) (w : World)
    (hsm : bs.length ≤ 16777216) (h : RdAt w b A cap bs pos) (hbs : bs.drop pos = mwBytes ss ++ rest) (hM : MwAt w a mb []) (hab : a.block ≠ b) (hmb : mb ≠ b) (ham : a.block ≠ mb)
    (hA : ∀ g' o, A = some ⟨g', o, none⟩ → g' < w.heap.size ∧ g' ≠ a.block ∧ g' ≠ mb) :
    Calls Tryz.prog 204 #[.pointer (some a), .iface 40 (.pointer (some ⟨b, 0, none⟩))] w fun e w' => e = .returned .nilIface ∧ RdAt w' b A cap bs (pos + (mwBytes ss).length) ∧
      (∃ secs, secs.map Sec.two = ss ∧ MwAt w' a mb secs ∧ ∀ s ∈ secs, w.heap.size ≤ s.gd) ∧ Kp (fun i => i = b ∨ i = mb) w w' := by
  have hms := method_Seek
  have hbl := h.blt
  have hal := World.block_lt_of_cell? w _ hM.cell
  have hmbl := hM.map.lt
  have hlen : pos + 4 + (secsBytes ss).length ≤ bs.length := by
    have := congrArg List.length hbs
    simp only [mwBytes, List.length_drop, List.length_append, le4_len] at this
    omega
  have hsl := secsBytes_len ss
  have hbs1 : bs.drop pos = Lib.leBytes 4 ss.length ++ (secsBytes ss ++ rest) := by rw [hbs, mwBytes, List.append_assoc]
  have hbs2 : bs.drop (pos + 4) = secsBytes ss ++ rest := by rw [← List.drop_drop, hbs1]; rfl
  have hml : pos + (mwBytes ss).length = pos + 4 + (secsBytes (ss.take ss.length)).length := by rw [List.take_length]; simp only [mwBytes, List.length_append, le4_len]; omega
  have hR1 := zzRead32_ok b A cap bs pos ss.length (by omega) _ ⟨w.heap.size, 0, none⟩ (.int .u32 0) (w.alloc (.cells #[.int .u32 0] 103)) (rd_alloc h _) hbs1 (by simp [go_sem]) (by simp [go_sem]) (by show w.heap.size ≠ b; omega) (fun g' o e => by have := (hA g' o e).1; simp; omega)
  have HB := Lib.hid hbs2; have HL := Lib.hid hml; have HW := Lib.hid hw; have HN := Lib.hid hnd
  clear hbs hbs1 hbs2 hml hw hnd
  go_enter Tryz.func204, Tryz.ntmps204
  go_wp2_with fail
  refine (ToByteReadSeeker_ok _ _).mono ?_
  rintro e w0 ⟨rfl, rfl⟩
  go_wp2_with fail
  refine hR1.mono ?_
  rintro e w1 ⟨rfl, hR1, hc1, hK1⟩
  have hz1 : w.heap.size < w1.heap.size := by have := hK1.size; simp at this; omega
  have hKa : Kp (fun i => i = b ∨ i = mb) w w1 := (Kp.refl _ w).box hK1 (fun i hi => hi.elim (fun e => .inl (.inl e)) (fun e => .inr e))
  have hM1 : MwAt w1 a mb [] := (hM.kp (kp_alloc w _) id id (fun _ _ => id)).kp hK1 (by simp; omega) (by simp; omega) (by simp)
  clear hK1
  go_wp2_with fail
  refine (Seek_ok b A cap bs (pos + 4) w1 hR1).mono ?_
  rintro e w2 ⟨rfl, hR2, hK2⟩
  have hz2 := hK2.size
  have hKb : Kp (fun i => i = b ∨ i = mb) w w2 := hKa.trans hK2 (fun i hi => .inl (.inl hi))
  have hM2 : MwAt w2 a mb [] := hM1.kp hK2 hab hmb (by simp)
  clear hR1 hc1 hKa hM1 hK2 hM
  have hneg : ¬ ((ss.length : Int) < 0) := by omega
  have hwrap : IntKind.i32.wrap (ss.length : Int) = (ss.length : Int) := by rw [IntKind.wrap_i32]; omega
  go_wp2_with fail
  go_loopw [9, 11] (fun vs vi wr => ∃ (k sum : Nat) (secs : List Sec), vi = .int .i64 (k : Int) ∧ vs = .int .i64 (sum : Int) ∧ k ≤ ss.length ∧ sum ≤ (k + 1) * 16777216 ∧ secs.map Sec.two = ss.take k ∧ RdAt wr b A cap bs (pos + 4 + (secsBytes (ss.take k)).length) ∧
      MwAt wr a mb secs ∧ (∀ s ∈ secs, w.heap.size < s.gd) ∧ Kp (fun i => i = b ∨ i = mb) w wr ∧ w1.heap.size ≤ wr.heap.size) (fun _ vi _ => ss.length - (intOf vi).toNat)
  case atStart => exact ⟨0, pos + 4, [], rfl, rfl, Nat.zero_le _, by omega, rfl, by simpa [secsBytes] using hR2, hM2, by simp, hKb, hz2⟩
  case round =>
    clear hR2 hM2 hKb
    obtain ⟨k, sum, secs, rfl, rfl, hk, hsum, hsecs, hR, hM, hgs, hK, hzr⟩ := hrel
    by_cases hlt : k < ss.length
    · obtain ⟨p, hp⟩ : ∃ p, ss[k]? = some p := ⟨_, List.getElem?_eq_getElem hlt⟩
      have hat := secs_at hp bs rest (pos + 4) HB.out
      have htk := secs_take hp
      have hpw := HW.out p (List.mem_of_getElem? hp)
      have hnew : ∀ s ∈ secs, s.width ≠ p.1 := by
        intro s hs e
        have h1 : s.two ∈ ss.take k := by rw [← hsecs]; exact List.mem_map.2 ⟨s, hs, rfl⟩
        obtain ⟨j, hj⟩ := List.getElem?_of_mem h1
        have hjk := (List.getElem?_eq_some_iff.1 hj).1
        rw [List.length_take] at hjk
        have hj2 : ss[j]? = some s.two := by rw [List.getElem?_take] at hj; split at hj; exact hj; cases hj
        have e2 : (ss.map (·.1))[j]? = (ss.map (·.1))[k]? := by rw [List.getElem?_map, List.getElem?_map, hj2, hp]; simp [Sec.two, e]
        have := (List.getElem?_inj (i := j) (j := k) (by simp; omega) HN.out).1 e2
        omega
      obtain ⟨width, data⟩ := p
      simp only at hat hpw hnew
      have hplen := congrArg List.length hat
      simp only [List.length_drop, List.length_append, le4_len, le8_len] at hplen
      have hpl : (secsBytes (ss.take (k + 1))).length = (secsBytes (ss.take k)).length + (12 + data.length) := by rw [htk, secsBytes_append, List.length_append]; simp [secsBytes, secBytes_len]
      have hbd : pos + 4 + (secsBytes (ss.take k)).length + 12 + data.length ≤ bs.length := by omega
      obtain ⟨pk, hpk⟩ : ∃ pk, pk = pos + 4 + (secsBytes (ss.take k)).length := ⟨_, rfl⟩
      rw [← hpk] at hR hat hbd
      have HPL : Hid (pos + 4 + (secsBytes (ss.take (k + 1))).length = pk + 12 + data.length) := Lib.hid (by omega)
      have HT := Lib.hid htk; have HSS := Lib.hid hsecs; have HNW := Lib.hid hnew
      clear hpk htk hpl hplen hsecs hnew hp
      obtain ⟨h8, hw⟩ := hpw
      have hbr := hR.blt
      have hSw := SwUnmarshal_ok b A cap bs pk wr.heap.size width data _ h8 hw (.int .u32 0) (.int .u64 0) (.slice none 0 0) (wr.alloc (.cells #[.int .u32 0, .int .u64 0, .slice none 0 0] 287)) (rd_alloc hR _) hat (heap_alloc_last _ _) (by omega) (fun g' o e => by have := (hA g' o e).1; simp; omega)
      clear hat hR
      go_wp2_with fail
      refine hSw.mono ?_
      clear hSw
      rintro e w3 ⟨rfl, hR3, ⟨gd, hgd, hs3, hd3⟩, hK3⟩
      have hz3 : wr.heap.size < w3.heap.size := by have := hK3.size; simp at this; omega
      have hKc : Kp (fun i => i = b ∨ i = mb) w w3 := hK.box hK3 (fun i hi => hi.elim (fun e => .inl (.inl e)) (fun e => .inr e))
      have hal2 := World.block_lt_of_cell? wr _ hM.cell
      have hml2 := hM.map.lt
      have hM3 : MwAt w3 a mb secs := (hM.kp (kp_alloc wr _) id id (fun _ _ => id)).kp hK3 (by simp; omega) (by simp; omega) (fun s hs => by have := hgs s hs; have := (Array.getElem?_eq_some_iff.1 (hM.row s hs)).1; simp; omega)
      have hgd' : wr.heap.size + 1 ≤ gd := by simpa using hgd
      clear hgd hK hM hK3
      go_wp2_with fail
      refine (Seek_ok b A cap bs _ w3 hR3).mono ?_
      rintro e w4 ⟨rfl, hR4, hK4⟩
      have hz4 := hK4.size
      have hKd : Kp (fun i => i = b ∨ i = mb) w w4 := hKc.trans hK4 (fun i hi => .inl (.inl hi))
      have hM4 : MwAt w4 a mb secs := hM3.kp hK4 hab hmb (fun s hs => by have := hgs s hs; omega)
      have hs4 : SwAt w4 wr.heap.size width (data.length / width) (.slice (some ⟨gd, 0, none⟩) data.length data.length) := (hK4.block _ hz3 (by omega)).trans hs3
      have hd4 := (hK4.block gd (Array.getElem?_eq_some_iff.1 hd3).1 (by omega)).trans hd3
      have hgd4 : gd < w4.heap.size := (Array.getElem?_eq_some_iff.1 hd4).1
      clear hR3 hKc hM3 hK4 hs3 hd3
      obtain ⟨ln, hln⟩ : ∃ ln, ln = data.length / width := ⟨_, rfl⟩
      rw [← hln] at hs4
      have HLN := Lib.hid hln; clear hln
      have ci := hM4.cell
      have s0 := (blk_cell' hs4 0).trans (show _ = some (Value.int .u32 (width : Int)) from rfl)
      have s1 := (blk_cell' hs4 1).trans (show _ = some (Value.int .u64 (ln : Int)) from rfl)
      have s2 := (blk_cell' hs4 2).trans (show _ = some (Value.slice (some ⟨gd, 0, none⟩) data.length data.length) from rfl)
      obtain ⟨om, hmu, him⟩ := hM4.map.put (P := Tryz.prog) Tryz.underlying133 Tryz.underlying103 (width : Int) (.agg #[.int .u32 (width : Int), .int .u64 (ln : Int), .slice (some ⟨gd, 0, none⟩) data.length data.length])
      have hmu1 := hmu w4.drew rfl
      have him1 := him w4.drew rfl
      have hm4 := hM4.map.lt
      have HIM := Lib.hid him1; have HMM := Lib.hid hM4
      clear hmu him him1 hM4
      have hsum' : ¬ ((sum : Int) + ((pk + 12 + data.length : Nat) : Int) < (sum : Int)) := by omega
      have hsw : IntKind.i64.wrap ((sum : Int) + ((pk + 12 + data.length : Nat) : Int)) = ((sum + (pk + 12 + data.length) : Nat) : Int) := by rw [IntKind.wrap_i64]; omega
      go_wp2_with fail
      go_region
      go_wp2_with fail
      go_roundw
      case rel =>
        have hval : (Sec.mk width data gd).val = .agg #[.int .u32 (width : Int), .int .u64 (ln : Int), .slice (some ⟨gd, 0, none⟩) data.length data.length] := by unfold Sec.val; rw [HLN.out]
        have hput : iput (secs.map Sec.pair) (width : Int) (.agg #[.int .u32 (width : Int), .int .u64 (ln : Int), .slice (some ⟨gd, 0, none⟩) data.length data.length]) = (secs ++ [Sec.mk width data gd]).map Sec.pair := by
          rw [iput_new, List.map_append, List.map_cons, List.map_nil, Sec.pair, hval]
          intro q hq e
          obtain ⟨s, hs, rfl⟩ := List.mem_map.1 hq
          simp only [Sec.pair] at e
          exact HNW.out s hs (by omega)
        have hi := HIM.out
        rw [hput] at hi
        have hkk : Kp (fun i => i = mb) w4 (setBlock w4.drew mb om) := (Kp.refl _ w4).drew.trans (kp_setBlk (w := w4.drew) om) (fun i hi => .inl hi)
        refine ⟨k + 1, sum + (pk + 12 + data.length), secs ++ [Sec.mk width data gd], by go_num, by first | rfl | go_num, by omega, by omega, by rw [List.map_append, HSS.out, HT.out]; rfl, ?_, ⟨?_, hi, ?_⟩, ?_, hKd.trans hkk (fun i hi => .inl (.inr hi)), by rw [setBlk_size]; show w1.heap.size ≤ w4.heap.size; omega⟩
        · rw [HPL.out]; exact hR4.keep hkk (fun e => hmb e.symm) (fun g' o e => (hA g' o e).2.2)
        · exact (hkk.cell (World.block_lt_of_cell? w4 _ ci) ham).trans ci
        · intro s hs
          rcases List.mem_append.1 hs with hs | hs
          · have hr := HMM.out.row s hs
            refine (hkk.block _ (Array.getElem?_eq_some_iff.1 hr).1 ?_).trans hr
            have := hgs s hs; omega
          · rw [List.mem_singleton] at hs; subst hs
            exact (hkk.block _ hgd4 (by show gd ≠ mb; omega)).trans hd4
        · intro s hs
          rcases List.mem_append.1 hs with hs | hs
          · exact hgs s hs
          · rw [List.mem_singleton] at hs; subst hs; show w.heap.size < gd; omega
      case measure => simp [intOf]; omega
    · obtain rfl : k = ss.length := by omega
      go_wp2_with fail
      go_ret
      rw [List.take_length] at hsecs
      exact ⟨rfl, by rw [HL.out]; exact hR, ⟨secs, hsecs, hM, fun s hs => Nat.le_of_lt (hgs s hs)⟩, hK⟩
end Go.Proofs.YtgdgmegpacmgnaaGreatDoor
