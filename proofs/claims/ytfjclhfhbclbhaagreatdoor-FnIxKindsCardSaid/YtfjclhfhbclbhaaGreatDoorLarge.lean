/- spec.large: 80 numbers. -/
import Derived.Test.YtfjclhfhbclbhaaGreatDoorSum
import Derived.Deep.MidRow
namespace Go.Proofs.YtfjclhfhbclbhaaGreatDoor
open Go.RowKit
set_option linter.unusedVariables false
set_option linter.unusedSimpArgs false

/-- A block of n numbers of one kind, nothing of it frozen. -/
def NumBlk (k : IntKind) (t : TypeId) (n : Nat) (w : World) (b : Nat) : Prop := ∃ xs : List Int, xs.length = n ∧ w.heap[b]? = some (.cells (xs.map (Value.int k)).toArray t (0, 0))
/-- An array of n numbers of one kind, as a value. -/
def Nums (k : IntKind) (n : Nat) (v : Value) : Prop := ∃ xs : List Int, xs.length = n ∧ v = .agg (xs.map (Value.int k)).toArray

section
variable {P : Program}
/-- A function that answers with a literal array: 'var r; r = lit; return'. -/
theorem lit_wp {Q : Exit → Act → World → Prop} {a : Act} {w : World} (ty : TypeId) (zs cells : Array Value) (parts : Array (Nat × Operand)) (p0 p1 p2 : String) (ty1 : TypeId) (af : Array Edge)
    (hz : ∀ w, (zeroValue ty).run P w = .ok (.agg zs) w) (hzs : zs.size = cells.size) (hi : (P.info? ty).map (·.size) = some cells.size)
    (hb : ∀ a : Act, P.built ty (parts.map fun (i, x) => (i, a.eval x)).toList = some cells) (h1 : cells.all (·.oneCell') = true)
    (ha : a.tmps = #[undef, undef])
    (hQ : ∀ a' : Act, a'.defers = a.defers → a'.tmps = #[.pointer (some ⟨w.heap.size, 0, none⟩), .agg cells] → Q .ret a' (w.alloc (.cells cells ty))) :
    ((Code.region 0 #[{ dst := some 0, op := .alloc ty, type := 0, pos := p0, after := #[], guard := none }] false).seq
      ((Code.region 1 #[{ dst := some 1, op := .build ty parts, type := ty1, pos := p1, after := #[], guard := none }, { dst := none, op := .store ty (.tmp 0) (.tmp 1), type := 0, pos := p2, after := af, guard := none }] false).seq .ret)).wp P Q a w := by
  refine wp_seq (wp_region_list ?_)
  refine event_run rfl (v := .pointer (some ⟨w.heap.size, 0, none⟩)) (w1 := w.alloc (.cells zs ty)) (by simp [execOp, go_sem, hz]) (wpList_nil ?_)
  refine wp_seq (wp_region_list ?_)
  refine wpList_build rfl ty parts rfl (by rw [hb]; rfl) ?_
  rw [hb]
  refine wpList_store_row rfl ty (.tmp 0) (.tmp 1) rfl w.heap.size cells (by simp [Act.eval, Act.put, ha]) (by simp [Act.eval, Act.put, ha]) ty zs (heap_alloc_last w _) hi hzs h1 ?_
  rw [World.setRow_alloc_new]
  exact wpList_nil (wp_ret (hQ _ rfl (by simp [Act.put, ha])))
end


/-- The numbers of the table, read off the function's own literal. -/
def litXs (f : Func) : List Int :=
  match f.body with
  | some (.seq _ (.seq (.region _ ops _) _)) =>
    match ops[0]? with
    | some o => match o.op with
      | Op.build _ parts => parts.toList.map fun p => match p.2 with | .const (.int _ n) => n | _ => 0
      | _ => []
    | none => []
  | _ => []
def numCells (k : IntKind) (xs : List Int) : Array Value := (xs.map (Value.int k)).toArray
theorem large_len : (litXs Tryz.f61).length = 80 := by kernel_rfl
theorem large_info : (Tryz.prog.info? 148).map (fun i => (i.zero, i.size)) = some (some (.agg (numCells .u64 (List.replicate 80 0))), 80) := by kernel_rfl
theorem run_result_cell {P : Program} {f : Func} {tmps : Array Value} {w : World} {ty : TypeId} {p : Addr} {v : Value} {i : Nat} (hr : f.results = #[.cell i ty]) (hp : tmps.getD i undef = .pointer (some p))
    (hl : (loadVar ty p).run P w = .ok v w) : (results f tmps).run P w = .ok v w := by
  have hp' : tmps[i]?.getD undef = .pointer (some p) := by rw [← hp]; simp
  simp [results, hr, hp', asAddr, Array.mapM_eq_mapM_toList, List.mapM_cons, Sem.run_bind, hl]

set_option maxRecDepth 100000 in
theorem large_ok (w : World) : Calls Tryz.prog 61 #[] w fun e w' => (∃ v, Nums .u64 80 v ∧ e = .returned v) ∧ Below w.heap.size w w' := by
  obtain ⟨xs, hx⟩ : ∃ xs, xs = litXs Tryz.f61 := ⟨_, rfl⟩
  have hlen : xs.length = 80 := by rw [hx]; exact large_len
  have hc : (numCells .u64 xs).size = 80 := by simp [numCells, hlen]
  obtain ⟨n, e, hu⟩ : ∃ n e, Tryz.prog.underlying 148 = some (.array n e) := ⟨_, _, Tryz.underlying148⟩
  obtain ⟨hz, hi⟩ := zero_of_info large_info
  rw [← hc] at hi
  go_enter Tryz.func61, Tryz.ntmps61
  refine lit_wp 148 (numCells .u64 (List.replicate 80 0)) (numCells .u64 xs) _ _ _ _ _ _ hz (by rw [hc]; simp [numCells]) hi (fun a => by rw [hx]; kernel_rfl) (by simp [numCells, Value.oneCell']) rfl ?_
  intro a' hd ha'
  have hl := run_loadVar_new w 148 (numCells .u64 xs) n e hu hi
  refine bodyPost_ret (v := .agg (numCells .u64 xs)) (run_result_cell Tryz.results61 (by rw [ha']; rfl) hl) hd ?_
  exact ⟨⟨_, ⟨_, hlen, rfl⟩, rfl⟩, by (repeat (first | (with_reducible exact Below.refl _ _) | (with_reducible exact below_boxed _ _) | (with_reducible refine below_box ?_ _) | (with_reducible refine below_drew1 ?_) | (with_reducible refine below_drewn ?_ _) | (with_reducible refine below_bytes ?_ _ _) | (with_reducible refine below_next ?_ (by assumption)) | (with_reducible refine below_set ?_ (by first | (simp; done) | (simp; omega) | omega) _)))⟩
end Go.Proofs.YtfjclhfhbclbhaaGreatDoor
