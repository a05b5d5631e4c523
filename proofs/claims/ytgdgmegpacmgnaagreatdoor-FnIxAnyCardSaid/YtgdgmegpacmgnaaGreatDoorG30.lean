import Derived.Test.YtgdgmegpacmgnaaGreatDoorG29
import Derived.Test.YtgdgmegpacmgnaaGreatDoorRows
import Derived.Test.YtgdgmegpacmgnaaGreatDoorCards
import Derived.Test.YtgdgmegpacmgnaaGreatDoorTie
import Derived.ProofKit
import Derived.OpenShut
import Derived.Deep.Slices
import Derived.Deep.DeepHandedRow
import Derived.SizedLaws
import Derived.Deep.DeepWitnessRowRef
import Derived.Lib.LaidTab
import Derived.Stop.LaidErr
/- The row of FnIxAny, and its card. -/
namespace Go.Proofs.YtgdgmegpacmgnaaGreatDoor
open Go.RowKit Go.ChangeShapes Go.WideShapes Go.ChangeAt Go.Deep
set_option linter.unusedVariables false
set_option linter.unusedSimpArgs false
set_option maxRecDepth 100000

theorem ownKK : ownKnob Tryz.prog.godebug = none := by kernel_rfl
theorem kLaid : laidOutB Tryz.prog = true := by kernel_rfl

theorem starErrK : "*" ++ "errors.errorString" = "*errors.errorString" := by decide
theorem rowErrK (u : TypeId) (h : Tryz.prog.typeName? 3 u = some "*errors.errorString") : u = 137 :=
  typeName_ptr_named (nm := "errors.errorString") (by rw [starErrK]; kernel_rfl) (by kernel_rfl) (by decide) u (by rw [starErrK]; exact h)
/-- A sentinel, and the block behind it. -/
theorem laid_sentinel_blk {P : Program} {n nm : String} {text : List UInt8} {r : List (String × DataW Unit)} {W : World} {g : Nat} {ti tp te ts : TypeId} {ms : Array (String × TypeId)} {f : Field}
    (h : laidMet P ((n, .iface nm (.ptr (.agg [.lit (.string text)]))) :: r) W)
    (hg : P.globalNamed n = some g) (ht : (P.globals[g]?).map (·.type) = some ti) (hi : P.underlying ti = some (.interface ms)) (hrow : ∀ u, P.typeName? 3 u = some nm → u = tp)
    (hp : P.underlying tp = some (.pointer te)) (he : P.underlying te = some (.struct #[f])) (hft : f.type = ts) (hfo : f.offset = 0) (hs : P.underlying ts = some .string) (hc : P.cellsOf te = 1) (hcs : P.cellsOf ts = 1) :
    ∃ (a : Addr), W.cell? ⟨g, 0, none⟩ = some (.iface tp (.pointer (some a))) ∧ ∃ c t, W.heap[a.block]? = some (.cells c t (0, 0)) := by
  obtain ⟨ps, ⟨g0, t0, cs0, f0, p0, q0, hg0, ht0, hv0, hd0, _, e0⟩, _, hrows⟩ := h
  obtain rfl := Option.some.inj (hg.symm.trans hg0)
  obtain rfl := Option.some.inj (ht.symm.trans ht0)
  subst e0
  obtain ⟨l0⟩ := cs0
  have ok0 : ∀ u v, l0 = [.iface u v] → Value.okWide P W .any 0 u v := fun u v e => by
    subst e
    exact (hrows g 0 (by simp [MemPlace.row])).2 u v (by simpa using World.var?_cell hg0 hv0 0)
  obtain ⟨a0, s0, rfl, hc0, hs0, hz0, hpp⟩ := errorString_of_trod hi hrow hp he hft hfo hs hc hcs hd0 ok0
  refine ⟨a0, by simpa using World.var?_cell hg0 hv0 0, (hrows a0.block a0.off ?_).1⟩
  subst hpp
  simp [MemPlace.row]
theorem sentK {W : World} {n : String} {text : List UInt8} {r : List (String × DataW Unit)} {g : Nat} (h : laidMet Tryz.prog ((n, .iface "*errors.errorString" (.ptr (.agg [.lit (.string text)]))) :: r) W) (hg : Tryz.prog.globalNamed n = some g) (ht : (Tryz.prog.globals[g]?).map (·.type) = some 46) :
    ∃ (a : Addr), W.cell? ⟨g, 0, none⟩ = some (.iface 137 (.pointer (some a))) ∧ ∃ c t, W.heap[a.block]? = some (.cells c t (0, 0)) :=
  laid_sentinel_blk (ti := 46) (tp := 137) (te := 139) (ts := 9) h hg ht Tryz.underlying46 rowErrK Tryz.underlying137 Tryz.underlying139 rfl rfl Tryz.underlying9 (by kernel_rfl) (by kernel_rfl)
/-- What stands in the variables. -/
theorem errsK {W : World} (hL : laidMet Tryz.prog Rows.fnIxAnyRow.laid W) : (4 < W.heap.size ∧ ∃ a, W.cell? ⟨4, 0, none⟩ = some (.iface 137 (.pointer (some a)))) ∧ ∃ pe pu, Errs W W.heap.size pe pu := by
  obtain ⟨a9, h9, _⟩ := sentK (n := "pub-droshky/pub/index.ErrNotFound") (g := 4) hL.tail.tail.tail.tail.tail.tail.tail.tail.tail (by kernel_rfl) (by kernel_rfl)
  obtain ⟨a0, h0, b0⟩ := sentK (n := "io.EOF") (g := 0) hL (by kernel_rfl) (by kernel_rfl)
  obtain ⟨a1, h1, b1⟩ := sentK (n := "io.ErrUnexpectedEOF") (g := 1) hL.tail (by kernel_rfl) (by kernel_rfl)
  obtain ⟨a2, h2, _⟩ := sentK (n := "pub-droshky/pub/varint.ErrOverflow") (g := 2) hL.tail.tail (by kernel_rfl) (by kernel_rfl)
  obtain ⟨a4, h4, _⟩ := sentK (n := "pub-droshky/pub/varint.ErrNotMinimal") (g := 3) hL.tail.tail.tail.tail (by kernel_rfl) (by kernel_rfl)
  refine ⟨⟨World.block_lt_of_cell? W _ h9, a9, h9⟩, a0, a1, h0, h1, ⟨a2, h2⟩, ⟨a4, h4⟩, b0, b1, ⟨World.block_lt_of_cell? W _ h0, World.block_lt_of_cell? W _ h1, World.block_lt_of_cell? W _ h2, World.block_lt_of_cell? W _ h4⟩, ⟨?_, ?_⟩, Nat.le_refl _⟩
  · obtain ⟨c, t, h⟩ := b0; exact (Array.getElem?_eq_some_iff.1 h).1
  · obtain ⟨c, t, h⟩ := b1; exact (Array.getElem?_eq_some_iff.1 h).1

theorem contractK (H : Type) (enc : TypeId × Value → H) (W : World) (base : Nat) (args : Array Value) (ds gs : List (DataW H)) (before : List MemPlace)
    (hval : ∀ (j : Nat) t v, Tryz.f3.params[j]? = some t → args[j]? = some v → Value.okWide Tryz.prog W .any base t v)
    (hW : DataW.Whole enc Tryz.prog Tryz.f3.params.toList Rows.fnIxAnySpec.vars false W args.toList ds gs before)
    (hL : laidMet Tryz.prog Rows.fnIxAnyRow.laid W) :
    Calls Tryz.prog 3 args W fun e W' => ∃ v, e = .returned v ∧ Rows.fnIxAnySpec.post enc Tryz.prog Tryz.f3 false true false false W args v W' := by
  have hW' := hW
  obtain ⟨p, q, hA0, hV, rfl, hfz, hnd⟩ := hW
  have hA : DataW.TrodAll enc Tryz.prog W 0 (fun _ => true) true Tryz.f3.params.toList args.toList ds p := hA0
  rw [Tryz.params3] at hA hval
  obtain ⟨v0, d0, rfl, rfl, h0⟩ := trodAll_one hA
  obtain ⟨rfl, rfl⟩ := trodVars_none hV
  obtain ⟨s, rfl⟩ := okWide_string Tryz.underlying9 (hval 0 9 v0 rfl rfl)
  have h0k := h0
  clear hA0
  simp only [List.append_nil] at hW'
  have hlt : ∀ x ∈ p, x.block < W.heap.size := fun x hx => by simpa using hW'.lt x hx
  have ha0 := fun (W' : World) (hn : Below W.heap.size W W') => Below.trod kLaid (by kernel_rfl) (of_decide_eq_true (by kernel_rfl)) h0k hn (fun x hx => hlt x (by simp [hx]))
  obtain ⟨⟨hg5, a, he⟩, pe, pu, hE⟩ := errsK hL
  obtain ⟨t, rfl⟩ : ∃ t, s = sOf t := ⟨s.data.toList, by simp [sOf]⟩
  refine (FnIxAny_ok t a pe pu W.heap.size W hg5 he hE).mono ?_
  rintro e W' ⟨rfl, hb'⟩
  exact ⟨_, rfl, _, _, _, [], p, [], hW', trodAll_mk1 (shut_bool Tryz.underlying4 _), trodAll_mk1 (ha0 _ hb'), rfl, hb'.frame _, fun h => by cases h⟩

abbrev errK0 : ByteArray := { data := #[69, 79, 70] }
abbrev errK1 : ByteArray := { data := #[117, 110, 101, 120, 112, 101, 99, 116, 101, 100, 32, 69, 79, 70] }
abbrev errK2 : ByteArray := { data := #[118, 97, 114, 105, 110, 116, 115, 32, 108, 97, 114, 103, 101, 114, 32, 116, 104, 97, 110, 32, 117, 105, 110, 116, 54, 51, 32, 110, 111, 116, 32, 115, 117, 112, 112, 111, 114, 116, 101, 100] }
abbrev errK3 : ByteArray := { data := #[118, 97, 114, 105, 110, 116, 115, 32, 109, 97, 108, 102, 111, 114, 109, 101, 100, 44, 32, 99, 111, 117, 108, 100, 32, 110, 111, 116, 32, 114, 101, 97, 99, 104, 32, 116, 104, 101, 32, 101, 110, 100] }
abbrev errK4 : ByteArray := { data := #[118, 97, 114, 105, 110, 116, 32, 110, 111, 116, 32, 109, 105, 110, 105, 109, 97, 108, 108, 121, 32, 101, 110, 99, 111, 100, 101, 100] }
abbrev errK5 : ByteArray := { data := #[109, 117, 108, 116, 105, 104, 97, 115, 104, 32, 116, 111, 111, 32, 115, 104, 111, 114, 116, 46, 32, 109, 117, 115, 116, 32, 98, 101, 32, 62, 61, 32, 50, 32, 98, 121, 116, 101, 115] }
abbrev errK6 : ByteArray := { data := #[117, 118, 97, 114, 105, 110, 116, 58, 32, 98, 117, 102, 102, 101, 114, 32, 116, 111, 111, 32, 115, 109, 97, 108, 108] }
abbrev errK7 : ByteArray := { data := #[117, 118, 97, 114, 105, 110, 116, 58, 32, 118, 97, 114, 105, 110, 116, 32, 116, 111, 111, 32, 98, 105, 103, 32, 40, 109, 97, 120, 32, 54, 52, 98, 105, 116, 41] }
abbrev errK8 : ByteArray := { data := #[110, 111, 116, 32, 102, 111, 117, 110, 100] }
noncomputable def lowK : Nat := (World.holding Tryz.prog default ⟨#[], #[], []⟩).heap.size
noncomputable def laidWorldK (os : Os) : World :=
  let w0 := World.holding Tryz.prog os ⟨#[.cells #[.string errK0] 139, .cells #[.string errK1] 139, .cells #[.string errK2] 139, .cells #[.string errK3] 139, .cells #[.string errK4] 139, .cells #[.string errK5] 139, .cells #[.string errK6] 139, .cells #[.string errK7] 139, .cells #[.string errK8] 139], #[], []⟩
  { w0 with heap := (((((((((w0.heap.modify 0 fun
      | .cells _ t frozen => .cells #[.iface 137 (.pointer (some ⟨lowK + 0, 0, none⟩))] t frozen
      | o => o).modify 1 fun
      | .cells _ t frozen => .cells #[.iface 137 (.pointer (some ⟨lowK + 1, 0, none⟩))] t frozen
      | o => o).modify 2 fun
      | .cells _ t frozen => .cells #[.iface 137 (.pointer (some ⟨lowK + 2, 0, none⟩))] t frozen
      | o => o).modify 11 fun
      | .cells _ t frozen => .cells #[.iface 137 (.pointer (some ⟨lowK + 3, 0, none⟩))] t frozen
      | o => o).modify 3 fun
      | .cells _ t frozen => .cells #[.iface 137 (.pointer (some ⟨lowK + 4, 0, none⟩))] t frozen
      | o => o).modify 8 fun
      | .cells _ t frozen => .cells #[.iface 137 (.pointer (some ⟨lowK + 5, 0, none⟩))] t frozen
      | o => o).modify 9 fun
      | .cells _ t frozen => .cells #[.iface 137 (.pointer (some ⟨lowK + 6, 0, none⟩))] t frozen
      | o => o).modify 10 fun
      | .cells _ t frozen => .cells #[.iface 137 (.pointer (some ⟨lowK + 7, 0, none⟩))] t frozen
      | o => o).modify 4 fun
      | .cells _ t frozen => .cells #[.iface 137 (.pointer (some ⟨lowK + 8, 0, none⟩))] t frozen
      | o => o) }
theorem laid_metK (os : Os) (args : Array Value) : laidMet Tryz.prog Rows.fnIxAnyRow.laid ((laidWorldK os).forCall (fun _ _ => 0) ⟨#[], args, []⟩).memory :=
  laidMet_of_run' 8 (by kernel_rfl) (by kernel_rfl)
theorem readsK (os : Os) {H : Type} (enc : TypeId × Value → H) : ∃ places, DataW.whole enc Tryz.prog ((laidWorldK os).forCall (fun _ _ => 0) ⟨#[], #[.string ⟨#[]⟩], []⟩).memory Tryz.f3.params.toList Rows.fnIxAnySpec.vars false #[Value.string ⟨#[]⟩].toList 8 = some ([.lit (.string [])], [], places) :=
  ⟨[], by kernel_rfl⟩

theorem liftedK (os : Os) (started : os.Started) (H : Type) (enc : TypeId × Value → H) (F : Stop.Interp) :
    ReturnsInHanded {} Tryz.checked os 3 .any ((OpenSpec.ofChange Rows.fnIxAnySpec).preRow enc Tryz.prog Tryz.f3 Rows.fnIxAnyRow.domain false Rows.fnIxAnyRow.laid) (((OpenSpec.ofChange Rows.fnIxAnySpec).at F).post enc Tryz.prog Tryz.f3 false true false false) := by
  obtain ⟨places, hx⟩ := readsK os enc
  refine returnsInHanded_of_row (C := Tryz.checked) (s := OpenSpec.ofChange Rows.fnIxAnySpec) ownKK started (by kernel_rfl) Tryz.func3
    (witness_row_atRef (enc := enc) (C := Tryz.checked) false (laidWorldK os) #[.string ⟨#[]⟩] rfl (by kernel_rfl) (by kernel_rfl) (by kernel_rfl)
      (OpenSpec.preRow_of_cond 8 hx (by kernel_rfl) (fun k hk => by cases hk) (by kernel_rfl) (laid_metK os _))) ?_
  intro W base args ds gs before hval hW _ _ _ hL _ _
  exact contractK H enc W base args ds gs before hval hW hL

theorem said_ofK : Rows.FnIxAnySaid :=
  OpenClaim.holds_of_cond 3 Tryz.f3 rfl rfl rfl rfl rfl rfl rfl ⟨rfl, rfl, rfl, rfl, rfl⟩ rfl rfl rfl rfl rfl (by kernel_rfl) Tryz.func3 (by kernel_rfl)
    (of_decide_eq_true (by kernel_rfl)) (by unfold Func.isWrapper; first | (rw [if_pos (by decide +kernel)]; kernel_rfl) | (rw [if_neg (by decide +kernel)]; exact ⟨rfl, rfl⟩))
    (fun os started H enc _ F => by rw [OpenClaim.pre_eq_preRow]; exact liftedK os started H enc F)

theorem plainK (f : FuncId) (fn : Func) (hf : Tryz.pinned.checked.prog.funcNamed "pub-droshky/laws.FnIxAny" = some f) (hfn : Tryz.pinned.checked.prog.funcs[f]? = some fn) :
    true = Tryz.pinned.checked.prog.looks [] ∧ ∀ (j : Nat) t, fn.params[j]? = some t → Tryz.pinned.checked.prog.wantsStandIn t = false := by
  obtain rfl : f = 3 := Option.some.inj ((show Tryz.prog.funcNamed "pub-droshky/laws.FnIxAny" = some 3 by kernel_rfl).symm.trans hf) |>.symm
  obtain rfl : fn = Tryz.f3 := (Option.some.inj (Tryz.func3.symm.trans hfn)).symm
  refine ⟨by kernel_rfl, fun j t ht => ?_⟩
  rw [Tryz.params3] at ht
  have hm : t = 9 := by simpa using Array.mem_of_getElem? ht
  subst hm
  exact (show Tryz.prog.wantsStandIn 9 = false by kernel_rfl)

/-- FnIxAny. -/
theorem fnIxAny_card : Rows.FnIxAnyCardSaid :=
  Claim7.holds_tied_plain_at .later [] _ _ _ _ said_ofK (fun _ h => by cases h) (by kernel_rfl) (fun _ h => by cases h) fnIxAny_row_tie rfl ⟨rfl, rfl⟩ (by kernel_rfl) rfl plainK (by kernel_rfl)
end Go.Proofs.YtgdgmegpacmgnaaGreatDoor
