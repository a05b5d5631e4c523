/- The row of FnStShould, and its card. -/
import Derived.Test.YtifoicdnibgdaaaGreatDoorLiftp
import Derived.Test.YtifoicdnibgdaaaGreatDoorRows
import Derived.Test.YtifoicdnibgdaaaGreatDoorCards
import Derived.Test.YtifoicdnibgdaaaGreatDoorTie
import Derived.Deep.DeepWitnessRowRef
import Derived.Lib.LaidTab
import Derived.Stop.LaidErr
namespace Go.Proofs.YtifoicdnibgdaaaGreatDoor
open Go.RowKit Go.ChangeShapes Go.WideShapes Go.ChangeAt Go.Deep
set_option linter.unusedVariables false
set_option linter.unusedSimpArgs false
set_option maxRecDepth 100000

theorem ownKP : ownKnob Tryz.prog.godebug = none := by kernel_rfl

theorem starErr : "*" ++ "errors.errorString" = "*errors.errorString" := by decide
theorem rowErr (u : TypeId) (h : Tryz.prog.typeName? 3 u = some "*errors.errorString") : u = 191 :=
  typeName_ptr_named (nm := "errors.errorString") (by rw [starErr]; kernel_rfl) (by kernel_rfl) (by decide) u (by rw [starErr]; exact h)
/-- What stands in the variable ErrNotFound. -/
theorem notFound {W : World} (hL : laidMet Tryz.prog Rows.fnStShouldRow.laid W) : 5 < W.heap.size ∧ ∃ ty v, W.cell? ⟨5, 0, none⟩ = some (.iface ty v) := by
  have h9 := hL.tail.tail.tail.tail.tail.tail.tail.tail.tail
  obtain ⟨a, s, hv, _⟩ := laid_sentinel (n := "pub-droshky/pub/index.ErrNotFound") (g := 5) (ti := 46) (tp := 191) (te := 193) (ts := 9) h9 (by kernel_rfl) (by kernel_rfl) Tryz.underlying46 rowErr Tryz.underlying191 Tryz.underlying193 rfl rfl Tryz.underlying9 (by kernel_rfl) (by kernel_rfl)
  have hc := World.var?_cell (g := 5) (by kernel_rfl) hv 0
  have hc' : W.cell? ⟨5, 0, none⟩ = some (.iface 191 (.pointer (some a))) := by simpa using hc
  exact ⟨World.block_lt_of_cell? W _ hc', _, _, hc'⟩

theorem contractP (hFit : FitOkP) (H : Type) (enc : TypeId × Value → H) (W : World) (base : Nat) (args : Array Value) (ds gs : List (DataW H)) (before : List MemPlace)
    (hval : ∀ (j : Nat) t v, Tryz.f4.params[j]? = some t → args[j]? = some v → Value.okWide Tryz.prog W .any base t v)
    (hW : DataW.Whole enc Tryz.prog Tryz.f4.params.toList Rows.fnStShouldSpec.vars false W args.toList ds gs before)
    (hL : laidMet Tryz.prog Rows.fnStShouldRow.laid W) :
    Calls Tryz.prog 4 args W fun e W' => ∃ v, e = .returned v ∧ Rows.fnStShouldSpec.post enc Tryz.prog Tryz.f4 false true false false W args v W' := by
  have hW' := hW
  obtain ⟨p, q, hA0, hV, rfl, hfz, hnd⟩ := hW
  have hA : DataW.TrodAll enc Tryz.prog W 0 (fun _ => true) true Tryz.f4.params.toList args.toList ds p := hA0
  rw [Tryz.params4] at hA hval
  obtain ⟨v0, v1, v2, d0, d1, d2, p0, p1, p2, rfl, rfl, rfl, h0, h1, h2⟩ := trodAll_three hA
  obtain ⟨rfl, rfl⟩ := trodVars_none hV
  obtain ⟨a0, len, cap, rfl⟩ := okWide_slice Tryz.underlying22 (hval 0 22 v0 rfl rfl)
  obtain ⟨cs1, rfl, hs1⟩ := okWide_struct Tryz.underlying28 (hval 1 28 v1 rfl rfl)
  obtain ⟨cs2, rfl, hs2⟩ := okWide_struct Tryz.underlying33 (hval 2 33 v2 rfl rfl)
  have h0k := h0
  have h1k := h1
  have h2k := h2
  obtain ⟨fuel0, hf0⟩ := h0
  obtain ⟨fuel1, hf1⟩ := h1
  obtain ⟨fuel2, hf2⟩ := h2
  clear hA0
  simp only [List.append_nil] at hW'
  have hlt : ∀ x ∈ p0 ++ p1 ++ p2, x.block < W.heap.size := fun x hx => by simpa using hW'.lt x hx
  have ha0 := fun (W' : World) (hn : Below W.heap.size W W') => Below.trod mLaid (by kernel_rfl) (of_decide_eq_true (by kernel_rfl)) h0k hn (fun x hx => hlt x (by simp [hx]))
  have ha1 := fun (W' : World) (hn : Below W.heap.size W W') => Below.trod mLaid (by kernel_rfl) (of_decide_eq_true (by kernel_rfl)) h1k hn (fun x hx => hlt x (by simp [hx]))
  have ha2 := fun (W' : World) (hn : Below W.heap.size W W') => Below.trod mLaid (by kernel_rfl) (of_decide_eq_true (by kernel_rfl)) h2k hn (fun x hx => hlt x (by simp [hx]))
  have hf0' : DataW.trod enc Tryz.prog W 0 (fun _ => true) true fuel0 22 [.slice a0 len cap] = some (d0, p0) := hf0
  obtain ⟨l, A, cp, hv, hcap, hcm, hR, hfine⟩ := open_entries hf0'
  obtain ⟨rfl, rfl, rfl⟩ := Value.slice.inj hv
  have hlen : l.length ≤ 9223372036854775807 := by unfold maxLen at hcm; omega
  have hf1' : DataW.trod enc Tryz.prog W 0 (fun _ => true) true fuel1 28 cs1.toList = some (d1, p1) := hf1
  obtain ⟨c, hc, _⟩ := open_cid hf1'
  have hf2' : DataW.trod enc Tryz.prog W 0 (fun _ => true) true fuel2 33 cs2.toList = some (d2, p2) := hf2
  obtain ⟨o, ho, hom⟩ := open_opts hf2'
  obtain rfl : cs1 = (CidCells c).toArray := Array.ext' (by rw [hc]; rfl)
  obtain rfl : cs2 = o.cells.toArray := Array.ext' (by rw [ho])
  obtain ⟨hg5, ty, ev, he⟩ := notFound hL
  refine (lawP_ok l a0 cap c o hom ty ev W hR hlen hcap hg5 he hFit).mono ?_
  rintro e W' ⟨rfl, hb'⟩
  exact ⟨_, rfl, _, _, _, [], p0 ++ p1 ++ p2, [], hW', trodAll_mk1 (shut_bool Tryz.underlying4 _), by rw [List.append_assoc]; exact trodAll_mk3 (ha0 _ hb') (ha1 _ hb') (ha2 _ hb'), rfl, hb'.frame _, fun h => by cases h⟩
abbrev errP0 : ByteArray := { data := #[118, 97, 114, 105, 110, 116, 115, 32, 108, 97, 114, 103, 101, 114, 32, 116, 104, 97, 110, 32, 117, 105, 110, 116, 54, 51, 32, 110, 111, 116, 32, 115, 117, 112, 112, 111, 114, 116, 101, 100] }
abbrev errP1 : ByteArray := { data := #[118, 97, 114, 105, 110, 116, 32, 110, 111, 116, 32, 109, 105, 110, 105, 109, 97, 108, 108, 121, 32, 101, 110, 99, 111, 100, 101, 100] }
abbrev errP2 : ByteArray := { data := #[118, 97, 114, 105, 110, 116, 115, 32, 109, 97, 108, 102, 111, 114, 109, 101, 100, 44, 32, 99, 111, 117, 108, 100, 32, 110, 111, 116, 32, 114, 101, 97, 99, 104, 32, 116, 104, 101, 32, 101, 110, 100] }
abbrev errP3 : ByteArray := { data := #[109, 117, 108, 116, 105, 104, 97, 115, 104, 32, 116, 111, 111, 32, 115, 104, 111, 114, 116, 46, 32, 109, 117, 115, 116, 32, 98, 101, 32, 62, 61, 32, 50, 32, 98, 121, 116, 101, 115] }
abbrev errP4 : ByteArray := { data := #[117, 118, 97, 114, 105, 110, 116, 58, 32, 98, 117, 102, 102, 101, 114, 32, 116, 111, 111, 32, 115, 109, 97, 108, 108] }
abbrev errP5 : ByteArray := { data := #[117, 118, 97, 114, 105, 110, 116, 58, 32, 118, 97, 114, 105, 110, 116, 32, 116, 111, 111, 32, 98, 105, 103, 32, 40, 109, 97, 120, 32, 54, 52, 98, 105, 116, 41] }
abbrev errP6 : ByteArray := { data := #[110, 111, 116, 32, 102, 111, 117, 110, 100] }
abbrev errP7 : ByteArray := { data := #[110, 111, 116, 32, 115, 117, 112, 112, 111, 114, 116, 101, 100] }
noncomputable def lowP : Nat := (World.holding Tryz.prog default ⟨#[], #[], []⟩).heap.size
noncomputable def laidWorldP (os : Os) : World :=
  let w0 := World.holding Tryz.prog os ⟨#[.cells #[.string errP0] 193, .cells #[.string errP1] 193, .cells #[.string errP2] 193, .cells #[.string errP3] 193, .cells #[.string errP4] 193, .cells #[.string errP5] 193, .cells #[.string errP6] 193, .cells #[.string errP7] 193], #[], []⟩
  { w0 with heap := ((((((((w0.heap.modify 0 fun
      | .cells _ t frozen => .cells #[.iface 191 (.pointer (some ⟨lowP + 0, 0, none⟩))] t frozen
      | o => o).modify 1 fun
      | .cells _ t frozen => .cells #[.iface 191 (.pointer (some ⟨lowP + 1, 0, none⟩))] t frozen
      | o => o).modify 2 fun
      | .cells _ t frozen => .cells #[.iface 191 (.pointer (some ⟨lowP + 2, 0, none⟩))] t frozen
      | o => o).modify 9 fun
      | .cells _ t frozen => .cells #[.iface 191 (.pointer (some ⟨lowP + 3, 0, none⟩))] t frozen
      | o => o).modify 10 fun
      | .cells _ t frozen => .cells #[.iface 191 (.pointer (some ⟨lowP + 4, 0, none⟩))] t frozen
      | o => o).modify 11 fun
      | .cells _ t frozen => .cells #[.iface 191 (.pointer (some ⟨lowP + 5, 0, none⟩))] t frozen
      | o => o).modify 5 fun
      | .cells _ t frozen => .cells #[.iface 191 (.pointer (some ⟨lowP + 6, 0, none⟩))] t frozen
      | o => o).modify 6 fun
      | .cells _ t frozen => .cells #[.iface 191 (.pointer (some ⟨lowP + 7, 0, none⟩))] t frozen
      | o => o) }
theorem laid_metP (os : Os) (args : Array Value) : laidMet Tryz.prog Rows.fnStShouldRow.laid ((laidWorldP os).forCall (fun _ _ => 0) ⟨#[], args, []⟩).memory :=
  laidMet_of_run' 8 (by kernel_rfl) (by kernel_rfl)
theorem readsP (os : Os) {H : Type} (enc : TypeId × Value → H) : ∃ places, DataW.whole enc Tryz.prog ((laidWorldP os).forCall (fun _ _ => 0) ⟨#[], #[.slice none 0 0, .agg #[.int .u64 0, .int .u64 0, .int .u64 0, .string ⟨#[]⟩], .agg #[.bool false, .bool false, .bool false, .bool false, .bool false, .bool false, .int .u64 0, .int .u64 0, .int .u64 0, .int .u64 0, .int .u64 0, .int .u64 0]], []⟩).memory Tryz.f4.params.toList Rows.fnStShouldSpec.vars false #[Value.slice none 0 0, .agg #[.int .u64 0, .int .u64 0, .int .u64 0, .string ⟨#[]⟩], .agg #[.bool false, .bool false, .bool false, .bool false, .bool false, .bool false, .int .u64 0, .int .u64 0, .int .u64 0, .int .u64 0, .int .u64 0, .int .u64 0]].toList 8 = some ([.nil, .agg [.lit (.int .u64 0), .lit (.int .u64 0), .lit (.int .u64 0), .lit (.string [])], .agg [.lit (.bool false), .lit (.bool false), .lit (.bool false), .lit (.bool false), .lit (.bool false), .lit (.bool false), .lit (.int .u64 0), .lit (.int .u64 0), .lit (.int .u64 0), .lit (.int .u64 0), .lit (.int .u64 0), .lit (.int .u64 0)]], [], places) :=
  ⟨[], by kernel_rfl⟩

theorem liftedP (hFit : FitOkP) (os : Os) (started : os.Started) (H : Type) (enc : TypeId × Value → H) (F : Stop.Interp) :
    ReturnsInHanded {} Tryz.checked os 4 .any ((OpenSpec.ofChange Rows.fnStShouldSpec).preRow enc Tryz.prog Tryz.f4 Rows.fnStShouldRow.domain false Rows.fnStShouldRow.laid) (((OpenSpec.ofChange Rows.fnStShouldSpec).at F).post enc Tryz.prog Tryz.f4 false true false false) := by
  obtain ⟨places, hx⟩ := readsP os enc
  refine returnsInHanded_of_row (C := Tryz.checked) (s := OpenSpec.ofChange Rows.fnStShouldSpec) ownKP started (by kernel_rfl) Tryz.func4
    (witness_row_atRef (enc := enc) (C := Tryz.checked) false (laidWorldP os) #[.slice none 0 0, .agg #[.int .u64 0, .int .u64 0, .int .u64 0, .string ⟨#[]⟩], .agg #[.bool false, .bool false, .bool false, .bool false, .bool false, .bool false, .int .u64 0, .int .u64 0, .int .u64 0, .int .u64 0, .int .u64 0, .int .u64 0]] rfl (by kernel_rfl) (by kernel_rfl) (by kernel_rfl)
      (OpenSpec.preRow_of_cond 8 hx (by kernel_rfl) (fun k hk => by cases hk) (by kernel_rfl) (laid_metP os _))) ?_
  intro W base args ds gs before hval hW _ _ _ hL _ _
  exact contractP hFit H enc W base args ds gs before hval hW hL

theorem said_ofP (hFit : FitOkP) : Rows.FnStShouldSaid :=
  OpenClaim.holds_of_cond 4 Tryz.f4 rfl rfl rfl rfl rfl rfl rfl ⟨rfl, rfl, rfl, rfl, rfl⟩ rfl rfl rfl rfl rfl (by kernel_rfl) Tryz.func4 (by kernel_rfl)
    (of_decide_eq_true (by kernel_rfl)) (by unfold Func.isWrapper; first | (rw [if_pos (by decide +kernel)]; kernel_rfl) | (rw [if_neg (by decide +kernel)]; exact ⟨rfl, rfl⟩))
    (fun os started H enc _ F => by rw [OpenClaim.pre_eq_preRow]; exact liftedP hFit os started H enc F)

theorem plainP (f : FuncId) (fn : Func) (hf : Tryz.pinned.checked.prog.funcNamed "pub-droshky/laws.FnStShould" = some f) (hfn : Tryz.pinned.checked.prog.funcs[f]? = some fn) :
    true = Tryz.pinned.checked.prog.looks [] ∧ ∀ (j : Nat) t, fn.params[j]? = some t → Tryz.pinned.checked.prog.wantsStandIn t = false := by
  obtain rfl : f = 4 := Option.some.inj ((show Tryz.prog.funcNamed "pub-droshky/laws.FnStShould" = some 4 by kernel_rfl).symm.trans hf) |>.symm
  obtain rfl : fn = Tryz.f4 := (Option.some.inj (Tryz.func4.symm.trans hfn)).symm
  refine ⟨by kernel_rfl, fun j t ht => ?_⟩
  rw [Tryz.params4] at ht
  have hm : t = 22 ∨ t = 28 ∨ t = 33 := by simpa using Array.mem_of_getElem? ht
  rcases hm with rfl | rfl | rfl
  · exact (show Tryz.prog.wantsStandIn 22 = false by kernel_rfl)
  · exact (show Tryz.prog.wantsStandIn 28 = false by kernel_rfl)
  · exact (show Tryz.prog.wantsStandIn 33 = false by kernel_rfl)

theorem card_ofP (hFit : FitOkP) : Rows.FnStShouldCardSaid :=
  Claim7.holds_tied_plain_at .later [] _ _ _ _ (said_ofP hFit) (fun _ h => by cases h) (by kernel_rfl) (fun _ h => by cases h) fnStShould_row_tie rfl ⟨rfl, rfl⟩ (by kernel_rfl) rfl plainP (by kernel_rfl)
end Go.Proofs.YtifoicdnibgdaaaGreatDoor
