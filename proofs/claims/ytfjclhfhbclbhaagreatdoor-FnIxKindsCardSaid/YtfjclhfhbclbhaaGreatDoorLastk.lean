/- The row of FnIxKinds, and its card. -/
import Derived.Test.YtfjclhfhbclbhaaGreatDoorKl
import Derived.Test.YtfjclhfhbclbhaaGreatDoorRows
import Derived.Test.YtfjclhfhbclbhaaGreatDoorCards
import Derived.Test.YtfjclhfhbclbhaaGreatDoorTie
import Derived.ProofKit
import Derived.OpenShut
import Derived.Deep.Slices
import Derived.Deep.DeepHandedRow
import Derived.SizedLaws
import Derived.Deep.DeepWitnessRowRef
import Derived.Lib.LaidTab
import Derived.Stop.LaidErr
namespace Go.Proofs.YtfjclhfhbclbhaaGreatDoor
open Go.RowKit Go.ChangeShapes Go.WideShapes Go.ChangeAt Go.Deep
set_option linter.unusedVariables false
set_option linter.unusedSimpArgs false
set_option maxRecDepth 100000

theorem ownKK : ownKnob Tryz.prog.godebug = none := by kernel_rfl
theorem kLaid : laidOutB Tryz.prog = true := by kernel_rfl

section
variable {H : Type} {enc : TypeId × Value → H} {w : World} {base : Nat} {spare : Nat → Bool} {held : Bool}
theorem openK_u64 {fuel : Nat} {cs : List Value} {x : DataW H × List MemPlace} (h : DataW.trod enc Tryz.prog w base spare held fuel 22 cs = some x) : ∃ n : Nat, cs = [.int .u64 n] ∧ n < 18446744073709551616 := by
  obtain ⟨n, rfl, _, hw⟩ := DataW.trod_int Tryz.underlying22 h
  have hn : 0 ≤ n ∧ n ≤ 18446744073709551615 := by simpa [Lit.wf, IntKind.min, IntKind.max, IntKind.signed, IntKind.bits] using hw
  exact ⟨n.toNat, by rw [show ((n.toNat : Nat) : Int) = n by omega], by omega⟩
end

theorem starErrK : "*" ++ "errors.errorString" = "*errors.errorString" := by decide
theorem rowErrK (u : TypeId) (h : Tryz.prog.typeName? 3 u = some "*errors.errorString") : u = 117 :=
  typeName_ptr_named (nm := "errors.errorString") (by rw [starErrK]; kernel_rfl) (by kernel_rfl) (by decide) u (by rw [starErrK]; exact h)
/-- What stands in the variable ErrNotFound. -/
theorem notFoundK {W : World} (hL : laidMet Tryz.prog Rows.fnIxKindsRow.laid W) : 4 < W.heap.size ∧ ∃ a, W.cell? ⟨4, 0, none⟩ = some (.iface 117 (.pointer (some a))) := by
  have h9 := hL.tail.tail.tail.tail.tail.tail.tail.tail.tail
  obtain ⟨a, s, hv, _⟩ := laid_sentinel (n := "pub-droshky/pub/index.ErrNotFound") (g := 4) (ti := 37) (tp := 117) (te := 119) (ts := 9) h9 (by kernel_rfl) (by kernel_rfl) Tryz.underlying37 rowErrK Tryz.underlying117 Tryz.underlying119 rfl rfl Tryz.underlying9 (by kernel_rfl) (by kernel_rfl)
  have hc := World.var?_cell (g := 4) (by kernel_rfl) hv 0
  have hc' : W.cell? ⟨4, 0, none⟩ = some (.iface 117 (.pointer (some a))) := by simpa using hc
  exact ⟨World.block_lt_of_cell? W _ hc', _, hc'⟩

theorem contractK (H : Type) (enc : TypeId × Value → H) (W : World) (base : Nat) (args : Array Value) (ds gs : List (DataW H)) (before : List MemPlace)
    (hval : ∀ (j : Nat) t v, Tryz.f3.params[j]? = some t → args[j]? = some v → Value.okWide Tryz.prog W .any base t v)
    (hW : DataW.Whole enc Tryz.prog Tryz.f3.params.toList Rows.fnIxKindsSpec.vars false W args.toList ds gs before)
    (hL : laidMet Tryz.prog Rows.fnIxKindsRow.laid W) :
    Calls Tryz.prog 3 args W fun e W' => ∃ v, e = .returned v ∧ Rows.fnIxKindsSpec.post enc Tryz.prog Tryz.f3 false true false false W args v W' := by
  have hW' := hW
  obtain ⟨p, q, hA0, hV, rfl, hfz, hnd⟩ := hW
  have hA : DataW.TrodAll enc Tryz.prog W 0 (fun _ => true) true Tryz.f3.params.toList args.toList ds p := hA0
  rw [Tryz.params3] at hA hval
  obtain ⟨v0, v1, d0, d1, p0, p1, rfl, rfl, rfl, h0, h1⟩ := trodAll_two hA
  obtain ⟨rfl, rfl⟩ := trodVars_none hV
  obtain ⟨n0, rfl⟩ := okWide_int Tryz.underlying22 (hval 0 22 v0 rfl rfl)
  obtain ⟨s, rfl⟩ := okWide_string Tryz.underlying9 (hval 1 9 v1 rfl rfl)
  have h0k := h0
  have h1k := h1
  obtain ⟨fuel0, hf0⟩ := h0
  clear hA0
  simp only [List.append_nil] at hW'
  have hlt : ∀ x ∈ p0 ++ p1, x.block < W.heap.size := fun x hx => by simpa using hW'.lt x hx
  have ha0 := fun (W' : World) (hn : Below W.heap.size W W') => Below.trod kLaid (by kernel_rfl) (of_decide_eq_true (by kernel_rfl)) h0k hn (fun x hx => hlt x (by simp [hx]))
  have ha1 := fun (W' : World) (hn : Below W.heap.size W W') => Below.trod kLaid (by kernel_rfl) (of_decide_eq_true (by kernel_rfl)) h1k hn (fun x hx => hlt x (by simp [hx]))
  have hf0' : DataW.trod enc Tryz.prog W 0 (fun _ => true) true fuel0 22 [.int .u64 n0] = some (d0, p0) := hf0
  obtain ⟨n, hn0, hn⟩ := openK_u64 hf0'
  obtain rfl : n0 = (n : Int) := by simpa using hn0
  obtain ⟨hg5, a, he⟩ := notFoundK hL
  refine (FnIxKinds_ok n hn s a W hg5 he).mono ?_
  rintro e W' ⟨rfl, hb'⟩
  exact ⟨_, rfl, _, _, _, [], p0 ++ p1, [], hW', trodAll_mk1 (shut_bool Tryz.underlying4 _), trodAll_mk2 (ha0 _ hb') (ha1 _ hb'), rfl, hb'.frame _, fun h => by cases h⟩

abbrev errK0 : ByteArray := { data := #[69, 79, 70] }
abbrev errK1 : ByteArray := { data := #[117, 110, 101, 120, 112, 101, 99, 116, 101, 100, 32, 69, 79, 70] }
abbrev errK2 : ByteArray := { data := #[118, 97, 114, 105, 110, 116, 115, 32, 108, 97, 114, 103, 101, 114, 32, 116, 104, 97, 110, 32, 117, 105, 110, 116, 54, 51, 32, 110, 111, 116, 32, 115, 117, 112, 112, 111, 114, 116, 101, 100] }
abbrev errK3 : ByteArray := { data := #[118, 97, 114, 105, 110, 116, 115, 32, 109, 97, 108, 102, 111, 114, 109, 101, 100, 44, 32, 99, 111, 117, 108, 100, 32, 110, 111, 116, 32, 114, 101, 97, 99, 104, 32, 116, 104, 101, 32, 101, 110, 100] }
abbrev errK4 : ByteArray := { data := #[118, 97, 114, 105, 110, 116, 32, 110, 111, 116, 32, 109, 105, 110, 105, 109, 97, 108, 108, 121, 32, 101, 110, 99, 111, 100, 101, 100] }
abbrev errK5 : ByteArray := { data := #[109, 117, 108, 116, 105, 104, 97, 115, 104, 32, 116, 111, 111, 32, 115, 104, 111, 114, 116, 46, 32, 109, 117, 115, 116, 32, 98, 101, 32, 62, 61, 32, 50, 32, 98, 121, 116, 101, 115] }
abbrev errK6 : ByteArray := { data := #[117, 118, 97, 114, 105, 110, 116, 58, 32, 98, 117, 102, 102, 101, 114, 32, 116, 111, 111, 32, 115, 109, 97, 108, 108] }
abbrev errK7 : ByteArray := { data := #[117, 118, 97, 114, 105, 110, 116, 58, 32, 118, 97, 114, 105, 110, 116, 32, 116, 111, 111, 32, 98, 105, 103, 32, 40, 109, 97, 120, 32, 54, 52, 98, 105, 116, 41] }
abbrev errK8 : ByteArray := { data := #[110, 111, 116, 32, 102, 111, 117, 110, 100] }
noncomputable def lowK : Nat := (World.holding Tryz.prog default ⟨#[], #[], []⟩).heap.size
noncomputable def laidWorldK (os : Os) : World :=
  let w0 := World.holding Tryz.prog os ⟨#[.cells #[.string errK0] 119, .cells #[.string errK1] 119, .cells #[.string errK2] 119, .cells #[.string errK3] 119, .cells #[.string errK4] 119, .cells #[.string errK5] 119, .cells #[.string errK6] 119, .cells #[.string errK7] 119, .cells #[.string errK8] 119], #[], []⟩
  { w0 with heap := (((((((((w0.heap.modify 0 fun
      | .cells _ t frozen => .cells #[.iface 117 (.pointer (some ⟨lowK + 0, 0, none⟩))] t frozen
      | o => o).modify 1 fun
      | .cells _ t frozen => .cells #[.iface 117 (.pointer (some ⟨lowK + 1, 0, none⟩))] t frozen
      | o => o).modify 2 fun
      | .cells _ t frozen => .cells #[.iface 117 (.pointer (some ⟨lowK + 2, 0, none⟩))] t frozen
      | o => o).modify 11 fun
      | .cells _ t frozen => .cells #[.iface 117 (.pointer (some ⟨lowK + 3, 0, none⟩))] t frozen
      | o => o).modify 3 fun
      | .cells _ t frozen => .cells #[.iface 117 (.pointer (some ⟨lowK + 4, 0, none⟩))] t frozen
      | o => o).modify 8 fun
      | .cells _ t frozen => .cells #[.iface 117 (.pointer (some ⟨lowK + 5, 0, none⟩))] t frozen
      | o => o).modify 9 fun
      | .cells _ t frozen => .cells #[.iface 117 (.pointer (some ⟨lowK + 6, 0, none⟩))] t frozen
      | o => o).modify 10 fun
      | .cells _ t frozen => .cells #[.iface 117 (.pointer (some ⟨lowK + 7, 0, none⟩))] t frozen
      | o => o).modify 4 fun
      | .cells _ t frozen => .cells #[.iface 117 (.pointer (some ⟨lowK + 8, 0, none⟩))] t frozen
      | o => o) }
theorem laid_metK (os : Os) (args : Array Value) : laidMet Tryz.prog Rows.fnIxKindsRow.laid ((laidWorldK os).forCall (fun _ _ => 0) ⟨#[], args, []⟩).memory :=
  laidMet_of_run' 8 (by kernel_rfl) (by kernel_rfl)
theorem readsK (os : Os) {H : Type} (enc : TypeId × Value → H) : ∃ places, DataW.whole enc Tryz.prog ((laidWorldK os).forCall (fun _ _ => 0) ⟨#[], #[.int .u64 0, .string ⟨#[]⟩], []⟩).memory Tryz.f3.params.toList Rows.fnIxKindsSpec.vars false #[Value.int .u64 0, .string ⟨#[]⟩].toList 8 = some ([.lit (.int .u64 0), .lit (.string [])], [], places) :=
  ⟨[], by kernel_rfl⟩

theorem liftedK (os : Os) (started : os.Started) (H : Type) (enc : TypeId × Value → H) (F : Stop.Interp) :
    ReturnsInHanded {} Tryz.checked os 3 .any ((OpenSpec.ofChange Rows.fnIxKindsSpec).preRow enc Tryz.prog Tryz.f3 Rows.fnIxKindsRow.domain false Rows.fnIxKindsRow.laid) (((OpenSpec.ofChange Rows.fnIxKindsSpec).at F).post enc Tryz.prog Tryz.f3 false true false false) := by
  obtain ⟨places, hx⟩ := readsK os enc
  refine returnsInHanded_of_row (C := Tryz.checked) (s := OpenSpec.ofChange Rows.fnIxKindsSpec) ownKK started (by kernel_rfl) Tryz.func3
    (witness_row_atRef (enc := enc) (C := Tryz.checked) false (laidWorldK os) #[.int .u64 0, .string ⟨#[]⟩] rfl (by kernel_rfl) (by kernel_rfl) (by kernel_rfl)
      (OpenSpec.preRow_of_cond 8 hx (by kernel_rfl) (fun k hk => by cases hk) (by kernel_rfl) (laid_metK os _))) ?_
  intro W base args ds gs before hval hW _ _ _ hL _ _
  exact contractK H enc W base args ds gs before hval hW hL

theorem said_ofK : Rows.FnIxKindsSaid :=
  OpenClaim.holds_of_cond 3 Tryz.f3 rfl rfl rfl rfl rfl rfl rfl ⟨rfl, rfl, rfl, rfl, rfl⟩ rfl rfl rfl rfl rfl (by kernel_rfl) Tryz.func3 (by kernel_rfl)
    (of_decide_eq_true (by kernel_rfl)) (by unfold Func.isWrapper; first | (rw [if_pos (by decide +kernel)]; kernel_rfl) | (rw [if_neg (by decide +kernel)]; exact ⟨rfl, rfl⟩))
    (fun os started H enc _ F => by rw [OpenClaim.pre_eq_preRow]; exact liftedK os started H enc F)

theorem plainK (f : FuncId) (fn : Func) (hf : Tryz.pinned.checked.prog.funcNamed "pub-droshky/laws.FnIxKinds" = some f) (hfn : Tryz.pinned.checked.prog.funcs[f]? = some fn) :
    true = Tryz.pinned.checked.prog.looks [] ∧ ∀ (j : Nat) t, fn.params[j]? = some t → Tryz.pinned.checked.prog.wantsStandIn t = false := by
  obtain rfl : f = 3 := Option.some.inj ((show Tryz.prog.funcNamed "pub-droshky/laws.FnIxKinds" = some 3 by kernel_rfl).symm.trans hf) |>.symm
  obtain rfl : fn = Tryz.f3 := (Option.some.inj (Tryz.func3.symm.trans hfn)).symm
  refine ⟨by kernel_rfl, fun j t ht => ?_⟩
  rw [Tryz.params3] at ht
  have hm : t = 22 ∨ t = 9 := by simpa using Array.mem_of_getElem? ht
  rcases hm with rfl | rfl
  · exact (show Tryz.prog.wantsStandIn 22 = false by kernel_rfl)
  · exact (show Tryz.prog.wantsStandIn 9 = false by kernel_rfl)

/-- FnIxKinds. -/
theorem fnIxKinds_card : Rows.FnIxKindsCardSaid :=
  Claim7.holds_tied_plain_at .later [] _ _ _ _ said_ofK (fun _ h => by cases h) (by kernel_rfl) (fun _ h => by cases h) fnIxKinds_row_tie rfl ⟨rfl, rfl⟩ (by kernel_rfl) rfl plainK (by kernel_rfl)
end Go.Proofs.YtfjclhfhbclbhaaGreatDoor
