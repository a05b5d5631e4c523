import Derived.Test.YtobdjcnojbnegaaGreatDoorG32
import Derived.Test.YtobdjcnojbnegaaGreatDoorRows
import Derived.Test.YtobdjcnojbnegaaGreatDoorCards
import Derived.Test.YtobdjcnojbnegaaGreatDoorTie
import Derived.ProofKit
import Derived.OpenShut
import Derived.Deep.Slices
import Derived.Deep.DeepHandedRow
import Derived.SizedLaws
import Derived.Deep.DeepWitnessRowRef
import Derived.Lib.LaidTab
import Derived.Stop.LaidErr
/- The row of FnIxOrder, and its card. -/
namespace Go.Proofs.YtobdjcnojbnegaaGreatDoor
open Go.RowKit Go.ChangeShapes Go.WideShapes Go.ChangeAt Go.Deep
set_option linter.unusedVariables false
set_option linter.unusedSimpArgs false
set_option maxRecDepth 100000

theorem ownKK : ownKnob Tryz.prog.godebug = none := by kernel_rfl
theorem kLaid : laidOutB Tryz.prog = true := by kernel_rfl

def Fine (y : CidOf × Int) : Prop := y.1.ver < 18446744073709551616 ∧ y.1.codec < 18446744073709551616 ∧ y.1.code < 18446744073709551616 ∧ y.1.dig.length ≤ maxLen ∧ 0 ≤ y.2 ∧ y.2 < 18446744073709551616

section
variable {H : Type} {enc : TypeId × Value → H} {w : World} {base : Nat} {spare : Nat → Bool} {held : Bool}

theorem open_u64 {fuel : Nat} {cs : List Value} {x : DataW H × List MemPlace} (h : DataW.trod enc Tryz.prog w base spare held fuel 23 cs = some x) : ∃ n : Nat, cs = [.int .u64 n] ∧ n < 18446744073709551616 := by
  obtain ⟨n, rfl, _, hw⟩ := DataW.trod_int Tryz.underlying23 h
  have hn : 0 ≤ n ∧ n ≤ 18446744073709551615 := by simpa [Lit.wf, IntKind.min, IntKind.max, IntKind.signed, IntKind.bits] using hw
  exact ⟨n.toNat, by rw [show ((n.toNat : Nat) : Int) = n by omega], by omega⟩

theorem open_u8 {fuel : Nat} {cs : List Value} {x : DataW H × List MemPlace} (h : DataW.trod enc Tryz.prog w base spare held fuel 5 cs = some x) : ∃ n : Nat, cs = [.int .u8 n] ∧ n < 256 := by
  obtain ⟨n, rfl, _, hw⟩ := DataW.trod_int Tryz.underlying5 h
  have hn : 0 ≤ n ∧ n ≤ 255 := by simpa [Lit.wf, IntKind.min, IntKind.max, IntKind.signed, IntKind.bits] using hw
  exact ⟨n.toNat, by rw [show ((n.toNat : Nat) : Int) = n by omega], by omega⟩

theorem open_cid {fuel : Nat} {cs : List Value} {x : DataW H × List MemPlace} (h : DataW.trod enc Tryz.prog w base spare held fuel 25 cs = some x) :
    ∃ c : CidOf, cs = [.int .u64 c.ver, .int .u64 c.codec, .int .u64 c.code, .string (sOf c.dig)] ∧ c.ver < 18446744073709551616 ∧ c.codec < 18446744073709551616 ∧ c.code < 18446744073709551616 ∧ c.dig.length ≤ maxLen := by
  obtain ⟨xs, n, rfl, rfl, hl, hx, hf⟩ := DataW.trod_struct Tryz.underlying25 h
  have hc : Tryz.prog.cellsOf 25 = 4 := by kernel_rfl
  have hc3 : Tryz.prog.cellsOf 23 = 1 := by kernel_rfl
  have hc4 : Tryz.prog.cellsOf 9 = 1 := by kernel_rfl
  rw [hc] at hl
  obtain ⟨c0, c1, c2, c3, rfl⟩ : ∃ a b c d, cs = [a, b, c, d] := by
    match cs, hl with
    | [a, b, c, d], _ => exact ⟨a, b, c, d, rfl⟩
  obtain ⟨x0, x1, x2, x3, rfl⟩ : ∃ a b c d, xs = [a, b, c, d] := by
    match xs, hx with
    | [a, b, c, d], _ => exact ⟨a, b, c, d, rfl⟩
  have f0 := hf 0 _ rfl
  have f1 := hf 1 _ rfl
  have f2 := hf 2 _ rfl
  have f3 := hf 3 _ rfl
  simp [hc3, hc4] at f0 f1 f2 f3
  obtain ⟨v, e0, h0⟩ := open_u64 f0
  obtain ⟨k, e1, h1⟩ := open_u64 f1
  obtain ⟨d, e2, h2⟩ := open_u64 f2
  obtain ⟨s, e3, _, h3⟩ := DataW.trod_string Tryz.underlying9 f3
  simp at e0 e1 e2 e3
  subst e0 e1 e2 e3
  exact ⟨⟨v, k, d, s.data.toList⟩, by simp [sOf], h0, h1, h2, by simpa using h3⟩

theorem open_entry {fuel : Nat} {cs : List Value} {x : DataW H × List MemPlace} (h : DataW.trod enc Tryz.prog w base spare held fuel 40 cs = some x) : ∃ y : CidOf × Int, cs = EntCells y ∧ Fine y := by
  obtain ⟨xs, n, rfl, rfl, hl, hx, hf⟩ := DataW.trod_struct Tryz.underlying40 h
  have hc : Tryz.prog.cellsOf 40 = 5 := by kernel_rfl
  have hc2 : Tryz.prog.cellsOf 25 = 4 := by kernel_rfl
  have hc3 : Tryz.prog.cellsOf 23 = 1 := by kernel_rfl
  rw [hc] at hl
  obtain ⟨c0, c1, c2, c3, c4, rfl⟩ : ∃ a b c d e, cs = [a, b, c, d, e] := by
    match cs, hl with
    | [a, b, c, d, e], _ => exact ⟨a, b, c, d, e, rfl⟩
  obtain ⟨x0, x1, rfl⟩ : ∃ a b, xs = [a, b] := by
    match xs, hx with
    | [a, b], _ => exact ⟨a, b, rfl⟩
  have f0 := hf 0 _ rfl
  have f1 := hf 1 _ rfl
  simp [hc2, hc3] at f0 f1
  obtain ⟨c, e0, h0, h1, h2, h3⟩ := open_cid f0
  obtain ⟨o, e1, h4⟩ := open_u64 f1
  simp at e0 e1
  obtain ⟨rfl, rfl, rfl, rfl⟩ := e0
  subst e1
  exact ⟨(c, o), rfl, ⟨h0, h1, h2, h3, by simp only; omega⟩⟩

/-- A slice of entries that came in. -/
theorem open_entries {W : World} {fuel : Nat} {v : Value} {x : DataW H × List MemPlace} (h : DataW.trod enc Tryz.prog W base spare held fuel 22 [v] = some x) :
    ∃ (l : List (CidOf × Int)) (A : Option Addr) (cap : Nat), v = .slice A l.length cap ∧ (A = none → cap = 0) ∧ l.length ≤ cap ∧ cap ≤ maxLen ∧ RowsAt W A l ∧ ∀ y, y ∈ l → Fine y := by
  have hc : Tryz.prog.cellsOf 40 = 5 := by kernel_rfl
  rcases open_slice Tryz.underlying22 h with ⟨hcs, _⟩ | ⟨a, len, cap, m, n, D, Pl, hcs, _, hlc, hcm, hm, _, hall⟩
  · simp at hcs
    exact ⟨[], none, 0, hcs, fun _ => rfl, Nat.le_refl _, by unfold maxLen; omega, .inl rfl, by simp⟩
  · simp at hcs
    subst hcs
    have hlm : len ≤ m := by rw [hm]; split <;> omega
    have hrow : ∀ i, ∃ y : CidOf × Int, i < len → Fine y ∧ W.cells? base (a.add (i * 5)) 5 = some (EntCells y) := by
      intro i
      by_cases hi : i < len
      · obtain ⟨cs', h1, h2⟩ := hall i (by omega)
        rw [hc] at h1
        obtain ⟨y, rfl, hy⟩ := open_entry h2
        exact ⟨y, fun _ => ⟨hy, h1⟩⟩
      · exact ⟨(⟨0, 0, 0, []⟩, 0), fun h' => absurd h' hi⟩
    obtain ⟨f, hf⟩ := Classical.axiomOfChoice hrow
    refine ⟨(List.range len).map f, some a, cap, by simp, (fun e => by cases e), by simpa using hlc, hcm, ?_, ?_⟩
    · by_cases h0 : len = 0
      · subst h0; exact .inl rfl
      · have hsp : a.spot = none := by
          have h1 := (World.cells?_some (hf 0 (by omega)).2).2.2 0 (by omega)
          simp only [Nat.zero_mul, Addr.add, if_true] at h1
          exact World.cell?_spot (h1.trans (show _ = some _ from rfl))
        obtain ⟨g, o, sp⟩ := a
        simp only at hsp
        subst hsp
        refine .inr ⟨g, o, rfl, fun i y hi j u hj => ?_⟩
        have hil : i < len := by have := (List.getElem?_eq_some_iff.1 hi).1; simpa using this
        have hy : f i = y := by
          rw [List.getElem?_map, List.getElem?_range hil] at hi
          exact Option.some.inj hi
        have hj5 : j < 5 := by have := (List.getElem?_eq_some_iff.1 hj).1; simpa [show ∀ y, (EntCells y).length = 5 from fun _ => rfl] using this
        have h1 := (World.cells?_some (hf i hil).2).2.2 j hj5
        rw [hy, hj] at h1
        have ha : ((⟨g, o, none⟩ : Addr).add (i * 5)).add j = ⟨g, o + i * 5 + j, none⟩ := by
          unfold Addr.add
          split <;> split <;> simp_all
        rw [ha] at h1
        exact h1
    · intro y hy
      obtain ⟨i, hi, rfl⟩ := List.mem_map.1 hy
      exact (hf i (List.mem_range.1 hi)).1
end
theorem starErrK : "*" ++ "errors.errorString" = "*errors.errorString" := by decide
theorem rowErrK (u : TypeId) (h : Tryz.prog.typeName? 3 u = some "*errors.errorString") : u = 168 :=
  typeName_ptr_named (nm := "errors.errorString") (by rw [starErrK]; kernel_rfl) (by kernel_rfl) (by decide) u (by rw [starErrK]; exact h)
/-- What stands in the variable ErrNotFound. -/
theorem notFoundK {W : World} (hL : laidMet Tryz.prog Rows.fnIxOrderRow.laid W) : 0 < W.heap.size ∧ ∃ a, W.cell? ⟨0, 0, none⟩ = some (.iface 168 (.pointer (some a))) := by
  have h9 := hL.tail.tail.tail.tail.tail.tail.tail.tail.tail
  obtain ⟨a, s, hv, _⟩ := laid_sentinel (n := "pub-droshky/pub/index.ErrNotFound") (g := 0) (ti := 69) (tp := 168) (te := 170) (ts := 9) h9 (by kernel_rfl) (by kernel_rfl) Tryz.underlying69 rowErrK Tryz.underlying168 Tryz.underlying170 rfl rfl Tryz.underlying9 (by kernel_rfl) (by kernel_rfl)
  have hc := World.var?_cell (g := 0) (by kernel_rfl) hv 0
  have hc' : W.cell? ⟨0, 0, none⟩ = some (.iface 168 (.pointer (some a))) := by simpa using hc
  exact ⟨World.block_lt_of_cell? W _ hc', _, hc'⟩

theorem contractK (H : Type) (enc : TypeId × Value → H) (W : World) (base : Nat) (args : Array Value) (ds gs : List (DataW H)) (before : List MemPlace)
    (hval : ∀ (j : Nat) t v, Tryz.f4.params[j]? = some t → args[j]? = some v → Value.okWide Tryz.prog W .any base t v)
    (hW : DataW.Whole enc Tryz.prog Tryz.f4.params.toList Rows.fnIxOrderSpec.vars false W args.toList ds gs before)
    (hL : laidMet Tryz.prog Rows.fnIxOrderRow.laid W) :
    Calls Tryz.prog 4 args W fun e W' => ∃ v, e = .returned v ∧ Rows.fnIxOrderSpec.post enc Tryz.prog Tryz.f4 false true false false W args v W' := by
  have hW' := hW
  obtain ⟨p, q, hA0, hV, rfl, hfz, hnd⟩ := hW
  have hA : DataW.TrodAll enc Tryz.prog W 0 (fun _ => true) true Tryz.f4.params.toList args.toList ds p := hA0
  rw [Tryz.params4] at hA hval
  obtain ⟨v0, v1, v2, d0, d1, d2, p0, p1, p2, rfl, rfl, rfl, h0, h1, h2⟩ := trodAll_three hA
  obtain ⟨rfl, rfl⟩ := trodVars_none hV
  obtain ⟨a0, len, cap, rfl⟩ := okWide_slice Tryz.underlying22 (hval 0 22 v0 rfl rfl)
  obtain ⟨n0, rfl⟩ := okWide_int Tryz.underlying23 (hval 1 23 v1 rfl rfl)
  obtain ⟨n2, rfl⟩ := okWide_int Tryz.underlying5 (hval 2 5 v2 rfl rfl)
  have h0k := h0
  have h1k := h1
  have h2k := h2
  obtain ⟨fuel0, hf0⟩ := h0
  obtain ⟨fuel1, hf1⟩ := h1
  obtain ⟨fuel2, hf2⟩ := h2
  clear hA0
  simp only [List.append_nil] at hW'
  have hlt : ∀ x ∈ p0 ++ p1 ++ p2, x.block < W.heap.size := fun x hx => by simpa using hW'.lt x hx
  have ha0 := fun (W' : World) (hn : Below W.heap.size W W') => Below.trod kLaid (by kernel_rfl) (of_decide_eq_true (by kernel_rfl)) h0k hn (fun x hx => hlt x (by simp [hx]))
  have ha1 := fun (W' : World) (hn : Below W.heap.size W W') => Below.trod kLaid (by kernel_rfl) (of_decide_eq_true (by kernel_rfl)) h1k hn (fun x hx => hlt x (by simp [hx]))
  have ha2 := fun (W' : World) (hn : Below W.heap.size W W') => Below.trod kLaid (by kernel_rfl) (of_decide_eq_true (by kernel_rfl)) h2k hn (fun x hx => hlt x (by simp [hx]))
  have hf0' : DataW.trod enc Tryz.prog W 0 (fun _ => true) true fuel0 22 [.slice a0 len cap] = some (d0, p0) := hf0
  obtain ⟨l, A, cp, hv, hAn, hcap, hcm, hR, hfine⟩ := open_entries hf0'
  obtain ⟨rfl, rfl, rfl⟩ := Value.slice.inj hv
  have hlen : l.length ≤ 9223372036854775807 := by unfold maxLen at hcm; omega
  have hf1' : DataW.trod enc Tryz.prog W 0 (fun _ => true) true fuel1 23 [.int .u64 n0] = some (d1, p1) := hf1
  obtain ⟨n, hn0, hn⟩ := open_u64 hf1'
  obtain rfl : n0 = (n : Int) := by simpa using hn0
  have hf2' : DataW.trod enc Tryz.prog W 0 (fun _ => true) true fuel2 5 [.int .u8 n2] = some (d2, p2) := hf2
  obtain ⟨tn, htn, htl⟩ := open_u8 hf2'
  obtain rfl : n2 = (tn : Int) := by simpa using htn
  obtain ⟨hg5, a, he⟩ := notFoundK hL
  refine (FnIxOrder_ok l a0 cap n tn W htl hR hlen hcap (fun x hx => ⟨(hfine x hx).2.2.2.2.1, (hfine x hx).2.2.2.2.2⟩) a hg5 he).mono ?_
  rintro e W' ⟨rfl, hb'⟩
  exact ⟨_, rfl, _, _, _, [], p0 ++ p1 ++ p2, [], hW', trodAll_mk1 (shut_bool Tryz.underlying4 _), by rw [List.append_assoc]; exact trodAll_mk3 (ha0 _ hb') (ha1 _ hb') (ha2 _ hb'), rfl, hb'.frame _, fun h => by cases h⟩

abbrev errK0 : ByteArray := { data := #[69, 79, 70] }
abbrev errK1 : ByteArray := { data := #[117, 110, 101, 120, 112, 101, 99, 116, 101, 100, 32, 69, 79, 70] }
abbrev errK2 : ByteArray := { data := #[118, 97, 114, 105, 110, 116, 115, 32, 108, 97, 114, 103, 101, 114, 32, 116, 104, 97, 110, 32, 117, 105, 110, 116, 54, 51, 32, 110, 111, 116, 32, 115, 117, 112, 112, 111, 114, 116, 101, 100] }
abbrev errK3 : ByteArray := { data := #[118, 97, 114, 105, 110, 116, 115, 32, 109, 97, 108, 102, 111, 114, 109, 101, 100, 44, 32, 99, 111, 117, 108, 100, 32, 110, 111, 116, 32, 114, 101, 97, 99, 104, 32, 116, 104, 101, 32, 101, 110, 100] }
abbrev errK4 : ByteArray := { data := #[118, 97, 114, 105, 110, 116, 32, 110, 111, 116, 32, 109, 105, 110, 105, 109, 97, 108, 108, 121, 32, 101, 110, 99, 111, 100, 101, 100] }
abbrev errK5 : ByteArray := { data := #[109, 117, 108, 116, 105, 104, 97, 115, 104, 32, 116, 111, 111, 32, 115, 104, 111, 114, 116, 46, 32, 109, 117, 115, 116, 32, 98, 101, 32, 62, 61, 32, 50, 32, 98, 121, 116, 101, 115] }
abbrev errK6 : ByteArray := { data := #[117, 118, 97, 114, 105, 110, 116, 58, 32, 98, 117, 102, 102, 101, 114, 32, 116, 111, 111, 32, 115, 109, 97, 108, 108] }
abbrev errK7 : ByteArray := { data := #[117, 118, 97, 114, 105, 110, 116, 58, 32, 118, 97, 114, 105, 110, 116, 32, 116, 111, 111, 32, 98, 105, 103, 32, 40, 109, 97, 120, 32, 54, 52, 98, 105, 116, 41] }
abbrev errK8 : ByteArray := { data := #[110, 111, 116, 32, 102, 111, 117, 110, 100] }
noncomputable def lowK : Nat := (World.holding Tryz.prog default ⟨#[], #[], []⟩).heap.size
noncomputable def laidWorldK (os : Os) : World :=
  let w0 := World.holding Tryz.prog os ⟨#[.cells #[.string errK0] 170, .cells #[.string errK1] 170, .cells #[.string errK2] 170, .cells #[.string errK3] 170, .cells #[.string errK4] 170, .cells #[.string errK5] 170, .cells #[.string errK6] 170, .cells #[.string errK7] 170, .cells #[.string errK8] 170], #[], []⟩
  { w0 with heap := (((((((((w0.heap.modify 1 fun
      | .cells _ t frozen => .cells #[.iface 168 (.pointer (some ⟨lowK + 0, 0, none⟩))] t frozen
      | o => o).modify 2 fun
      | .cells _ t frozen => .cells #[.iface 168 (.pointer (some ⟨lowK + 1, 0, none⟩))] t frozen
      | o => o).modify 3 fun
      | .cells _ t frozen => .cells #[.iface 168 (.pointer (some ⟨lowK + 2, 0, none⟩))] t frozen
      | o => o).modify 11 fun
      | .cells _ t frozen => .cells #[.iface 168 (.pointer (some ⟨lowK + 3, 0, none⟩))] t frozen
      | o => o).modify 4 fun
      | .cells _ t frozen => .cells #[.iface 168 (.pointer (some ⟨lowK + 4, 0, none⟩))] t frozen
      | o => o).modify 8 fun
      | .cells _ t frozen => .cells #[.iface 168 (.pointer (some ⟨lowK + 5, 0, none⟩))] t frozen
      | o => o).modify 9 fun
      | .cells _ t frozen => .cells #[.iface 168 (.pointer (some ⟨lowK + 6, 0, none⟩))] t frozen
      | o => o).modify 10 fun
      | .cells _ t frozen => .cells #[.iface 168 (.pointer (some ⟨lowK + 7, 0, none⟩))] t frozen
      | o => o).modify 0 fun
      | .cells _ t frozen => .cells #[.iface 168 (.pointer (some ⟨lowK + 8, 0, none⟩))] t frozen
      | o => o) }
theorem laid_metK (os : Os) (args : Array Value) : laidMet Tryz.prog Rows.fnIxOrderRow.laid ((laidWorldK os).forCall (fun _ _ => 0) ⟨#[], args, []⟩).memory :=
  laidMet_of_run' 8 (by kernel_rfl) (by kernel_rfl)
theorem readsK (os : Os) {H : Type} (enc : TypeId × Value → H) : ∃ places, DataW.whole enc Tryz.prog ((laidWorldK os).forCall (fun _ _ => 0) ⟨#[], #[.slice none 0 0, .int .u64 0, .int .u8 0], []⟩).memory Tryz.f4.params.toList Rows.fnIxOrderSpec.vars false #[Value.slice none 0 0, .int .u64 0, .int .u8 0].toList 8 = some ([.nil, .lit (.int .u64 0), .lit (.int .u8 0)], [], places) :=
  ⟨[], by kernel_rfl⟩

theorem liftedK (os : Os) (started : os.Started) (H : Type) (enc : TypeId × Value → H) (F : Stop.Interp) :
    ReturnsInHanded {} Tryz.checked os 4 .any ((OpenSpec.ofChange Rows.fnIxOrderSpec).preRow enc Tryz.prog Tryz.f4 Rows.fnIxOrderRow.domain false Rows.fnIxOrderRow.laid) (((OpenSpec.ofChange Rows.fnIxOrderSpec).at F).post enc Tryz.prog Tryz.f4 false true false false) := by
  obtain ⟨places, hx⟩ := readsK os enc
  refine returnsInHanded_of_row (C := Tryz.checked) (s := OpenSpec.ofChange Rows.fnIxOrderSpec) ownKK started (by kernel_rfl) Tryz.func4
    (witness_row_atRef (enc := enc) (C := Tryz.checked) false (laidWorldK os) #[.slice none 0 0, .int .u64 0, .int .u8 0] rfl (by kernel_rfl) (by kernel_rfl) (by kernel_rfl)
      (OpenSpec.preRow_of_cond 8 hx (by kernel_rfl) (fun k hk => by cases hk) (by kernel_rfl) (laid_metK os _))) ?_
  intro W base args ds gs before hval hW _ _ _ hL _ _
  exact contractK H enc W base args ds gs before hval hW hL

theorem said_ofK : Rows.FnIxOrderSaid :=
  OpenClaim.holds_of_cond 4 Tryz.f4 rfl rfl rfl rfl rfl rfl rfl ⟨rfl, rfl, rfl, rfl, rfl⟩ rfl rfl rfl rfl rfl (by kernel_rfl) Tryz.func4 (by kernel_rfl)
    (of_decide_eq_true (by kernel_rfl)) (by unfold Func.isWrapper; first | (rw [if_pos (by decide +kernel)]; kernel_rfl) | (rw [if_neg (by decide +kernel)]; exact ⟨rfl, rfl⟩))
    (fun os started H enc _ F => by rw [OpenClaim.pre_eq_preRow]; exact liftedK os started H enc F)

theorem plainK (f : FuncId) (fn : Func) (hf : Tryz.pinned.checked.prog.funcNamed "pub-droshky/laws.FnIxOrder" = some f) (hfn : Tryz.pinned.checked.prog.funcs[f]? = some fn) :
    true = Tryz.pinned.checked.prog.looks [] ∧ ∀ (j : Nat) t, fn.params[j]? = some t → Tryz.pinned.checked.prog.wantsStandIn t = false := by
  obtain rfl : f = 4 := Option.some.inj ((show Tryz.prog.funcNamed "pub-droshky/laws.FnIxOrder" = some 4 by kernel_rfl).symm.trans hf) |>.symm
  obtain rfl : fn = Tryz.f4 := (Option.some.inj (Tryz.func4.symm.trans hfn)).symm
  refine ⟨by kernel_rfl, fun j t ht => ?_⟩
  rw [Tryz.params4] at ht
  have hm : t = 22 ∨ t = 23 ∨ t = 5 := by simpa using Array.mem_of_getElem? ht
  rcases hm with rfl | rfl | rfl
  · exact (show Tryz.prog.wantsStandIn 22 = false by kernel_rfl)
  · exact (show Tryz.prog.wantsStandIn 23 = false by kernel_rfl)
  · exact (show Tryz.prog.wantsStandIn 5 = false by kernel_rfl)

/-- FnIxOrder. -/
theorem fnIxOrder_card : Rows.FnIxOrderCardSaid :=
  Claim7.holds_tied_plain_at .later [] _ _ _ _ said_ofK (fun _ h => by cases h) (by kernel_rfl) (fun _ h => by cases h) fnIxOrder_row_tie rfl ⟨rfl, rfl⟩ (by kernel_rfl) rfl plainK (by kernel_rfl)
end Go.Proofs.YtobdjcnojbnegaaGreatDoor
