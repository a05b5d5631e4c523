/- The argument opened: rows of entries. -/
import Derived.Test.YtifoicdnibgdaaaGreatDoorLaw
import Derived.ProofKit
import Derived.OpenShut
import Derived.Deep.Slices
import Derived.Deep.DeepHandedRow
import Derived.SizedLaws
namespace Go.Proofs.YtifoicdnibgdaaaGreatDoor
open Go.RowKit Go.ChangeShapes Go.WideShapes Go.ChangeAt Go.Deep
set_option linter.unusedVariables false
set_option linter.unusedSimpArgs false
set_option maxRecDepth 100000

section
variable {H : Type} {enc : TypeId × Value → H} {w : World} {base : Nat} {spare : Nat → Bool} {held : Bool}

theorem open_u64 {fuel : Nat} {cs : List Value} {x : DataW H × List MemPlace} (h : DataW.trod enc Tryz.prog w base spare held fuel 26 cs = some x) : ∃ n : Nat, cs = [.int .u64 n] ∧ n < 18446744073709551616 := by
  obtain ⟨n, rfl, _, hw⟩ := DataW.trod_int Tryz.underlying26 h
  have hn : 0 ≤ n ∧ n ≤ 18446744073709551615 := by simpa [Lit.wf, IntKind.min, IntKind.max, IntKind.signed, IntKind.bits] using hw
  exact ⟨n.toNat, by rw [show ((n.toNat : Nat) : Int) = n by omega], by omega⟩

theorem open_cid {fuel : Nat} {cs : List Value} {x : DataW H × List MemPlace} (h : DataW.trod enc Tryz.prog w base spare held fuel 28 cs = some x) :
    ∃ c : CidOf, cs = [.int .u64 c.ver, .int .u64 c.codec, .int .u64 c.code, .string (sOf c.dig)] ∧ c.ver < 18446744073709551616 ∧ c.codec < 18446744073709551616 ∧ c.code < 18446744073709551616 ∧ c.dig.length ≤ maxLen := by
  obtain ⟨xs, n, rfl, rfl, hl, hx, hf⟩ := DataW.trod_struct Tryz.underlying28 h
  have hc : Tryz.prog.cellsOf 28 = 4 := by kernel_rfl
  have hc3 : Tryz.prog.cellsOf 26 = 1 := by kernel_rfl
  have hc4 : Tryz.prog.cellsOf 9 = 1 := by kernel_rfl
  rw [hc] at hl
  obtain ⟨c0, c1, c2, c3, rfl⟩ : ∃ a b c d, cs = [a, b, c, d] := by
    match cs, hl with
    | [a, b, c, d], _ => exact ⟨a, b, c, d, rfl⟩
  obtain ⟨x0, x1, x2, x3, rfl⟩ : ∃ a b c d, xs = [a, b, c, d] := by
    match xs, hx with
    | [a, b, c, d], _ => exact ⟨a, b, c, d, rfl⟩
  have f0 := hf 0 _ rfl
  have f1 := hf 1 _ rfl
  have f2 := hf 2 _ rfl
  have f3 := hf 3 _ rfl
  simp [hc3, hc4] at f0 f1 f2 f3
  obtain ⟨v, e0, h0⟩ := open_u64 f0
  obtain ⟨k, e1, h1⟩ := open_u64 f1
  obtain ⟨d, e2, h2⟩ := open_u64 f2
  obtain ⟨s, e3, _, h3⟩ := DataW.trod_string Tryz.underlying9 f3
  simp at e0 e1 e2 e3
  subst e0 e1 e2 e3
  exact ⟨⟨v, k, d, s.data.toList⟩, by simp [sOf], h0, h1, h2, by simpa using h3⟩

theorem open_entry {fuel : Nat} {cs : List Value} {x : DataW H × List MemPlace} (h : DataW.trod enc Tryz.prog w base spare held fuel 30 cs = some x) : ∃ y : CidOf × Int, cs = EntCells y ∧ Fine y := by
  obtain ⟨xs, n, rfl, rfl, hl, hx, hf⟩ := DataW.trod_struct Tryz.underlying30 h
  have hc : Tryz.prog.cellsOf 30 = 5 := by kernel_rfl
  have hc2 : Tryz.prog.cellsOf 28 = 4 := by kernel_rfl
  have hc3 : Tryz.prog.cellsOf 26 = 1 := by kernel_rfl
  rw [hc] at hl
  obtain ⟨c0, c1, c2, c3, c4, rfl⟩ : ∃ a b c d e, cs = [a, b, c, d, e] := by
    match cs, hl with
    | [a, b, c, d, e], _ => exact ⟨a, b, c, d, e, rfl⟩
  obtain ⟨x0, x1, rfl⟩ : ∃ a b, xs = [a, b] := by
    match xs, hx with
    | [a, b], _ => exact ⟨a, b, rfl⟩
  have f0 := hf 0 _ rfl
  have f1 := hf 1 _ rfl
  simp [hc2, hc3] at f0 f1
  obtain ⟨c, e0, h0, h1, h2, h3⟩ := open_cid f0
  obtain ⟨o, e1, h4⟩ := open_u64 f1
  simp at e0 e1
  obtain ⟨rfl, rfl, rfl, rfl⟩ := e0
  subst e1
  exact ⟨(c, o), rfl, ⟨h0, h1, h2, h3, by simp only; omega⟩⟩

/-- A slice of entries that came in. -/
theorem open_entries {W : World} {fuel : Nat} {v : Value} {x : DataW H × List MemPlace} (h : DataW.trod enc Tryz.prog W base spare held fuel 22 [v] = some x) :
    ∃ (l : List (CidOf × Int)) (A : Option Addr) (cap : Nat), v = .slice A l.length cap ∧ l.length ≤ cap ∧ cap ≤ maxLen ∧ RowsAt W A l ∧ ∀ y, y ∈ l → Fine y := by
  have hc : Tryz.prog.cellsOf 30 = 5 := by kernel_rfl
  rcases open_slice Tryz.underlying22 h with ⟨hcs, _⟩ | ⟨a, len, cap, m, n, D, Pl, hcs, _, hlc, hcm, hm, _, hall⟩
  · simp at hcs
    exact ⟨[], none, 0, hcs, Nat.le_refl _, by unfold maxLen; omega, .inl rfl, by simp⟩
  · simp at hcs
    subst hcs
    have hlm : len ≤ m := by rw [hm]; split <;> omega
    have hrow : ∀ i, ∃ y : CidOf × Int, i < len → Fine y ∧ W.cells? base (a.add (i * 5)) 5 = some (EntCells y) := by
      intro i
      by_cases hi : i < len
      · obtain ⟨cs', h1, h2⟩ := hall i (by omega)
        rw [hc] at h1
        obtain ⟨y, rfl, hy⟩ := open_entry h2
        exact ⟨y, fun _ => ⟨hy, h1⟩⟩
      · exact ⟨(⟨0, 0, 0, []⟩, 0), fun h' => absurd h' hi⟩
    obtain ⟨f, hf⟩ := Classical.axiomOfChoice hrow
    refine ⟨(List.range len).map f, some a, cap, by simp, by simpa using hlc, hcm, ?_, ?_⟩
    · by_cases h0 : len = 0
      · subst h0; exact .inl rfl
      · have hsp : a.spot = none := by
          have h1 := (World.cells?_some (hf 0 (by omega)).2).2.2 0 (by omega)
          simp only [Nat.zero_mul, Addr.add, if_true] at h1
          exact World.cell?_spot (h1.trans (show _ = some _ from rfl))
        obtain ⟨g, o, sp⟩ := a
        simp only at hsp
        subst hsp
        refine .inr ⟨g, o, rfl, fun i y hi j u hj => ?_⟩
        have hil : i < len := by have := (List.getElem?_eq_some_iff.1 hi).1; simpa using this
        have hy : f i = y := by
          rw [List.getElem?_map, List.getElem?_range hil] at hi
          exact Option.some.inj hi
        have hj5 : j < 5 := by have := (List.getElem?_eq_some_iff.1 hj).1; simpa [EntCells_length] using this
        have h1 := (World.cells?_some (hf i hil).2).2.2 j hj5
        rw [hy, hj] at h1
        have ha : ((⟨g, o, none⟩ : Addr).add (i * 5)).add j = ⟨g, o + i * 5 + j, none⟩ := by
          unfold Addr.add
          split <;> split <;> simp_all
        rw [ha] at h1
        exact h1
    · intro y hy
      obtain ⟨i, hi, rfl⟩ := List.mem_map.1 hy
      exact (hf i (List.mem_range.1 hi)).1
end
end Go.Proofs.YtifoicdnibgdaaaGreatDoor
