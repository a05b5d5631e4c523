/- The arguments of FnStShould opened: an identifier, a store's options. -/
import Derived.Test.YtifoicdnibgdaaaGreatDoorLift
import Derived.Test.YtifoicdnibgdaaaGreatDoorLawp
namespace Go.Proofs.YtifoicdnibgdaaaGreatDoor
open Go.RowKit Go.ChangeShapes Go.WideShapes Go.ChangeAt Go.Deep
set_option linter.unusedVariables false
set_option linter.unusedSimpArgs false
set_option maxRecDepth 100000

section
variable {H : Type} {enc : TypeId × Value → H} {w : World} {base : Nat} {spare : Nat → Bool} {held : Bool}

theorem open_opts {fuel : Nat} {cs : List Value} {x : DataW H × List MemPlace} (h : DataW.trod enc Tryz.prog w base spare held fuel 33 cs = some x) : ∃ o : OOpt, cs = o.cells ∧ o.mc < 18446744073709551616 := by
  obtain ⟨xs, n, rfl, rfl, hl, hx, hf⟩ := DataW.trod_struct Tryz.underlying33 h
  have hc : Tryz.prog.cellsOf 33 = 12 := by kernel_rfl
  have hc3 : Tryz.prog.cellsOf 26 = 1 := by kernel_rfl
  have hc4 : Tryz.prog.cellsOf 4 = 1 := by kernel_rfl
  rw [hc] at hl
  obtain ⟨c0, c1, c2, c3, c4, c5, c6, c7, c8, c9, c10, c11, rfl⟩ : ∃ a b c d e f g h i j k l, cs = [a, b, c, d, e, f, g, h, i, j, k, l] := by
    match cs, hl with
    | [a, b, c, d, e, f, g, h, i, j, k, l], _ => exact ⟨a, b, c, d, e, f, g, h, i, j, k, l, rfl⟩
  obtain ⟨x0, x1, x2, x3, x4, x5, x6, x7, x8, x9, x10, x11, rfl⟩ : ∃ a b c d e f g h i j k l, xs = [a, b, c, d, e, f, g, h, i, j, k, l] := by
    match xs, hx with
    | [a, b, c, d, e, f, g, h, i, j, k, l], _ => exact ⟨a, b, c, d, e, f, g, h, i, j, k, l, rfl⟩
  have f0 := hf 0 _ rfl
  have f1 := hf 1 _ rfl
  have f2 := hf 2 _ rfl
  have f3 := hf 3 _ rfl
  have f4 := hf 4 _ rfl
  have f5 := hf 5 _ rfl
  have f6 := hf 6 _ rfl
  have f7 := hf 7 _ rfl
  have f8 := hf 8 _ rfl
  have f9 := hf 9 _ rfl
  have f10 := hf 10 _ rfl
  have f11 := hf 11 _ rfl
  simp [hc3, hc4] at f0 f1 f2 f3 f4 f5 f6 f7 f8 f9 f10 f11
  obtain ⟨b0, e0, _⟩ := DataW.trod_bool Tryz.underlying4 f0
  obtain ⟨b1, e1, _⟩ := DataW.trod_bool Tryz.underlying4 f1
  obtain ⟨b2, e2, _⟩ := DataW.trod_bool Tryz.underlying4 f2
  obtain ⟨b3, e3, _⟩ := DataW.trod_bool Tryz.underlying4 f3
  obtain ⟨b4, e4, _⟩ := DataW.trod_bool Tryz.underlying4 f4
  obtain ⟨b5, e5, _⟩ := DataW.trod_bool Tryz.underlying4 f5
  obtain ⟨n6, e6, _⟩ := open_u64 f6
  obtain ⟨n7, e7, _⟩ := open_u64 f7
  obtain ⟨n8, e8, _⟩ := open_u64 f8
  obtain ⟨n9, e9, h9⟩ := open_u64 f9
  obtain ⟨n10, e10, _⟩ := open_u64 f10
  obtain ⟨n11, e11, _⟩ := open_u64 f11
  simp at e0 e1 e2 e3 e4 e5 e6 e7 e8 e9 e10 e11
  subst e0 e1 e2 e3 e4 e5 e6 e7 e8 e9 e10 e11
  exact ⟨⟨b0, b1, b2, b3, b4, b5, n6, n7, n8, n9, n10, n11⟩, rfl, h9⟩
end
end Go.Proofs.YtifoicdnibgdaaaGreatDoor
