/- The options of package car: each maker gives a function that sets one field. (printed by gen_opt.py) -/
import Derived.Test.YtifoicdnibgdaaaGreatDoorShk
namespace Go.Proofs.YtifoicdnibgdaaaGreatDoor
open Go.RowKit
set_option linter.unusedVariables false
set_option linter.unusedSimpArgs false

/-- A function value that sets the field at off of car.Options to v. -/
def OptF (W : World) (f : Value) (off : Nat) (v : Value) : Prop :=
  off < 13 ∧ ∃ G b, f = .func (.func G) #[] #[.pointer (some ⟨b, 0, none⟩)] ∧ b < W.heap.size ∧ W.cell? ⟨b, 0, none⟩ = some v ∧
    (∀ (p : Value) (W1 : World), (callFunc G #[p, .pointer (some ⟨b, 0, none⟩)]).run Tryz.prog W1 = .ok (.enter G #[p, .pointer (some ⟨b, 0, none⟩)]) W1) ∧
    ∀ (W1 : World) q, W1.cell? ⟨b, 0, none⟩ = some v → (W1.cell? ⟨q, off, none⟩).isSome = true → W1.frozen? ⟨q, off, none⟩ = false →
      Calls Tryz.prog G #[.pointer (some ⟨q, 0, none⟩), .pointer (some ⟨b, 0, none⟩)] W1 fun e w' => e = .returned (.tuple #[]) ∧ w' = W1.setCell ⟨q, off, none⟩ v
theorem OptF.below {W W1 : World} {f : Value} {off : Nat} {v : Value} (h : OptF W f off v) (hb : Below W.heap.size W W1) : OptF W1 f off v := by
  obtain ⟨ho, G, b, e, hlt, hc, hall⟩ := h
  exact ⟨ho, G, b, e, Nat.lt_of_lt_of_le hlt hb.size, (hb.cell (p := ⟨b, 0, none⟩) hlt).trans hc, hall⟩


set_option maxRecDepth 100000 in
theorem set_ZeroLengthSectionAsEOF (x : Bool) (b : Nat) (W1 : World) (q : Nat) (h : W1.cell? ⟨b, 0, none⟩ = some (.bool x)) (hq : (W1.cell? ⟨q, 3, none⟩).isSome = true) (hf : W1.frozen? ⟨q, 3, none⟩ = false) :
    Calls Tryz.prog 87 #[.pointer (some ⟨q, 0, none⟩), .pointer (some ⟨b, 0, none⟩)] W1 fun e w' => e = .returned (.tuple #[]) ∧ w' = W1.setCell ⟨q, 3, none⟩ (.bool x) := by
  obtain ⟨u, hu⟩ := Option.isSome_iff_exists.1 hq
  go_enter Tryz.func87, Tryz.ntmps87
  go_wp2_with fail
  go_end0
  exact ⟨rfl, rfl⟩

set_option maxRecDepth 100000 in
theorem mk_ZeroLengthSectionAsEOF (x : Bool) (w : World) : Calls Tryz.prog 48 #[.bool x] w fun e w' => ∃ b, e = .returned (.func (.func 87) #[] #[.pointer (some ⟨b, 0, none⟩)]) ∧ OptF w' (.func (.func 87) #[] #[.pointer (some ⟨b, 0, none⟩)]) 3 (.bool x) ∧ Below w.heap.size w w' := by
  go_enter Tryz.func48, Tryz.ntmps48
  go_wp2_with fail
  go_ret
  exact ⟨_, rfl, ⟨by decide, _, _, rfl, by simp, by simp, fun p W1 => by rfl, fun W1 q h hq hf => set_ZeroLengthSectionAsEOF x _ W1 q h hq hf⟩, by (repeat (first | (with_reducible exact Below.refl _ _) | (with_reducible exact below_boxed _ _) | (with_reducible refine below_box ?_ _) | (with_reducible refine below_drew1 ?_) | (with_reducible refine below_drewn ?_ _) | (with_reducible refine below_bytes ?_ _ _) | (with_reducible refine below_next ?_ (by assumption)) | (with_reducible refine below_set ?_ (by first | (simp; done) | (simp; omega) | omega) _)))⟩

set_option maxRecDepth 100000 in
theorem set_StoreIdentityCIDs (x : Bool) (b : Nat) (W1 : World) (q : Nat) (h : W1.cell? ⟨b, 0, none⟩ = some (.bool x)) (hq : (W1.cell? ⟨q, 5, none⟩).isSome = true) (hf : W1.frozen? ⟨q, 5, none⟩ = false) :
    Calls Tryz.prog 88 #[.pointer (some ⟨q, 0, none⟩), .pointer (some ⟨b, 0, none⟩)] W1 fun e w' => e = .returned (.tuple #[]) ∧ w' = W1.setCell ⟨q, 5, none⟩ (.bool x) := by
  obtain ⟨u, hu⟩ := Option.isSome_iff_exists.1 hq
  go_enter Tryz.func88, Tryz.ntmps88
  go_wp2_with fail
  go_end0
  exact ⟨rfl, rfl⟩

set_option maxRecDepth 100000 in
theorem mk_StoreIdentityCIDs (x : Bool) (w : World) : Calls Tryz.prog 49 #[.bool x] w fun e w' => ∃ b, e = .returned (.func (.func 88) #[] #[.pointer (some ⟨b, 0, none⟩)]) ∧ OptF w' (.func (.func 88) #[] #[.pointer (some ⟨b, 0, none⟩)]) 5 (.bool x) ∧ Below w.heap.size w w' := by
  go_enter Tryz.func49, Tryz.ntmps49
  go_wp2_with fail
  go_ret
  exact ⟨_, rfl, ⟨by decide, _, _, rfl, by simp, by simp, fun p W1 => by rfl, fun W1 q h hq hf => set_StoreIdentityCIDs x _ W1 q h hq hf⟩, by (repeat (first | (with_reducible exact Below.refl _ _) | (with_reducible exact below_boxed _ _) | (with_reducible refine below_box ?_ _) | (with_reducible refine below_drew1 ?_) | (with_reducible refine below_drewn ?_ _) | (with_reducible refine below_bytes ?_ _ _) | (with_reducible refine below_next ?_ (by assumption)) | (with_reducible refine below_set ?_ (by first | (simp; done) | (simp; omega) | omega) _)))⟩

set_option maxRecDepth 100000 in
theorem set_AllowDuplicatePuts (x : Bool) (b : Nat) (W1 : World) (q : Nat) (h : W1.cell? ⟨b, 0, none⟩ = some (.bool x)) (hq : (W1.cell? ⟨q, 6, none⟩).isSome = true) (hf : W1.frozen? ⟨q, 6, none⟩ = false) :
    Calls Tryz.prog 89 #[.pointer (some ⟨q, 0, none⟩), .pointer (some ⟨b, 0, none⟩)] W1 fun e w' => e = .returned (.tuple #[]) ∧ w' = W1.setCell ⟨q, 6, none⟩ (.bool x) := by
  obtain ⟨u, hu⟩ := Option.isSome_iff_exists.1 hq
  go_enter Tryz.func89, Tryz.ntmps89
  go_wp2_with fail
  go_end0
  exact ⟨rfl, rfl⟩

set_option maxRecDepth 100000 in
theorem mk_AllowDuplicatePuts (x : Bool) (w : World) : Calls Tryz.prog 50 #[.bool x] w fun e w' => ∃ b, e = .returned (.func (.func 89) #[] #[.pointer (some ⟨b, 0, none⟩)]) ∧ OptF w' (.func (.func 89) #[] #[.pointer (some ⟨b, 0, none⟩)]) 6 (.bool x) ∧ Below w.heap.size w w' := by
  go_enter Tryz.func50, Tryz.ntmps50
  go_wp2_with fail
  go_ret
  exact ⟨_, rfl, ⟨by decide, _, _, rfl, by simp, by simp, fun p W1 => by rfl, fun W1 q h hq hf => set_AllowDuplicatePuts x _ W1 q h hq hf⟩, by (repeat (first | (with_reducible exact Below.refl _ _) | (with_reducible exact below_boxed _ _) | (with_reducible refine below_box ?_ _) | (with_reducible refine below_drew1 ?_) | (with_reducible refine below_drewn ?_ _) | (with_reducible refine below_bytes ?_ _ _) | (with_reducible refine below_next ?_ (by assumption)) | (with_reducible refine below_set ?_ (by first | (simp; done) | (simp; omega) | omega) _)))⟩

set_option maxRecDepth 100000 in
theorem set_UseWholeCIDs (x : Bool) (b : Nat) (W1 : World) (q : Nat) (h : W1.cell? ⟨b, 0, none⟩ = some (.bool x)) (hq : (W1.cell? ⟨q, 7, none⟩).isSome = true) (hf : W1.frozen? ⟨q, 7, none⟩ = false) :
    Calls Tryz.prog 90 #[.pointer (some ⟨q, 0, none⟩), .pointer (some ⟨b, 0, none⟩)] W1 fun e w' => e = .returned (.tuple #[]) ∧ w' = W1.setCell ⟨q, 7, none⟩ (.bool x) := by
  obtain ⟨u, hu⟩ := Option.isSome_iff_exists.1 hq
  go_enter Tryz.func90, Tryz.ntmps90
  go_wp2_with fail
  go_end0
  exact ⟨rfl, rfl⟩

set_option maxRecDepth 100000 in
theorem mk_UseWholeCIDs (x : Bool) (w : World) : Calls Tryz.prog 51 #[.bool x] w fun e w' => ∃ b, e = .returned (.func (.func 90) #[] #[.pointer (some ⟨b, 0, none⟩)]) ∧ OptF w' (.func (.func 90) #[] #[.pointer (some ⟨b, 0, none⟩)]) 7 (.bool x) ∧ Below w.heap.size w w' := by
  go_enter Tryz.func51, Tryz.ntmps51
  go_wp2_with fail
  go_ret
  exact ⟨_, rfl, ⟨by decide, _, _, rfl, by simp, by simp, fun p W1 => by rfl, fun W1 q h hq hf => set_UseWholeCIDs x _ W1 q h hq hf⟩, by (repeat (first | (with_reducible exact Below.refl _ _) | (with_reducible exact below_boxed _ _) | (with_reducible refine below_box ?_ _) | (with_reducible refine below_drew1 ?_) | (with_reducible refine below_drewn ?_ _) | (with_reducible refine below_bytes ?_ _ _) | (with_reducible refine below_next ?_ (by assumption)) | (with_reducible refine below_set ?_ (by first | (simp; done) | (simp; omega) | omega) _)))⟩

set_option maxRecDepth 100000 in
theorem set_WriteAsCarV1 (x : Bool) (b : Nat) (W1 : World) (q : Nat) (h : W1.cell? ⟨b, 0, none⟩ = some (.bool x)) (hq : (W1.cell? ⟨q, 9, none⟩).isSome = true) (hf : W1.frozen? ⟨q, 9, none⟩ = false) :
    Calls Tryz.prog 91 #[.pointer (some ⟨q, 0, none⟩), .pointer (some ⟨b, 0, none⟩)] W1 fun e w' => e = .returned (.tuple #[]) ∧ w' = W1.setCell ⟨q, 9, none⟩ (.bool x) := by
  obtain ⟨u, hu⟩ := Option.isSome_iff_exists.1 hq
  go_enter Tryz.func91, Tryz.ntmps91
  go_wp2_with fail
  go_end0
  exact ⟨rfl, rfl⟩

set_option maxRecDepth 100000 in
theorem mk_WriteAsCarV1 (x : Bool) (w : World) : Calls Tryz.prog 52 #[.bool x] w fun e w' => ∃ b, e = .returned (.func (.func 91) #[] #[.pointer (some ⟨b, 0, none⟩)]) ∧ OptF w' (.func (.func 91) #[] #[.pointer (some ⟨b, 0, none⟩)]) 9 (.bool x) ∧ Below w.heap.size w w' := by
  go_enter Tryz.func52, Tryz.ntmps52
  go_wp2_with fail
  go_ret
  exact ⟨_, rfl, ⟨by decide, _, _, rfl, by simp, by simp, fun p W1 => by rfl, fun W1 q h hq hf => set_WriteAsCarV1 x _ W1 q h hq hf⟩, by (repeat (first | (with_reducible exact Below.refl _ _) | (with_reducible exact below_boxed _ _) | (with_reducible refine below_box ?_ _) | (with_reducible refine below_drew1 ?_) | (with_reducible refine below_drewn ?_ _) | (with_reducible refine below_bytes ?_ _ _) | (with_reducible refine below_next ?_ (by assumption)) | (with_reducible refine below_set ?_ (by first | (simp; done) | (simp; omega) | omega) _)))⟩

set_option maxRecDepth 100000 in
theorem set_WithTrustedCAR (x : Bool) (b : Nat) (W1 : World) (q : Nat) (h : W1.cell? ⟨b, 0, none⟩ = some (.bool x)) (hq : (W1.cell? ⟨q, 10, none⟩).isSome = true) (hf : W1.frozen? ⟨q, 10, none⟩ = false) :
    Calls Tryz.prog 92 #[.pointer (some ⟨q, 0, none⟩), .pointer (some ⟨b, 0, none⟩)] W1 fun e w' => e = .returned (.tuple #[]) ∧ w' = W1.setCell ⟨q, 10, none⟩ (.bool x) := by
  obtain ⟨u, hu⟩ := Option.isSome_iff_exists.1 hq
  go_enter Tryz.func92, Tryz.ntmps92
  go_wp2_with fail
  go_end0
  exact ⟨rfl, rfl⟩

set_option maxRecDepth 100000 in
theorem mk_WithTrustedCAR (x : Bool) (w : World) : Calls Tryz.prog 53 #[.bool x] w fun e w' => ∃ b, e = .returned (.func (.func 92) #[] #[.pointer (some ⟨b, 0, none⟩)]) ∧ OptF w' (.func (.func 92) #[] #[.pointer (some ⟨b, 0, none⟩)]) 10 (.bool x) ∧ Below w.heap.size w w' := by
  go_enter Tryz.func53, Tryz.ntmps53
  go_wp2_with fail
  go_ret
  exact ⟨_, rfl, ⟨by decide, _, _, rfl, by simp, by simp, fun p W1 => by rfl, fun W1 q h hq hf => set_WithTrustedCAR x _ W1 q h hq hf⟩, by (repeat (first | (with_reducible exact Below.refl _ _) | (with_reducible exact below_boxed _ _) | (with_reducible refine below_box ?_ _) | (with_reducible refine below_drew1 ?_) | (with_reducible refine below_drewn ?_ _) | (with_reducible refine below_bytes ?_ _ _) | (with_reducible refine below_next ?_ (by assumption)) | (with_reducible refine below_set ?_ (by first | (simp; done) | (simp; omega) | omega) _)))⟩

set_option maxRecDepth 100000 in
theorem set_UseDataPadding (x : Int) (b : Nat) (W1 : World) (q : Nat) (h : W1.cell? ⟨b, 0, none⟩ = some (.int .u64 x)) (hq : (W1.cell? ⟨q, 0, none⟩).isSome = true) (hf : W1.frozen? ⟨q, 0, none⟩ = false) :
    Calls Tryz.prog 93 #[.pointer (some ⟨q, 0, none⟩), .pointer (some ⟨b, 0, none⟩)] W1 fun e w' => e = .returned (.tuple #[]) ∧ w' = W1.setCell ⟨q, 0, none⟩ (.int .u64 x) := by
  obtain ⟨u, hu⟩ := Option.isSome_iff_exists.1 hq
  go_enter Tryz.func93, Tryz.ntmps93
  go_wp2_with fail
  go_end0
  exact ⟨rfl, rfl⟩

set_option maxRecDepth 100000 in
theorem mk_UseDataPadding (x : Int) (w : World) : Calls Tryz.prog 54 #[.int .u64 x] w fun e w' => ∃ b, e = .returned (.func (.func 93) #[] #[.pointer (some ⟨b, 0, none⟩)]) ∧ OptF w' (.func (.func 93) #[] #[.pointer (some ⟨b, 0, none⟩)]) 0 (.int .u64 x) ∧ Below w.heap.size w w' := by
  go_enter Tryz.func54, Tryz.ntmps54
  go_wp2_with fail
  go_ret
  exact ⟨_, rfl, ⟨by decide, _, _, rfl, by simp, by simp, fun p W1 => by rfl, fun W1 q h hq hf => set_UseDataPadding x _ W1 q h hq hf⟩, by (repeat (first | (with_reducible exact Below.refl _ _) | (with_reducible exact below_boxed _ _) | (with_reducible refine below_box ?_ _) | (with_reducible refine below_drew1 ?_) | (with_reducible refine below_drewn ?_ _) | (with_reducible refine below_bytes ?_ _ _) | (with_reducible refine below_next ?_ (by assumption)) | (with_reducible refine below_set ?_ (by first | (simp; done) | (simp; omega) | omega) _)))⟩

set_option maxRecDepth 100000 in
theorem set_UseIndexPadding (x : Int) (b : Nat) (W1 : World) (q : Nat) (h : W1.cell? ⟨b, 0, none⟩ = some (.int .u64 x)) (hq : (W1.cell? ⟨q, 1, none⟩).isSome = true) (hf : W1.frozen? ⟨q, 1, none⟩ = false) :
    Calls Tryz.prog 94 #[.pointer (some ⟨q, 0, none⟩), .pointer (some ⟨b, 0, none⟩)] W1 fun e w' => e = .returned (.tuple #[]) ∧ w' = W1.setCell ⟨q, 1, none⟩ (.int .u64 x) := by
  obtain ⟨u, hu⟩ := Option.isSome_iff_exists.1 hq
  go_enter Tryz.func94, Tryz.ntmps94
  go_wp2_with fail
  go_end0
  exact ⟨rfl, rfl⟩

set_option maxRecDepth 100000 in
theorem mk_UseIndexPadding (x : Int) (w : World) : Calls Tryz.prog 55 #[.int .u64 x] w fun e w' => ∃ b, e = .returned (.func (.func 94) #[] #[.pointer (some ⟨b, 0, none⟩)]) ∧ OptF w' (.func (.func 94) #[] #[.pointer (some ⟨b, 0, none⟩)]) 1 (.int .u64 x) ∧ Below w.heap.size w w' := by
  go_enter Tryz.func55, Tryz.ntmps55
  go_wp2_with fail
  go_ret
  exact ⟨_, rfl, ⟨by decide, _, _, rfl, by simp, by simp, fun p W1 => by rfl, fun W1 q h hq hf => set_UseIndexPadding x _ W1 q h hq hf⟩, by (repeat (first | (with_reducible exact Below.refl _ _) | (with_reducible exact below_boxed _ _) | (with_reducible refine below_box ?_ _) | (with_reducible refine below_drew1 ?_) | (with_reducible refine below_drewn ?_ _) | (with_reducible refine below_bytes ?_ _ _) | (with_reducible refine below_next ?_ (by assumption)) | (with_reducible refine below_set ?_ (by first | (simp; done) | (simp; omega) | omega) _)))⟩

set_option maxRecDepth 100000 in
theorem set_UseIndexCodec (x : Int) (b : Nat) (W1 : World) (q : Nat) (h : W1.cell? ⟨b, 0, none⟩ = some (.int .u64 x)) (hq : (W1.cell? ⟨q, 2, none⟩).isSome = true) (hf : W1.frozen? ⟨q, 2, none⟩ = false) :
    Calls Tryz.prog 95 #[.pointer (some ⟨q, 0, none⟩), .pointer (some ⟨b, 0, none⟩)] W1 fun e w' => e = .returned (.tuple #[]) ∧ w' = W1.setCell ⟨q, 2, none⟩ (.int .u64 x) := by
  obtain ⟨u, hu⟩ := Option.isSome_iff_exists.1 hq
  go_enter Tryz.func95, Tryz.ntmps95
  go_wp2_with fail
  go_end0
  exact ⟨rfl, rfl⟩

set_option maxRecDepth 100000 in
theorem mk_UseIndexCodec (x : Int) (w : World) : Calls Tryz.prog 56 #[.int .u64 x] w fun e w' => ∃ b, e = .returned (.func (.func 95) #[] #[.pointer (some ⟨b, 0, none⟩)]) ∧ OptF w' (.func (.func 95) #[] #[.pointer (some ⟨b, 0, none⟩)]) 2 (.int .u64 x) ∧ Below w.heap.size w w' := by
  go_enter Tryz.func56, Tryz.ntmps56
  go_wp2_with fail
  go_ret
  exact ⟨_, rfl, ⟨by decide, _, _, rfl, by simp, by simp, fun p W1 => by rfl, fun W1 q h hq hf => set_UseIndexCodec x _ W1 q h hq hf⟩, by (repeat (first | (with_reducible exact Below.refl _ _) | (with_reducible exact below_boxed _ _) | (with_reducible refine below_box ?_ _) | (with_reducible refine below_drew1 ?_) | (with_reducible refine below_drewn ?_ _) | (with_reducible refine below_bytes ?_ _ _) | (with_reducible refine below_next ?_ (by assumption)) | (with_reducible refine below_set ?_ (by first | (simp; done) | (simp; omega) | omega) _)))⟩

set_option maxRecDepth 100000 in
theorem set_MaxIndexCidSize (x : Int) (b : Nat) (W1 : World) (q : Nat) (h : W1.cell? ⟨b, 0, none⟩ = some (.int .u64 x)) (hq : (W1.cell? ⟨q, 4, none⟩).isSome = true) (hf : W1.frozen? ⟨q, 4, none⟩ = false) :
    Calls Tryz.prog 96 #[.pointer (some ⟨q, 0, none⟩), .pointer (some ⟨b, 0, none⟩)] W1 fun e w' => e = .returned (.tuple #[]) ∧ w' = W1.setCell ⟨q, 4, none⟩ (.int .u64 x) := by
  obtain ⟨u, hu⟩ := Option.isSome_iff_exists.1 hq
  go_enter Tryz.func96, Tryz.ntmps96
  go_wp2_with fail
  go_end0
  exact ⟨rfl, rfl⟩

set_option maxRecDepth 100000 in
theorem mk_MaxIndexCidSize (x : Int) (w : World) : Calls Tryz.prog 57 #[.int .u64 x] w fun e w' => ∃ b, e = .returned (.func (.func 96) #[] #[.pointer (some ⟨b, 0, none⟩)]) ∧ OptF w' (.func (.func 96) #[] #[.pointer (some ⟨b, 0, none⟩)]) 4 (.int .u64 x) ∧ Below w.heap.size w w' := by
  go_enter Tryz.func57, Tryz.ntmps57
  go_wp2_with fail
  go_ret
  exact ⟨_, rfl, ⟨by decide, _, _, rfl, by simp, by simp, fun p W1 => by rfl, fun W1 q h hq hf => set_MaxIndexCidSize x _ W1 q h hq hf⟩, by (repeat (first | (with_reducible exact Below.refl _ _) | (with_reducible exact below_boxed _ _) | (with_reducible refine below_box ?_ _) | (with_reducible refine below_drew1 ?_) | (with_reducible refine below_drewn ?_ _) | (with_reducible refine below_bytes ?_ _ _) | (with_reducible refine below_next ?_ (by assumption)) | (with_reducible refine below_set ?_ (by first | (simp; done) | (simp; omega) | omega) _)))⟩

set_option maxRecDepth 100000 in
theorem set_MaxAllowedHeaderSize (x : Int) (b : Nat) (W1 : World) (q : Nat) (h : W1.cell? ⟨b, 0, none⟩ = some (.int .u64 x)) (hq : (W1.cell? ⟨q, 11, none⟩).isSome = true) (hf : W1.frozen? ⟨q, 11, none⟩ = false) :
    Calls Tryz.prog 97 #[.pointer (some ⟨q, 0, none⟩), .pointer (some ⟨b, 0, none⟩)] W1 fun e w' => e = .returned (.tuple #[]) ∧ w' = W1.setCell ⟨q, 11, none⟩ (.int .u64 x) := by
  obtain ⟨u, hu⟩ := Option.isSome_iff_exists.1 hq
  go_enter Tryz.func97, Tryz.ntmps97
  go_wp2_with fail
  go_end0
  exact ⟨rfl, rfl⟩

set_option maxRecDepth 100000 in
theorem mk_MaxAllowedHeaderSize (x : Int) (w : World) : Calls Tryz.prog 58 #[.int .u64 x] w fun e w' => ∃ b, e = .returned (.func (.func 97) #[] #[.pointer (some ⟨b, 0, none⟩)]) ∧ OptF w' (.func (.func 97) #[] #[.pointer (some ⟨b, 0, none⟩)]) 11 (.int .u64 x) ∧ Below w.heap.size w w' := by
  go_enter Tryz.func58, Tryz.ntmps58
  go_wp2_with fail
  go_ret
  exact ⟨_, rfl, ⟨by decide, _, _, rfl, by simp, by simp, fun p W1 => by rfl, fun W1 q h hq hf => set_MaxAllowedHeaderSize x _ W1 q h hq hf⟩, by (repeat (first | (with_reducible exact Below.refl _ _) | (with_reducible exact below_boxed _ _) | (with_reducible refine below_box ?_ _) | (with_reducible refine below_drew1 ?_) | (with_reducible refine below_drewn ?_ _) | (with_reducible refine below_bytes ?_ _ _) | (with_reducible refine below_next ?_ (by assumption)) | (with_reducible refine below_set ?_ (by first | (simp; done) | (simp; omega) | omega) _)))⟩

set_option maxRecDepth 100000 in
theorem set_MaxAllowedSectionSize (x : Int) (b : Nat) (W1 : World) (q : Nat) (h : W1.cell? ⟨b, 0, none⟩ = some (.int .u64 x)) (hq : (W1.cell? ⟨q, 12, none⟩).isSome = true) (hf : W1.frozen? ⟨q, 12, none⟩ = false) :
    Calls Tryz.prog 98 #[.pointer (some ⟨q, 0, none⟩), .pointer (some ⟨b, 0, none⟩)] W1 fun e w' => e = .returned (.tuple #[]) ∧ w' = W1.setCell ⟨q, 12, none⟩ (.int .u64 x) := by
  obtain ⟨u, hu⟩ := Option.isSome_iff_exists.1 hq
  go_enter Tryz.func98, Tryz.ntmps98
  go_wp2_with fail
  go_end0
  exact ⟨rfl, rfl⟩

set_option maxRecDepth 100000 in
theorem mk_MaxAllowedSectionSize (x : Int) (w : World) : Calls Tryz.prog 59 #[.int .u64 x] w fun e w' => ∃ b, e = .returned (.func (.func 98) #[] #[.pointer (some ⟨b, 0, none⟩)]) ∧ OptF w' (.func (.func 98) #[] #[.pointer (some ⟨b, 0, none⟩)]) 12 (.int .u64 x) ∧ Below w.heap.size w w' := by
  go_enter Tryz.func59, Tryz.ntmps59
  go_wp2_with fail
  go_ret
  exact ⟨_, rfl, ⟨by decide, _, _, rfl, by simp, by simp, fun p W1 => by rfl, fun W1 q h hq hf => set_MaxAllowedSectionSize x _ W1 q h hq hf⟩, by (repeat (first | (with_reducible exact Below.refl _ _) | (with_reducible exact below_boxed _ _) | (with_reducible refine below_box ?_ _) | (with_reducible refine below_drew1 ?_) | (with_reducible refine below_drewn ?_ _) | (with_reducible refine below_bytes ?_ _ _) | (with_reducible refine below_next ?_ (by assumption)) | (with_reducible refine below_set ?_ (by first | (simp; done) | (simp; omega) | omega) _)))⟩
end Go.Proofs.YtifoicdnibgdaaaGreatDoor
