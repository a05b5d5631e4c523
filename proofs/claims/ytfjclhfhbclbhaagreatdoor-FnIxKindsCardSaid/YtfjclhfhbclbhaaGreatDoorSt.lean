/- slices.Sort of at most one element. -/
import Derived.Test.YtfjclhfhbclbhaaGreatDoorSm
namespace Go.Proofs.YtfjclhfhbclbhaaGreatDoor
open Go.RowKit
set_option linter.unusedVariables false
set_option linter.unusedSimpArgs false
attribute [local go_sem] setCell_drewN alloc_drewN

def numV (q : IntKind) (n : Nat) : Value := .int q (n : Int)
def sortN (zs : List Nat) : List Nat := zs.mergeSort fun a b => decide (a ≤ b)
/-- A function that sorts rows of at most n numbers. -/
def SortsTo (f : FuncId) (q : IntKind) (t : TypeId) (n : Nat) : Prop := ∀ (g cap : Nat) (zs : List Nat) (tail : List Value) (w : World), zs.length ≤ n → w.heap[g]? = some (.cells (zs.map (numV q) ++ tail).toArray t (0, 0)) →
  Calls Tryz.prog f #[.slice (some ⟨g, 0, none⟩) zs.length cap] w fun e w' => e = .returned (.tuple #[]) ∧ w'.heap[g]? = some (.cells ((sortN zs).map (numV q) ++ tail).toArray t (0, 0)) ∧ Kp (fun i => i = g) w w'
theorem sortN_tiny {zs : List Nat} (h : zs.length ≤ 1) : sortN zs = zs := by
  match zs, h with
  | [], _ => simp [sortN]
  | [x], _ => simp [sortN]

set_option maxRecDepth 100000 in
set_option maxHeartbeats 800000 in
theorem tinySort_32 : SortsTo 209 .u32 99 1 := by
  intro g cap zs tail w hz hg
  rw [sortN_tiny hz]
  have hn : zs.length = 0 ∨ zs.length = 1 := by omega
  generalize zs.length = n at hn
  clear hz
  have hI : Calls Tryz.prog 241 #[.slice (some ⟨g, 0, none⟩) n cap, .int .i64 0, .int .i64 (n : Int)] w fun e w' => e = .returned (.tuple #[]) ∧ w = w' := by
    rcases hn with rfl | rfl
    all_goals
      go_enter Tryz.func241, Tryz.ntmps241
      go_wp2_with fail
      refine wp_loop_rounds 1 ?_
      rw [rounds_succ]
      go_wp2_with fail
      go_end0
      exact ⟨rfl, rfl⟩
  have hP : ∀ L : Int, Calls Tryz.prog 231 #[.slice (some ⟨g, 0, none⟩) n cap, .int .i64 0, .int .i64 (n : Int), .int .i64 L] w fun e w' => e = .returned (.tuple #[]) ∧ w = w' := by
    intro L
    rcases hn with rfl | rfl
    all_goals
      go_enter Tryz.func231, Tryz.ntmps231
      go_wp2_with fail
      refine wp_loop_rounds 1 ?_
      rw [rounds_succ]
      go_wp2_with fail
      refine hI.mono ?_
      rintro e w' ⟨rfl, rfl⟩
      go_wp2_with fail
      exact bodyPost_ret (v := .tuple #[]) (by simp [results, Tryz.results231, go_sem]) rfl ⟨rfl, rfl⟩
  have hd : Calls Tryz.prog 209 #[.slice (some ⟨g, 0, none⟩) n cap] w fun e w' => e = .returned (.tuple #[]) ∧ w = w' := by
    rcases hn with rfl | rfl
    all_goals
      go_enter Tryz.func209, Tryz.ntmps209
      go_wp2_with fail
      refine (Tryz.bits_Len _ _ (by omega) (by omega)).mono ?_
      rintro e w' ⟨rfl, rfl⟩
      generalize ((Lib.bitLen _ : Nat) : Int) = L
      go_wp2_with fail
      refine (hP L).mono ?_
      rintro e w' ⟨rfl, rfl⟩
      go_wp2_with fail
      go_end0
      exact ⟨rfl, rfl⟩
  refine hd.mono ?_
  rintro e w' ⟨rfl, rfl⟩
  exact ⟨rfl, hg, Kp.refl _ _⟩

set_option maxRecDepth 100000 in
set_option maxHeartbeats 800000 in
theorem tinySort_64 : SortsTo 193 .u64 22 1 := by
  intro g cap zs tail w hz hg
  rw [sortN_tiny hz]
  have hn : zs.length = 0 ∨ zs.length = 1 := by omega
  generalize zs.length = n at hn
  clear hz
  have hI : Calls Tryz.prog 222 #[.slice (some ⟨g, 0, none⟩) n cap, .int .i64 0, .int .i64 (n : Int)] w fun e w' => e = .returned (.tuple #[]) ∧ w = w' := by
    rcases hn with rfl | rfl
    all_goals
      go_enter Tryz.func222, Tryz.ntmps222
      go_wp2_with fail
      refine wp_loop_rounds 1 ?_
      rw [rounds_succ]
      go_wp2_with fail
      go_end0
      exact ⟨rfl, rfl⟩
  have hP : ∀ L : Int, Calls Tryz.prog 208 #[.slice (some ⟨g, 0, none⟩) n cap, .int .i64 0, .int .i64 (n : Int), .int .i64 L] w fun e w' => e = .returned (.tuple #[]) ∧ w = w' := by
    intro L
    rcases hn with rfl | rfl
    all_goals
      go_enter Tryz.func208, Tryz.ntmps208
      go_wp2_with fail
      refine wp_loop_rounds 1 ?_
      rw [rounds_succ]
      go_wp2_with fail
      refine hI.mono ?_
      rintro e w' ⟨rfl, rfl⟩
      go_wp2_with fail
      exact bodyPost_ret (v := .tuple #[]) (by simp [results, Tryz.results208, go_sem]) rfl ⟨rfl, rfl⟩
  have hd : Calls Tryz.prog 193 #[.slice (some ⟨g, 0, none⟩) n cap] w fun e w' => e = .returned (.tuple #[]) ∧ w = w' := by
    rcases hn with rfl | rfl
    all_goals
      go_enter Tryz.func193, Tryz.ntmps193
      go_wp2_with fail
      refine (Tryz.bits_Len _ _ (by omega) (by omega)).mono ?_
      rintro e w' ⟨rfl, rfl⟩
      generalize ((Lib.bitLen _ : Nat) : Int) = L
      go_wp2_with fail
      refine (hP L).mono ?_
      rintro e w' ⟨rfl, rfl⟩
      go_wp2_with fail
      go_end0
      exact ⟨rfl, rfl⟩
  refine hd.mono ?_
  rintro e w' ⟨rfl, rfl⟩
  exact ⟨rfl, hg, Kp.refl _ _⟩
end Go.Proofs.YtfjclhfhbclbhaaGreatDoor
