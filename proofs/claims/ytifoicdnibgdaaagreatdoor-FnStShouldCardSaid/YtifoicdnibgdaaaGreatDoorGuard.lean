/- What the guards say: tidy identifiers, entries, sizes. -/
import Derived.Test.YtifoicdnibgdaaaGreatDoorIe
namespace Go.Proofs.YtifoicdnibgdaaaGreatDoor
open Go.RowKit
set_option linter.unusedVariables false
set_option linter.unusedSimpArgs false
attribute [local go_sem] setCell_drewN alloc_drewN

def CidOf.agg (c : CidOf) : Value := .agg #[.int .u64 c.ver, .int .u64 c.codec, .int .u64 c.code, .string (sOf c.dig)]

def tidyB (v x y n : Nat) : Bool := decide (v = 0 ∧ x = 112 ∧ y = 18 ∧ n = 32 ∨ v = 1 ∧ x < 9223372036854775808 ∧ y < 9223372036854775808)
theorem tidyB_t {v x y n : Nat} (h : v = 0 ∧ x = 112 ∧ y = 18 ∧ n = 32 ∨ v = 1 ∧ x < 9223372036854775808 ∧ y < 9223372036854775808) : Ending.returned (Value.bool true) = Ending.returned (Value.bool (tidyB v x y n)) := by rw [tidyB, decide_eq_true h]
theorem tidyB_f {v x y n : Nat} (h : ¬ (v = 0 ∧ x = 112 ∧ y = 18 ∧ n = 32 ∨ v = 1 ∧ x < 9223372036854775808 ∧ y < 9223372036854775808)) : Ending.returned (Value.bool false) = Ending.returned (Value.bool (tidyB v x y n)) := by rw [tidyB, decide_eq_false h]
theorem tidyB_n {v x y n : Nat} (h1 : (v : Int) = 0) (h2 : (x : Int) = 112) (h3 : (y : Int) = 18) : Ending.returned (Value.bool ((n : Int) == 32)) = Ending.returned (Value.bool (tidyB v x y n)) := by
  by_cases h : n = 32
  · subst h; exact tidyB_t (by omega)
  · have e : ((n : Int) == 32) = false := beq_eq_false_iff_ne.2 (by omega)
    rw [e]; exact tidyB_f (by omega)

set_option maxRecDepth 100000 in
set_option maxHeartbeats 3200000 in
theorem Tidy_ok (c : CidOf) (w : World) :
    Calls Tryz.prog 20 #[c.agg] w fun e w' => e = .returned (.bool (tidyB c.ver c.codec c.code c.dig.length)) ∧ Below w.heap.size w w' := by
  have hss : (sOf c.dig).size = c.dig.length := rfl
  show Calls Tryz.prog 20 #[.agg #[.int .u64 c.ver, .int .u64 c.codec, .int .u64 c.code, .string (sOf c.dig)]] w _
  generalize sOf c.dig = s at *
  generalize hv : c.ver = v at *
  generalize hc : c.codec = x at *
  generalize hd : c.code = y at *
  generalize hl : c.dig.length = n at *
  clear hv hc hd hl
  by_cases h0 : (v : Int) = 0
  · by_cases h1 : (x : Int) = 112
    · by_cases h2 : (y : Int) = 18
      · (go_enter Tryz.func20, Tryz.ntmps20; go_wp2_with fail; go_ret; exact ⟨tidyB_n h0 h1 h2, by (repeat (first | (with_reducible exact Below.refl _ _) | (with_reducible exact below_boxed _ _) | (with_reducible refine below_box ?_ _) | (with_reducible refine below_drew1 ?_) | (with_reducible refine below_drewn ?_ _) | (with_reducible refine below_bytes ?_ _ _) | (with_reducible refine below_next ?_ (by assumption)) | (with_reducible refine below_set ?_ (by first | (simp; done) | (simp; omega) | omega) _)))⟩)
      · go_enter Tryz.func20, Tryz.ntmps20; go_wp2_with fail; go_ret; first | exact ⟨tidyB_t (by omega), by (repeat (first | (with_reducible exact Below.refl _ _) | (with_reducible exact below_boxed _ _) | (with_reducible refine below_box ?_ _) | (with_reducible refine below_drew1 ?_) | (with_reducible refine below_drewn ?_ _) | (with_reducible refine below_bytes ?_ _ _) | (with_reducible refine below_next ?_ (by assumption)) | (with_reducible refine below_set ?_ (by first | (simp; done) | (simp; omega) | omega) _)))⟩ | exact ⟨tidyB_f (by omega), by (repeat (first | (with_reducible exact Below.refl _ _) | (with_reducible exact below_boxed _ _) | (with_reducible refine below_box ?_ _) | (with_reducible refine below_drew1 ?_) | (with_reducible refine below_drewn ?_ _) | (with_reducible refine below_bytes ?_ _ _) | (with_reducible refine below_next ?_ (by assumption)) | (with_reducible refine below_set ?_ (by first | (simp; done) | (simp; omega) | omega) _)))⟩
    · go_enter Tryz.func20, Tryz.ntmps20; go_wp2_with fail; go_ret; first | exact ⟨tidyB_t (by omega), by (repeat (first | (with_reducible exact Below.refl _ _) | (with_reducible exact below_boxed _ _) | (with_reducible refine below_box ?_ _) | (with_reducible refine below_drew1 ?_) | (with_reducible refine below_drewn ?_ _) | (with_reducible refine below_bytes ?_ _ _) | (with_reducible refine below_next ?_ (by assumption)) | (with_reducible refine below_set ?_ (by first | (simp; done) | (simp; omega) | omega) _)))⟩ | exact ⟨tidyB_f (by omega), by (repeat (first | (with_reducible exact Below.refl _ _) | (with_reducible exact below_boxed _ _) | (with_reducible refine below_box ?_ _) | (with_reducible refine below_drew1 ?_) | (with_reducible refine below_drewn ?_ _) | (with_reducible refine below_bytes ?_ _ _) | (with_reducible refine below_next ?_ (by assumption)) | (with_reducible refine below_set ?_ (by first | (simp; done) | (simp; omega) | omega) _)))⟩
  · by_cases h1 : (v : Int) = 1
    · by_cases h2 : (x : Int) < 9223372036854775808
      · by_cases h3 : (y : Int) < 9223372036854775808
        all_goals (go_enter Tryz.func20, Tryz.ntmps20; go_wp2_with fail; go_ret; first | exact ⟨tidyB_t (by omega), by (repeat (first | (with_reducible exact Below.refl _ _) | (with_reducible exact below_boxed _ _) | (with_reducible refine below_box ?_ _) | (with_reducible refine below_drew1 ?_) | (with_reducible refine below_drewn ?_ _) | (with_reducible refine below_bytes ?_ _ _) | (with_reducible refine below_next ?_ (by assumption)) | (with_reducible refine below_set ?_ (by first | (simp; done) | (simp; omega) | omega) _)))⟩ | exact ⟨tidyB_f (by omega), by (repeat (first | (with_reducible exact Below.refl _ _) | (with_reducible exact below_boxed _ _) | (with_reducible refine below_box ?_ _) | (with_reducible refine below_drew1 ?_) | (with_reducible refine below_drewn ?_ _) | (with_reducible refine below_bytes ?_ _ _) | (with_reducible refine below_next ?_ (by assumption)) | (with_reducible refine below_set ?_ (by first | (simp; done) | (simp; omega) | omega) _)))⟩)
      · go_enter Tryz.func20, Tryz.ntmps20; go_wp2_with fail; go_ret; first | exact ⟨tidyB_t (by omega), by (repeat (first | (with_reducible exact Below.refl _ _) | (with_reducible exact below_boxed _ _) | (with_reducible refine below_box ?_ _) | (with_reducible refine below_drew1 ?_) | (with_reducible refine below_drewn ?_ _) | (with_reducible refine below_bytes ?_ _ _) | (with_reducible refine below_next ?_ (by assumption)) | (with_reducible refine below_set ?_ (by first | (simp; done) | (simp; omega) | omega) _)))⟩ | exact ⟨tidyB_f (by omega), by (repeat (first | (with_reducible exact Below.refl _ _) | (with_reducible exact below_boxed _ _) | (with_reducible refine below_box ?_ _) | (with_reducible refine below_drew1 ?_) | (with_reducible refine below_drewn ?_ _) | (with_reducible refine below_bytes ?_ _ _) | (with_reducible refine below_next ?_ (by assumption)) | (with_reducible refine below_set ?_ (by first | (simp; done) | (simp; omega) | omega) _)))⟩
    · go_enter Tryz.func20, Tryz.ntmps20; go_wp2_with fail; go_ret; first | exact ⟨tidyB_t (by omega), by (repeat (first | (with_reducible exact Below.refl _ _) | (with_reducible exact below_boxed _ _) | (with_reducible refine below_box ?_ _) | (with_reducible refine below_drew1 ?_) | (with_reducible refine below_drewn ?_ _) | (with_reducible refine below_bytes ?_ _ _) | (with_reducible refine below_next ?_ (by assumption)) | (with_reducible refine below_set ?_ (by first | (simp; done) | (simp; omega) | omega) _)))⟩ | exact ⟨tidyB_f (by omega), by (repeat (first | (with_reducible exact Below.refl _ _) | (with_reducible exact below_boxed _ _) | (with_reducible refine below_box ?_ _) | (with_reducible refine below_drew1 ?_) | (with_reducible refine below_drewn ?_ _) | (with_reducible refine below_bytes ?_ _ _) | (with_reducible refine below_next ?_ (by assumption)) | (with_reducible refine below_set ?_ (by first | (simp; done) | (simp; omega) | omega) _)))⟩

def stB (c : CidOf) : Bool := decide (tidyB c.ver c.codec c.code c.dig.length = true ∧ 0 < c.dig.length ∧ c.dig.length ≤ 200)

theorem stB_ok {c : CidOf} (h : stB c = true) : c.Ok := by
  have h' := of_decide_eq_true h
  have ht := of_decide_eq_true h'.1
  exact ⟨by omega, by omega, by omega, h'.2.2⟩

set_option maxRecDepth 100000 in
set_option maxHeartbeats 3200000 in
theorem stCid_ok (c : CidOf) (w : World) :
    Calls Tryz.prog 10 #[c.agg] w fun e w' => e = .returned (.bool (stB c)) ∧ Below w.heap.size w w' := by
  have hss : (sOf c.dig).size = c.dig.length := rfl
  have hT := fun W => Tidy_ok c W
  have hag : c.agg = .agg #[.int .u64 c.ver, .int .u64 c.codec, .int .u64 c.code, .string (sOf c.dig)] := rfl
  have hst : stB c = decide (tidyB c.ver c.codec c.code c.dig.length = true ∧ 0 < c.dig.length ∧ c.dig.length ≤ 200) := rfl
  rw [hag] at hT ⊢
  rw [hst]
  clear hst hag
  generalize tidyB c.ver c.codec c.code c.dig.length = b at *
  generalize sOf c.dig = s at *
  generalize c.dig.length = n at *
  cases b with
  | false =>
    go_enter Tryz.func10, Tryz.ntmps10
    go_wp2_with fail
    refine (hT _).mono ?_
    rintro e w1 ⟨rfl, hb1⟩
    obtain ⟨hcc, hff⟩ := bcellB hb1
    go_wp2_with fail
    go_ret
    exact ⟨by simp, by (repeat (first | (with_reducible exact Below.refl _ _) | (with_reducible exact below_boxed _ _) | (with_reducible refine below_box ?_ _) | (with_reducible refine below_drew1 ?_) | (with_reducible refine below_drewn ?_ _) | (with_reducible refine below_bytes ?_ _ _) | (with_reducible refine below_next ?_ (by assumption)) | (with_reducible refine below_set ?_ (by first | (simp; done) | (simp; omega) | omega) _)))⟩
  | true =>
    by_cases h1 : (0 : Int) < (n : Int)
    · by_cases h2 : (n : Int) ≤ 200
      all_goals (go_enter Tryz.func10, Tryz.ntmps10)
      all_goals (go_wp2_with fail)
      all_goals (refine (hT _).mono ?_; rintro e w1 ⟨rfl, hb1⟩; obtain ⟨hcc, hff⟩ := bcellB hb1)
      all_goals (go_wp2_with fail)
      all_goals go_ret
      · exact ⟨by have h3 : 0 < n ∧ n ≤ 200 := by omega
                  simp [h3], by (repeat (first | (with_reducible exact Below.refl _ _) | (with_reducible exact below_boxed _ _) | (with_reducible refine below_box ?_ _) | (with_reducible refine below_drew1 ?_) | (with_reducible refine below_drewn ?_ _) | (with_reducible refine below_bytes ?_ _ _) | (with_reducible refine below_next ?_ (by assumption)) | (with_reducible refine below_set ?_ (by first | (simp; done) | (simp; omega) | omega) _)))⟩
      · refine ⟨?_, by (repeat (first | (with_reducible exact Below.refl _ _) | (with_reducible exact below_boxed _ _) | (with_reducible refine below_box ?_ _) | (with_reducible refine below_drew1 ?_) | (with_reducible refine below_drewn ?_ _) | (with_reducible refine below_bytes ?_ _ _) | (with_reducible refine below_next ?_ (by assumption)) | (with_reducible refine below_set ?_ (by first | (simp; done) | (simp; omega) | omega) _)))⟩
        have h3 : ¬ n ≤ 200 := by omega
        have h4 : ¬ (n : Int) ≤ 200 := by omega
        simp [h3, h4]
    · go_enter Tryz.func10, Tryz.ntmps10
      go_wp2_with fail
      refine (hT _).mono ?_
      rintro e w1 ⟨rfl, hb1⟩
      obtain ⟨hcc, hff⟩ := bcellB hb1
      go_wp2_with fail
      go_ret
      exact ⟨by have h3 : ¬ 0 < n := by omega
                simp [h3], by (repeat (first | (with_reducible exact Below.refl _ _) | (with_reducible exact below_boxed _ _) | (with_reducible refine below_box ?_ _) | (with_reducible refine below_drew1 ?_) | (with_reducible refine below_drewn ?_ _) | (with_reducible refine below_bytes ?_ _ _) | (with_reducible refine below_next ?_ (by assumption)) | (with_reducible refine below_set ?_ (by first | (simp; done) | (simp; omega) | omega) _)))⟩

def fitB (n : Nat) : Bool := decide (n ≤ 2147483647)
set_option maxRecDepth 100000 in
set_option maxHeartbeats 3200000 in
theorem zzFits1_ok (c : CidOf) (w : World) :
    Calls Tryz.prog 9 #[c.agg] w fun e w' => e = .returned (.bool (fitB c.dig.length)) ∧ Below w.heap.size w w' := by
  have hss : (sOf c.dig).size = c.dig.length := rfl
  show Calls Tryz.prog 9 #[.agg #[.int .u64 c.ver, .int .u64 c.codec, .int .u64 c.code, .string (sOf c.dig)]] w _
  generalize sOf c.dig = s at *
  generalize c.dig.length = n at *
  by_cases h1 : (2147483647 : Int) < (n : Int)
  all_goals (go_enter Tryz.func9, Tryz.ntmps9; go_wp2_with fail; go_ret)
  · exact ⟨by have h3 : ¬ n ≤ 2147483647 := by omega
              simp [fitB, h3], by (repeat (first | (with_reducible exact Below.refl _ _) | (with_reducible exact below_boxed _ _) | (with_reducible refine below_box ?_ _) | (with_reducible refine below_drew1 ?_) | (with_reducible refine below_drewn ?_ _) | (with_reducible refine below_bytes ?_ _ _) | (with_reducible refine below_next ?_ (by assumption)) | (with_reducible refine below_set ?_ (by first | (simp; done) | (simp; omega) | omega) _)))⟩
  · exact ⟨by have h3 : n ≤ 2147483647 := by omega
              simp [fitB, h3], by (repeat (first | (with_reducible exact Below.refl _ _) | (with_reducible exact below_boxed _ _) | (with_reducible refine below_box ?_ _) | (with_reducible refine below_drew1 ?_) | (with_reducible refine below_drewn ?_ _) | (with_reducible refine below_bytes ?_ _ _) | (with_reducible refine below_next ?_ (by assumption)) | (with_reducible refine below_set ?_ (by first | (simp; done) | (simp; omega) | omega) _)))⟩

set_option maxRecDepth 100000 in
set_option maxHeartbeats 3200000 in
theorem zzFits8_ok (c : CidOf) (off : Int) (w : World) :
    Calls Tryz.prog 14 #[.agg #[.int .u64 c.ver, .int .u64 c.codec, .int .u64 c.code, .string (sOf c.dig), .int .u64 off]] w fun e w' => e = .returned (.bool (fitB c.dig.length)) ∧ Below w.heap.size w w' := by
  have hF := fun W => zzFits1_ok c W
  have hag : c.agg = .agg #[.int .u64 c.ver, .int .u64 c.codec, .int .u64 c.code, .string (sOf c.dig)] := rfl
  rw [hag] at hF
  clear hag
  generalize fitB c.dig.length = b at *
  generalize sOf c.dig = s at *
  cases b
  all_goals (go_enter Tryz.func14, Tryz.ntmps14)
  all_goals (go_wp2_with fail)
  all_goals (refine (hF _).mono ?_; rintro e w1 ⟨rfl, hb1⟩)
  all_goals (go_wp2_with fail)
  all_goals go_ret
  all_goals exact ⟨rfl, by (repeat (first | (with_reducible exact Below.refl _ _) | (with_reducible exact below_boxed _ _) | (with_reducible refine below_box ?_ _) | (with_reducible refine below_drew1 ?_) | (with_reducible refine below_drewn ?_ _) | (with_reducible refine below_bytes ?_ _ _) | (with_reducible refine below_next ?_ (by assumption)) | (with_reducible refine below_set ?_ (by first | (simp; done) | (simp; omega) | omega) _)))⟩
end Go.Proofs.YtifoicdnibgdaaaGreatDoor
