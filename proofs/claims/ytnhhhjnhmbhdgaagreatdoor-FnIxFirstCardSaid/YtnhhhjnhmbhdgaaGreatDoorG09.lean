import Derived.Test.YtnhhhjnhmbhdgaaGreatDoorG01
import Derived.Test.YtnhhhjnhmbhdgaaGreatDoorG00
import Derived.Test.YtnhhhjnhmbhdgaaGreatDoorG08
import Derived.Test.YtnhhhjnhmbhdgaaGreatDoorG07
/- What the guards say: tidy identifiers, entries, sizes. -/
namespace Go.Proofs.YtnhhhjnhmbhdgaaGreatDoor
open Go.RowKit
set_option linter.unusedVariables false
set_option linter.unusedSimpArgs false
attribute [local go_sem] setCell_drewN alloc_drewN

def CidOf.agg (c : CidOf) : Value := .agg #[.int .u64 c.ver, .int .u64 c.codec, .int .u64 c.code, .string (sOf c.dig)]

def tidyB (v x y n : Nat) : Bool := decide (v = 0 ∧ x = 112 ∧ y = 18 ∧ n = 32 ∨ v = 1 ∧ x < 9223372036854775808 ∧ y < 9223372036854775808)
theorem tidyB_t {v x y n : Nat} (h : v = 0 ∧ x = 112 ∧ y = 18 ∧ n = 32 ∨ v = 1 ∧ x < 9223372036854775808 ∧ y < 9223372036854775808) : Ending.returned (Value.bool true) = Ending.returned (Value.bool (tidyB v x y n)) := by rw [tidyB, decide_eq_true h]
theorem tidyB_f {v x y n : Nat} (h : ¬ (v = 0 ∧ x = 112 ∧ y = 18 ∧ n = 32 ∨ v = 1 ∧ x < 9223372036854775808 ∧ y < 9223372036854775808)) : Ending.returned (Value.bool false) = Ending.returned (Value.bool (tidyB v x y n)) := by rw [tidyB, decide_eq_false h]
theorem tidyB_n {v x y n : Nat} (h1 : (v : Int) = 0) (h2 : (x : Int) = 112) (h3 : (y : Int) = 18) : Ending.returned (Value.bool ((n : Int) == 32)) = Ending.returned (Value.bool (tidyB v x y n)) := by
  by_cases h : n = 32
  · subst h; exact tidyB_t (by omega)
  · have e : ((n : Int) == 32) = false := beq_eq_false_iff_ne.2 (by omega)
    rw [e]; exact tidyB_f (by omega)

set_option maxRecDepth 100000 in
set_option maxHeartbeats 3200000 in
theorem Tidy_ok (c : CidOf) (w : World) :
    Calls Tryz.prog 7 #[c.agg] w fun e w' => e = .returned (.bool (tidyB c.ver c.codec c.code c.dig.length)) ∧ Below w.heap.size w w' := by
  have hss : (sOf c.dig).size = c.dig.length := rfl
  show Calls Tryz.prog 7 #[.agg #[.int .u64 c.ver, .int .u64 c.codec, .int .u64 c.code, .string (sOf c.dig)]] w _
  generalize sOf c.dig = s at *
  generalize hv : c.ver = v at *
  generalize hc : c.codec = x at *
  generalize hd : c.code = y at *
  generalize hl : c.dig.length = n at *
  clear hv hc hd hl
  by_cases h0 : (v : Int) = 0
  · by_cases h1 : (x : Int) = 112
    · by_cases h2 : (y : Int) = 18
      · (go_enter Tryz.func7, Tryz.ntmps7; go_wp2_with fail; go_ret; exact ⟨tidyB_n h0 h1 h2, by (repeat (first | (with_reducible exact Below.refl _ _) | (with_reducible exact below_boxed _ _) | (with_reducible refine below_box ?_ _) | (with_reducible refine below_drew1 ?_) | (with_reducible refine below_drewn ?_ _) | (with_reducible refine below_bytes ?_ _ _) | (with_reducible refine below_next ?_ (by assumption)) | (with_reducible refine below_set ?_ (by first | (simp; done) | (simp; omega) | omega) _)))⟩)
      · go_enter Tryz.func7, Tryz.ntmps7; go_wp2_with fail; go_ret; first | exact ⟨tidyB_t (by omega), by (repeat (first | (with_reducible exact Below.refl _ _) | (with_reducible exact below_boxed _ _) | (with_reducible refine below_box ?_ _) | (with_reducible refine below_drew1 ?_) | (with_reducible refine below_drewn ?_ _) | (with_reducible refine below_bytes ?_ _ _) | (with_reducible refine below_next ?_ (by assumption)) | (with_reducible refine below_set ?_ (by first | (simp; done) | (simp; omega) | omega) _)))⟩ | exact ⟨tidyB_f (by omega), by (repeat (first | (with_reducible exact Below.refl _ _) | (with_reducible exact below_boxed _ _) | (with_reducible refine below_box ?_ _) | (with_reducible refine below_drew1 ?_) | (with_reducible refine below_drewn ?_ _) | (with_reducible refine below_bytes ?_ _ _) | (with_reducible refine below_next ?_ (by assumption)) | (with_reducible refine below_set ?_ (by first | (simp; done) | (simp; omega) | omega) _)))⟩
    · go_enter Tryz.func7, Tryz.ntmps7; go_wp2_with fail; go_ret; first | exact ⟨tidyB_t (by omega), by (repeat (first | (with_reducible exact Below.refl _ _) | (with_reducible exact below_boxed _ _) | (with_reducible refine below_box ?_ _) | (with_reducible refine below_drew1 ?_) | (with_reducible refine below_drewn ?_ _) | (with_reducible refine below_bytes ?_ _ _) | (with_reducible refine below_next ?_ (by assumption)) | (with_reducible refine below_set ?_ (by first | (simp; done) | (simp; omega) | omega) _)))⟩ | exact ⟨tidyB_f (by omega), by (repeat (first | (with_reducible exact Below.refl _ _) | (with_reducible exact below_boxed _ _) | (with_reducible refine below_box ?_ _) | (with_reducible refine below_drew1 ?_) | (with_reducible refine below_drewn ?_ _) | (with_reducible refine below_bytes ?_ _ _) | (with_reducible refine below_next ?_ (by assumption)) | (with_reducible refine below_set ?_ (by first | (simp; done) | (simp; omega) | omega) _)))⟩
  · by_cases h1 : (v : Int) = 1
    · by_cases h2 : (x : Int) < 9223372036854775808
      · by_cases h3 : (y : Int) < 9223372036854775808
        all_goals (go_enter Tryz.func7, Tryz.ntmps7; go_wp2_with fail; go_ret; first | exact ⟨tidyB_t (by omega), by (repeat (first | (with_reducible exact Below.refl _ _) | (with_reducible exact below_boxed _ _) | (with_reducible refine below_box ?_ _) | (with_reducible refine below_drew1 ?_) | (with_reducible refine below_drewn ?_ _) | (with_reducible refine below_bytes ?_ _ _) | (with_reducible refine below_next ?_ (by assumption)) | (with_reducible refine below_set ?_ (by first | (simp; done) | (simp; omega) | omega) _)))⟩ | exact ⟨tidyB_f (by omega), by (repeat (first | (with_reducible exact Below.refl _ _) | (with_reducible exact below_boxed _ _) | (with_reducible refine below_box ?_ _) | (with_reducible refine below_drew1 ?_) | (with_reducible refine below_drewn ?_ _) | (with_reducible refine below_bytes ?_ _ _) | (with_reducible refine below_next ?_ (by assumption)) | (with_reducible refine below_set ?_ (by first | (simp; done) | (simp; omega) | omega) _)))⟩)
      · go_enter Tryz.func7, Tryz.ntmps7; go_wp2_with fail; go_ret; first | exact ⟨tidyB_t (by omega), by (repeat (first | (with_reducible exact Below.refl _ _) | (with_reducible exact below_boxed _ _) | (with_reducible refine below_box ?_ _) | (with_reducible refine below_drew1 ?_) | (with_reducible refine below_drewn ?_ _) | (with_reducible refine below_bytes ?_ _ _) | (with_reducible refine below_next ?_ (by assumption)) | (with_reducible refine below_set ?_ (by first | (simp; done) | (simp; omega) | omega) _)))⟩ | exact ⟨tidyB_f (by omega), by (repeat (first | (with_reducible exact Below.refl _ _) | (with_reducible exact below_boxed _ _) | (with_reducible refine below_box ?_ _) | (with_reducible refine below_drew1 ?_) | (with_reducible refine below_drewn ?_ _) | (with_reducible refine below_bytes ?_ _ _) | (with_reducible refine below_next ?_ (by assumption)) | (with_reducible refine below_set ?_ (by first | (simp; done) | (simp; omega) | omega) _)))⟩
    · go_enter Tryz.func7, Tryz.ntmps7; go_wp2_with fail; go_ret; first | exact ⟨tidyB_t (by omega), by (repeat (first | (with_reducible exact Below.refl _ _) | (with_reducible exact below_boxed _ _) | (with_reducible refine below_box ?_ _) | (with_reducible refine below_drew1 ?_) | (with_reducible refine below_drewn ?_ _) | (with_reducible refine below_bytes ?_ _ _) | (with_reducible refine below_next ?_ (by assumption)) | (with_reducible refine below_set ?_ (by first | (simp; done) | (simp; omega) | omega) _)))⟩ | exact ⟨tidyB_f (by omega), by (repeat (first | (with_reducible exact Below.refl _ _) | (with_reducible exact below_boxed _ _) | (with_reducible refine below_box ?_ _) | (with_reducible refine below_drew1 ?_) | (with_reducible refine below_drewn ?_ _) | (with_reducible refine below_bytes ?_ _ _) | (with_reducible refine below_next ?_ (by assumption)) | (with_reducible refine below_set ?_ (by first | (simp; done) | (simp; omega) | omega) _)))⟩

def fitB (n : Nat) : Bool := decide (n ≤ 2147483647)
set_option maxRecDepth 100000 in
set_option maxHeartbeats 3200000 in
theorem zzFits1_ok (c : CidOf) (w : World) :
    Calls Tryz.prog 5 #[c.agg] w fun e w' => e = .returned (.bool (fitB c.dig.length)) ∧ Below w.heap.size w w' := by
  have hss : (sOf c.dig).size = c.dig.length := rfl
  show Calls Tryz.prog 5 #[.agg #[.int .u64 c.ver, .int .u64 c.codec, .int .u64 c.code, .string (sOf c.dig)]] w _
  generalize sOf c.dig = s at *
  generalize c.dig.length = n at *
  by_cases h1 : (2147483647 : Int) < (n : Int)
  all_goals (go_enter Tryz.func5, Tryz.ntmps5; go_wp2_with fail; go_ret)
  · exact ⟨by have h3 : ¬ n ≤ 2147483647 := by omega
              simp [fitB, h3], by (repeat (first | (with_reducible exact Below.refl _ _) | (with_reducible exact below_boxed _ _) | (with_reducible refine below_box ?_ _) | (with_reducible refine below_drew1 ?_) | (with_reducible refine below_drewn ?_ _) | (with_reducible refine below_bytes ?_ _ _) | (with_reducible refine below_next ?_ (by assumption)) | (with_reducible refine below_set ?_ (by first | (simp; done) | (simp; omega) | omega) _)))⟩
  · exact ⟨by have h3 : n ≤ 2147483647 := by omega
              simp [fitB, h3], by (repeat (first | (with_reducible exact Below.refl _ _) | (with_reducible exact below_boxed _ _) | (with_reducible refine below_box ?_ _) | (with_reducible refine below_drew1 ?_) | (with_reducible refine below_drewn ?_ _) | (with_reducible refine below_bytes ?_ _ _) | (with_reducible refine below_next ?_ (by assumption)) | (with_reducible refine below_set ?_ (by first | (simp; done) | (simp; omega) | omega) _)))⟩

set_option maxRecDepth 100000 in
set_option maxHeartbeats 3200000 in
theorem zzFits8_ok (c : CidOf) (off : Int) (w : World) :
    Calls Tryz.prog 12 #[.agg #[.int .u64 c.ver, .int .u64 c.codec, .int .u64 c.code, .string (sOf c.dig), .int .u64 off]] w fun e w' => e = .returned (.bool (fitB c.dig.length)) ∧ Below w.heap.size w w' := by
  have hF := fun W => zzFits1_ok c W
  have hag : c.agg = .agg #[.int .u64 c.ver, .int .u64 c.codec, .int .u64 c.code, .string (sOf c.dig)] := rfl
  rw [hag] at hF
  clear hag
  generalize fitB c.dig.length = b at *
  generalize sOf c.dig = s at *
  cases b
  all_goals (go_enter Tryz.func12, Tryz.ntmps12)
  all_goals (go_wp2_with fail)
  all_goals (refine (hF _).mono ?_; rintro e w1 ⟨rfl, hb1⟩)
  all_goals (go_wp2_with fail)
  all_goals go_ret
  all_goals exact ⟨rfl, by (repeat (first | (with_reducible exact Below.refl _ _) | (with_reducible exact below_boxed _ _) | (with_reducible refine below_box ?_ _) | (with_reducible refine below_drew1 ?_) | (with_reducible refine below_drewn ?_ _) | (with_reducible refine below_bytes ?_ _ _) | (with_reducible refine below_next ?_ (by assumption)) | (with_reducible refine below_set ?_ (by first | (simp; done) | (simp; omega) | omega) _)))⟩

set_option maxRecDepth 100000 in
set_option maxHeartbeats 3200000 in
theorem zzFits7_ok (l : List (CidOf × Int)) (A : Option Addr) (cap : Nat) (w : World) (hR : RowsAt w A l) (hlen : l.length ≤ 9223372036854775807) (hcap : l.length ≤ cap) :
    Calls Tryz.prog 4 #[.slice A l.length cap] w fun e w' => ∃ b, e = .returned (.bool b) ∧ Below w.heap.size w w' := by
  by_cases hbig : (2147483647 : Int) < (l.length : Int)
  · go_enter Tryz.func4, Tryz.ntmps4
    go_wp2_with fail
    go_ret
    exact ⟨_, rfl, Below.refl _ _⟩
  go_enter Tryz.func4, Tryz.ntmps4
  go_wp2_with fail
  go_loopw [10] (fun vi wr => ∃ k : Nat, k ≤ l.length ∧ vi = .int .i64 k ∧ Below w.heap.size w wr) (fun vi _ => l.length - (intOf vi).toNat)
  case atStart => exact ⟨0, Nat.zero_le _, rfl, Below.refl _ _⟩
  case round =>
    obtain ⟨k, hk, rfl, hbw⟩ := hrel
    by_cases hlt : k < l.length
    · have hx := List.getElem?_eq_getElem hlt
      generalize l[k] = x at hx
      obtain ⟨g0, o, rfl, hg0, c0, c1, c2, c3, c4⟩ := hR.row hbw hx
      have hF := fun W => zzFits8_ok x.1 x.2 W
      have hsz := hbw.size
      have hglt : g0 < wr.heap.size := by omega
      generalize sOf x.1.dig = s at *
      generalize fitB x.1.dig.length = b at *
      go_wp2_with fail
      refine (hF _).mono ?_
      rintro e w2 ⟨rfl, hb2⟩
      have hb3 : Below w.heap.size w w2 := by
        have hbx : Below wr.heap.size wr (wr.alloc (.cells #[.int .u64 x.1.ver, .int .u64 x.1.codec, .int .u64 x.1.code, .string s, .int .u64 x.2] 37)) := below_boxed wr _
        exact hbw.trans ((below_next hbx hb2).mono hsz)
      cases b with
      | false =>
        go_wp2_with fail
        go_ret
        exact ⟨_, rfl, hb3⟩
      | true =>
        go_wp2_with fail
        go_roundw
        case rel => exact ⟨k + 1, by omega, by go_num, hb3⟩
        case measure => simp [intOf]; omega
    · obtain rfl : k = l.length := by omega
      go_wp2_with fail
      go_ret
      exact ⟨_, rfl, hbw⟩

/-- What ixGood says of entries. -/
def Good (l : List (CidOf × Int)) (kind : Nat) : Prop := l.length ≤ 100 ∧ (kind = 1024 ∨ kind = 1025) ∧ ∀ x ∈ l, x.1.dig.length ≤ 200 ∧ tidyB x.1.ver x.1.codec x.1.code x.1.dig.length = true
theorem good_ok {c : CidOf} (h : c.dig.length ≤ 200 ∧ tidyB c.ver c.codec c.code c.dig.length = true) : c.Ok := by
  have ht := of_decide_eq_true h.2
  exact ⟨by omega, by omega, by omega, h.1⟩
set_option maxRecDepth 100000 in
set_option maxHeartbeats 3200000 in
theorem ixGood_ok (l : List (CidOf × Int)) (A : Option Addr) (cap kind : Nat) (w : World) (hR : RowsAt w A l) (hlen : l.length ≤ 9223372036854775807) (hcap : l.length ≤ cap) :
    Calls Tryz.prog 6 #[.slice A l.length cap, .int .u64 (kind : Int)] w fun e w' => (e = .returned (.bool false) ∨ (e = .returned (.bool true) ∧ Good l kind)) ∧ Below w.heap.size w w' := by
  by_cases hbig : (100 : Int) < (l.length : Int)
  · go_enter Tryz.func6, Tryz.ntmps6
    go_wp2_with fail
    go_ret
    exact ⟨.inl rfl, Below.refl _ _⟩
  by_cases hk0 : kind = 1024
  · subst hk0
    go_enter Tryz.func6, Tryz.ntmps6
    go_wp2_with fail
    go_loopw [20] (fun vi wr => ∃ k : Nat, k ≤ l.length ∧ vi = .int .i64 (k : Int) ∧ Below w.heap.size w wr ∧ ∀ x ∈ l.take k, x.1.dig.length ≤ 200 ∧ tidyB x.1.ver x.1.codec x.1.code x.1.dig.length = true) (fun vi _ => l.length - (intOf vi).toNat)
    case atStart => exact ⟨0, Nat.zero_le _, rfl, Below.refl _ _, fun x hx => by simp at hx⟩
    case round =>
      obtain ⟨k, hk, rfl, hbw, hal⟩ := hrel
      have HA := Lib.hid hal
      clear hal
      by_cases hlt : k < l.length
      · have hx := List.getElem?_eq_getElem hlt
        generalize l[k] = x at hx
        obtain ⟨g0, o, rfl, hg0, c0, c1, c2, c3, c4⟩ := hR.row hbw hx
        have hT := fun W => Tidy_ok x.1 W
        have hag : x.1.agg = .agg #[.int .u64 x.1.ver, .int .u64 x.1.codec, .int .u64 x.1.code, .string (sOf x.1.dig)] := rfl
        rw [hag] at hT
        have htk : l.take (k + 1) = l.take k ++ [x] := by rw [List.take_succ_eq_append_getElem hlt, (List.getElem?_eq_some_iff.1 hx).2]
        have HTK := Lib.hid htk
        have hsz := hbw.size
        have hglt : g0 < wr.heap.size := by omega
        have hss : (sOf x.1.dig).size = x.1.dig.length := rfl
        have HD := Lib.hid hss
        generalize hn : x.1.dig.length = n at *
        generalize sOf x.1.dig = s at *
        generalize htb : tidyB x.1.ver x.1.codec x.1.code n = tb at *
        have HN := Lib.hid (And.intro hn htb)
        have hbx : Below w.heap.size w (wr.alloc (.cells #[.int .u64 x.1.ver, .int .u64 x.1.codec, .int .u64 x.1.code, .string s, .int .u64 x.2] 37)) := below_box hbw _
        clear htk hx hag hn htb
        by_cases h200 : (200 : Int) < (n : Int)
        · go_wp2_with fail
          go_ret
          exact ⟨.inl rfl, hbx⟩
        · cases tb with
          | false =>
            go_wp2_with fail
            refine (hT _).mono ?_
            rintro e w2 ⟨rfl, hb2⟩
            have hb3 : Below w.heap.size w w2 := below_next hbx hb2
            clear hb2 hbx
            go_wp2_with fail
            go_ret
            exact ⟨.inl rfl, hb3⟩
          | true =>
            go_wp2_with fail
            refine (hT _).mono ?_
            rintro e w2 ⟨rfl, hb2⟩
            have hb3 : Below w.heap.size w w2 := below_next hbx hb2
            clear hb2 hbx
            go_wp2_with fail
            go_roundw
            case rel => exact ⟨k + 1, by omega, by go_num, hb3, fun y hy => by
              rw [HTK.out] at hy
              rcases List.mem_append.1 hy with hy | hy
              · exact HA.out y hy
              · simp only [List.mem_singleton] at hy
                subst hy
                rw [HN.out.1]
                exact ⟨by omega, HN.out.2⟩⟩
            case measure => simp [intOf]; omega
      · obtain rfl : k = l.length := by omega
        go_wp2_with fail
        go_ret
        exact ⟨.inr ⟨rfl, by omega, by simp, by have := HA.out; rwa [List.take_length] at this⟩, hbw⟩
  by_cases hk1 : kind = 1025
  · subst hk1
    go_enter Tryz.func6, Tryz.ntmps6
    go_wp2_with fail
    go_loopw [20] (fun vi wr => ∃ k : Nat, k ≤ l.length ∧ vi = .int .i64 (k : Int) ∧ Below w.heap.size w wr ∧ ∀ x ∈ l.take k, x.1.dig.length ≤ 200 ∧ tidyB x.1.ver x.1.codec x.1.code x.1.dig.length = true) (fun vi _ => l.length - (intOf vi).toNat)
    case atStart => exact ⟨0, Nat.zero_le _, rfl, Below.refl _ _, fun x hx => by simp at hx⟩
    case round =>
      obtain ⟨k, hk, rfl, hbw, hal⟩ := hrel
      have HA := Lib.hid hal
      clear hal
      by_cases hlt : k < l.length
      · have hx := List.getElem?_eq_getElem hlt
        generalize l[k] = x at hx
        obtain ⟨g0, o, rfl, hg0, c0, c1, c2, c3, c4⟩ := hR.row hbw hx
        have hT := fun W => Tidy_ok x.1 W
        have hag : x.1.agg = .agg #[.int .u64 x.1.ver, .int .u64 x.1.codec, .int .u64 x.1.code, .string (sOf x.1.dig)] := rfl
        rw [hag] at hT
        have htk : l.take (k + 1) = l.take k ++ [x] := by rw [List.take_succ_eq_append_getElem hlt, (List.getElem?_eq_some_iff.1 hx).2]
        have HTK := Lib.hid htk
        have hsz := hbw.size
        have hglt : g0 < wr.heap.size := by omega
        have hss : (sOf x.1.dig).size = x.1.dig.length := rfl
        have HD := Lib.hid hss
        generalize hn : x.1.dig.length = n at *
        generalize sOf x.1.dig = s at *
        generalize htb : tidyB x.1.ver x.1.codec x.1.code n = tb at *
        have HN := Lib.hid (And.intro hn htb)
        have hbx : Below w.heap.size w (wr.alloc (.cells #[.int .u64 x.1.ver, .int .u64 x.1.codec, .int .u64 x.1.code, .string s, .int .u64 x.2] 37)) := below_box hbw _
        clear htk hx hag hn htb
        by_cases h200 : (200 : Int) < (n : Int)
        · go_wp2_with fail
          go_ret
          exact ⟨.inl rfl, hbx⟩
        · cases tb with
          | false =>
            go_wp2_with fail
            refine (hT _).mono ?_
            rintro e w2 ⟨rfl, hb2⟩
            have hb3 : Below w.heap.size w w2 := below_next hbx hb2
            clear hb2 hbx
            go_wp2_with fail
            go_ret
            exact ⟨.inl rfl, hb3⟩
          | true =>
            go_wp2_with fail
            refine (hT _).mono ?_
            rintro e w2 ⟨rfl, hb2⟩
            have hb3 : Below w.heap.size w w2 := below_next hbx hb2
            clear hb2 hbx
            go_wp2_with fail
            go_roundw
            case rel => exact ⟨k + 1, by omega, by go_num, hb3, fun y hy => by
              rw [HTK.out] at hy
              rcases List.mem_append.1 hy with hy | hy
              · exact HA.out y hy
              · simp only [List.mem_singleton] at hy
                subst hy
                rw [HN.out.1]
                exact ⟨by omega, HN.out.2⟩⟩
            case measure => simp [intOf]; omega
      · obtain rfl : k = l.length := by omega
        go_wp2_with fail
        go_ret
        exact ⟨.inr ⟨rfl, by omega, by simp, by have := HA.out; rwa [List.take_length] at this⟩, hbw⟩
  have h0 : ((kind : Int) == 1024) = false := by simp; omega
  have h1 : ((kind : Int) == 1025) = false := by simp; omega
  clear hk0 hk1
  go_enter Tryz.func6, Tryz.ntmps6
  go_wp2_with fail
  all_goals first | (go_ret; exact ⟨.inl rfl, Below.refl _ _⟩) | (exfalso; omega) | (exfalso; rename_i hbad; simp_all; done)
end Go.Proofs.YtnhhhjnhmbhdgaaGreatDoor

/- impl.IxBytes of one entry, sorted by digests. -/
namespace Go.Proofs.YtnhhhjnhmbhdgaaGreatDoor
open Go.RowKit
set_option linter.unusedVariables false
set_option linter.unusedSimpArgs false
attribute [local go_sem] setCell_drewN alloc_drewN

theorem info_Rec : (Tryz.prog.info? 144).map (fun i => (i.zero, i.size, i.bytes)) = some (some (.agg #[.string ⟨#[]⟩, .int .u64 0]), 2, 24) := by kernel_rfl
theorem method_LoadM (v : Value) (w : World) : (method 454 mwT v "Load").run Tryz.prog w = .ok (182, v) w := by kernel_rfl

theorem two_cells (w : World) (x y : Value) (t : TypeId) : ∀ (j : Nat) (u : Value), [x, y][j]? = some u → (w.alloc (.cells #[x, y] t)).cell? ((⟨w.heap.size, 0, none⟩ : Addr).add j) = some u := by
  intro j u hj
  match j, hj with
  | 0, hj => simp at hj; subst hj; simp [Addr.add]
  | 1, hj => simp at hj; subst hj; simp [Addr.add]
theorem sortedSecs_one (s : Sec) : sortedSecs [s] = [s.two] := by
  rw [sortedSecs, List.map_cons, List.map_nil, sortN_tiny (by simp)]
  simp [inOrder]

/-- An entry of an index, as it lies in a slice at block g. -/
structure EntAt (w : World) (g : Nat) (c : CidOf) (off : Nat) : Prop where
  c0 : w.cell? ⟨g, 0, none⟩ = some (.int .u64 (c.ver : Int))
  c1 : w.cell? ⟨g, 1, none⟩ = some (.int .u64 (c.codec : Int))
  c2 : w.cell? ⟨g, 2, none⟩ = some (.int .u64 (c.code : Int))
  c3 : w.cell? ⟨g, 3, none⟩ = some (.string (sOf c.dig))
  c4 : w.cell? ⟨g, 4, none⟩ = some (.int .u64 (off : Int))
theorem EntAt.lt {w : World} {g : Nat} {c : CidOf} {off : Nat} (h : EntAt w g c off) : g < w.heap.size := World.block_lt_of_cell? w _ h.c0
theorem EntAt.below {w w' : World} {g : Nat} {c : CidOf} {off : Nat} (h : EntAt w g c off) (hb : Below w.heap.size w w') : EntAt w' g c off :=
  ⟨(hb.cell (p := ⟨g, 0, none⟩) h.lt).trans h.c0, (hb.cell (p := ⟨g, 1, none⟩) h.lt).trans h.c1, (hb.cell (p := ⟨g, 2, none⟩) h.lt).trans h.c2, (hb.cell (p := ⟨g, 3, none⟩) h.lt).trans h.c3, (hb.cell (p := ⟨g, 4, none⟩) h.lt).trans h.c4⟩

/-- The bytes of an index of one entry, sorted by digests. -/
def oneSorted (dig : List UInt8) (off : Nat) : List UInt8 := Lib.uvarint 1024 ++ mwBytes [(dig.length + 8, dig ++ Lib.leBytes 8 off)]

set_option maxRecDepth 100000 in
set_option maxHeartbeats 3200000 in
theorem indexBytes_one (ge cap off : Nat) (c : CidOf) (hc : c.Ok) (hd : 0 < c.dig.length) (hoff : off < 18446744073709551616) (w : World) (hE : EntAt w ge c off) :
    Calls Tryz.prog 42 #[.slice (some ⟨ge, 0, none⟩) 1 cap, .int .u64 1024] w fun e w' => e = .returned (.tuple #[.string (sOf (oneSorted c.dig off)), .bool true]) ∧ Below w.heap.size w w' := by
  obtain ⟨i0, ti, tz0, tz1, tz2⟩ := info_parts info_Rec
  have hdl := hc.dig
  have hme := method_LoadM
  have hgl := hE.lt
  go_enter Tryz.func42, Tryz.ntmps42
  go_wp2_with fail
  refine (New_sorted _).mono ?_
  rintro e w1 ⟨rfl, hM1, hb1⟩
  have hE1 := hE.below hb1
  obtain ⟨c0, c1, c2, c3, c4⟩ := hE1
  have hg1 : ge < w1.heap.size := by have := hb1.size; omega
  have hz1 : w.heap.size + 1 < w1.heap.size := World.block_lt_of_cell? w1 _ hM1.cell
  have hCid := fun W => cidIn_ok c hc W
  go_wp2_with fail
  refine wp_loop_rounds 2 ?_
  rw [rounds_succ]
  go_wp2_with fail
  refine (hCid _).mono ?_
  rintro e w2 ⟨rfl, hb2⟩
  have hbw2 : Below w1.heap.size w1 w2 := by (repeat (first | (with_reducible exact Below.refl _ _) | (with_reducible exact below_boxed _ _) | (with_reducible refine below_box ?_ _) | (with_reducible refine below_drew1 ?_) | (with_reducible refine below_drewn ?_ _) | (with_reducible refine below_bytes ?_ _ _) | (with_reducible refine below_next ?_ (by assumption)) | (with_reducible refine below_set ?_ (by first | (simp; done) | (simp; omega) | omega) _)))
  have kbox : w2.cell? ⟨w1.heap.size, 4, none⟩ = some (.int .u64 (off : Int)) := by
    have h := hb2.cell (p := ⟨w1.heap.size, 4, none⟩) (by simp)
    rw [h]
    exact blk_cell' (heap_alloc_last w1 _) 4
  have hM2 : MwAt w2 ⟨w.heap.size + 1, 0, none⟩ w.heap.size [] := hM1.kp (S := fun _ => False) (Kp.of_below hbw2) id id (fun _ _ => id)
  have hz2 : w1.heap.size < w2.heap.size := by have := hb2.size; simp at this; omega
  have HB2 := Lib.hid (below_next hb1 hbw2); have HM2 := Lib.hid hM2
  clear hb1 hb2 hbw2 hM1 hM2 c0 c1 c2 c3 c4 hE hCid
  go_wp2_with (at_builtin; refine wpList_append_own _ rfl _ _ 142 rfl w2.heap.size 144 i0 (.agg #[.string ⟨#[]⟩, .int .u64 0]) 2 24 Tryz.underlying142 ti tz0 tz1 tz2 rfl (by decide) _ _ _ rfl (World.ownsRow_nil _ _ _ _) ⟨w2.heap.size + 1, 0, none⟩ 1 1 [.string c.str, .int .u64 (off : Int)] rfl rfl ?c1 ?c2 ?c3 ?c4 ?c5 ?_)
  case c1 =>
    intro j u hj
    have := two_cells (w2.alloc (.cells #[.string c.str] 51)) (.string c.str) (.int .u64 (off : Int)) 144 j u hj
    simpa using this
  case c2 =>
    intro u hu
    simp only [List.mem_cons, List.not_mem_nil, or_false] at hu
    rcases hu with rfl | rfl <;> rfl
  case c3 => unfold maxLen; omega
  case c4 => omega
  case c5 => simp; omega
  intro v3 w3 hown3 hgrow hn3
  refine later ?_
  obtain ⟨g3, cap3, cur3, rfl, hge3, hg3, hle3, hcm3, hcs3, htk3⟩ : ∃ g cap cur, v3 = .slice (some ⟨g, 0, none⟩) 1 cap ∧ w2.heap.size ≤ g ∧ w3.heap[g]? = some (.cells cur 144 (0, 0)) ∧ 1 ≤ cap ∧ cap ≤ maxLen ∧ cur.size = cap * 2 ∧ cur.toList.take (1 * 2) = [.string c.str, .int .u64 (off : Int)] := by
    rcases hown3.2 with ⟨_, h⟩ | h
    · cases h
    · exact h
  have k0 : w3.cell? ⟨g3, 0, none⟩ = some (.string c.str) := by
    rw [blk_cell' hg3 0]
    have : cur3.toList[0]? = some (.string c.str) := by
      have h := congrArg (fun l => l[0]?) htk3
      simpa using h
    simpa using this
  have k1 : w3.cell? ⟨g3, 1, none⟩ = some (.int .u64 (off : Int)) := by
    rw [blk_cell' hg3 1]
    have : cur3.toList[1]? = some (.int .u64 (off : Int)) := by
      have h := congrArg (fun l => l[1]?) htk3
      simpa using h
    simpa using this
  have hkA : Kp (fun _ => False) w2 ((w2.alloc (.cells #[.string c.str] 51)).alloc (.cells #[.string c.str, .int .u64 (off : Int)] 144)) := Kp.of_below (by (repeat (first | (with_reducible exact Below.refl _ _) | (with_reducible exact below_boxed _ _) | (with_reducible refine below_box ?_ _) | (with_reducible refine below_drew1 ?_) | (with_reducible refine below_drewn ?_ _) | (with_reducible refine below_bytes ?_ _ _) | (with_reducible refine below_next ?_ (by assumption)) | (with_reducible refine below_set ?_ (by first | (simp; done) | (simp; omega) | omega) _))))
  have hk23 : Kp (fun _ => False) w2 w3 := hkA.trans (kp_grown hgrow) (fun i h => by simp [Value.ownBlock] at h)
  have hM3 := HM2.out.kp hk23 id id (fun _ _ => id)
  have hL := MwLoad_one ⟨w.heap.size + 1, 0, none⟩ w.heap.size g3 cap3 off c hc hd hoff w3 hM3 (by simp) k0 k1
  have hbw3 : Below w.heap.size w w3 := HB2.out.trans ⟨hk23.os, hk23.tape, hk23.output, hk23.size, fun k hk => hk23.block k (by omega) id⟩
  have HB3 := Lib.hid hbw3
  clear hown3 hgrow hn3 hg3 htk3 k0 k1 hkA hk23 hM3 hbw3 kbox
  refine now ?_
  go_wp2_with fail
  rw [rounds_succ]
  go_wp2_with fail
  refine hL.mono ?_
  clear hL
  rintro e w4 ⟨rfl, ⟨gd, hgd, hM4⟩, hK4⟩
  have hW := written_sorted w.heap.size 1 ⟨w.heap.size + 1, 0, none⟩ [⟨c.dig.length + 8, c.dig ++ Lib.leBytes 8 off, gd⟩] w4 tinySort_32 (Nat.le_refl _) hM4 (by simp; omega) (by simp) (by rw [sortedSecs_one]; simp [secsBytes, secBytes_len, Sec.two, le8_len]; omega)
  rw [sortedSecs_one] at hW
  have hb4 : Below w.heap.size w w4 := HB3.out.trans ⟨hK4.os, hK4.tape, hK4.output, hK4.size, fun k hk => hK4.block k (by have := HB3.out.size; omega) (by omega)⟩
  clear hM4 hK4
  go_wp2_with fail
  refine hW.mono ?_
  clear hW
  rintro e w5 ⟨rfl, hb5⟩
  go_wp2_with fail
  go_ret2
  exact ⟨rfl, below_next hb4 hb5⟩

set_option maxRecDepth 100000 in
theorem IxBytes_one (ge cap off : Nat) (c : CidOf) (hc : c.Ok) (hd : 0 < c.dig.length) (hoff : off < 18446744073709551616) (w : World) (hE : EntAt w ge c off) :
    Calls Tryz.prog 23 #[.slice (some ⟨ge, 0, none⟩) 1 cap, .int .u64 1024] w fun e w' => e = .returned (.tuple #[.string (sOf (oneSorted c.dig off)), .bool true]) ∧ Below w.heap.size w w' := by
  have hI := indexBytes_one ge cap off c hc hd hoff w hE
  clear hE
  go_enter Tryz.func23, Tryz.ntmps23
  go_wp2_with fail
  refine hI.mono ?_
  rintro e w1 ⟨rfl, hb⟩
  go_wp2_with fail
  go_ret2
  exact ⟨rfl, hb⟩
end Go.Proofs.YtnhhhjnhmbhdgaaGreatDoor
