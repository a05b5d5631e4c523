/- The guards over all entries. -/
import Derived.Test.YtifoicdnibgdaaaGreatDoorGuard
namespace Go.Proofs.YtifoicdnibgdaaaGreatDoor
open Go.RowKit
set_option linter.unusedVariables false
set_option linter.unusedSimpArgs false
attribute [local go_sem] setCell_drewN alloc_drewN

theorem RowsAt.row {w wr : World} {A : Option Addr} {l : List (CidOf × Int)} (hR : RowsAt w A l) (hb : Below w.heap.size w wr) {k : Nat} {x : CidOf × Int} (hx : l[k]? = some x) :
    ∃ g0 o, A = some ⟨g0, o, none⟩ ∧ g0 < w.heap.size ∧ wr.cell? ⟨g0, o + k * 5, none⟩ = some (.int .u64 x.1.ver) ∧ wr.cell? ⟨g0, o + k * 5 + 1, none⟩ = some (.int .u64 x.1.codec) ∧ wr.cell? ⟨g0, o + k * 5 + 2, none⟩ = some (.int .u64 x.1.code) ∧ wr.cell? ⟨g0, o + k * 5 + 3, none⟩ = some (.string (sOf x.1.dig)) ∧ wr.cell? ⟨g0, o + k * 5 + 4, none⟩ = some (.int .u64 x.2) := by
  rcases hR with rfl | ⟨g0, o, rfl, hc⟩
  · simp at hx
  have c0 := hc k x hx 0 _ rfl
  have hg0 : g0 < w.heap.size := World.block_lt_of_cell? w _ c0
  have h := fun j v hj => (hb.cell (p := ⟨g0, o + k * 5 + j, none⟩) hg0).trans (hc k x hx j v hj)
  exact ⟨g0, o, rfl, hg0, h 0 _ rfl, h 1 _ rfl, h 2 _ rfl, h 3 _ rfl, h 4 _ rfl⟩

set_option maxRecDepth 100000 in
set_option maxHeartbeats 3200000 in
theorem zzFits7_ok (l : List (CidOf × Int)) (A : Option Addr) (cap : Nat) (w : World) (hR : RowsAt w A l) (hlen : l.length ≤ 9223372036854775807) (hcap : l.length ≤ cap) :
    Calls Tryz.prog 5 #[.slice A l.length cap] w fun e w' => ∃ b, e = .returned (.bool b) ∧ Below w.heap.size w w' := by
  by_cases hbig : (2147483647 : Int) < (l.length : Int)
  · go_enter Tryz.func5, Tryz.ntmps5
    go_wp2_with fail
    go_ret
    exact ⟨_, rfl, Below.refl _ _⟩
  go_enter Tryz.func5, Tryz.ntmps5
  go_wp2_with fail
  go_loopw [10] (fun vi wr => ∃ k : Nat, k ≤ l.length ∧ vi = .int .i64 k ∧ Below w.heap.size w wr) (fun vi _ => l.length - (intOf vi).toNat)
  case atStart => exact ⟨0, Nat.zero_le _, rfl, Below.refl _ _⟩
  case round =>
    obtain ⟨k, hk, rfl, hbw⟩ := hrel
    by_cases hlt : k < l.length
    · have hx := List.getElem?_eq_getElem hlt
      generalize l[k] = x at hx
      obtain ⟨g0, o, rfl, hg0, c0, c1, c2, c3, c4⟩ := hR.row hbw hx
      have hF := fun W => zzFits8_ok x.1 x.2 W
      have hsz := hbw.size
      have hglt : g0 < wr.heap.size := by omega
      generalize sOf x.1.dig = s at *
      generalize fitB x.1.dig.length = b at *
      go_wp2_with fail
      refine (hF _).mono ?_
      rintro e w2 ⟨rfl, hb2⟩
      have hb3 : Below w.heap.size w w2 := by
        have hbx : Below wr.heap.size wr (wr.alloc (.cells #[.int .u64 x.1.ver, .int .u64 x.1.codec, .int .u64 x.1.code, .string s, .int .u64 x.2] 30)) := below_boxed wr _
        exact hbw.trans ((below_next hbx hb2).mono hsz)
      cases b with
      | false =>
        go_wp2_with fail
        go_ret
        exact ⟨_, rfl, hb3⟩
      | true =>
        go_wp2_with fail
        go_roundw
        case rel => exact ⟨k + 1, by omega, by go_num, hb3⟩
        case measure => simp [intOf]; omega
    · obtain rfl : k = l.length := by omega
      go_wp2_with fail
      go_ret
      exact ⟨_, rfl, hbw⟩

set_option maxRecDepth 100000 in
set_option maxHeartbeats 3200000 in
theorem stEntries_ok (l : List (CidOf × Int)) (A : Option Addr) (cap : Nat) (w : World) (hR : RowsAt w A l) (hlen : l.length ≤ 9223372036854775807) (hcap : l.length ≤ cap) :
    Calls Tryz.prog 6 #[.slice A l.length cap] w fun e w' => ∃ b, e = .returned (.bool b) ∧ (b = true → l.length ≤ 60 ∧ ∀ x, x ∈ l → stB x.1 = true) ∧ Below w.heap.size w w' := by
  by_cases hsm : (l.length : Int) ≤ 60
  · go_enter Tryz.func6, Tryz.ntmps6
    go_wp2_with fail
    go_loopw [3, 4] (fun vo vi wr => ∃ (k : Nat) (b : Bool), k ≤ l.length ∧ vi = .int .i64 k ∧ vo = .bool b ∧ (b = true → ∀ i, i < k → ∀ x, l[i]? = some x → stB x.1 = true) ∧ Below w.heap.size w wr) (fun _ vi _ => l.length - (intOf vi).toNat)
    case atStart => exact ⟨0, true, Nat.zero_le _, rfl, rfl, fun _ i hi => absurd hi (by omega), Below.refl _ _⟩
    case round =>
      obtain ⟨k, b, hk, rfl, rfl, hall, hbw⟩ := hrel
      cases b with
      | false =>
        go_wp2_with fail
        go_ret
        exact ⟨_, rfl, by simp, hbw⟩
      | true =>
        by_cases hlt : k < l.length
        · have hx := List.getElem?_eq_getElem hlt
          generalize l[k] = x at hx
          obtain ⟨g0, o, rfl, hg0, c0, c1, c2, c3, c4⟩ := hR.row hbw hx
          have hF := fun W => stCid_ok x.1 W
          have hag : x.1.agg = .agg #[.int .u64 x.1.ver, .int .u64 x.1.codec, .int .u64 x.1.code, .string (sOf x.1.dig)] := rfl
          rw [hag] at hF
          clear hag
          have hsz := hbw.size
          have hglt : g0 < wr.heap.size := by omega
          generalize sOf x.1.dig = s at *
          have HALL := Lib.hid hall; clear hall
          generalize hb : stB x.1 = b at *
          have HB := Lib.hid hb; clear hb
          go_wp2_with fail
          refine (hF _).mono ?_
          rintro e w2 ⟨rfl, hb2⟩
          have hb3 : Below w.heap.size w w2 := hbw.trans (hb2.mono hsz)
          go_wp2_with fail
          go_roundw
          case rel =>
            refine ⟨k + 1, b, by omega, by go_num, rfl, fun e i hi y hy => ?_, hb3⟩
            by_cases hik : i = k
            · subst hik
              rw [hx] at hy
              obtain rfl := Option.some.inj hy
              rw [HB.out]; exact e
            · exact HALL.out (by first | rfl | trivial) i (by omega) y hy
          case measure => simp [intOf]; omega
        · obtain rfl : k = l.length := by omega
          have HALL := Lib.hid hall; clear hall
          go_wp2_with fail
          go_ret
          refine .inr ⟨rfl, ⟨by omega, ?_⟩, hbw⟩
          suffices h : ∀ x, x ∈ l → stB x.1 = true by first | exact h | (intro a b hab; exact h _ hab)
          intro x hx
          obtain ⟨i, hi⟩ := List.getElem?_of_mem hx
          exact HALL.out (by first | rfl | trivial) i (by have := (List.getElem?_eq_some_iff.1 hi).1; omega) x hi
  · go_enter Tryz.func6, Tryz.ntmps6
    go_wp2_with fail
    go_loopw [3, 4] (fun vo vi wr => vo = .bool false ∧ vi = .int .i64 0 ∧ w = wr) (fun _ vi _ => 0)
    case atStart => exact ⟨rfl, rfl, rfl⟩
    case round =>
      obtain ⟨rfl, rfl, rfl⟩ := hrel
      go_wp2_with fail
      go_ret
      exact ⟨_, rfl, by simp, Below.refl _ _⟩
end Go.Proofs.YtifoicdnibgdaaaGreatDoor
