/- io.ReadFull over a bytes.Reader. -/
import Derived.Test.YtfjclhfhbclbhaaGreatDoorRdu
import Derived.LoopN
import Derived.RegionCalls
import Derived.Deep.RegionWith
import Derived.Deep.RegionHeld3
namespace Go.Proofs.YtfjclhfhbclbhaaGreatDoor
open Go.RowKit
set_option linter.unusedVariables false
set_option linter.unusedSimpArgs false
attribute [local go_sem] setCell_drewN alloc_drewN

theorem method_Read (v : Value) (w : World) : (method 448 32 v "Read").run Tryz.prog w = .ok (282, v) w := by kernel_rfl

theorem ahead_Read (p : Addr) (w : World) : (nilAhead 448 32 (.pointer (some p)) "Read").run Tryz.prog w = .ok (some false) w := by kernel_rfl

/-- A whole row: what lies in it behind a Read that fills it. -/
theorem read_row (cur cs : List Value) (m : Nat) (hc : cur.length = m) (hm : cs.length = m) : cur.take 0 ++ cs ++ cur.drop (0 + m) = cs := by
  rw [Nat.zero_add, List.drop_of_length_le (by omega)]; simp

set_option maxRecDepth 100000 in
set_option maxHeartbeats 1600000 in
theorem ReadAtLeast_ok (b : Nat) (A : Option Addr) (cap : Nat) (bs : List UInt8) (pos : Nat) (gb m : Nat) (cur : Array Value) (w : World) (h : RdAt w b A cap bs pos) (hm0 : 0 < m) (hm : pos + m ≤ bs.length)
    (hgb : w.heap[gb]? = some (.cells cur 5 (0, 0))) (hfit : cur.size = m) (hnb : gb ≠ b) (hnA : ∀ g o, A = some ⟨g, o, none⟩ → g ≠ gb) :
    Calls Tryz.prog 211 #[.iface 32 (.pointer (some ⟨b, 0, none⟩)), .slice (some ⟨gb, 0, none⟩) m m, .int .i64 m] w fun e w' => e = .returned (.tuple #[.int .i64 (m : Int), .nilIface]) ∧ RdAt w' b A cap bs (pos + m) ∧
      w'.heap[gb]? = some (.cells (bcells ((bs.drop pos).take m)).toArray 5 (0, 0)) ∧ Kp (fun i => i = b ∨ i = gb) w w' := by
  have hme := method_Read
  have hna := ahead_Read
  have hmf : ∀ (fn : Fn) (first cap : Array Value) (w : World), (Instr.makeFunc fn first cap).run Tryz.prog w = .ok (.func fn first cap) w := fun _ _ _ _ => rfl
  have hbig := h.big
  have hR : ∀ W, RdAt W b A cap bs pos → W.heap[gb]? = some (.cells cur 5 (0, 0)) → _ := fun W hW hg => Read_ok b A cap bs pos gb 0 m m cur W hW hm0 hm hg (by omega) hnb hnA
  have hm1 : (0 : Int) < (m : Int) := by omega
  have hmb : (m : Int) < 1099511627777 := by omega
  go_enter Tryz.func211, Tryz.ntmps211
  go_wp2_with fail
  refine wp_loop_rounds 2 ?_
  rw [rounds_succ]
  go_wp2_with fail
  refine wp_region_noPanic ?_
  go_region_with (go_at_call 282; refine (hR _ (RdAt.drew h) hgb).mono ?_; rintro e w1 ⟨rfl, hR1, hg1, hK1⟩)
  refine NoPanic.normal ?_
  go_wp2_with fail
  rw [rounds_succ]
  go_wp2_with fail
  go_ret2
  refine ⟨rfl, hR1, ?_, Kp.mono (S := fun i => i = b ∨ i = gb) ⟨hK1.os, hK1.tape, hK1.output, hK1.size, hK1.block⟩ (fun i hi => .inl hi)⟩
  rw [hg1]
  congr 2
  rw [read_row _ _ m (by simpa using hfit) (by simp only [bcells, List.length_map, List.length_take, List.length_drop]; omega)]

set_option maxRecDepth 100000 in
set_option maxHeartbeats 1600000 in
theorem ReadFull_ok (b : Nat) (A : Option Addr) (cap : Nat) (bs : List UInt8) (pos : Nat) (gb m : Nat) (cur : Array Value) (w : World) (h : RdAt w b A cap bs pos) (hm0 : 0 < m) (hm : pos + m ≤ bs.length)
    (hgb : w.heap[gb]? = some (.cells cur 5 (0, 0))) (hfit : cur.size = m) (hnb : gb ≠ b) (hnA : ∀ g o, A = some ⟨g, o, none⟩ → g ≠ gb) :
    Calls Tryz.prog 196 #[.iface 32 (.pointer (some ⟨b, 0, none⟩)), .slice (some ⟨gb, 0, none⟩) m m] w fun e w' => e = .returned (.tuple #[.int .i64 (m : Int), .nilIface]) ∧ RdAt w' b A cap bs (pos + m) ∧
      w'.heap[gb]? = some (.cells (bcells ((bs.drop pos).take m)).toArray 5 (0, 0)) ∧ Kp (fun i => i = b ∨ i = gb) w w' := by
  have hR := ReadAtLeast_ok b A cap bs pos gb m cur w h hm0 hm hgb hfit hnb hnA
  clear h hm hgb hfit hnb hnA
  go_enter Tryz.func196, Tryz.ntmps196
  go_wp2_with fail
  refine hR.mono ?_
  rintro e w1 ⟨rfl, hR1⟩
  go_wp2_with fail
  go_ret2
  exact ⟨rfl, hR1⟩
set_option maxRecDepth 100000 in
set_option maxHeartbeats 800000 in
/-- Nothing is asked for. -/
theorem ReadFull_none (b gb : Nat) (w : World) :
    Calls Tryz.prog 196 #[.iface 32 (.pointer (some ⟨b, 0, none⟩)), .slice (some ⟨gb, 0, none⟩) 0 0] w fun e w' => e = .returned (.tuple #[.int .i64 0, .nilIface]) ∧ w = w' := by
  go_enter Tryz.func196, Tryz.ntmps196
  go_wp2_with fail
  suffices hs : Calls Tryz.prog 211 #[.iface 32 (.pointer (some ⟨b, 0, none⟩)), .slice (some ⟨gb, 0, none⟩) 0 0, .int .i64 0] w fun e w' => e = .returned (.tuple #[.int .i64 0, .nilIface]) ∧ w = w' by
    refine hs.mono ?_
    rintro e w1 ⟨rfl, rfl⟩
    go_wp2_with fail
    go_ret2
    exact ⟨rfl, rfl⟩
  go_enter Tryz.func211, Tryz.ntmps211
  go_wp2_with fail
  refine wp_loop_rounds 1 ?_
  rw [rounds_succ]
  go_wp2_with fail
  go_ret2
  exact ⟨rfl, rfl⟩
/-- As many as there are, or none. -/
theorem ReadFull_all (b : Nat) (A : Option Addr) (cap : Nat) (bs : List UInt8) (pos : Nat) (gb m : Nat) (cur : Array Value) (w : World) (h : RdAt w b A cap bs pos) (hm : pos + m ≤ bs.length)
    (hgb : w.heap[gb]? = some (.cells cur 5 (0, 0))) (hfit : cur.size = m) (hnb : gb ≠ b) (hnA : ∀ g o, A = some ⟨g, o, none⟩ → g ≠ gb) :
    Calls Tryz.prog 196 #[.iface 32 (.pointer (some ⟨b, 0, none⟩)), .slice (some ⟨gb, 0, none⟩) m m] w fun e w' => e = .returned (.tuple #[.int .i64 (m : Int), .nilIface]) ∧ RdAt w' b A cap bs (pos + m) ∧
      w'.heap[gb]? = some (.cells (bcells ((bs.drop pos).take m)).toArray 5 (0, 0)) ∧ Kp (fun i => i = b ∨ i = gb) w w' := by
  by_cases h0 : m = 0
  · subst h0
    refine (ReadFull_none b gb w).mono ?_
    rintro e w' ⟨rfl, rfl⟩
    refine ⟨rfl, h, ?_, Kp.refl _ _⟩
    rw [hgb, Array.eq_empty_of_size_eq_zero hfit]; rfl
  · exact ReadFull_ok b A cap bs pos gb m cur w h (by omega) hm hgb hfit hnb hnA
end Go.Proofs.YtfjclhfhbclbhaaGreatDoor
