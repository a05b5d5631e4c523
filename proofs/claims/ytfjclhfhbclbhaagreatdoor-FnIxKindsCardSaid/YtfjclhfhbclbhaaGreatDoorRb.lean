/- zzRead32, zzRead64, Seek over a bytes.Reader. -/
import Derived.Test.YtfjclhfhbclbhaaGreatDoorRa
import Derived.Test.YtfjclhfhbclbhaaGreatDoorRf
import Derived.Test.YtfjclhfhbclbhaaGreatDoorEnc
namespace Go.Proofs.YtfjclhfhbclbhaaGreatDoor
open Go.RowKit
set_option linter.unusedVariables false
set_option linter.unusedSimpArgs false
attribute [local go_sem] setCell_drewN alloc_drewN

set_option maxRecDepth 100000 in
set_option maxHeartbeats 800000 in
/-- Seek to where the reader stands. -/
theorem Seek_ok (b : Nat) (A : Option Addr) (cap : Nat) (bs : List UInt8) (pos : Nat) (w : World) (h : RdAt w b A cap bs pos) :
    Calls Tryz.prog 283 #[.pointer (some ⟨b, 0, none⟩), .int .i64 0, .int .i64 1] w fun e w' => e = .returned (.tuple #[.int .i64 (pos : Int), .nilIface]) ∧ RdAt w' b A cap bs pos ∧ Kp (fun i => i = b) w w' := by
  have hm := h.moved pos h.le (pos : Int) rfl
  have HM := Lib.hid hm; clear hm
  have hbig : (pos : Int) ≤ 1099511627776 := by have := h.le; have := h.big; omega
  obtain ⟨⟨pr, hp⟩, hr, h1, h2, h3, h4⟩ := h
  have c1 := (blk_cell' hp 1).trans (show _ = some (Value.int .i64 (pos : Int)) from rfl)
  have c2 := (blk_cell' hp 2).trans (show _ = some (Value.int .i64 pr) from rfl)
  have f1 := blk_free' hp 1
  have f2 := blk_free' hp 2
  go_enter Tryz.func283, Tryz.ntmps283
  go_wp2_with fail
  go_ret2
  exact ⟨rfl, HM.out, rd_kp _ _ _ _⟩

theorem method_Seek (v : Value) (w : World) : (method 448 32 v "Seek").run Tryz.prog w = .ok (283, v) w := by kernel_rfl
theorem reader_brs (v : Value) (w : World) : (Instr.typeAssert (.iface 32 v) 73 262 true).run Tryz.prog w = .ok (.tuple #[.iface 32 v, .bool true]) w := by kernel_rfl

set_option maxRecDepth 100000 in
theorem ToByteReadSeeker_ok (v : Value) (w : World) :
    Calls Tryz.prog 184 #[.iface 32 v] w fun e w' => e = .returned (.iface 32 v) ∧ w = w' := by
  have h := reader_brs
  go_enter Tryz.func184, Tryz.ntmps184
  go_wp2_with fail
  go_ret
  exact ⟨rfl, rfl⟩

theorem Kp.frozen {S : Nat → Prop} {w w' : World} (h : Kp S w w') {p : Addr} (hp : p.block < w.heap.size) (hs : ¬ S p.block) : w'.frozen? p = w.frozen? p := by simp only [World.frozen?, h.block _ hp hs]
theorem bcells_len (l : List UInt8) : (bcells l).length = l.length := by simp [bcells]
theorem bcells_get {l : List UInt8} {j : Nat} {x : UInt8} (h : l[j]? = some x) : (bcells l).toArray[j]? = some (.int .u8 (x.toNat : Int)) := by simp [bcells, h]
theorem rd_alloc {w : World} {b : Nat} {A : Option Addr} {cap : Nat} {bs : List UInt8} {pos : Nat} (h : RdAt w b A cap bs pos) (o : Obj) : RdAt (w.alloc o) b A cap bs pos :=
  h.keep (S := fun _ => False) (Kp.of_below (below_boxed w o)) id (fun _ _ _ => id)
theorem kp_alloc (w : World) (o : Obj) : Kp (fun _ => False) w (w.alloc o) := Kp.of_below (below_boxed w o)
theorem le4_cases (v : Nat) : Lib.leBytes 4 v = [(v % 256).toUInt8, (v / 256 % 256).toUInt8, (v / 256 / 256 % 256).toUInt8, (v / 256 / 256 / 256 % 256).toUInt8] := rfl
theorem le8_cases (v : Nat) : Lib.leBytes 8 v = [(v % 256).toUInt8, (v / 256 % 256).toUInt8, (v / 256 / 256 % 256).toUInt8, (v / 256 / 256 / 256 % 256).toUInt8, (v / 256 / 256 / 256 / 256 % 256).toUInt8, (v / 256 / 256 / 256 / 256 / 256 % 256).toUInt8, (v / 256 / 256 / 256 / 256 / 256 / 256 % 256).toUInt8, (v / 256 / 256 / 256 / 256 / 256 / 256 / 256 % 256).toUInt8] := rfl

set_option maxRecDepth 100000 in
set_option maxHeartbeats 1600000 in
theorem zzRead32_ok (b : Nat) (A : Option Addr) (cap : Nat) (bs : List UInt8) (pos : Nat) (v : Nat) (hv : v < 4294967296) (rest : List UInt8) (q : Addr) (old : Value) (w : World) (h : RdAt w b A cap bs pos) (hbs : bs.drop pos = Lib.leBytes 4 v ++ rest)
    (hq : w.cell? q = some old) (hqf : w.frozen? q = false) (hqb : q.block ≠ b) (hA : ∀ g o, A = some ⟨g, o, none⟩ → g < w.heap.size ∧ g ≠ q.block) :
    Calls Tryz.prog 185 #[.iface 32 (.pointer (some ⟨b, 0, none⟩)), .pointer (some q)] w fun e w' => e = .returned .nilIface ∧ RdAt w' b A cap bs (pos + 4) ∧ w'.cell? q = some (.int .u32 v) ∧ Kp (fun i => i = b ∨ i = q.block) w w' := by
  have hmk : ∀ W : World, (Instr.makeSlice 27 (.int .i64 4) (.int .i64 4)).run Tryz.prog W = .ok (.slice (some ⟨W.heap.size, 0, none⟩) 4 4) (W.alloc (.cells (zeros8 4).toArray 5)) := fun W => make8 4 4 rfl (by omega) W
  have hql : q.block < w.heap.size := World.block_lt_of_cell? w _ hq
  have hbw : b < w.heap.size := by obtain ⟨pr, hp⟩ := h.blk; exact (Array.getElem?_eq_some_iff.1 hp).1
  have hlen : pos + 4 ≤ bs.length := by
    have := congrArg List.length hbs
    simp only [List.length_drop, List.length_append, le4_cases, List.length_cons, List.length_nil] at this
    omega
  have htake : (bs.drop pos).take 4 = Lib.leBytes 4 v := by rw [hbs, le4_cases]; rfl
  have hnat : Lib.leNat [(v % 256).toUInt8, (v / 256 % 256).toUInt8, (v / 256 / 256 % 256).toUInt8, (v / 256 / 256 / 256 % 256).toUInt8] = v := by rw [← le4_cases]; exact Lib.leNat_leBytes 4 v (by omega)
  have hR := ReadFull_ok b A cap bs pos w.heap.size 4 (zeros8 4).toArray (w.alloc (.cells (zeros8 4).toArray 5)) (rd_alloc h _) (by omega) hlen (heap_alloc_last _ _) (by simp [zeros8_length]) (by omega) (fun g o e => by have := hA g o e; omega)
  rw [htake] at hR
  have HB := Lib.hid hbs; clear hbs htake h
  go_enter Tryz.func185, Tryz.ntmps185
  go_wp2_with fail
  refine hR.mono ?_
  clear hR
  rintro e w1 ⟨rfl, hR1, hg1, hK1⟩
  have k0 := (cell_of_row w1 w.heap.size 0 _ _ _ hg1).trans (bcells_get (j := 0) (l := Lib.leBytes 4 v) rfl)
  have k1 := (cell_of_row w1 w.heap.size (0 + 1) _ _ _ hg1).trans (bcells_get (j := 1) (l := Lib.leBytes 4 v) rfl)
  have k2 := (cell_of_row w1 w.heap.size (0 + 2) _ _ _ hg1).trans (bcells_get (j := 2) (l := Lib.leBytes 4 v) rfl)
  have k3 := (cell_of_row w1 w.heap.size (0 + 3) _ _ _ hg1).trans (bcells_get (j := 3) (l := Lib.leBytes 4 v) rfl)
  go_wp2_with fail
  refine (Tryz.binary_LE_Uint32 w.heap.size 0 4 4 _ _ _ _ _ (by omega) k0 k1 k2 k3).mono ?_
  rintro e w2 ⟨rfl, hb2⟩
  rw [hnat]
  have hKa : Kp (fun i => i = b) w w1 := ((kp_alloc w _).mono (S' := fun i => i = b) (fun i hi => hi.elim)).trans hK1 (fun i hi => hi.elim .inl (fun e => .inr (by omega)))
  have hK2 : Kp (fun i => i = b) w w2 := hKa.trans (Kp.of_below (S := fun _ => False) hb2) (fun i hi => hi.elim)
  have hR2 : RdAt w2 b A cap bs (pos + 4) := hR1.keep (S := fun _ => False) (Kp.of_below hb2) id (fun _ _ _ => id)
  have q1 := (hK2.cell hql hqb).trans hq
  have q2 := (hK2.frozen hql hqb).trans hqf
  clear hK1 hR1 hKa hg1 k0 k1 k2 k3 hb2
  go_wp2_with fail
  go_ret
  refine ⟨rfl, hR2.keep (S := fun i => i = q.block) (Kp.set (S := fun i => i = q.block) (Kp.refl _ _) (.inl rfl) _) (fun e => hqb e.symm) (fun g o e => (hA g o e).2), World.cell?_setCell_same' w2 q _ (by rw [q1]; rfl), ?_⟩
  exact Kp.set (S := fun i => i = b ∨ i = q.block) (hK2.mono (fun i hi => .inl (.inl hi))) (.inl (.inr rfl)) _
set_option maxRecDepth 100000 in
set_option maxHeartbeats 1600000 in
theorem zzRead64_ok (b : Nat) (A : Option Addr) (cap : Nat) (bs : List UInt8) (pos : Nat) (v : Nat) (hv : v < 18446744073709551616) (rest : List UInt8) (q : Addr) (old : Value) (w : World) (h : RdAt w b A cap bs pos) (hbs : bs.drop pos = Lib.leBytes 8 v ++ rest)
    (hq : w.cell? q = some old) (hqf : w.frozen? q = false) (hqb : q.block ≠ b) (hA : ∀ g o, A = some ⟨g, o, none⟩ → g < w.heap.size ∧ g ≠ q.block) :
    Calls Tryz.prog 198 #[.iface 32 (.pointer (some ⟨b, 0, none⟩)), .pointer (some q)] w fun e w' => e = .returned .nilIface ∧ RdAt w' b A cap bs (pos + 8) ∧ w'.cell? q = some (.int .u64 v) ∧ Kp (fun i => i = b ∨ i = q.block) w w' := by
  have hmk : ∀ W : World, (Instr.makeSlice 27 (.int .i64 8) (.int .i64 8)).run Tryz.prog W = .ok (.slice (some ⟨W.heap.size, 0, none⟩) 8 8) (W.alloc (.cells (zeros8 8).toArray 5)) := fun W => make8 8 8 rfl (by omega) W
  have hql : q.block < w.heap.size := World.block_lt_of_cell? w _ hq
  have hbw : b < w.heap.size := by obtain ⟨pr, hp⟩ := h.blk; exact (Array.getElem?_eq_some_iff.1 hp).1
  have hlen : pos + 8 ≤ bs.length := by
    have := congrArg List.length hbs
    simp only [List.length_drop, List.length_append, le8_cases, List.length_cons, List.length_nil] at this
    omega
  have htake : (bs.drop pos).take 8 = Lib.leBytes 8 v := by rw [hbs, le8_cases]; rfl
  have hnat : Lib.leNat [(v % 256).toUInt8, (v / 256 % 256).toUInt8, (v / 256 / 256 % 256).toUInt8, (v / 256 / 256 / 256 % 256).toUInt8, (v / 256 / 256 / 256 / 256 % 256).toUInt8, (v / 256 / 256 / 256 / 256 / 256 % 256).toUInt8, (v / 256 / 256 / 256 / 256 / 256 / 256 % 256).toUInt8, (v / 256 / 256 / 256 / 256 / 256 / 256 / 256 % 256).toUInt8] = v := by rw [← le8_cases]; exact Lib.leNat_leBytes 8 v (by omega)
  have hR := ReadFull_ok b A cap bs pos w.heap.size 8 (zeros8 8).toArray (w.alloc (.cells (zeros8 8).toArray 5)) (rd_alloc h _) (by omega) hlen (heap_alloc_last _ _) (by simp [zeros8_length]) (by omega) (fun g o e => by have := hA g o e; omega)
  rw [htake] at hR
  have HB := Lib.hid hbs; clear hbs htake h
  go_enter Tryz.func198, Tryz.ntmps198
  go_wp2_with fail
  refine hR.mono ?_
  clear hR
  rintro e w1 ⟨rfl, hR1, hg1, hK1⟩
  have k0 := (cell_of_row w1 w.heap.size 0 _ _ _ hg1).trans (bcells_get (j := 0) (l := Lib.leBytes 8 v) rfl)
  have k1 := (cell_of_row w1 w.heap.size (0 + 1) _ _ _ hg1).trans (bcells_get (j := 1) (l := Lib.leBytes 8 v) rfl)
  have k2 := (cell_of_row w1 w.heap.size (0 + 2) _ _ _ hg1).trans (bcells_get (j := 2) (l := Lib.leBytes 8 v) rfl)
  have k3 := (cell_of_row w1 w.heap.size (0 + 3) _ _ _ hg1).trans (bcells_get (j := 3) (l := Lib.leBytes 8 v) rfl)
  have k4 := (cell_of_row w1 w.heap.size (0 + 4) _ _ _ hg1).trans (bcells_get (j := 4) (l := Lib.leBytes 8 v) rfl)
  have k5 := (cell_of_row w1 w.heap.size (0 + 5) _ _ _ hg1).trans (bcells_get (j := 5) (l := Lib.leBytes 8 v) rfl)
  have k6 := (cell_of_row w1 w.heap.size (0 + 6) _ _ _ hg1).trans (bcells_get (j := 6) (l := Lib.leBytes 8 v) rfl)
  have k7 := (cell_of_row w1 w.heap.size (0 + 7) _ _ _ hg1).trans (bcells_get (j := 7) (l := Lib.leBytes 8 v) rfl)
  go_wp2_with fail
  refine (Tryz.binary_LE_Uint64 w.heap.size 0 8 8 _ _ _ _ _ _ _ _ _ (by omega) k0 k1 k2 k3 k4 k5 k6 k7).mono ?_
  rintro e w2 ⟨rfl, hb2⟩
  rw [hnat]
  have hKa : Kp (fun i => i = b) w w1 := ((kp_alloc w _).mono (S' := fun i => i = b) (fun i hi => hi.elim)).trans hK1 (fun i hi => hi.elim .inl (fun e => .inr (by omega)))
  have hK2 : Kp (fun i => i = b) w w2 := hKa.trans (Kp.of_below (S := fun _ => False) hb2) (fun i hi => hi.elim)
  have hR2 : RdAt w2 b A cap bs (pos + 8) := hR1.keep (S := fun _ => False) (Kp.of_below hb2) id (fun _ _ _ => id)
  have q1 := (hK2.cell hql hqb).trans hq
  have q2 := (hK2.frozen hql hqb).trans hqf
  clear hK1 hR1 hKa hg1 k0 k1 k2 k3 k4 k5 k6 k7 hb2
  go_wp2_with fail
  go_ret
  refine ⟨rfl, hR2.keep (S := fun i => i = q.block) (Kp.set (S := fun i => i = q.block) (Kp.refl _ _) (.inl rfl) _) (fun e => hqb e.symm) (fun g o e => (hA g o e).2), World.cell?_setCell_same' w2 q _ (by rw [q1]; rfl), ?_⟩
  exact Kp.set (S := fun i => i = b ∨ i = q.block) (hK2.mono (fun i hi => .inl (.inl hi))) (.inl (.inr rfl)) _
end Go.Proofs.YtfjclhfhbclbhaaGreatDoor
