/- index.ReadFrom and index.New where the kind is not known. -/
import Derived.Test.YtfjclhfhbclbhaaGreatDoorRdu
import Derived.Test.YtfjclhfhbclbhaaGreatDoorApp
namespace Go.Proofs.YtfjclhfhbclbhaaGreatDoor
open Go.RowKit
set_option linter.unusedVariables false
set_option linter.unusedSimpArgs false
attribute [local go_sem] setCell_drewN alloc_drewN

set_option maxRecDepth 100000 in
theorem errNew_ok (s : ByteArray) (w : World) :
    Calls Tryz.prog 27 #[.string s] w fun e w' => e = .returned (.iface 117 (.pointer (some ⟨w.heap.size, 0, none⟩))) ∧ Below w.heap.size w w' := by
  go_enter Tryz.func27, Tryz.ntmps27
  go_wp2_with fail
  go_ret
  exact ⟨rfl, by (repeat (first | (with_reducible exact Below.refl _ _) | (with_reducible exact below_boxed _ _) | (with_reducible refine below_box ?_ _) | (with_reducible refine below_drew1 ?_) | (with_reducible refine below_drewn ?_ _) | (with_reducible refine below_bytes ?_ _ _) | (with_reducible refine below_next ?_ (by assumption)) | (with_reducible refine below_set ?_ (by first | (simp; done) | (simp; omega) | omega) _)))⟩

theorem reader_byte (v : Value) (w : World) : (Instr.typeAssert (.iface 32 v) 73 95 true).run Tryz.prog w = .ok (.tuple #[.iface 32 v, .bool true]) w := by kernel_rfl

set_option maxRecDepth 100000 in
theorem ToByteReader_ok (v : Value) (w : World) :
    Calls Tryz.prog 33 #[.iface 32 v] w fun e w' => e = .returned (.iface 32 v) ∧ w = w' := by
  have h := reader_byte
  go_enter Tryz.func33, Tryz.ntmps33
  go_wp2_with fail
  go_ret
  exact ⟨rfl, rfl⟩

set_option maxRecDepth 100000 in
set_option maxHeartbeats 800000 in
theorem ReadCodec_ok (b : Nat) (A : Option Addr) (cap : Nat) (bs : List UInt8) (pos : Nat) (n : Nat) (hn : n < 9223372036854775808) (rest : List UInt8) (w : World) (h : RdAt w b A cap bs pos) (hbs : bs.drop pos = Lib.uvarint n ++ rest) :
    Calls Tryz.prog 20 #[.iface 32 (.pointer (some ⟨b, 0, none⟩))] w fun e w' => e = .returned (.tuple #[.int .u64 n, .nilIface]) ∧ RdAt w' b A cap bs (pos + (Lib.uvarint n).length) ∧ Kp (fun i => i = b) w w' := by
  have hR := ReadUvarint_ok b A cap bs pos n hn rest w h hbs
  clear h hbs
  go_enter Tryz.func20, Tryz.ntmps20
  go_wp2_with fail
  refine (ToByteReader_ok _ _).mono ?_
  rintro e w0 ⟨rfl, rfl⟩
  go_wp2_with fail
  refine hR.mono ?_
  rintro e w1 ⟨rfl, hR1, hK1⟩
  go_wp2_with fail
  go_ret2
  exact ⟨rfl, hR1, hK1⟩

set_option maxRecDepth 100000 in
set_option maxHeartbeats 800000 in
theorem New_unknown (n : Nat) (h0 : n ≠ 1024) (h1 : n ≠ 1025) (w : World) :
    Calls Tryz.prog 17 #[.int .u64 n] w fun e w' => e = .returned (.tuple #[.nilIface, .iface 117 (.pointer (some ⟨w.heap.size, 0, none⟩))]) ∧ Below w.heap.size w w' := by
  have h0' : ((n : Int) == 1024) = false := by simp; omega
  have h1' : ((n : Int) == 1025) = false := by simp; omega
  go_enter Tryz.func17, Tryz.ntmps17
  go_wp2_with fail
  refine (errNew_ok _ _).mono ?_
  rintro e w1 ⟨rfl, hB⟩
  go_wp2_with fail
  go_ret2
  exact ⟨rfl, hB⟩

set_option maxRecDepth 100000 in
set_option maxHeartbeats 800000 in
theorem ReadFrom_unknown (b : Nat) (A : Option Addr) (cap : Nat) (bs : List UInt8) (pos : Nat) (n : Nat) (hn : n < 9223372036854775808) (h0 : n ≠ 1024) (h1 : n ≠ 1025) (rest : List UInt8) (w : World) (h : RdAt w b A cap bs pos) (hbs : bs.drop pos = Lib.uvarint n ++ rest) :
    Calls Tryz.prog 10 #[.iface 32 (.pointer (some ⟨b, 0, none⟩))] w fun e w' => (∃ p, e = .returned (.tuple #[.nilIface, .iface 117 (.pointer (some p))])) ∧ Kp (fun i => i = b) w w' := by
  have hR := ReadCodec_ok b A cap bs pos n hn rest w h hbs
  clear h hbs
  go_enter Tryz.func10, Tryz.ntmps10
  go_wp2_with fail
  refine hR.mono ?_
  rintro e w1 ⟨rfl, hR1, hK1⟩
  go_wp2_with fail
  refine (New_unknown n h0 h1 _).mono ?_
  rintro e w2 ⟨rfl, hB2⟩
  go_wp2_with fail
  go_ret2
  exact ⟨⟨_, rfl⟩, hK1.trans (Kp.of_below hB2) (fun i hi => .inl hi)⟩

set_option maxRecDepth 100000 in
set_option maxHeartbeats 800000 in
theorem IxBytes_unknown (n : Nat) (h0 : n ≠ 1024) (h1 : n ≠ 1025) (v : Value) (w : World) :
    Calls Tryz.prog 4 #[v, .int .u64 n] w fun e w' => e = .returned (.tuple #[.string ⟨#[]⟩, .bool false]) ∧ Below w.heap.size w w' := by
  go_enter Tryz.func4, Tryz.ntmps4
  go_wp2_with fail
  suffices hs : Calls Tryz.prog 8 #[v, .int .u64 n] w fun e w' => e = .returned (.tuple #[.string ⟨#[]⟩, .bool false]) ∧ Below w.heap.size w w' by
    refine hs.mono ?_
    rintro e w1 ⟨rfl, hB⟩
    go_wp2_with fail
    go_ret2
    exact ⟨rfl, hB⟩
  go_enter Tryz.func8, Tryz.ntmps8
  go_wp2_with fail
  refine (New_unknown n h0 h1 _).mono ?_
  rintro e w1 ⟨rfl, hB⟩
  go_wp2_with fail
  go_ret2
  exact ⟨rfl, hB⟩

theorem Kp.to_below {S : Nat → Prop} {w0 w w' : World} (h : Kp S w w') (hb : Below w0.heap.size w0 w) (hS : ∀ i, S i → w0.heap.size ≤ i) : Below w0.heap.size w0 w' :=
  ⟨h.os.trans hb.os, h.tape.trans hb.tape, h.output.trans hb.output, Nat.le_trans hb.size h.size, fun k hk => (h.block k (Nat.lt_of_lt_of_le hk hb.size) (fun hs => by have := hS k hs; omega)).trans (hb.block k hk)⟩

set_option maxRecDepth 100000 in
set_option maxHeartbeats 800000 in
theorem IxAgain_unknown (n : Nat) (hn : n < 9223372036854775808) (h0 : n ≠ 1024) (h1 : n ≠ 1025) (rest : List UInt8) (s : ByteArray) (hs : s.data.toList = Lib.uvarint n ++ rest) (hl : s.size ≤ 1099511627776) (w : World) :
    Calls Tryz.prog 5 #[.string s] w fun e w' => e = .returned (.tuple #[.int .i64 0, .string ⟨#[]⟩, .bool false]) ∧ Below w.heap.size w w' := by
  have hsz : s.size = s.data.toList.length := by rw [Array.length_toList]; rfl
  have hpos := Lib.uvarint_pos n
  generalize hS : s.data.toList = bs at *
  have HS := Lib.hid hS; clear hS
  have HZ := Lib.hid hsz
  have hl' : bs.length ≤ 1099511627776 := by omega
  have hp : 0 < bs.length := by rw [hs, List.length_append]; omega
  clear hl hsz
  have HB := Lib.hid hs; clear hs
  go_enter Tryz.func5, Tryz.ntmps5
  go_wp2_with (with_reducible refine conv_event rfl (.tmp 9) 9 27 5 rfl Tryz.underlying9 Tryz.underlying27 Tryz.underlying5 s rfl ?_)
  intro g0 cap0 w0 hg0 hcap0 hb0 hA0 hB0
  subst hg0
  rw [HS.out] at hA0
  have hgz : w.heap.size < w0.heap.size := by
    rcases hA0 with h | ⟨g, o, e, hc⟩
    · rw [h] at hp; simp at hp
    · cases e
      exact World.block_lt_of_cell? w0 _ (hc 0 bs[0] (List.getElem?_eq_getElem hp))
  rw [HZ.out] at hcap0
  rw [HZ.out]
  go_wp2_with fail
  refine (NewReader_ok _ cap0 bs w0 hA0 hcap0 hl' (fun g o e => by cases e; exact hgz)).mono ?_
  rintro e w1 ⟨rfl, hR, hB1⟩
  go_wp2_with fail
  refine (ReadFrom_unknown w0.heap.size _ cap0 bs 0 n hn h0 h1 rest w1 hR (by simpa using HB.out)).mono ?_
  rintro e w2 ⟨⟨p, rfl⟩, hK⟩
  go_wp2_with fail
  go_ret3
  exact ⟨rfl, hK.to_below (below_next hb0 hB1) (fun i hi => by rw [hi]; exact hb0.size)⟩
end Go.Proofs.YtfjclhfhbclbhaaGreatDoor
