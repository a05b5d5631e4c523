/- An index sorted by digests, written. -/
import Derived.Test.YtfjclhfhbclbhaaGreatDoorWr
import Derived.RegionCalls
import Derived.Deep.RegionWith
namespace Go.Proofs.YtfjclhfhbclbhaaGreatDoor
open Go.RowKit
set_option linter.unusedVariables false
set_option linter.unusedSimpArgs false
attribute [local go_sem] setCell_drewN alloc_drewN

set_option maxRecDepth 100000 in
set_option maxHeartbeats 1600000 in
theorem SwMarshal_ok (B b g gd width n : Nat) (bs data : List UInt8) (w : World) (h : BufAt w B b bs) (hB : B ≤ w.heap.size) (hs : SwAt w g width n (.slice (some ⟨gd, 0, none⟩) data.length data.length)) (hr : w.heap[gd]? = some (.cells (bcells data).toArray 5 (0, 0)))
    (hg : g ≠ b) (hgd : gd < B) (hw : width < 4294967296) (hlim : bs.length + 12 + data.length ≤ 1099511627776) :
    Calls Tryz.prog 210 #[.pointer (some ⟨g, 0, none⟩), .iface 46 (.pointer (some ⟨b, 0, none⟩))] w fun e w' => e = .returned (.tuple #[.int .u64 (12 + (data.length : Int)), .nilIface]) ∧ BufAt w' B b (bs ++ secBytes (width, data)) ∧ WrK B b w w' := by
  have hme := method_bufWrite
  have hna := ahead_bufWrite
  have hmf : ∀ (fn : Fn) (first cap : Array Value) (w : World), (Instr.makeFunc fn first cap).run Tryz.prog w = .ok (.func fn first cap) w := fun _ _ _ _ => rfl
  have hBb : B ≤ b := h.1
  have c0 := (blk_cell' hs 0).trans (show _ = some (Value.int .u32 (width : Int)) from rfl)
  have hdw : IntKind.u64.wrap (data.length : Int) = (data.length : Int) := by rw [IntKind.wrap_u64]; omega
  go_enter Tryz.func210, Tryz.ntmps210
  go_wp2_with fail
  refine (zzWrite32_ok B b bs width hw w h hB (by omega)).mono ?_
  rintro e w1 ⟨rfl, hB1, hK1⟩
  have hs1 : SwAt w1 g width n (.slice (some ⟨gd, 0, none⟩) data.length data.length) := hK1.cells hs hg (fun c fz e => by cases e)
  have hr1 := (hK1.bel.block gd hgd).trans hr
  have hz1 := hK1.bel.size
  have c2 := (blk_cell' hs1 2).trans (show _ = some (Value.slice (some ⟨gd, 0, none⟩) data.length data.length) from rfl)
  clear c0 h hs hr
  go_wp2_with fail
  refine (zzWrite64_ok B b (bs ++ Lib.leBytes 4 width) data.length (by omega) w1 hB1 (by omega) (by rw [List.length_append, le4_len]; omega)).mono ?_
  rintro e w2 ⟨rfl, hB2, hK2⟩
  have hs2 : SwAt w2 g width n (.slice (some ⟨gd, 0, none⟩) data.length data.length) := hK2.cells hs1 hg (fun c fz e => by cases e)
  have hr2 := (hK2.bel.block gd hgd).trans hr1
  have hz2 := hK2.bel.size
  have k2 := (blk_cell' hs2 2).trans (show _ = some (Value.slice (some ⟨gd, 0, none⟩) data.length data.length) from rfl)
  have hW := fun W (hW1 : BufAt W B b (bs ++ Lib.leBytes 4 width ++ Lib.leBytes 8 data.length)) (hW2 : B ≤ W.heap.size) (hW3 : BytesAt W (some ⟨gd, 0, none⟩) data) => bufWrite_ok B b _ data ⟨gd, 0, none⟩ data.length data.length W hW1 hW2 hW3 rfl (by show gd ≠ b; omega) (by rw [List.length_append, List.length_append, le4_len, le8_len]; omega)
  have hrb : BytesAt w2 (some ⟨gd, 0, none⟩) data := by have := row_bytes hr2 0 data.length; rwa [List.drop_zero, List.take_length] at this
  have hK3 := hK1.trans hK2
  have hWd := hW w2.drew (hB2.same rfl) (by show B ≤ w2.heap.size; omega) hrb
  clear c2 hs1 hr1 hB1 hK1 hK2 hr2 hs2 hW
  go_wp2_with fail
  refine wp_region_noPanic ?_
  go_region_with (go_at_call 162; refine hWd.mono ?_; rintro e w3 ⟨rfl, hB4, hK4⟩)
  all_goals
    refine NoPanic.normal ?_
    go_wp2_with fail
    go_ret2
    exact ⟨rfl, by rw [secBytes]; simpa [List.append_assoc] using hB4, (hK3.drewN 1 : WrK B b w w2.drew).trans hK4⟩
end Go.Proofs.YtfjclhfhbclbhaaGreatDoor
