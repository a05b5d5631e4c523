/- The tree: flip, the way up, insertion. -/
import Derived.Test.YtifoicdnibgdaaaGreatDoorRot
import Derived.StillTailTactics
import Derived.RegionTactic
import Derived.Deep.RegionWith
import Derived.Outline
import Derived.BigRegion
namespace Go.Proofs.YtifoicdnibgdaaaGreatDoor
open Go.RowKit
set_option linter.unusedVariables false
set_option linter.unusedSimpArgs false
attribute [local go_sem] setCell_drewN alloc_drewN

theorem Tr.At.drew {w : World} {t : Tr} (h : t.At w) : t.At w.drew := h.same fun _ _ => rfl
theorem Kp.drew {S : Nat → Prop} {w w' : World} (h : Kp S w w') : Kp S w w'.drew := ⟨h.os, h.tape, h.output, h.size, h.block⟩
theorem Tr.nd {b : Nat} {x : Ent} {l r : Tr} {k : Bool} (h : (Tr.node b x l r k).blocks.Nodup) : b ∉ l.blocks ∧ b ∉ r.blocks ∧ l.blocks.Nodup ∧ r.blocks.Nodup ∧ ∀ i, i ∈ l.blocks → i ∉ r.blocks := by
  unfold Tr.blocks at h
  rw [List.nodup_cons, List.mem_append, List.nodup_append] at h
  obtain ⟨h1, h2, h3, h4⟩ := h
  exact ⟨fun h' => h1 (.inl h'), fun h' => h1 (.inr h'), h2, h3, fun i hi hj => h4 i hi i hj rfl⟩
theorem Tr.nd_mk {b : Nat} {x : Ent} {l r : Tr} {k : Bool} (h1 : b ∉ l.blocks) (h2 : b ∉ r.blocks) (h3 : l.blocks.Nodup) (h4 : r.blocks.Nodup) (h5 : ∀ i, i ∈ l.blocks → i ∉ r.blocks) : (Tr.node b x l r k).blocks.Nodup := by
  unfold Tr.blocks
  rw [List.nodup_cons, List.mem_append, List.nodup_append]
  exact ⟨fun h => h.elim h1 h2, h3, h4, fun i hi j hj e => h5 i hi (e ▸ hj)⟩

set_option maxRecDepth 100000 in
set_option maxHeartbeats 800000 in
theorem flip_ok (b lb rb : Nat) (x y z : Ent) (ll lr rl rr : Tr) (k kl kr : Bool) (w : World) (h : (Tr.node b x (.node lb y ll lr kl) (.node rb z rl rr kr) k).At w) (hd : (Tr.node b x (.node lb y ll lr kl) (.node rb z rl rr kr) k).blocks.Nodup) :
    Calls Tryz.prog 127 #[.pointer (some ⟨b, 0, none⟩)] w fun e w' => e = .returned (.tuple #[]) ∧ (Tr.node b x (.node lb y ll lr (!kl)) (.node rb z rl rr (!kr)) (!k)).At w' ∧ Kp (fun i => i = b ∨ i = lb ∨ i = rb) w w' := by
  obtain ⟨hb, ⟨hl, hll, hlr⟩, hr, hrl, hrr⟩ := h
  have b1 : w.cell? ⟨b, 1, none⟩ = some (.pointer (some ⟨lb, 0, none⟩)) := blk_cell hb 1
  have b2 : w.cell? ⟨b, 2, none⟩ = some (.pointer (some ⟨rb, 0, none⟩)) := blk_cell hb 2
  have b3 : w.cell? ⟨b, 3, none⟩ = some (.bool k) := blk_cell hb 3
  have l3 : w.cell? ⟨lb, 3, none⟩ = some (.bool kl) := blk_cell hl 3
  have r3 : w.cell? ⟨rb, 3, none⟩ = some (.bool kr) := blk_cell hr 3
  have fb := fun i => blk_free hb i
  have fl := fun i => blk_free hl i
  have fr := fun i => blk_free hr i
  obtain ⟨n1, n2, ndl, ndr, dis⟩ := Tr.nd hd
  obtain ⟨m1, m2, _, _, disl⟩ := Tr.nd ndl
  obtain ⟨p1, p2, _, _, disr⟩ := Tr.nd ndr
  have e1 : ¬ b = lb := fun e => n1 (by subst e; simp [Tr.blocks])
  have e2 : ¬ b = rb := fun e => n2 (by subst e; simp [Tr.blocks])
  have e3 : ¬ lb = rb := fun e => dis lb (by simp [Tr.blocks]) (by rw [e]; simp [Tr.blocks])
  have e1' : ¬ lb = b := fun e => e1 e.symm
  have e2' : ¬ rb = b := fun e => e2 e.symm
  have e3' : ¬ rb = lb := fun e => e3 e.symm
  have HB := Lib.hid hb; clear hb
  have HL := Lib.hid hl; clear hl
  have HR := Lib.hid hr; clear hr
  go_enter Tryz.func127, Tryz.ntmps127
  go_wp2
  go_region
  go_wp2
  go_region
  go_wp2
  go_end0
  have keep : ∀ (s : Tr), s.At w → b ∉ s.blocks → lb ∉ s.blocks → rb ∉ s.blocks → s.At (((w.setCell ⟨b, 3, none⟩ (.bool !k)).setCell ⟨lb, 3, none⟩ (.bool !kl)).setCell ⟨rb, 3, none⟩ (.bool !kr)) := by
    intro s hs h1 h2 h3
    refine hs.same fun i hi => ?_
    have e1 : i ≠ b := fun e => h1 (e ▸ hi)
    have e2 : i ≠ lb := fun e => h2 (e ▸ hi)
    have e3 : i ≠ rb := fun e => h3 (e ▸ hi)
    rw [Below.heap_setCell _ _ _ _ e3, Below.heap_setCell _ _ _ _ e2, Below.heap_setCell _ _ _ _ e1]
  have inl : ∀ i, i ∈ ll.blocks ∨ i ∈ lr.blocks → i ∈ (Tr.node lb y ll lr kl).blocks := by intro i hi; simp [Tr.blocks, hi]
  have inr : ∀ i, i ∈ rl.blocks ∨ i ∈ rr.blocks → i ∈ (Tr.node rb z rl rr kr).blocks := by intro i hi; simp [Tr.blocks, hi]
  have q1 : rb ∈ (Tr.node rb z rl rr kr).blocks := by simp [Tr.blocks]
  have q2 : lb ∈ (Tr.node lb y ll lr kl).blocks := by simp [Tr.blocks]
  refine ⟨rfl, ⟨?_, ⟨?_, ?_, ?_⟩, ⟨?_, ?_, ?_⟩⟩, ?_⟩
  · exact blk_far (blk_far (blk_set HB.out 3 (.bool !k)) (p := ⟨lb, 3, none⟩) e1 _) (p := ⟨rb, 3, none⟩) e2 _
  · exact blk_far (blk_set (blk_far HL.out (p := ⟨b, 3, none⟩) e1' _) 3 (.bool !kl)) (p := ⟨rb, 3, none⟩) e3 _
  · exact Tr.At.drew (Tr.At.drew (keep ll hll (fun h' => n1 (inl b (.inl h'))) m1 (fun h' => dis rb (inl _ (.inl h')) q1)))
  · exact Tr.At.drew (Tr.At.drew (keep lr hlr (fun h' => n1 (inl b (.inr h'))) m2 (fun h' => dis rb (inl _ (.inr h')) q1)))
  · exact blk_set (blk_far (blk_far HR.out (p := ⟨b, 3, none⟩) e2' _) (p := ⟨lb, 3, none⟩) e3' _) 3 (.bool !kr)
  · exact Tr.At.drew (Tr.At.drew (keep rl hrl (fun h' => n2 (inr b (.inl h'))) (fun h' => dis lb q2 (inr _ (.inl h'))) p1))
  · exact Tr.At.drew (Tr.At.drew (keep rr hrr (fun h' => n2 (inr b (.inr h'))) (fun h' => dis lb q2 (inr _ (.inr h'))) p2))
  · exact Kp.drew (Kp.drew ((((Kp.refl _ w).set (p := ⟨b, 3, none⟩) (.inl (.inl rfl)) _).set (p := ⟨lb, 3, none⟩) (.inl (.inr (.inl rfl))) _).set (p := ⟨rb, 3, none⟩) (.inl (.inr (.inr rfl))) _))

namespace Tr
theorem rotL_perm (t : Tr) : t.rotL.blocks.Perm t.blocks := by
  match t with
  | nil => exact List.Perm.refl _
  | node b x l nil k => exact List.Perm.refl _
  | node b x l (node rb y rl rr c) k =>
    rw [List.perm_iff_count]
    intro a
    simp only [rotL, blocks, List.count_cons, List.count_append]
    omega
theorem rotR_perm (t : Tr) : t.rotR.blocks.Perm t.blocks := by
  match t with
  | nil => exact List.Perm.refl _
  | node b x nil r k => exact List.Perm.refl _
  | node b x (node lb y ll lr c) r k =>
    rw [List.perm_iff_count]
    intro a
    simp only [rotR, blocks, List.count_cons, List.count_append]
    omega
theorem turn_blocks (t : Tr) : t.turn.blocks = t.blocks := by cases t <;> rfl
theorem flip_blocks (t : Tr) : t.flip.blocks = t.blocks := by
  cases t
  · rfl
  · simp [flip, blocks, turn_blocks]
theorem upA_perm (t : Tr) : t.upA.blocks.Perm t.blocks := by
  unfold upA; split
  · exact rotL_perm t
  · exact List.Perm.refl _
theorem upB_perm (t : Tr) : t.upB.blocks.Perm t.blocks := by
  unfold upB; split
  · exact rotR_perm t
  · exact List.Perm.refl _
theorem upC_blocks (t : Tr) : t.upC.blocks = t.blocks := by
  unfold upC; split
  · exact flip_blocks t
  · rfl
theorem up_perm (t : Tr) : t.up.blocks.Perm t.blocks := by
  unfold up
  rw [upC_blocks]
  exact (upB_perm _).trans (upA_perm _)
theorem rotL_items (t : Tr) : t.rotL.items = t.items := by
  match t with
  | nil => rfl
  | node b x l nil k => rfl
  | node b x l (node rb y rl rr c) k => simp [rotL, items]
theorem rotR_items (t : Tr) : t.rotR.items = t.items := by
  match t with
  | nil => rfl
  | node b x nil r k => rfl
  | node b x (node lb y ll lr c) r k => simp [rotR, items]
theorem turn_items (t : Tr) : t.turn.items = t.items := by cases t <;> rfl
theorem flip_items (t : Tr) : t.flip.items = t.items := by
  cases t
  · rfl
  · simp [flip, items, turn_items]
theorem up_items (t : Tr) : t.up.items = t.items := by
  unfold up upC upB upA
  split <;> split <;> split <;> simp [flip_items, rotR_items, rotL_items]
end Tr

set_option maxRecDepth 100000 in
set_option maxHeartbeats 1600000 in
theorem up_ok (b : Nat) (x : Ent) (l r : Tr) (k : Bool) (w : World) (h : (Tr.node b x l r k).At w) (hd : (Tr.node b x l r k).blocks.Nodup) :
    Calls Tryz.prog 117 #[.pointer (some ⟨b, 0, none⟩)] w fun e w' => e = .returned (.pointer (Tr.node b x l r k).up.ptr) ∧ (Tr.node b x l r k).up.At w' ∧ Kp (fun i => i ∈ (Tr.node b x l r k).blocks) w w' := by
  have hL := fun W h' => isRed_ok l W h'
  have hR := fun W h' => isRed_ok r W h'
  have hAt := h
  obtain ⟨hb, hl, hr⟩ := h
  have cb1 : w.cell? ⟨b, 1, none⟩ = some (.pointer l.ptr) := blk_cell hb 1
  have cb2 : w.cell? ⟨b, 2, none⟩ = some (.pointer r.ptr) := blk_cell hb 2
  have HB := Lib.hid hb; clear hb
  have HA := Lib.hid hAt; clear hAt
  go_enter Tryz.func117, Tryz.ntmps117
  go_upto_region 1 with fail
  go_cut [15] (fun s15 wx => s15 = .bool (r.red && !l.red) ∧ w = wx)
  case first =>
    cases hrr : r.red with
    | false =>
      go_wp2_with (first | (go_at_call 124; refine (hR _ hr).mono ?_; rintro e w' ⟨rfl, rfl⟩; rw [hrr]))
      go_meet
      exact ⟨by rw [hrr]; rfl, rfl⟩
    | true =>
      go_wp2_with (first | (go_at_call_of 124 (Value.pointer r.ptr); refine (hR _ hr).mono ?_; rintro e w' ⟨rfl, rfl⟩; rw [hrr]) | (go_at_call_of 124 (Value.pointer l.ptr); refine (hL _ hl).mono ?_; rintro e w' ⟨rfl, rfl⟩))
      go_meet
      exact ⟨by rw [hrr]; rfl, rfl⟩
  case rest =>
    obtain ⟨rfl, rfl⟩ := hcut
    go_upto_if 15 with fail
    go_cut [0] (fun s0 wx => ∃ b1 x1 l1 r1 k1, (Tr.node b x l r k).upA = Tr.node b1 x1 l1 r1 k1 ∧ s0 = .pointer (some ⟨b1, 0, none⟩) ∧ (Tr.node b1 x1 l1 r1 k1).At wx ∧ Kp (fun i => i ∈ (Tr.node b x l r k).blocks) w wx)
    case first =>
      cases hc : (r.red && !l.red) with
      | false =>
        go_wp2_with fail
        go_meet
        exact ⟨b, x, l, r, k, by simp [Tr.upA, Tr.right, Tr.left, hc], rfl, HA.out, Kp.refl _ _⟩
      | true =>
        obtain ⟨rb, y, rl, rr, rfl⟩ : ∃ rb y rl rr, r = Tr.node rb y rl rr false := by
          cases r with
          | nil => simp [Tr.red] at hc
          | node rb y rl rr c => simp [Tr.red] at hc; exact ⟨rb, y, rl, rr, by rw [hc.1]⟩
        go_wp2_with (first | (go_at_call 125; refine (rotL_ok b rb x y l rl rr k _ HA.out hd).mono ?_; rintro e w1 ⟨rfl, hAt1, hK1⟩))
        go_meet
        refine ⟨rb, y, .node b x l rl false, rr, k, by simp [Tr.upA, Tr.right, Tr.left, hc, Tr.rotL], rfl, hAt1, hK1.mono fun i hi => .inl ?_⟩
        rcases hi with rfl | rfl <;> simp [Tr.blocks]
    case rest =>
      obtain ⟨b1, x1, l1, r1, k1, hA1, rfl, hAt1, hK1⟩ := hcut
      have hd1 : (Tr.node b1 x1 l1 r1 k1).blocks.Nodup := by rw [← hA1]; exact (Tr.upA_perm _).nodup_iff.2 hd
      have hm1 : ∀ i, i ∈ (Tr.node b1 x1 l1 r1 k1).blocks → i ∈ (Tr.node b x l r k).blocks := by rw [← hA1]; exact fun i hi => (Tr.upA_perm _).mem_iff.1 hi
      have HA1 := Lib.hid hA1; clear hA1
      obtain ⟨hb1, hl1, hr1⟩ := id hAt1
      have HAt1 := Lib.hid hAt1; clear hAt1
      have c1 := (blk_cell hb1 1).trans (show _ = some (Value.pointer l1.ptr) from rfl)
      have c2 := (blk_cell hb1 2).trans (show _ = some (Value.pointer r1.ptr) from rfl)
      have HB1 := Lib.hid hb1; clear hb1
      clear cb1 cb2 hL hR hl hr
      go_upto_region 3 with fail
      go_cut [32] (fun s32 wy => s32 = .bool (l1.red && l1.left.red) ∧ (Tr.node b1 x1 l1 r1 k1).At wy ∧ Kp (fun i => i ∈ (Tr.node b x l r k).blocks) w wy)
      case first =>
        cases hrr : l1.red with
        | false =>
          go_wp2_with (first | (go_at_call 124; refine (isRed_ok l1 _ hl1).mono ?_; rintro e w' ⟨rfl, rfl⟩; rw [hrr]))
          go_meet
          exact ⟨by rw [hrr]; rfl, HAt1.out, hK1⟩
        | true =>
          obtain ⟨lb, y, ll, lr, rfl⟩ : ∃ lb y ll lr, l1 = Tr.node lb y ll lr false := by
            cases l1 with
            | nil => simp [Tr.red] at hrr
            | node rb y rl rr c => simp [Tr.red] at hrr; exact ⟨rb, y, rl, rr, by rw [hrr]⟩
          obtain ⟨hlb, hll, hlr⟩ := id hl1
          replace c1 := c1.trans (show _ = some (Value.pointer (some (Addr.mk lb 0 none))) from rfl)
          have d1 := (blk_cell hlb 1).trans (show _ = some (Value.pointer ll.ptr) from rfl)
          have HLB := Lib.hid hlb; clear hlb
          go_wp2_with (first | (go_at_call_of 124 (Value.pointer (some (Addr.mk lb 0 none))); refine (isRed_ok (.node lb y ll lr false) _ hl1).mono ?_; rintro e w' ⟨rfl, rfl⟩; rw [hrr]) | (go_at_call_of 124 (Value.pointer ll.ptr); refine (isRed_ok ll _ hll).mono ?_; rintro e w' ⟨rfl, rfl⟩))
          go_meet
          exact ⟨by rw [hrr]; rfl, HAt1.out, hK1⟩
      case rest =>
        obtain ⟨rfl, hAt2, hK2⟩ := hcut
        clear c1 c2 hl1 hr1 HB1 HAt1 hK1
        go_upto_if 32 with fail
        go_cut [0] (fun s0 wx => ∃ b2 x2 l2 r2 k2, (Tr.node b1 x1 l1 r1 k1).upB = Tr.node b2 x2 l2 r2 k2 ∧ s0 = .pointer (some ⟨b2, 0, none⟩) ∧ (Tr.node b2 x2 l2 r2 k2).At wx ∧ Kp (fun i => i ∈ (Tr.node b x l r k).blocks) w wx)
        case first =>
          cases hc : (l1.red && l1.left.red) with
          | false =>
            go_wp2_with fail
            go_meet
            exact ⟨b1, x1, l1, r1, k1, by unfold Tr.upB; exact if_neg (by show ¬ ((l1.red && l1.left.red) = true); rw [hc]; exact Bool.false_ne_true), rfl, hAt2, hK2⟩
          | true =>
            obtain ⟨lb, y, ll, lr, rfl⟩ : ∃ lb y ll lr, l1 = Tr.node lb y ll lr false := by
              cases l1 with
              | nil => simp [Tr.red] at hc
              | node rb y rl rr c => simp [Tr.red] at hc; exact ⟨rb, y, rl, rr, by rw [hc.1]⟩
            go_wp2_with (first | (go_at_call 126; refine (rotR_ok b1 lb x1 y r1 ll lr k1 _ hAt2 hd1).mono ?_; rintro e w3 ⟨rfl, hAt3, hK3⟩))
            go_meet
            refine ⟨lb, y, ll, .node b1 x1 lr r1 false, k1, by unfold Tr.upB; exact if_pos hc, rfl, hAt3, hK2.trans hK3 fun i hi => .inl (hm1 i ?_)⟩
            rcases hi with rfl | rfl <;> simp [Tr.blocks]
        case rest =>
          obtain ⟨b2, x2, l2, r2, k2, hA2, rfl, hAt3, hK3⟩ := hcut
          have hd2 : (Tr.node b2 x2 l2 r2 k2).blocks.Nodup := by rw [← hA2]; exact (Tr.upB_perm _).nodup_iff.2 hd1
          have hm2 : ∀ i, i ∈ (Tr.node b2 x2 l2 r2 k2).blocks → i ∈ (Tr.node b x l r k).blocks := by rw [← hA2]; exact fun i hi => hm1 i ((Tr.upB_perm _).mem_iff.1 hi)
          have HA2 := Lib.hid hA2; clear hA2
          obtain ⟨hb1, hl1, hr1⟩ := id hAt3
          have HAt3 := Lib.hid hAt3; clear hAt3
          have c1 := (blk_cell hb1 1).trans (show _ = some (Value.pointer l2.ptr) from rfl)
          have c2 := (blk_cell hb1 2).trans (show _ = some (Value.pointer r2.ptr) from rfl)
          have HB1 := Lib.hid hb1; clear hb1
          have hup : (Tr.node b x l r k).up = (Tr.node b2 x2 l2 r2 k2).upC := by unfold Tr.up; rw [HA1.out, HA2.out]
          have HUP := Lib.hid hup; clear hup
          cases hll : l2.red with
          | false =>
            go_wp2_with (first | (go_at_call 124; refine (isRed_ok l2 _ hl1).mono ?_; rintro e w' ⟨rfl, rfl⟩; rw [hll]))
            go_ret
            rw [HUP.out]
            have e : (Tr.node b2 x2 l2 r2 k2).upC = Tr.node b2 x2 l2 r2 k2 := by simp [Tr.upC, Tr.left, hll]
            rw [e]
            exact ⟨rfl, HAt3.out, hK3⟩
          | true =>
            obtain ⟨lb, y, ll, lr, rfl⟩ : ∃ lb y ll lr, l2 = Tr.node lb y ll lr false := by
              cases l2 with
              | nil => simp [Tr.red] at hll
              | node rb y rl rr c => simp [Tr.red] at hll; exact ⟨rb, y, rl, rr, by rw [hll]⟩
            replace c1 := c1.trans (show _ = some (Value.pointer (some (Addr.mk lb 0 none))) from rfl)
            cases hrr : r2.red with
            | false =>
              go_wp2_with (first | (go_at_call_of 124 (Value.pointer (some (Addr.mk lb 0 none))); refine (isRed_ok (.node lb y ll lr false) _ hl1).mono ?_; rintro e w' ⟨rfl, rfl⟩; rw [hll]) | (go_at_call_of 124 (Value.pointer r2.ptr); refine (isRed_ok r2 _ hr1).mono ?_; rintro e w' ⟨rfl, rfl⟩; rw [hrr]))
              go_ret
              rw [HUP.out]
              have e : (Tr.node b2 x2 (.node lb y ll lr false) r2 k2).upC = Tr.node b2 x2 (.node lb y ll lr false) r2 k2 := by
                unfold Tr.upC; exact if_neg (by show ¬ (((Tr.node lb y ll lr false).red && r2.red) = true); rw [hrr]; simp)
              rw [e]
              exact ⟨rfl, HAt3.out, hK3⟩
            | true =>
              obtain ⟨rb, z, rl, rr, rfl⟩ : ∃ lb y ll lr, r2 = Tr.node lb y ll lr false := by
                cases r2 with
                | nil => simp [Tr.red] at hrr
                | node rb y rl rr c => simp [Tr.red] at hrr; exact ⟨rb, y, rl, rr, by rw [hrr]⟩
              replace c2 := c2.trans (show _ = some (Value.pointer (some (Addr.mk rb 0 none))) from rfl)
              have hne : ¬ lb = rb := by
                intro e; subst e
                exact (Tr.nd hd2).2.2.2.2 lb (by simp [Tr.blocks]) (by simp [Tr.blocks])
              go_wp2_with (first | (go_at_call_of 124 (Value.pointer (some (Addr.mk lb 0 none))); refine (isRed_ok (.node lb y ll lr false) _ hl1).mono ?_; rintro e w' ⟨rfl, rfl⟩; rw [hll]) | (go_at_call_of 124 (Value.pointer (some (Addr.mk rb 0 none))); refine (isRed_ok (.node rb z rl rr false) _ hr1).mono ?_; rintro e w' ⟨rfl, rfl⟩; rw [hrr]) | (go_at_call 127; refine (flip_ok b2 lb rb x2 y z ll lr rl rr k2 false false _ HAt3.out hd2).mono ?_; rintro e w4 ⟨rfl, hAt4, hK4⟩))
              go_ret
              rw [HUP.out]
              have e : (Tr.node b2 x2 (.node lb y ll lr false) (.node rb z rl rr false) k2).upC = Tr.node b2 x2 (.node lb y ll lr (!false)) (.node rb z rl rr (!false)) (!k2) := by
                unfold Tr.upC; exact if_pos rfl
              rw [e]
              refine ⟨rfl, hAt4, hK3.trans hK4 fun i hi => .inl (hm2 i ?_)⟩
              rcases hi with rfl | rfl | rfl <;> simp [Tr.blocks]
end Go.Proofs.YtifoicdnibgdaaaGreatDoor
