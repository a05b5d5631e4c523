/- impl.IiEach: the entries again, sorted by their digests. -/
import Derived.Test.YtifoicdnibgdaaaGreatDoorFe
namespace Go.Proofs.YtifoicdnibgdaaaGreatDoor
open Go.RowKit
set_option linter.unusedVariables false
set_option linter.unusedSimpArgs false
attribute [local go_sem] setCell_drewN alloc_drewN

def SortedBy (l : List (CidOf × Int)) : Prop := l.Pairwise fun x y => Lib.compareBytes x.1.dig y.1.dig ≤ 0

theorem built_list {l : List (CidOf × Int)} {t : Tr} (h : Built l t) : ∃ L, l.Perm L ∧ t.items.map Ent.key = L.map ckey ∧ SortedBy L := by
  obtain ⟨L, hp, hk⟩ := perm_lift ckey h.perm.symm l rfl
  refine ⟨L, hp, hk, ?_⟩
  have hs := h.sorted
  have h1 : (t.items.map Ent.key).Pairwise fun x y => Lib.compareBytes x.2.2 y.2.2 ≤ 0 := List.pairwise_map.2 hs
  rw [hk] at h1
  exact List.pairwise_map.1 h1

set_option maxRecDepth 100000 in
set_option maxHeartbeats 3200000 in
theorem iiEach_ok (l : List (CidOf × Int)) (hl : ∀ x, x ∈ l → x.1.Ok) (A : Option Addr) (cap : Nat) (w : World) (hR : RowsAt w A l) (hlen : l.length ≤ 1000000) (hcap : l.length ≤ cap) :
    Calls Tryz.prog 7 #[.slice A l.length cap] w fun e w' => ∃ v L, e = .returned v ∧ l.Perm L ∧ SortedBy L ∧ w'.ownsRow w.heap.size 30 5 v L.length (L.flatMap EntCells) ∧ Below w.heap.size w w' := by
  have hmf : ∀ (fn : Fn) (first cap : Array Value) (w : World), (Instr.makeFunc fn first cap).run Tryz.prog w = .ok (.func fn first cap) w := fun _ _ _ _ => rfl
  have hins := fun W h => insertion_ok l hl A cap W h hlen hcap
  go_enter Tryz.func7, Tryz.ntmps7
  go_wp2_with fail
  refine (hins _ (by first | exact hR | exact hR.below (by (repeat (first | (with_reducible exact Below.refl _ _) | (with_reducible exact below_boxed _ _) | (with_reducible refine below_box ?_ _) | (with_reducible refine below_drew1 ?_) | (with_reducible refine below_drewn ?_ _) | (with_reducible refine below_bytes ?_ _ _) | (with_reducible refine below_next ?_ (by assumption)) | (with_reducible refine below_set ?_ (by first | (simp; done) | (simp; omega) | omega) _)))))).mono ?_
  rintro e w1 ⟨g, t, hg, rfl, hI, hBt, hbl, hb1⟩
  obtain ⟨L, hp, hk, hs⟩ := built_list hBt
  have hok : ∀ y, y ∈ L → y.1.Ok := fun y hy => hl y (hp.mem_iff.2 hy)
  have hil : t.items.length ≤ 1000000 := by
    have h1 : t.items.length = L.length := by simpa using congrArg List.length hk
    have h2 := hp.length_eq
    omega
  have hfe := fun p W h1 h2 h3 h4 => forEach_ok w g t l.length p hil L hk hok hBt.sorted W h1 h2 h3 h4
  go_wp2_with fail
  have hsz := hb1.size
  have hO1 : OutAt (w1.alloc (.cells #[.slice none 0 0] 22)) w1.heap.size w.heap.size (.slice none 0 0) [] := ⟨heap_alloc_new w1 _, ⟨rfl, .inl ⟨rfl, rfl⟩⟩, by intro e; cases e⟩
  refine (hfe _ _ (hI.below (below_boxed w1 _)) hO1 (below_box hb1 _) hsz).mono ?_
  rintro e w2 ⟨rfl, v, hO2, hb2⟩
  have c2 := (blk_cell hO2.blk 0).trans (show _ = some v from rfl)
  go_wp2_with fail
  go_ret
  exact ⟨v, L, rfl, hp, hs, hO2.own, hb2⟩
end Go.Proofs.YtifoicdnibgdaaaGreatDoor
