/- spec.IndexBytes of entries, sorted by their digests. -/
import Derived.Test.YtfjclhfhbclbhaaGreatDoorSb
import Derived.Test.YtfjclhfhbclbhaaGreatDoorVi
namespace Go.Proofs.YtfjclhfhbclbhaaGreatDoor
open Go.RowKit
set_option linter.unusedVariables false
set_option linter.unusedSimpArgs false
attribute [local go_sem] setCell_drewN alloc_drewN

theorem sortedSpec_le {l l' : List (CidOf × Int)} (hP : l'.Perm l) (hlen : l.length ≤ 10000) (hd : ∀ x ∈ l, x.1.dig.length ≤ 1000) : (sortedSpec l l').length ≤ 4 + 10000 * (12 + 10000 * 1008) := by
  have h1 := widthSecs_le l' (fun x hx => hd x (hP.mem_iff.1 hx)) (sortN (widthsOf l))
  have h2 := widthsOf_le l
  have h3 := sortN_len (widthsOf l)
  have h4 := hP.length_eq
  have h5 : (sortN (widthsOf l)).length * (12 + l'.length * 1008) ≤ 10000 * (12 + 10000 * 1008) := Nat.mul_le_mul (by omega) (by omega)
  rw [sortedSpec, List.length_append, le_length]; omega
theorem sortedSpec_pos (l l' : List (CidOf × Int)) : 0 < (sortedSpec l l').length := by rw [sortedSpec, List.length_append, le_length]; omega

set_option maxRecDepth 100000 in
set_option maxHeartbeats 1600000 in
theorem IndexBody_sorted (most : Nat) (hS : StableEnts most) (l : List (CidOf × Int)) (A : Option Addr) (cap : Nat) (w : World) (hR : RowsAt w A l) (h0 : 0 < l.length) (hlen : l.length ≤ 10000) (hle : l.length ≤ most) (hcap : l.length ≤ cap)
    (hd : ∀ x ∈ l, x.1.dig.length ≤ 1000) (ho : ∀ x ∈ l, 0 ≤ x.2 ∧ x.2 < 18446744073709551616) :
    Calls Tryz.prog 24 #[.slice A l.length cap, .int .u64 1024] w fun e w' => ∃ l', l'.Perm l ∧ SortedD l' ∧ e = .returned (.string (sOf (sortedSpec l l'))) ∧ Below w.heap.size w w' := by
  have hB := sortedBytes_ok most hS w.heap.size (.slice none 0 0) [] l A cap w hR h0 hlen hle hcap hd ho (by simp) (Nat.le_refl _) ⟨rfl, .inl ⟨rfl, rfl⟩⟩ (fun _ _ _ e => by cases e)
  clear hR hd ho
  go_enter Tryz.func24, Tryz.ntmps24
  go_wp2_with fail
  refine hB.mono ?_
  rintro e w1 ⟨l', v', hP, hSD, rfl, hU, hA⟩
  have hb : Below w.heap.size w w1 := hA.below (Nat.le_refl _) (fun i e => by cases e)
  obtain ⟨g, c, rfl, hby⟩ := own_bytes (bs := sortedSpec l l') hU (by simpa using sortedSpec_pos l l') (by simp)
  have hp := sortedSpec_pos l l'
  have HP := Lib.hid hP; have HSD := Lib.hid hSD
  have hcv := bytes_string (P := Tryz.prog) Tryz.underlying27 Tryz.underlying5 Tryz.underlying9 w1 _ (sortedSpec l l') c hby
  have hnl : ([] ++ sortedSpec l l').length = (sortedSpec l l').length := rfl
  rw [hnl]
  clear hP hSD hU hA hby hB
  go_wp2_with fail
  go_ret
  exact ⟨l', HP.out, HSD.out, rfl, hb⟩

set_option maxRecDepth 100000 in
set_option maxHeartbeats 1600000 in
theorem IndexBytes_sorted (most : Nat) (hS : StableEnts most) (l : List (CidOf × Int)) (A : Option Addr) (cap : Nat) (w : World) (hR : RowsAt w A l) (h0 : 0 < l.length) (hlen : l.length ≤ 10000) (hle : l.length ≤ most) (hcap : l.length ≤ cap)
    (hd : ∀ x ∈ l, x.1.dig.length ≤ 1000) (ho : ∀ x ∈ l, 0 ≤ x.2 ∧ x.2 < 18446744073709551616) :
    Calls Tryz.prog 16 #[.slice A l.length cap, .int .u64 1024] w fun e w' => ∃ l', l'.Perm l ∧ SortedD l' ∧ e = .returned (.string (sOf (Lib.uvarint 1024 ++ sortedSpec l l'))) ∧ Below w.heap.size w w' := by
  have hlv : (Lib.uvarint 1024).length ≤ 10 := Lib.uvarint_length 9 1024 (by decide)
  have hwl := widthsOf_le l
  go_enter Tryz.func16, Tryz.ntmps16
  go_wp2_with fail
  have HD := Lib.hid hd; have HO := Lib.hid ho; have HR := Lib.hid hR
  clear hd ho hR
  go_region_with (first | (go_at_call 6; refine (Varint_bytes 1024 (by omega) _).mono ?_; rintro e w1 ⟨g1, c1, rfl, hby1, hg1, hb1⟩; have hv1 := bytes_string (P := Tryz.prog) Tryz.underlying27 Tryz.underlying5 Tryz.underlying9 w1 _ _ c1 hby1; have hR1 : RowsAt w1 A l := RowsAt.below HR.out (Below.trans (b := w.drew) ⟨rfl, rfl, rfl, Nat.le_refl _, fun _ _ => rfl⟩ hb1)) | (go_at_call 24; (refine (IndexBody_sorted most hS l A cap _ hR1 h0 hlen hle hcap HD.out HO.out).mono ?_; rintro e w2 ⟨l', hP, hSD, rfl, hb2⟩; have hv2 := bytes_string (P := Tryz.prog) Tryz.underlying27 Tryz.underlying5 Tryz.underlying9 w2 _ _ c1 (hby1.below hb2); have hls := sortedSpec_le hP hlen HD.out; have hl1 : ¬ 9223372036854775807 < (Lib.uvarint 1024).length + (sortedSpec l l').length := (by omega); have HP := Lib.hid hP; have HSD := Lib.hid hSD; clear hP hSD)))
  all_goals (go_wp2_with fail; go_ret; exact ⟨l', HP.out, HSD.out, by simp [sOf, sOf_append, Act.put], by (repeat (first | (with_reducible exact Below.refl _ _) | (with_reducible exact below_boxed _ _) | (with_reducible refine below_box ?_ _) | (with_reducible refine below_drew1 ?_) | (with_reducible refine below_drewn ?_ _) | (with_reducible refine below_bytes ?_ _ _) | (with_reducible refine below_next ?_ (by assumption)) | (with_reducible refine below_set ?_ (by first | (simp; done) | (simp; omega) | omega) _)))⟩)
end Go.Proofs.YtfjclhfhbclbhaaGreatDoor
