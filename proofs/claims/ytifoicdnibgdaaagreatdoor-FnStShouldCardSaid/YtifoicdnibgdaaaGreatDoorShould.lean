/- store.IsIdentity, store.ShouldPut. -/
import Derived.Test.YtifoicdnibgdaaaGreatDoorHas
namespace Go.Proofs.YtifoicdnibgdaaaGreatDoor
open Go.RowKit
set_option linter.unusedVariables false
set_option linter.unusedSimpArgs false
attribute [local go_sem] setCell_drewN alloc_drewN

set_option maxRecDepth 100000 in
set_option maxHeartbeats 1600000 in
theorem IsIdentity_ok (c : CidOf) (hc : c.Ok) (w : World) : Calls Tryz.prog 60 #[.agg #[.string c.str]] w fun e w' => (∃ v, e = .returned (.tuple #[v, .bool ((c.code : Int) == 0), .nilIface])) ∧ Below w.heap.size w w' := by
  have hH := fun W => Hash_ok c hc W
  go_enter Tryz.func60, Tryz.ntmps60
  go_wp2_with fail
  refine (hH _).mono ?_
  rintro e w1 ⟨A1, c1, rfl, hc1, hA1, hB1, hF1, hb1⟩
  go_wp2_with fail
  refine (Decode_ok c.code hc.code c.dig (by have := hc.dig; omega) A1 _ c1 _ hA1 rfl hc1).mono ?_
  rintro e w2 ⟨gd, A2, c2, rfl, hc2, hS2, hb2, hg2, hblk⟩
  have hb02 := below_next hb1 hb2
  have k0 : w2.cell? ⟨gd, 0, none⟩ = some (.int .u64 c.code) := by simp [World.cell?, hblk]
  have k3 : w2.cell? ⟨gd, 3, none⟩ = some (.slice A2 c.dig.length c2) := by simp [World.cell?, hblk]
  go_wp2_with fail
  go_ret3
  exact ⟨⟨_, rfl⟩, by (repeat (first | (with_reducible exact Below.refl _ _) | (with_reducible exact below_boxed _ _) | (with_reducible refine below_box ?_ _) | (with_reducible refine below_drew1 ?_) | (with_reducible refine below_drewn ?_ _) | (with_reducible refine below_bytes ?_ _ _) | (with_reducible refine below_next ?_ (by assumption)) | (with_reducible refine below_set ?_ (by first | (simp; done) | (simp; omega) | omega) _)))⟩

/-- Is a block put, and is there no error? -/
def shB (c : CidOf) (most : Nat) (i d wh fnd1 fnd2 : Bool) : Bool × Bool :=
  if i = false ∧ c.code = 0 then (false, true) else if most < c.bytes.length then (false, false) else if d then (true, true) else if wh then (!fnd1, true) else (!fnd2, true)
/-- A pair of a Bool and an error. -/
def ShPost (r : Bool × Bool) (e : Ending) : Prop := ∃ ev, e = .returned (.tuple #[.bool r.1, ev]) ∧ (r.2 = true ∧ ev = .nilIface ∨ r.2 = false ∧ ∃ a b, ev = .iface a b)

set_option maxRecDepth 100000 in
set_option maxHeartbeats 3200000 in
theorem ShouldPut_ok (g : Nat) (t : Tr) (n : Int) (c : CidOf) (hc : c.Ok) (most : Nat) (hmost : most < 18446744073709551616) (i d wh : Bool) (ty : TypeId) (ev : Value) (w : World) (h : IiAt w g t n) (hs : Sorted t.items) (hg5 : 5 < w.heap.size) (he : w.cell? ⟨5, 0, none⟩ = some (.iface ty ev))
    (fnd1 fnd2 : Bool) (hf1 : fnd1 = true ↔ ∃ x, x ∈ t.items ∧ x.dig = c.dig ∧ x.str = c.str) (hf2 : fnd2 = true ↔ ∃ x, x ∈ t.items ∧ x.dig = c.dig) :
    Calls Tryz.prog 25 #[.pointer (some ⟨g, 0, none⟩), .agg #[.string c.str], .int .u64 most, .bool i, .bool d, .bool wh] w fun e w' => ShPost (shB c most i d wh fnd1 fnd2) e ∧ Below w.heap.size w w' := by
  have hsz := CidOf.str_size hc
  have hId := fun W => IsIdentity_ok c hc W
  have hBy := fun W => Bytes_ok c.str hsz.2 (by omega) W
  have hlen : c.str.size = c.bytes.length := by simp [CidOf.str, ByteArray.size]
  have hX := fun W hI => HasExact_ok g t n c hc W hI hs fnd1 hf1
  have hG := fun W hI h1 h2 => iiGet_ok g t n c hc ty ev W hI hs h1 h2
  have hbl := bytes_len c hc
  have hwr : IntKind.u64.wrap (c.bytes.length : Int) = (c.bytes.length : Int) := by rw [IntKind.wrap_u64]; omega
  by_cases hid : i = false ∧ c.code = 0
  · have hsp : shB c most i d wh fnd1 fnd2 = (false, true) := by unfold shB; rw [if_pos hid]
    have q1 : ((c.code : Int) == 0) = true := by simp [hid.2]
    rw [hsp, hid.1]
    rw [q1] at hId
    go_enter Tryz.func25, Tryz.ntmps25
    go_wp2_with fail
    refine (hId _).mono ?_
    rintro e w1 ⟨⟨v, rfl⟩, hb1⟩
    obtain ⟨hcc, hff⟩ := bcell hb1
    go_wp2_with fail
    go_ret2
    exact ⟨⟨_, rfl, .inl ⟨rfl, rfl⟩⟩, by (repeat (first | (with_reducible exact Below.refl _ _) | (with_reducible exact below_boxed _ _) | (with_reducible refine below_box ?_ _) | (with_reducible refine below_drew1 ?_) | (with_reducible refine below_drewn ?_ _) | (with_reducible refine below_bytes ?_ _ _) | (with_reducible refine below_next ?_ (by assumption)) | (with_reducible refine below_set ?_ (by first | (simp; done) | (simp; omega) | omega) _)))⟩
  · have hsp : shB c most i d wh fnd1 fnd2 = if most < c.bytes.length then (false, false) else if d then (true, true) else if wh then (!fnd1, true) else (!fnd2, true) := by unfold shB; rw [if_neg hid]
    have HSP := Lib.hid hsp; clear hsp
    go_enter Tryz.func25, Tryz.ntmps25
    go_upto_if 23 with fail
    go_cut [12] (fun s12 wx => s12 = .bool false ∧ Below (w.alloc (.cells #[.string c.str] 49)).heap.size (w.alloc (.cells #[.string c.str] 49)) wx)
    case first =>
      clear hBy hX hG
      cases i with
      | true =>
        go_wp2_with fail
        go_meet
        exact ⟨rfl, Below.refl _ _⟩
      | false =>
        have q1 : ((c.code : Int) == 0) = false := by
          have : ¬ c.code = 0 := fun h => hid ⟨rfl, h⟩
          simp [this]
        rw [q1] at hId
        go_wp2_with fail
        refine (hId _).mono ?_
        rintro e w1 ⟨⟨v, rfl⟩, hb1⟩
        go_wp2_with fail
        go_meet
        exact ⟨rfl, hb1⟩
    case rest =>
      obtain ⟨rfl, hb0⟩ := hcut
      clear hid hId
      obtain ⟨hcc, hff⟩ := bcell hb0
      have hz0 : w.heap.size < wc.heap.size := by have := hb0.size; simp at this; omega
      go_wp2_with fail
      refine (hBy _).mono ?_
      rintro e w1 ⟨g1, c1, rfl, hc1, hA1, hB1, hb1, hg1⟩
      rw [hlen]
      have hb01 := below_next hb0 hb1
      clear hcc hff hBy hA1 hB1
      obtain ⟨hcc, hff⟩ := bcell hb01
      have hz1 : w.heap.size < w1.heap.size := by have := hb1.size; omega
      have hbw1 : Below w.heap.size w w1 := below_next (below_boxed w _) hb01
      by_cases hm : most < c.bytes.length
      · have hr : shB c most i d wh fnd1 fnd2 = (false, false) := by rw [HSP.out, if_pos hm]
        clear hX hG
        generalize c.bytes.length = bl at *
        have hm' : (most : Int) < (bl : Int) := by omega
        go_wp2_with fail
        go_ret2
        rw [hr]
        exact ⟨⟨_, rfl, .inr ⟨rfl, _, _, rfl⟩⟩, by (repeat (first | (with_reducible exact Below.refl _ _) | (with_reducible exact below_boxed _ _) | (with_reducible refine below_box ?_ _) | (with_reducible refine below_drew1 ?_) | (with_reducible refine below_drewn ?_ _) | (with_reducible refine below_bytes ?_ _ _) | (with_reducible refine below_next ?_ (by assumption)) | (with_reducible refine below_set ?_ (by first | (simp; done) | (simp; omega) | omega) _)))⟩
      · have hr : shB c most i d wh fnd1 fnd2 = if d then (true, true) else if wh then (!fnd1, true) else (!fnd2, true) := by rw [HSP.out, if_neg hm]
        have HR := Lib.hid hr; clear hr
        generalize c.bytes.length = bl at *
        have hm' : ¬ (most : Int) < (bl : Int) := by omega
        have hI1 := h.below hbw1
        have hX1 := hX w1 hI1
        have hG1 := hG w1 hI1 (Nat.lt_of_lt_of_le hg5 hbw1.size) ((hbw1.cell (p := ⟨5, 0, none⟩) hg5).trans he)
        clear hX hG h he hI1
        cases d with
        | true =>
          have hr : shB c most i true wh fnd1 fnd2 = (true, true) := by rw [HR.out]; rfl
          clear hX1 hG1
          go_wp2_with fail
          go_ret2
          rw [hr]
          exact ⟨⟨_, rfl, .inl ⟨rfl, rfl⟩⟩, by (repeat (first | (with_reducible exact Below.refl _ _) | (with_reducible exact below_boxed _ _) | (with_reducible refine below_box ?_ _) | (with_reducible refine below_drew1 ?_) | (with_reducible refine below_drewn ?_ _) | (with_reducible refine below_bytes ?_ _ _) | (with_reducible refine below_next ?_ (by assumption)) | (with_reducible refine below_set ?_ (by first | (simp; done) | (simp; omega) | omega) _)))⟩
        | false =>
          cases wh with
          | true =>
            have hr : shB c most i false true fnd1 fnd2 = (!fnd1, true) := by rw [HR.out]; rfl
            clear hG1
            go_wp2_with fail
            refine hX1.mono ?_
            rintro e w2 ⟨rfl, hb2⟩
            go_wp2_with fail
            go_ret2
            rw [hr]
            exact ⟨⟨_, rfl, .inl ⟨rfl, rfl⟩⟩, below_next hbw1 hb2⟩
          | false =>
            have hr : shB c most i false false fnd1 fnd2 = (!fnd2, true) := by rw [HR.out]; rfl
            clear hX1
            go_wp2_with fail
            refine hG1.mono ?_
            rintro e w2 ⟨hP, hb2⟩
            rcases hP with ⟨o, rfl, hex⟩ | ⟨rfl, hno⟩
            · have hf : fnd2 = true := hf2.2 hex
              go_wp2_with fail
              go_ret2
              rw [hr, hf]
              exact ⟨⟨_, rfl, .inl ⟨rfl, rfl⟩⟩, below_next hbw1 hb2⟩
            · have hf : fnd2 = false := by
                cases hq : fnd2 with
                | false => rfl
                | true => exact absurd (hf2.1 hq) hno
              go_wp2_with fail
              go_ret2
              rw [hr, hf]
              exact ⟨⟨_, rfl, .inl ⟨rfl, rfl⟩⟩, below_next hbw1 hb2⟩
end Go.Proofs.YtifoicdnibgdaaaGreatDoor
