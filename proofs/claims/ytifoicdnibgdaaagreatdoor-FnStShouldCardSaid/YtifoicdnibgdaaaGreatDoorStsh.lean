/- impl.StShould answers as spec.Puts. -/
import Derived.Test.YtifoicdnibgdaaaGreatDoorShould
import Derived.Test.YtifoicdnibgdaaaGreatDoorApply
import Derived.Test.YtifoicdnibgdaaaGreatDoorIn
namespace Go.Proofs.YtifoicdnibgdaaaGreatDoor
open Go.RowKit
set_option linter.unusedVariables false
set_option linter.unusedSimpArgs false
attribute [local go_sem] setCell_drewN alloc_drewN

theorem u8_small {a : Nat} (h : a < 256) : (a.toUInt8).toNat = a := by simp [Nat.toUInt8, UInt8.toNat_ofNat', Nat.mod_eq_of_lt h]

theorem uv_inj : ∀ (n a : Nat), a ≤ n → ∀ (b : Nat) (r q : List UInt8), Lib.uvarint a ++ r = Lib.uvarint b ++ q → a = b ∧ r = q := by
  intro n
  induction n with
  | zero =>
    intro a ha b r q h
    obtain rfl : a = 0 := by omega
    rw [Lib.uvarint_small (by omega)] at h
    rcases Nat.lt_or_ge b 128 with hb | hb
    · rw [Lib.uvarint_small hb] at h
      simp only [List.cons_append, List.nil_append, List.cons.injEq] at h
      refine ⟨?_, h.2⟩
      have := congrArg UInt8.toNat h.1
      rw [u8_small (by omega), u8_small (by omega)] at this
      exact this
    · rw [Lib.uvarint_big hb] at h
      simp only [List.cons_append, List.nil_append, List.cons.injEq] at h
      have := congrArg UInt8.toNat h.1
      rw [u8_small (by omega), u8_small (by omega)] at this
      omega
  | succ n ih =>
    intro a ha b r q h
    rcases Nat.lt_or_ge a 128 with ha' | ha'
    · rw [Lib.uvarint_small ha'] at h
      rcases Nat.lt_or_ge b 128 with hb | hb
      · rw [Lib.uvarint_small hb] at h
        simp only [List.cons_append, List.nil_append, List.cons.injEq] at h
        refine ⟨?_, h.2⟩
        have := congrArg UInt8.toNat h.1
        rw [u8_small (by omega), u8_small (by omega)] at this
        exact this
      · rw [Lib.uvarint_big hb] at h
        simp only [List.cons_append, List.nil_append, List.cons.injEq] at h
        have := congrArg UInt8.toNat h.1
        rw [u8_small (by omega), u8_small (by omega)] at this
        omega
    · rw [Lib.uvarint_big ha'] at h
      rcases Nat.lt_or_ge b 128 with hb | hb
      · rw [Lib.uvarint_small hb] at h
        simp only [List.cons_append, List.nil_append, List.cons.injEq] at h
        have := congrArg UInt8.toNat h.1
        rw [u8_small (by omega), u8_small (by omega)] at this
        omega
      · rw [Lib.uvarint_big hb] at h
        simp only [List.cons_append, List.cons.injEq] at h
        have h1 := congrArg UInt8.toNat h.1
        rw [u8_small (by omega), u8_small (by omega)] at h1
        obtain ⟨h2, h3⟩ := ih (a / 128) (by omega) (b / 128) r q h.2
        exact ⟨by omega, h3⟩

theorem mh_inj {a b : CidOf} (h : a.mh = b.mh) : a.code = b.code ∧ a.dig = b.dig := by
  unfold CidOf.mh at h
  obtain ⟨h1, h2⟩ := uv_inj _ _ (Nat.le_refl _) _ _ _ h
  obtain ⟨_, h4⟩ := uv_inj _ _ (Nat.le_refl _) _ _ _ h2
  exact ⟨h1, h4⟩

theorem str_inj {a b : CidOf} (ha : a.Ok) (hb : b.Ok) (h : a.str = b.str) : a.ver = b.ver ∧ a.codec = b.codec ∧ a.code = b.code ∧ a.dig = b.dig := by
  have hby : a.bytes = b.bytes := by rw [← CidOf.str_toList a, ← CidOf.str_toList b, h]
  rcases ha.ver with h1 | h1 <;> rcases hb.ver with h2 | h2
  · obtain ⟨e1, _, e3, e4⟩ := CidOf.bytes_v0 ha h1.1
    obtain ⟨f1, _, f3, f4⟩ := CidOf.bytes_v0 hb h2.1
    rw [e1, f1] at hby
    simp only [List.cons.injEq, true_and] at hby
    exact ⟨by rw [h1.1, h2.1], by rw [e3, f3], by rw [e4, f4], hby⟩
  · obtain ⟨e1, _, e3, e4⟩ := CidOf.bytes_v0 ha h1.1
    rw [e1, CidOf.bytes_v1 h2] at hby
    exact absurd (List.cons.inj hby).1 (by decide)
  · obtain ⟨f1, _, f3, f4⟩ := CidOf.bytes_v0 hb h2.1
    rw [f1, CidOf.bytes_v1 h1] at hby
    exact absurd (List.cons.inj hby).1 (by decide)
  · rw [CidOf.bytes_v1 h1, CidOf.bytes_v1 h2] at hby
    obtain ⟨e1, e2⟩ := uv_inj _ _ (Nat.le_refl _) _ _ _ (List.cons.inj hby).2
    obtain ⟨e3, e4⟩ := mh_inj e2
    exact ⟨by rw [h1, h2], e1, e3, e4⟩

theorem built_mem {l : List (CidOf × Int)} {t : Tr} (h : Built l t) (s : ByteArray) (d : List UInt8) : (∃ x, x ∈ t.items ∧ x.dig = d ∧ x.str = s) ↔ ∃ y, y ∈ l ∧ y.1.dig = d ∧ y.1.str = s := by
  have hp := h.perm
  constructor
  · rintro ⟨x, hx, h1, h2⟩
    have := hp.mem_iff.1 (List.mem_map.2 ⟨x, hx, rfl⟩)
    obtain ⟨y, hy, e⟩ := List.mem_map.1 this
    simp only [Ent.key, Prod.mk.injEq] at e
    exact ⟨y, hy, by rw [e.2.2, h1], by rw [e.1, h2]⟩
  · rintro ⟨y, hy, h1, h2⟩
    have := hp.mem_iff.2 (List.mem_map.2 ⟨y, hy, rfl⟩)
    obtain ⟨x, hx, e⟩ := List.mem_map.1 this
    simp only [Ent.key, Prod.mk.injEq] at e
    exact ⟨x, hx, by rw [e.2.2, h1], by rw [e.1, h2]⟩
theorem built_dig {l : List (CidOf × Int)} {t : Tr} (h : Built l t) (d : List UInt8) : (∃ x, x ∈ t.items ∧ x.dig = d) ↔ ∃ y, y ∈ l ∧ y.1.dig = d := by
  have hp := h.perm
  constructor
  · rintro ⟨x, hx, h1⟩
    have := hp.mem_iff.1 (List.mem_map.2 ⟨x, hx, rfl⟩)
    obtain ⟨y, hy, e⟩ := List.mem_map.1 this
    simp only [Ent.key, Prod.mk.injEq] at e
    exact ⟨y, hy, by rw [e.2.2, h1]⟩
  · rintro ⟨y, hy, h1⟩
    have := hp.mem_iff.2 (List.mem_map.2 ⟨y, hy, rfl⟩)
    obtain ⟨x, hx, e⟩ := List.mem_map.1 this
    simp only [Ent.key, Prod.mk.injEq] at e
    exact ⟨x, hx, by rw [e.2.2, h1]⟩

/-- The two say the same. -/
theorem sh_puts (l : List (CidOf × Int)) (hl : ∀ x, x ∈ l → x.1.Ok) (c : CidOf) (hc : c.Ok) (o : OOpt) (f1 f2 : Bool) (h1 : f1 = true ↔ ∃ y, y ∈ l ∧ y.1.dig = c.dig ∧ y.1.str = c.str) (h2 : f2 = true ↔ ∃ y, y ∈ l ∧ y.1.dig = c.dig) :
    shB c o.most o.i o.d o.wh f1 f2 = putsB (l.map (·.1)) c o := by
  unfold shB putsB
  by_cases h0 : c.code = 0 ∧ o.i = false
  · rw [if_pos ⟨h0.2, h0.1⟩, if_pos h0]
  · rw [if_neg (fun h => h0 ⟨h.2, h.1⟩), if_neg h0]
    unfold tooLong OOpt.most
    by_cases ht : (if o.mc = 0 then 2048 else o.mc) < c.bytes.length
    · rw [if_pos ht, if_pos (decide_eq_true ht)]
    · have ht' : ¬ decide ((if o.mc = 0 then 2048 else o.mc) < c.bytes.length) = true := by simpa using ht
      rw [if_neg ht, if_neg ht']
      cases hd : o.d with
      | true =>
        have : (l.map (·.1)).any (here c o) = false := by simp [here, hd]
        rw [this]; rfl
      | false =>
        cases hw : o.wh with
        | true =>
          have : (l.map (·.1)).any (here c o) = f1 := by
            rw [Bool.eq_iff_iff, h1, List.any_eq_true]
            constructor
            · rintro ⟨x, hx, hh⟩
              obtain ⟨y, hy, rfl⟩ := List.mem_map.1 hx
              simp [here, hd, hw] at hh
              obtain ⟨a1, a2, a3, a4⟩ := hh
              refine ⟨y, hy, a4, ?_⟩
              have : y.1 = c := by
                obtain ⟨⟨v, x, z, dg⟩, off⟩ := y
                obtain ⟨v', x', z', dg'⟩ := c
                simp only at a1 a2 a3 a4
                subst a1 a2 a3 a4
                rfl
              rw [this]
            · rintro ⟨y, hy, _, e2⟩
              obtain ⟨a1, a2, a3, a4⟩ := str_inj (hl y hy) hc e2
              exact ⟨y.1, List.mem_map.2 ⟨y, hy, rfl⟩, by simp [here, hd, hw, a1, a2, a3, a4]⟩
          rw [this]; rfl
        | false =>
          have : (l.map (·.1)).any (here c o) = f2 := by
            rw [Bool.eq_iff_iff, h2, List.any_eq_true]
            constructor
            · rintro ⟨x, hx, hh⟩
              obtain ⟨y, hy, rfl⟩ := List.mem_map.1 hx
              simp [here, hd, hw] at hh
              exact ⟨y, hy, hh⟩
            · rintro ⟨y, hy, e1⟩
              exact ⟨y.1, List.mem_map.2 ⟨y, hy, rfl⟩, by simp [here, hd, hw, e1]⟩
          rw [this]; rfl

set_option maxRecDepth 100000 in
set_option maxHeartbeats 3200000 in
theorem StShould_ok (l : List (CidOf × Int)) (hl : ∀ x, x ∈ l → x.1.Ok) (A : Option Addr) (cap : Nat) (c : CidOf) (hc : c.Ok) (o : OOpt) (hom : o.mc < 18446744073709551616) (ty : TypeId) (ev : Value) (w : World) (hR : RowsAt w A l) (hlen : l.length ≤ 1000000) (hcap : l.length ≤ cap)
    (hg5 : 5 < w.heap.size) (he : w.cell? ⟨5, 0, none⟩ = some (.iface ty ev)) :
    Calls Tryz.prog 13 #[.slice A l.length cap, .agg (CidCells c).toArray, .agg o.cells.toArray] w fun e w' => e = .returned (.tuple #[.bool (putsB (l.map (·.1)) c o).1, .bool (putsB (l.map (·.1)) c o).2]) ∧ Below w.heap.size w w' := by
  have hI := fun W h => insertion_ok l hl A cap W h hlen hcap
  have hC := fun W => cidIn_ok c hc W
  have hO := fun W => options_ok o W
  have hcc0 : (Value.agg (CidCells c).toArray) = .agg #[.int .u64 c.ver, .int .u64 c.codec, .int .u64 c.code, .string (sOf c.dig)] := rfl
  have hoo : (Value.agg o.cells.toArray) = .agg #[.bool o.z, .bool o.i, .bool o.d, .bool o.wh, .bool o.v1, .bool o.tr, .int .u64 o.dp, .int .u64 o.ip, .int .u64 o.codec, .int .u64 o.mc, .int .u64 o.mh, .int .u64 o.ms] := rfl
  simp only [hoo] at hO
  rw [hoo, hcc0]
  clear hoo hcc0
  go_enter Tryz.func13, Tryz.ntmps13
  go_wp2_with fail
  refine (hI _ (hR.below (by (repeat (first | (with_reducible exact Below.refl _ _) | (with_reducible exact below_boxed _ _) | (with_reducible refine below_box ?_ _) | (with_reducible refine below_drew1 ?_) | (with_reducible refine below_drewn ?_ _) | (with_reducible refine below_bytes ?_ _ _) | (with_reducible refine below_next ?_ (by assumption)) | (with_reducible refine below_set ?_ (by first | (simp; done) | (simp; omega) | omega) _)))))).mono ?_
  rintro e w1 ⟨g, t, hg, rfl, hI1, hBt, hbl, hb1⟩
  obtain ⟨hcc, hff⟩ := bcell hb1
  have hz1 : w.heap.size + 1 < w1.heap.size := by have := hb1.size; simp at this; omega
  go_wp2_with fail
  refine (hC _).mono ?_
  rintro e w2 ⟨rfl, hb2⟩
  clear hcc hff
  have hb02 := below_next hb1 hb2
  obtain ⟨hcc, hff⟩ := bcell hb02
  have hz2 : w.heap.size + 1 < w2.heap.size := by have := hb02.size; simp at this; omega
  go_wp2_with fail
  refine (hO _).mono ?_
  rintro e w3 ⟨v, fs, rfl, hOp⟩
  have hb3 := hOp.below
  clear hcc hff
  have hb03 := below_next (below_box hb02 (.cells #[.string c.str] 49)) hb3
  obtain ⟨hcc3, hff3⟩ := bcell hb3
  have hz3 : w2.heap.size < w3.heap.size := by have := hb3.size; simp at this; omega
  have hv : ∃ a n' c', v = .slice a n' c' := by
    obtain ⟨g9, n9, c9, _, _, _, rfl, _⟩ := hOp.head
    exact ⟨_, _, _, rfl⟩
  obtain ⟨a9, n9, c9, rfl⟩ := hv
  go_wp2_with fail
  refine (Apply_ok o fs _ _ _ hOp).mono ?_
  rintro e w4 ⟨⟨x, n0, n1, n8, n11, n12, b3, b9, b10, rfl⟩, hb4⟩
  have k4 := (hb4.cell (p := ⟨w2.heap.size, 0, none⟩) hz3).trans ((hb3.cell (p := ⟨w2.heap.size, 0, none⟩) (by simp)).trans (show _ = some (Value.string c.str) by simp))
  clear hcc3 hff3 hOp
  have hz4 : w2.heap.size < w4.heap.size := Nat.lt_of_lt_of_le hz3 hb4.size
  have hb24 : Below w2.heap.size w2 w4 := below_next (below_next (below_boxed w2 _) hb3) hb4
  have hb14 : Below w1.heap.size w1 w4 := below_next hb2 hb24
  have hb04 := below_next hb1 hb14
  have hbw4 : Below w.heap.size w w4 := below_next (below_box (below_boxed w _) _) hb04
  have hmost : o.most < 18446744073709551616 := by unfold OOpt.most; split <;> omega
  obtain ⟨f1, hf1⟩ : ∃ f1 : Bool, f1 = true ↔ ∃ y, y ∈ l ∧ y.1.dig = c.dig ∧ y.1.str = c.str := ⟨decide _, decide_eq_true_iff⟩
  obtain ⟨f2, hf2⟩ : ∃ f2 : Bool, f2 = true ↔ ∃ y, y ∈ l ∧ y.1.dig = c.dig := ⟨decide _, decide_eq_true_iff⟩
  have hSP := fun W (hW : Below w4.heap.size w4 W) => ShouldPut_ok g t l.length c hc o.most hmost o.i o.d o.wh ty ev W ((hI1.below hb14).below hW) hBt.sorted (Nat.lt_of_lt_of_le hg5 (below_next hbw4 hW).size) (((below_next hbw4 hW).cell (p := ⟨5, 0, none⟩) hg5).trans he) f1 f2 (hf1.trans (built_mem hBt c.str c.dig).symm) (hf2.trans (built_dig hBt c.dig).symm)
  rw [sh_puts l hl c hc o f1 f2 hf1 hf2] at hSP
  clear hI1 hBt hbl hf1 hf2 hI hC hO he hR
  generalize o.most = om at *
  go_wp2_with fail
  refine (hSP _ (by (repeat (first | (with_reducible exact Below.refl _ _) | (with_reducible exact below_boxed _ _) | (with_reducible refine below_box ?_ _) | (with_reducible refine below_drew1 ?_) | (with_reducible refine below_drewn ?_ _) | (with_reducible refine below_bytes ?_ _ _) | (with_reducible refine below_next ?_ (by assumption)) | (with_reducible refine below_set ?_ (by first | (simp; done) | (simp; omega) | omega) _))))).mono ?_
  obtain ⟨r, hr⟩ : ∃ r, r = putsB (l.map (·.1)) c o := ⟨_, rfl⟩
  rw [← hr]
  have HR := Lib.hid hr
  clear hr
  obtain ⟨r1, r2⟩ := r
  rintro e w5 ⟨⟨ev5, rfl, hcase⟩, hb5⟩
  have hfin := below_next (below_box hbw4 _) hb5
  clear hb5 hb4 hb04 hb14 hb24 hb3 hb03 hb02 hb2 hb1 hSP
  rcases hcase with ⟨e2, rfl⟩ | ⟨e2, a, b, rfl⟩
  · simp only at e2
    subst e2
    go_wp2_with fail
    go_region
    go_wp2_with fail
    go_ret2
    rw [← HR.out]
    exact ⟨rfl, by (repeat (first | (with_reducible exact Below.refl _ _) | (with_reducible exact below_boxed _ _) | (with_reducible refine below_box ?_ _) | (with_reducible refine below_drew1 ?_) | (with_reducible refine below_drewn ?_ _) | (with_reducible refine below_bytes ?_ _ _) | (with_reducible refine below_next ?_ (by assumption)) | (with_reducible refine below_set ?_ (by first | (simp; done) | (simp; omega) | omega) _)))⟩
  · simp only at e2
    subst e2
    go_wp2_with fail
    go_region
    go_wp2_with fail
    go_ret2
    rw [← HR.out]
    exact ⟨rfl, by (repeat (first | (with_reducible exact Below.refl _ _) | (with_reducible exact below_boxed _ _) | (with_reducible refine below_box ?_ _) | (with_reducible refine below_drew1 ?_) | (with_reducible refine below_drewn ?_ _) | (with_reducible refine below_bytes ?_ _ _) | (with_reducible refine below_next ?_ (by assumption)) | (with_reducible refine below_set ?_ (by first | (simp; done) | (simp; omega) | omega) _)))⟩
end Go.Proofs.YtifoicdnibgdaaaGreatDoor
