/- impl.options: the list of a store's options. -/
import Derived.Test.YtifoicdnibgdaaaGreatDoorOpt
import Derived.RegionCalls
import Derived.Deep.RegionWith
import Derived.Deep.RegionHeld3
import Derived.Outline
import Derived.Deep.DeepCutAuto
import Derived.Deep.CutBlock
namespace Go.Proofs.YtifoicdnibgdaaaGreatDoor
open Go.RowKit
set_option linter.unusedVariables false
set_option linter.unusedSimpArgs false

structure OOpt where
  z : Bool
  i : Bool
  d : Bool
  wh : Bool
  v1 : Bool
  tr : Bool
  dp : Nat
  ip : Nat
  codec : Nat
  mc : Nat
  mh : Nat
  ms : Nat
def OOpt.cells (o : OOpt) : List Value := [.bool o.z, .bool o.i, .bool o.d, .bool o.wh, .bool o.v1, .bool o.tr, .int .u64 o.dp, .int .u64 o.ip, .int .u64 o.codec, .int .u64 o.mc, .int .u64 o.mh, .int .u64 o.ms]
def OOpt.val (o : OOpt) : Value := .agg o.cells.toArray
def OOpt.base (o : OOpt) : List (Nat × Value) := [(3, .bool o.z), (5, .bool o.i), (6, .bool o.d), (7, .bool o.wh), (9, .bool o.v1), (10, .bool o.tr), (0, .int .u64 o.dp), (1, .int .u64 o.ip)]
def optE (off n : Nat) : List (Nat × Value) := if n = 0 then [] else [(off, .int .u64 n)]
theorem optE_len (off n : Nat) : (optE off n).length ≤ 1 := by unfold optE; split <;> simp
def OOpt.list (o : OOpt) : List (Nat × Value) := o.base ++ optE 2 o.codec ++ optE 4 o.mc ++ optE 11 o.mh ++ optE 12 o.ms

/-- The options' own block. -/
def ObS (B : Nat) (o : OOpt) (W : World) : Prop := B < W.heap.size ∧ ∀ j v, o.cells[j]? = some v → W.cell? ⟨B, j, none⟩ = some v
theorem ObS.next {B : Nat} {o : OOpt} {W W1 : World} (h : ObS B o W) (hb : Below W.heap.size W W1) : ObS B o W1 :=
  ⟨Nat.lt_of_lt_of_le h.1 hb.size, fun j v hj => (hb.cell (p := ⟨B, j, none⟩) h.1).trans (h.2 j v hj)⟩
theorem ObS.alloc {B : Nat} {o : OOpt} {W : World} (h : ObS B o W) (ob : Obj) : ObS B o (W.alloc ob) := h.next (below_boxed W ob)
theorem ObS.drew {B : Nat} {o : OOpt} {W : World} (h : ObS B o W) : ObS B o W.drew := h

/-- A value that is no function. -/
def Plain (v : Value) : Prop := (∃ b, v = .bool b) ∨ ∃ k n, v = .int k n
theorem OptF.grown {W W1 : World} {f : Value} {off : Nat} {v : Value} {g : Nat} {G : Fn} {c d : Array Value} (h : OptF W f off v) (hv : Plain v) (hg : W.cell? ⟨g, 0, none⟩ = some (.func G c d)) (hgr : W.grownBy W1 (some g)) : OptF W1 f off v := by
  obtain ⟨ho, F, b, e, hlt, hc, hall⟩ := h
  have hne : b ≠ g := by
    rintro rfl
    rw [hg] at hc
    rcases hv with ⟨x, rfl⟩ | ⟨k, n, rfl⟩ <;> cases hc
  have hbk := hgr.block b hlt (by intro e; cases e; exact hne rfl)
  refine ⟨ho, F, b, e, ?_, (World.cell?_of_block (w := W) hbk).trans hc, hall⟩
  have := World.block_lt_of_cell? W1 ⟨b, 0, none⟩ ((World.cell?_of_block (w := W) hbk).trans hc)
  exact this

structure OptsAt (w0 w : World) (v : Value) (L : List (Nat × Value)) (fs : List Value) : Prop where
  own : w.ownsRow w0.heap.size 107 1 v L.length fs
  each : ∀ (j : Nat) (f : Value) (x : Nat × Value), fs[j]? = some f → L[j]? = some x → OptF w f x.1 x.2
  plain : ∀ x, x ∈ L → Plain x.2
  pos : 0 < L.length
  below : Below w0.heap.size w0 w

theorem OptsAt.head {w0 w : World} {v : Value} {L : List (Nat × Value)} {fs : List Value} (h : OptsAt w0 w v L fs) : ∃ (g n c : Nat) (G : Fn) (cs ds : Array Value), v = .slice (some ⟨g, 0, none⟩) n c ∧ w.cell? ⟨g, 0, none⟩ = some (.func G cs ds) ∧ w0.heap.size ≤ g := by
  obtain ⟨hl, hr⟩ := h.own
  have hp := h.pos
  rcases hr with ⟨_, h0⟩ | ⟨g, c, cur, rfl, hge, hg, _, _, _, htk⟩
  · omega
  · have hl' : 0 < fs.length := by omega
    obtain ⟨_, G, b, e, _⟩ := h.each 0 fs[0] L[0] (List.getElem?_eq_getElem hl') (List.getElem?_eq_getElem hp)
    have hc : cur[0]? = some fs[0] := by
      have h2 : (cur.toList.take (L.length * 1))[0]? = some fs[0] := by rw [htk]; exact List.getElem?_eq_getElem hl'
      rw [List.getElem?_take] at h2
      split at h2
      · simpa using h2
      · cases h2
    exact ⟨g, _, c, _, _, _, rfl, by rw [cell_of_row w g 0 cur _ _ hg, hc, e], hge⟩

theorem OptsAt.push {w0 w w1 w2 : World} {v v' f : Value} {L : List (Nat × Value)} {fs : List Value} {off : Nat} {x : Value} {ob : Obj} (h : OptsAt w0 w v L fs) (hb : Below w.heap.size w w1) (hf : OptF w1 f off x) (hx : Plain x)
    {n' : Nat} (hown : w2.ownsRow w0.heap.size 107 1 v' n' (fs ++ [f])) (hn' : n' = L.length + 1) (hg : (w1.alloc ob).grownBy w2 v.ownBlock) : OptsAt w0 w2 v' (L ++ [(off, x)]) (fs ++ [f]) := by
  obtain ⟨g, n, c, G, cs, ds, rfl, hc, hge⟩ := h.head
  have hlt := World.block_lt_of_cell? w _ hc
  have hb2 := below_box hb ob
  have hc2 : (w1.alloc ob).cell? ⟨g, 0, none⟩ = some (.func G cs ds) := (hb2.cell (p := ⟨g, 0, none⟩) hlt).trans hc
  have hl : fs.length = L.length := by have := h.own.1; omega
  subst hn'
  refine ⟨by simpa using hown, ?_, ?_, by simp, ?_⟩
  · intro j f' y hf' hy
    rcases Nat.lt_or_ge j L.length with hj | hj
    · rw [List.getElem?_append_left (by omega)] at hf' hy
      exact ((h.each j f' y hf' hy).below hb2).grown (h.plain y (List.mem_of_getElem? hy)) hc2 hg
    · rw [List.getElem?_append_right (by omega)] at hf' hy
      rw [hl] at hf'
      have hj0 : j - L.length = 0 := by
        have := (List.getElem?_eq_some_iff.1 hy).1
        simp at this; omega
      rw [hj0] at hf' hy
      simp at hf' hy
      subst hf' hy
      exact (hf.below (below_boxed w1 ob)).grown hx hc2 hg
  · intro y hy
    rcases List.mem_append.1 hy with hy | hy
    · exact h.plain y hy
    · simp at hy; subst hy; exact hx
  · exact (h.below.trans (hb2.mono h.below.size)).grown hg (by have := hb2.size; have := h.below.size; omega) (fun k hk => by cases hk; exact hge)

theorem info_opt : (Tryz.prog.info? 107).map (fun i => (i.zero, i.size, i.bytes)) = some (some .nilFunc, 1, 8) := by kernel_rfl

theorem OptsAt.keep {w0 w w1 : World} {v : Value} {L : List (Nat × Value)} {fs : List Value} (h : OptsAt w0 w v L fs) (hb : Below w.heap.size w w1) : OptsAt w0 w1 v L fs := by
  refine ⟨⟨h.own.1, ?_⟩, fun j f x hf hx => (h.each j f x hf hx).below hb, h.plain, h.pos, h.below.trans (hb.mono h.below.size)⟩
  rcases h.own.2 with ⟨h1, h2⟩ | ⟨g, c, cur, hv, hge, hg, rest⟩
  · exact .inl ⟨h1, h2⟩
  · exact .inr ⟨g, c, cur, hv, hge, (hb.block g (Array.getElem?_eq_some_iff.1 hg).1).trans hg, rest⟩
theorem ObS.grown {B : Nat} {o : OOpt} {w0 w1 w2 : World} {v : Value} {L : List (Nat × Value)} {fs : List Value} {ob : Obj} (hS : ObS B o w1) (h : OptsAt w0 w1 v L fs) (hg : (w1.alloc ob).grownBy w2 v.ownBlock) : ObS B o w2 := by
  obtain ⟨g, n, c, G, cs, ds, rfl, hc, hge⟩ := h.head
  have hS1 := hS.alloc ob
  have hne : B ≠ g := by
    rintro rfl
    have := hS.2 0 _ rfl
    rw [hc] at this
    cases this
  have hbk := hg.block B hS1.1 (by intro e; cases e; exact hne rfl)
  refine ⟨World.block_lt_of_cell? w2 ⟨B, 0, none⟩ ((World.cell?_of_block (w := w1.alloc ob) hbk).trans (hS1.2 0 _ rfl)), fun j v hj => (World.cell?_of_block (w := w1.alloc ob) hbk).trans (hS1.2 j v hj)⟩

/-- The first eight. -/
theorem OptsAt.base {w0 w : World} {o : OOpt} {f0 f1 f2 f3 f4 f5 f6 f7 : Value} (hb : Below w0.heap.size w0 w) (h0 : OptF w f0 3 (.bool o.z)) (h1 : OptF w f1 5 (.bool o.i)) (h2 : OptF w f2 6 (.bool o.d)) (h3 : OptF w f3 7 (.bool o.wh)) (h4 : OptF w f4 9 (.bool o.v1)) (h5 : OptF w f5 10 (.bool o.tr)) (h6 : OptF w f6 0 (.int .u64 o.dp)) (h7 : OptF w f7 1 (.int .u64 o.ip)) :
    OptsAt w0 (w.alloc (.cells #[f0, f1, f2, f3, f4, f5, f6, f7] 107)) (.slice (some ⟨w.heap.size, 0, none⟩) 8 8) o.base [f0, f1, f2, f3, f4, f5, f6, f7] := by
  have ha := below_boxed w (.cells #[f0, f1, f2, f3, f4, f5, f6, f7] 107)
  refine ⟨⟨rfl, .inr ⟨w.heap.size, 8, _, rfl, hb.size, heap_alloc_last _ _, Nat.le_refl _, by unfold maxLen; omega, rfl, rfl⟩⟩, ?_, ?_, by simp [OOpt.base], below_box hb _⟩
  · intro j f x hf hx
    match j, hf, hx with
    | 0, hf, hx => simp [OOpt.base] at hf hx; subst hf hx; exact h0.below ha
    | 1, hf, hx => simp [OOpt.base] at hf hx; subst hf hx; exact h1.below ha
    | 2, hf, hx => simp [OOpt.base] at hf hx; subst hf hx; exact h2.below ha
    | 3, hf, hx => simp [OOpt.base] at hf hx; subst hf hx; exact h3.below ha
    | 4, hf, hx => simp [OOpt.base] at hf hx; subst hf hx; exact h4.below ha
    | 5, hf, hx => simp [OOpt.base] at hf hx; subst hf hx; exact h5.below ha
    | 6, hf, hx => simp [OOpt.base] at hf hx; subst hf hx; exact h6.below ha
    | 7, hf, hx => simp [OOpt.base] at hf hx; subst hf hx; exact h7.below ha
    | j + 8, hf, hx => simp at hf
  · intro x hx
    simp [OOpt.base] at hx
    rcases hx with rfl | rfl | rfl | rfl | rfl | rfl | rfl | rfl
    all_goals first | exact .inl ⟨_, rfl⟩ | exact .inr ⟨_, _, rfl⟩

set_option maxRecDepth 100000 in
set_option maxHeartbeats 3200000 in
theorem options_ok (o : OOpt) (w : World) : Calls Tryz.prog 24 #[.agg o.cells.toArray] w fun e w' => ∃ v fs, e = .returned v ∧ OptsAt w w' v o.list fs := by
  obtain ⟨i0, hi, hz0, hz1, hz2⟩ := info_parts info_opt
  have hS0 : ObS w.heap.size o (w.alloc (.cells o.cells.toArray 33)) := ⟨by simp, fun j v hj => by rw [cell_of_row _ _ j _ _ _ (heap_alloc_last w (.cells o.cells.toArray 33))]; simpa using hj⟩
  have q0 : ∀ W, ObS w.heap.size o W → W.cell? ⟨w.heap.size, 0, none⟩ = some (.bool o.z) := fun W h => h.2 0 _ rfl
  have q1 : ∀ W, ObS w.heap.size o W → W.cell? ⟨w.heap.size, 1, none⟩ = some (.bool o.i) := fun W h => h.2 1 _ rfl
  have q2 : ∀ W, ObS w.heap.size o W → W.cell? ⟨w.heap.size, 2, none⟩ = some (.bool o.d) := fun W h => h.2 2 _ rfl
  have q3 : ∀ W, ObS w.heap.size o W → W.cell? ⟨w.heap.size, 3, none⟩ = some (.bool o.wh) := fun W h => h.2 3 _ rfl
  have q4 : ∀ W, ObS w.heap.size o W → W.cell? ⟨w.heap.size, 4, none⟩ = some (.bool o.v1) := fun W h => h.2 4 _ rfl
  have q5 : ∀ W, ObS w.heap.size o W → W.cell? ⟨w.heap.size, 5, none⟩ = some (.bool o.tr) := fun W h => h.2 5 _ rfl
  have q6 : ∀ W, ObS w.heap.size o W → W.cell? ⟨w.heap.size, 6, none⟩ = some (.int .u64 o.dp) := fun W h => h.2 6 _ rfl
  have q7 : ∀ W, ObS w.heap.size o W → W.cell? ⟨w.heap.size, 7, none⟩ = some (.int .u64 o.ip) := fun W h => h.2 7 _ rfl
  have q8 : ∀ W, ObS w.heap.size o W → W.cell? ⟨w.heap.size, 8, none⟩ = some (.int .u64 o.codec) := fun W h => h.2 8 _ rfl
  have q9 : ∀ W, ObS w.heap.size o W → W.cell? ⟨w.heap.size, 9, none⟩ = some (.int .u64 o.mc) := fun W h => h.2 9 _ rfl
  have q10 : ∀ W, ObS w.heap.size o W → W.cell? ⟨w.heap.size, 10, none⟩ = some (.int .u64 o.mh) := fun W h => h.2 10 _ rfl
  have q11 : ∀ W, ObS w.heap.size o W → W.cell? ⟨w.heap.size, 11, none⟩ = some (.int .u64 o.ms) := fun W h => h.2 11 _ rfl
  go_enter Tryz.func24, Tryz.ntmps24
  go_wp2_with fail
  go_region_held3 (fun W => ObS w.heap.size o W) (first | exact hS0 | exact ObS.drew hS0 | (refine ObS.next ?_ (by assumption); assumption) | (refine ObS.alloc ?_ _; assumption)) (first | (go_at_call 48; refine (mk_ZeroLengthSectionAsEOF o.z _).mono ?_; rintro e w1 ⟨f1, rfl, hf1, hb1⟩) | (go_at_call 49; refine (mk_StoreIdentityCIDs o.i _).mono ?_; rintro e w2 ⟨f2, rfl, hf2, hb2⟩) | (go_at_call 50; refine (mk_AllowDuplicatePuts o.d _).mono ?_; rintro e w3 ⟨f3, rfl, hf3, hb3⟩) | (go_at_call 51; refine (mk_UseWholeCIDs o.wh _).mono ?_; rintro e w4 ⟨f4, rfl, hf4, hb4⟩) | (go_at_call 52; refine (mk_WriteAsCarV1 o.v1 _).mono ?_; rintro e w5 ⟨f5, rfl, hf5, hb5⟩) | (go_at_call 53; refine (mk_WithTrustedCAR o.tr _).mono ?_; rintro e w6 ⟨f6, rfl, hf6, hb6⟩) | (go_at_call 54; refine (mk_UseDataPadding o.dp _).mono ?_; rintro e w7 ⟨f7, rfl, hf7, hb7⟩) | (go_at_call 55; refine (mk_UseIndexPadding o.ip _).mono ?_; rintro e w8 ⟨f8, rfl, hf8, hb8⟩))
  have k7 := hb8
  have k6 := below_next hb7 k7
  have k5 := below_next hb6 k6
  have k4 := below_next hb5 k5
  have k3 := below_next hb4 k4
  have k2 := below_next hb3 k3
  have k1 := below_next hb2 k2
  have hO0 := OptsAt.base (o := o) (below_next (below_next (below_drew1 (below_boxed w (.cells o.cells.toArray 33))) hb1) k1) (hf1.below k1) (hf2.below k2) (hf3.below k3) (hf4.below k4) (hf5.below k5) (hf6.below k6) (hf7.below k7) hf8
  have hS9 : ObS w.heap.size o w8 := ((ObS.drew hS0).next hb1).next k1
  have hS8 := hS9.alloc (.cells #[.func (.func 87) #[] #[.pointer (some ⟨f1, 0, none⟩)], .func (.func 88) #[] #[.pointer (some ⟨f2, 0, none⟩)], .func (.func 89) #[] #[.pointer (some ⟨f3, 0, none⟩)], .func (.func 90) #[] #[.pointer (some ⟨f4, 0, none⟩)], .func (.func 91) #[] #[.pointer (some ⟨f5, 0, none⟩)], .func (.func 92) #[] #[.pointer (some ⟨f6, 0, none⟩)], .func (.func 93) #[] #[.pointer (some ⟨f7, 0, none⟩)], .func (.func 94) #[] #[.pointer (some ⟨f8, 0, none⟩)]] 107)
  clear hf1 hf2 hf3 hf4 hf5 hf6 hf7 hf8 hb1 hb2 hb3 hb4 hb5 hb6 hb7 hb8 k1 k2 k3 k4 k5 k6 k7 hS0 hS9
  go_upto_if 31 with fail
  go_cut [3] (fun s3 wx => ∃ fs, OptsAt w wx s3 (o.base ++ optE 2 o.codec) fs ∧ ObS w.heap.size o wx)
  case first =>
    by_cases hc : o.codec = 0
    · go_wp2_with fail
      go_meet
      exact ⟨_, by simpa [optE, hc] using hO0, hS8⟩
    · go_wp2_with (first | (go_at_call 56; refine (mk_UseIndexCodec o.codec _).mono ?_; rintro e w1 ⟨b1, rfl, hf1, hb1⟩; have hO1 := hO0.keep hb1; have hS1 := hS8.next hb1) | (at_builtin; refine wpList_append_own _ rfl _ _ 61 rfl w.heap.size 107 i0 .nilFunc 1 8 Tryz.underlying61 hi hz0 hz1 hz2 rfl (by decide) _ _ _ rfl (hO1.own.alloc _) ⟨w1.heap.size, 0, none⟩ 1 1 [.func (.func 95) #[] #[.pointer (some ⟨b1, 0, none⟩)]] rfl rfl ?c1 ?c2 ?c3 ?c4 ?c5 ?_))
      case c1 =>
        intro j u hj
        match j, hj with
        | 0, hj => simp at hj; subst hj; simp [Addr.add]
      case c2 => intro u hu; simp at hu; subst hu; rfl
      case c3 => have := optE_len 2 o.codec; have := optE_len 4 o.mc; have := optE_len 11 o.mh; simp [OOpt.base, maxLen]; try omega
      case c4 => have := optE_len 2 o.codec; have := optE_len 4 o.mc; have := optE_len 11 o.mh; simp [OOpt.base]; try omega
      case c5 => have := hO1.below.size; simp; omega
      intro v' w2 hown' hgrow _
      have hO2 := hO1.push (Below.refl w1.heap.size w1) hf1 (.inr ⟨_, _, rfl⟩) hown' (by simp [Nat.add_assoc]; try omega) hgrow
      have hS2 := ObS.grown hS1 hO1 hgrow
      go_wp2_with fail
      go_meet
      exact ⟨_, by simpa [optE, hc] using hO2, hS2⟩
  case rest =>
    obtain ⟨fs, hO0, hS8⟩ := hcut
    go_upto_if 40 with fail
    go_cut [3] (fun s3 wx => ∃ fs, OptsAt w wx s3 (o.base ++ optE 2 o.codec ++ optE 4 o.mc) fs ∧ ObS w.heap.size o wx)
    case first =>
      by_cases hc : o.mc = 0
      · go_wp2_with fail
        go_meet
        exact ⟨_, by simpa [optE, hc] using hO0, hS8⟩
      · go_wp2_with (first | (go_at_call 57; refine (mk_MaxIndexCidSize o.mc _).mono ?_; rintro e w1 ⟨b1, rfl, hf1, hb1⟩; have hO1 := hO0.keep hb1; have hS1 := hS8.next hb1) | (at_builtin; refine wpList_append_own _ rfl _ _ 61 rfl w.heap.size 107 i0 .nilFunc 1 8 Tryz.underlying61 hi hz0 hz1 hz2 rfl (by decide) _ _ _ rfl (hO1.own.alloc _) ⟨w1.heap.size, 0, none⟩ 1 1 [.func (.func 96) #[] #[.pointer (some ⟨b1, 0, none⟩)]] rfl rfl ?c1 ?c2 ?c3 ?c4 ?c5 ?_))
        case c1 =>
          intro j u hj
          match j, hj with
          | 0, hj => simp at hj; subst hj; simp [Addr.add]
        case c2 => intro u hu; simp at hu; subst hu; rfl
        case c3 => have := optE_len 2 o.codec; have := optE_len 4 o.mc; have := optE_len 11 o.mh; simp [OOpt.base, maxLen]; try omega
        case c4 => have := optE_len 2 o.codec; have := optE_len 4 o.mc; have := optE_len 11 o.mh; simp [OOpt.base]; try omega
        case c5 => have := hO1.below.size; simp; omega
        intro v' w2 hown' hgrow _
        have hO2 := hO1.push (Below.refl w1.heap.size w1) hf1 (.inr ⟨_, _, rfl⟩) hown' (by simp [Nat.add_assoc]; try omega) hgrow
        have hS2 := ObS.grown hS1 hO1 hgrow
        go_wp2_with fail
        go_meet
        exact ⟨_, by simpa [optE, hc] using hO2, hS2⟩
    case rest =>
      obtain ⟨fs, hO0, hS8⟩ := hcut
      go_upto_if 49 with fail
      go_cut [3] (fun s3 wx => ∃ fs, OptsAt w wx s3 (o.base ++ optE 2 o.codec ++ optE 4 o.mc ++ optE 11 o.mh) fs ∧ ObS w.heap.size o wx)
      case first =>
        by_cases hc : o.mh = 0
        · go_wp2_with fail
          go_meet
          exact ⟨_, by simpa [optE, hc] using hO0, hS8⟩
        · go_wp2_with (first | (go_at_call 58; refine (mk_MaxAllowedHeaderSize o.mh _).mono ?_; rintro e w1 ⟨b1, rfl, hf1, hb1⟩; have hO1 := hO0.keep hb1; have hS1 := hS8.next hb1) | (at_builtin; refine wpList_append_own _ rfl _ _ 61 rfl w.heap.size 107 i0 .nilFunc 1 8 Tryz.underlying61 hi hz0 hz1 hz2 rfl (by decide) _ _ _ rfl (hO1.own.alloc _) ⟨w1.heap.size, 0, none⟩ 1 1 [.func (.func 97) #[] #[.pointer (some ⟨b1, 0, none⟩)]] rfl rfl ?c1 ?c2 ?c3 ?c4 ?c5 ?_))
          case c1 =>
            intro j u hj
            match j, hj with
            | 0, hj => simp at hj; subst hj; simp [Addr.add]
          case c2 => intro u hu; simp at hu; subst hu; rfl
          case c3 => have := optE_len 2 o.codec; have := optE_len 4 o.mc; have := optE_len 11 o.mh; simp [OOpt.base, maxLen]; try omega
          case c4 => have := optE_len 2 o.codec; have := optE_len 4 o.mc; have := optE_len 11 o.mh; simp [OOpt.base]; try omega
          case c5 => have := hO1.below.size; simp; omega
          intro v' w2 hown' hgrow _
          have hO2 := hO1.push (Below.refl w1.heap.size w1) hf1 (.inr ⟨_, _, rfl⟩) hown' (by simp [Nat.add_assoc]; try omega) hgrow
          have hS2 := ObS.grown hS1 hO1 hgrow
          go_wp2_with fail
          go_meet
          exact ⟨_, by simpa [optE, hc] using hO2, hS2⟩
      case rest =>
        obtain ⟨fs, hO0, hS8⟩ := hcut
        go_upto_if 58 with fail
        go_cut [3] (fun s3 wx => ∃ fs, OptsAt w wx s3 (o.base ++ optE 2 o.codec ++ optE 4 o.mc ++ optE 11 o.mh ++ optE 12 o.ms) fs ∧ ObS w.heap.size o wx)
        case first =>
          by_cases hc : o.ms = 0
          · go_wp2_with fail
            go_meet
            exact ⟨_, by simpa [optE, hc] using hO0, hS8⟩
          · go_wp2_with (first | (go_at_call 59; refine (mk_MaxAllowedSectionSize o.ms _).mono ?_; rintro e w1 ⟨b1, rfl, hf1, hb1⟩; have hO1 := hO0.keep hb1; have hS1 := hS8.next hb1) | (at_builtin; refine wpList_append_own _ rfl _ _ 61 rfl w.heap.size 107 i0 .nilFunc 1 8 Tryz.underlying61 hi hz0 hz1 hz2 rfl (by decide) _ _ _ rfl (hO1.own.alloc _) ⟨w1.heap.size, 0, none⟩ 1 1 [.func (.func 98) #[] #[.pointer (some ⟨b1, 0, none⟩)]] rfl rfl ?c1 ?c2 ?c3 ?c4 ?c5 ?_))
            case c1 =>
              intro j u hj
              match j, hj with
              | 0, hj => simp at hj; subst hj; simp [Addr.add]
            case c2 => intro u hu; simp at hu; subst hu; rfl
            case c3 => have := optE_len 2 o.codec; have := optE_len 4 o.mc; have := optE_len 11 o.mh; simp [OOpt.base, maxLen]; try omega
            case c4 => have := optE_len 2 o.codec; have := optE_len 4 o.mc; have := optE_len 11 o.mh; simp [OOpt.base]; try omega
            case c5 => have := hO1.below.size; simp; omega
            intro v' w2 hown' hgrow _
            have hO2 := hO1.push (Below.refl w1.heap.size w1) hf1 (.inr ⟨_, _, rfl⟩) hown' (by simp [Nat.add_assoc]; try omega) hgrow
            have hS2 := ObS.grown hS1 hO1 hgrow
            go_wp2_with fail
            go_meet
            exact ⟨_, by simpa [optE, hc] using hO2, hS2⟩
        case rest =>
          obtain ⟨fs, hO0, hS8⟩ := hcut
          go_wp2_with fail
          go_ret
          exact ⟨_, fs, rfl, hO0⟩
end Go.Proofs.YtifoicdnibgdaaaGreatDoor
