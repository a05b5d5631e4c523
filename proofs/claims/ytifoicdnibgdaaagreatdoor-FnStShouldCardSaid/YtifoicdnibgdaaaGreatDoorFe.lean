/- ForEachCid over the tree, with the callback that appends; impl.IiEach. -/
import Derived.Test.YtifoicdnibgdaaaGreatDoorOut
namespace Go.Proofs.YtifoicdnibgdaaaGreatDoor
open Go.RowKit
set_option linter.unusedVariables false
set_option linter.unusedSimpArgs false
attribute [local go_sem] setCell_drewN alloc_drewN

/-- Every block of S has one of these types. -/
def Far (w : World) (S : Nat → Prop) (ts : List TypeId) : Prop := ∀ i, S i → ∃ cs t fr, w.heap[i]? = some (.cells cs t fr) ∧ t ∈ ts

theorem Kp.blk {S : Nat → Prop} {w w' : World} (k : Kp S w w') {ts : List TypeId} (hs : Far w S ts) {i : Nat} {cs : Array Value} {t : TypeId} {fr : Nat × Nat} (h : w.heap[i]? = some (.cells cs t fr)) (hn : t ∉ ts) : w'.heap[i]? = some (.cells cs t fr) := by
  refine (k.block i (Array.getElem?_eq_some_iff.1 h).1 fun hS => ?_).trans h
  obtain ⟨cs', t', fr', h', ht⟩ := hs i hS
  rw [h] at h'
  have := (Obj.cells.inj (Option.some.inj h')).2.1
  subst this
  exact hn ht

theorem IiAt.kp {S : Nat → Prop} {w w' : World} {g : Nat} {t : Tr} {n : Int} {ts : List TypeId} (h : IiAt w g t n) (k : Kp S w w') (hs : Far w S ts) (h1 : 71 ∉ ts) (h2 : 127 ∉ ts) (h3 : 5 ∉ ts) : IiAt w' g t n := by
  refine ⟨k.blk hs h.blk h1, h.tree.same fun i hi => ?_, h.nodup, fun x hx => (h.ents x hx).kp k fun i cs fr hS hh => ?_⟩
  · obtain ⟨cs, hh⟩ := h.tree.typed i hi
    exact (k.blk hs hh h2).trans hh.symm
  · obtain ⟨cs', t', fr', h', ht⟩ := hs i hS
    rw [hh] at h'
    have := (Obj.cells.inj (Option.some.inj h')).2.1
    subst this
    exact h3 ht

theorem OutAt.far {w : World} {p B : Nat} {v : Value} {l : List (CidOf × Int)} (h : OutAt w p B v l) : Far w (fun i => i = p ∨ some i = v.ownBlock) [22, 30] := by
  rintro i (rfl | hi)
  · exact ⟨_, _, _, h.blk, by simp⟩
  · rcases h.own.2 with ⟨rfl, _⟩ | ⟨g, cap, cur, rfl, _, hh, _⟩
    · cases hi
    · cases hi; exact ⟨_, _, _, hh, by simp⟩

theorem OutAt.ge {w : World} {p B : Nat} {v : Value} {l : List (CidOf × Int)} (h : OutAt w p B v l) (i : Nat) (hi : some i = v.ownBlock) : B ≤ i := by
  rcases h.own.2 with ⟨rfl, _⟩ | ⟨g, cap, cur, rfl, hg, hh, _⟩
  · cases hi
  · cases hi; exact hg

theorem OutAt.below {w w' : World} {p B : Nat} {v : Value} {l : List (CidOf × Int)} (h : OutAt w p B v l) (hb : Below w.heap.size w w') : OutAt w' p B v l :=
  ⟨(hb.block p (Array.getElem?_eq_some_iff.1 h.blk).1).trans h.blk, own_below h.own hb, h.ne⟩

theorem OutAt.set {w : World} {p B : Nat} {v : Value} {l : List (CidOf × Int)} (h : OutAt w p B v l) {e : Nat} {cs : Array Value} {t : TypeId} (he : w.heap[e]? = some (.cells cs t (0, 0))) (h1 : t ≠ 22) (h2 : t ≠ 30) (j : Nat) (u : Value) : OutAt (w.setCell ⟨e, j, none⟩ u) p B v l := by
  have hpe : p ≠ e := by
    rintro rfl
    have h' := h.blk
    rw [he] at h'
    exact h1 (Obj.cells.inj (Option.some.inj h')).2.1
  have hve : v.ownBlock ≠ some e := by
    intro hv
    rcases h.own.2 with ⟨rfl, _⟩ | ⟨g, cap, cur, rfl, _, hh, _⟩
    · cases hv
    · cases hv
      rw [he] at hh
      exact h2 (Obj.cells.inj (Option.some.inj hh)).2.1
  exact ⟨(Below.heap_setCell w ⟨e, j, none⟩ u p hpe).trans h.blk, h.own.kept (row := some e) ⟨rfl, rfl, rfl, by simp [World.setCell], fun k _ hk => Below.heap_setCell w ⟨e, j, none⟩ _ k (by intro e'; exact hk (by rw [e']))⟩ (.inr hve), h.ne⟩

def ckey (y : CidOf × Int) : ByteArray × Int × List UInt8 := (y.1.str, y.2, y.1.dig)
theorem perm_lift {α β : Type} (f : α → β) {a b : List β} (h : b.Perm a) : ∀ l : List α, b = l.map f → ∃ l', l.Perm l' ∧ a = l'.map f := by
  induction h with
  | nil => exact fun l hl => ⟨l, .refl _, hl⟩
  | cons x h ih =>
    intro l hl
    cases l with
    | nil => simp at hl
    | cons y ys =>
      simp only [List.map_cons, List.cons.injEq] at hl
      obtain ⟨l', hp, rfl⟩ := ih ys hl.2
      exact ⟨y :: l', hp.cons y, by rw [hl.1]; rfl⟩
  | swap x y h =>
    intro l hl
    match l, hl with
    | y1 :: y2 :: ys, hl =>
      simp only [List.map_cons, List.cons.injEq] at hl
      exact ⟨y2 :: y1 :: ys, .swap _ _ _, by rw [hl.1, hl.2.1, hl.2.2]; rfl⟩
  | trans h1 h2 ih1 ih2 =>
    intro l hl
    obtain ⟨l1, p1, e1⟩ := ih1 l hl
    obtain ⟨l2, p2, e2⟩ := ih2 l1 e1
    exact ⟨l2, p1.trans p2, e2⟩


theorem Kp.below {S : Nat → Prop} {w w' : World} {B : Nat} (k : Kp S w w') (hB : B ≤ w.heap.size) (h : ∀ i, S i → B ≤ i) : Below B w w' :=
  ⟨k.os, k.tape, k.output, k.size, fun i hi => k.block i (by omega) fun hS => by have := h i hS; omega⟩

structure FeAt (L : List (CidOf × Int)) (w0 : World) (g : Nat) (t : Tr) (n : Int) (fb eb p : Nat) (acc : List Ent) (w : World) : Prop where
  ii : IiAt w g t n
  fbk : w.heap[fb]? = some (.cells #[.func (.func 17) #[] #[.pointer (some ⟨p, 0, none⟩)]] 51 (0, 0))
  ebk : w.heap[eb]? = some (.cells #[.nilIface] 46 (0, 0))
  out : ∃ v, OutAt w p w0.heap.size v (L.take acc.length)
  bel : Below w0.heap.size w0 w
  ple : w0.heap.size ≤ p
  ele : w0.heap.size ≤ eb

theorem FeAt.below {L : List (CidOf × Int)} {w0 : World} {g : Nat} {t : Tr} {n : Int} {fb eb p : Nat} {acc : List Ent} {w w' : World} (h : FeAt L w0 g t n fb eb p acc w) (hb : Below w.heap.size w w') : FeAt L w0 g t n fb eb p acc w' := by
  obtain ⟨v, ho⟩ := h.out
  exact ⟨h.ii.below hb, (hb.block _ (Array.getElem?_eq_some_iff.1 h.fbk).1).trans h.fbk, (hb.block _ (Array.getElem?_eq_some_iff.1 h.ebk).1).trans h.ebk, ⟨v, ho.below hb⟩, h.bel.trans (hb.mono h.bel.size), h.ple, h.ele⟩

theorem rec_field (A : Option Addr) (n cap : Nat) (s : ByteArray) (off : Int) (W : World) : (Instr.field 80 (.agg #[.slice A n cap, .string s, .int .u64 off]) 1).run Tryz.prog W = .ok (.agg #[.string s, .int .u64 off]) W := by kernel_rfl

set_option maxRecDepth 100000 in
set_option maxHeartbeats 3200000 in
theorem fe1_ok (w0 : World) (g : Nat) (t : Tr) (n : Int) (fb eb p : Nat) (hlen : t.items.length ≤ 1000000) (L : List (CidOf × Int)) (hS : t.items.map Ent.key = L.map ckey) (hok : ∀ y, y ∈ L → y.1.Ok) (acc : List Ent) (x : Ent) (rest : List Ent) (w : World) (hL : acc ++ x :: rest = t.items) (h : FeAt L w0 g t n fb eb p acc w) :
    Calls Tryz.prog 30 #[x.val, .pointer (some ⟨fb, 0, none⟩), .pointer (some ⟨eb, 0, none⟩)] w fun e w' => e = .returned (.bool true) ∧ FeAt L w0 g t n fb eb p (acc ++ [x]) w' := by
  have hA := fun W => assert_plain x.agg W
  have hxv : x.val = .iface 80 x.agg := rfl
  rw [hxv]
  obtain ⟨v, hO⟩ := h.out
  have hlL : t.items.length = L.length := by simpa using congrArg List.length hS
  have hk : acc.length < L.length := by rw [← hlL, ← hL]; simp
  have hk2 := congrArg (fun z => z[acc.length]?) hS
  simp only [← hL, List.map_append, List.map_cons] at hk2
  rw [List.getElem?_append_right (by simp)] at hk2
  simp only [List.length_map, Nat.sub_self, List.getElem?_cons_zero, List.getElem?_map] at hk2
  have hyk := List.getElem?_eq_getElem hk
  rw [hyk] at hk2
  have hy4 := hok _ (List.getElem_mem hk)
  have hk3 : Ent.key x = ckey L[acc.length] := Option.some.inj hk2
  have hnx : L.take (acc ++ [x]).length = L.take acc.length ++ [L[acc.length]] := by rw [List.length_append, List.length_singleton]; rw [List.take_add_one, List.getElem?_eq_getElem hk]; rfl
  generalize L[acc.length] = y at *
  have hy1 : x.str = y.1.str := congrArg (·.1) hk3
  have hy2 : x.off = y.2 := congrArg (·.2.1) hk3
  clear hk2 hk3 hyk
  have hll : (L.take acc.length).length < 1000000 := by rw [List.length_take]; omega
  generalize L.take acc.length = l at *
  have hagg : x.agg = .agg #[.slice x.A x.dig.length x.cap, .string y.1.str, .int .u64 y.2] := by rw [← hy1, ← hy2]; rfl
  have hE := fun W h1 h2 => each1_ok p w0.heap.size v l hll y.1 hy4 y.2 W h1 h2
  generalize hsy : y.1.str = s at *
  have HSY := Lib.hid hsy; clear hsy
  rw [hagg] at hA ⊢
  clear hagg hxv
  have cf := (blk_cell h.fbk 0).trans (show _ = some (Value.func (.func 17) #[] #[.pointer (some ⟨p, 0, none⟩)]) from rfl)
  have ce := (blk_cell h.ebk 0).trans (show _ = some Value.nilIface from rfl)
  have ff := blk_free h.ebk 0
  have hflt := (Array.getElem?_eq_some_iff.1 h.fbk).1
  have helt := (Array.getElem?_eq_some_iff.1 h.ebk).1
  have HS := Lib.hid hS; clear hS
  have HL := Lib.hid hL; clear hL
  have HNX := Lib.hid hnx; clear hnx
  have HOK := Lib.hid hok; clear hok
  clear hy1
  clear hy2
  have hbs := h.bel.size
  have hfld := fun W => rec_field x.A x.dig.length x.cap s y.2 W
  go_enter Tryz.func30, Tryz.ntmps30
  go_wp2_with fail
  refine (hE _ (hO.below (by (repeat (first | (with_reducible exact Below.refl _ _) | (with_reducible exact below_boxed _ _) | (with_reducible refine below_box ?_ _) | (with_reducible refine below_drew1 ?_) | (with_reducible refine below_drewn ?_ _) | (with_reducible refine below_bytes ?_ _ _) | (with_reducible refine below_next ?_ (by assumption)) | (with_reducible refine below_set ?_ (by first | (simp; done) | (simp; omega) | omega) _))))) (by first | omega | (simp; omega))).mono ?_
  rintro e w2 ⟨v', rfl, hO2, hK2, hown2⟩
  have hb1 : Below w.heap.size w (w.alloc (.cells #[.string s, .int .u64 y.2] 78)) := below_boxed w _
  have h1 := h.below hb1
  have hfar := (hO.below hb1).far
  have e2 := hK2.blk hfar h1.ebk (by decide)
  have f2 := hK2.blk hfar h1.fbk (by decide)
  have i2 := h1.ii.kp hK2 hfar (by decide) (by decide) (by decide)
  have b2 : Below w0.heap.size w0 w2 := h1.bel.trans (hK2.below h1.bel.size (by rintro i (rfl | hi); exact h.ple; exact hO.ge i hi))
  clear h1 hfar cf ce ff
  have ce := (blk_cell e2 0).trans (show _ = some Value.nilIface from rfl)
  have ff := blk_free e2 0
  have E2 := Lib.hid e2; clear e2
  have F2 := Lib.hid f2; clear f2
  have HO2 := Lib.hid hO2; clear hO2
  have HK2 := Lib.hid hK2; clear hK2
  go_wp2_with fail
  have ce' : (w2.setCell ⟨eb, 0, none⟩ .nilIface).cell? ⟨eb, 0, none⟩ = some .nilIface := (blk_cell (blk_set E2.out 0 .nilIface) 0).trans rfl
  go_wp2_with fail
  go_ret
  have k3 : Kp (fun i => i = eb) w2 (w2.setCell ⟨eb, 0, none⟩ .nilIface) := (Kp.refl (fun i => i = eb) w2).set (p := ⟨eb, 0, none⟩) (.inl rfl) _
  have far3 : Far w2 (fun i => i = eb) [46] := by rintro i rfl; exact ⟨_, _, _, E2.out, by simp⟩
  refine ⟨rfl, ⟨i2.kp k3 far3 (by decide) (by decide) (by decide), k3.blk far3 F2.out (by decide), ?_, ⟨v', ?_⟩, b2.setCell h.ele _, h.ple, h.ele⟩⟩
  · exact (blk_set E2.out 0 .nilIface).trans rfl
  · rw [HNX.out]
    exact HO2.out.set E2.out (by decide) (by decide) 0 _

set_option maxRecDepth 100000 in
set_option maxHeartbeats 3200000 in
theorem forEach_ok (w0 : World) (g : Nat) (t : Tr) (n : Int) (p : Nat) (hlen : t.items.length ≤ 1000000) (L : List (CidOf × Int)) (hS : t.items.map Ent.key = L.map ckey) (hok : ∀ y, y ∈ L → y.1.Ok) (hs : Sorted t.items) (w : World) (hI : IiAt w g t n) (hO : OutAt w p w0.heap.size (.slice none 0 0) []) (hb : Below w0.heap.size w0 w) (hp : w0.heap.size ≤ p) :
    Calls Tryz.prog 16 #[.pointer (some ⟨g, 0, none⟩), .func (.func 17) #[] #[.pointer (some ⟨p, 0, none⟩)]] w fun e w' => e = .returned .nilIface ∧ ∃ v, OutAt w' p w0.heap.size v L ∧ Below w0.heap.size w0 w' := by
  have hlL : t.items.length = L.length := by simpa using congrArg List.length hS
  have hmf : ∀ (fn : Fn) (first cap : Array Value) (w : World), (Instr.makeFunc fn first cap).run Tryz.prog w = .ok (.func fn first cap) w := fun _ _ _ _ => rfl
  have hM := fun W h => min_ok g t n W h
  have hAsc := fun fb eb (hcall) W h1 => ascendAll_ok t.items (FeAt L w0 g t n fb eb p) (fun acc w w' h hb => h.below hb) g t n (fun acc w h => h.ii) hs 30 #[.pointer (some ⟨fb, 0, none⟩), .pointer (some ⟨eb, 0, none⟩)] hcall (fun acc x rest w hL h hx => fe1_ok w0 g t n fb eb p hlen L hS hok acc x rest w hL h) W rfl h1
  have h1 : FeAt L w0 g t n w.heap.size (w.heap.size + 1) p [] ((w.alloc (.cells #[.func (.func 17) #[] #[.pointer (some ⟨p, 0, none⟩)]] 51)).alloc (.cells #[.nilIface] 46)) := by
    have hb2 : Below w.heap.size w ((w.alloc (.cells #[.func (.func 17) #[] #[.pointer (some ⟨p, 0, none⟩)]] 51)).alloc (.cells #[.nilIface] 46)) := by (repeat (first | (with_reducible exact Below.refl _ _) | (with_reducible exact below_boxed _ _) | (with_reducible refine below_box ?_ _) | (with_reducible refine below_drew1 ?_) | (with_reducible refine below_drewn ?_ _) | (with_reducible refine below_bytes ?_ _ _) | (with_reducible refine below_next ?_ (by assumption)) | (with_reducible refine below_set ?_ (by first | (simp; done) | (simp; omega) | omega) _)))
    have hbz := hb.size
    refine ⟨hI.below hb2, ?_, ?_, ⟨_, hO.below hb2⟩, hb.trans (hb2.mono hb.size), hp, by omega⟩
    · exact (Below.heap_alloc _ _ _ (by simp)).trans (heap_alloc_new w _)
    · have := heap_alloc_new (w.alloc (.cells #[.func (.func 17) #[] #[.pointer (some ⟨p, 0, none⟩)]] 51)) (.cells #[.nilIface] 46)
      simpa using this
  go_enter Tryz.func16, Tryz.ntmps16
  go_wp2_with fail
  refine wp_region_noPanic ?_
  go_region_with (first | (go_at_call 29; refine (hM _ (IiAt.below h1.ii (by (repeat (first | (with_reducible exact Below.refl _ _) | (with_reducible exact below_boxed _ _) | (with_reducible refine below_box ?_ _) | (with_reducible refine below_drew1 ?_) | (with_reducible refine below_drewn ?_ _) | (with_reducible refine below_bytes ?_ _ _) | (with_reducible refine below_next ?_ (by assumption)) | (with_reducible refine below_set ?_ (by first | (simp; done) | (simp; omega) | omega) _)))))).mono ?_; rintro e w1 ⟨rfl, rfl⟩) | (go_at_call 28; refine (hAsc _ _ (fun v W => by rfl) _ (FeAt.below h1 (by (repeat (first | (with_reducible exact Below.refl _ _) | (with_reducible exact below_boxed _ _) | (with_reducible refine below_box ?_ _) | (with_reducible refine below_drew1 ?_) | (with_reducible refine below_drewn ?_ _) | (with_reducible refine below_bytes ?_ _ _) | (with_reducible refine below_next ?_ (by assumption)) | (with_reducible refine below_set ?_ (by first | (simp; done) | (simp; omega) | omega) _)))))).mono ?_; rintro e w2 ⟨rfl, hF⟩))
  all_goals (refine NoPanic.normal ?_; have ce := (blk_cell hF.ebk 0).trans (show _ = some Value.nilIface from rfl))
  all_goals (go_wp2_with fail)
  all_goals (go_ret; obtain ⟨v, ho⟩ := hF.out; rw [List.take_of_length_le (by omega)] at ho; exact ⟨rfl, v, ho, hF.bel⟩)
end Go.Proofs.YtifoicdnibgdaaaGreatDoor
