import Derived.Test.YtgdgmegpacmgnaaGreatDoorG20
import Derived.Test.YtgdgmegpacmgnaaGreatDoorG23
import Derived.Test.YtgdgmegpacmgnaaGreatDoorG26
import Derived.Test.YtgdgmegpacmgnaaGreatDoorG18
/- impl.IxAgain of any text: an error, or the index written again. -/
namespace Go.Proofs.YtgdgmegpacmgnaaGreatDoor
open Go.RowKit
set_option linter.unusedVariables false
set_option linter.unusedSimpArgs false
attribute [local go_sem] setCell_drewN alloc_drewN

set_option maxRecDepth 100000 in
set_option maxHeartbeats 1600000 in
theorem ReadFrom_bad0 (b : Nat) (A : Option Addr) (cap : Nat) (bs u : List UInt8) (w : World) (hsm : bs.length ≤ 16777216) (h : RdAt w b A cap bs 0)
    (hbs : bs = Lib.uvarint 1024 ++ u) (hbad : MwBad u) (hA : ∀ g' o, A = some ⟨g', o, none⟩ → g' < w.heap.size) {L : Nat} {pe pu : Addr} (hE : Errs w L pe pu) (hLb : L ≤ b) :
    Calls Tryz.prog 12 #[.iface 40 (.pointer (some ⟨b, 0, none⟩))] w fun e w' => (∃ p, e = .returned (.tuple #[.nilIface, .iface 137 (.pointer (some p))])) ∧ Kp (fun i => i = b) w w' := by
  have hme := method_UnmarshalM
  have hbl := h.blt
  have hLw := hE.le
  have hRC := ReadCodec_ok b A cap bs 0 1024 (by omega) u w h (by rw [List.drop_zero]; exact hbs)
  rw [uv1024] at hRC
  have hd2 : MwBad (bs.drop 2) := by rw [hbs, uv1024]; exact hbad
  have HD := Lib.hid hd2
  clear hbs hd2 h hbad
  go_enter Tryz.func12, Tryz.ntmps12
  go_wp2_with fail
  refine hRC.mono ?_
  clear hRC
  rintro e w1 ⟨rfl, hR1, hK1⟩
  have hz1 := hK1.size
  have hE1 := hE.kp hK1 (fun i hi => by rw [hi]; exact hLb)
  go_wp2_with fail
  refine (New_sorted _).mono ?_
  rintro e w2 ⟨rfl, hM2, hb2⟩
  have hR2 : RdAt w2 b A cap bs 2 := hR1.keep (S := fun _ => False) (Kp.of_below hb2) id (fun _ _ _ => id)
  have hE2 := hE1.kp (S := fun _ => False) (Kp.of_below hb2) (fun i e => e.elim)
  have hU := MwUnmarshal_bad b A cap bs 2 ⟨w1.heap.size + 1, 0, none⟩ w1.heap.size w2 hsm hR2 HD.out hM2 (by show w1.heap.size + 1 ≠ b; omega) (by omega) (by show w1.heap.size + 1 ≠ w1.heap.size; omega) (fun g' o e => by have := hA g' o e; have := hb2.size; refine ⟨by omega, ?_, by omega⟩; show g' ≠ w1.heap.size + 1; omega) hE2 hLb (by omega)
  clear hR1 hM2 hR2 hE hE1 hE2
  go_wp2_with fail
  refine hU.mono ?_
  clear hU
  rintro e w3 ⟨⟨p, rfl⟩, hK3⟩
  go_wp2_with fail
  go_ret2
  exact ⟨⟨_, rfl⟩, (hK1.trans (S' := fun _ => False) (Kp.of_below hb2) (fun _ h => h.elim)).trans hK3 (fun i h => h.elim .inl (fun e => .inr (by omega)))⟩

set_option maxRecDepth 100000 in
set_option maxHeartbeats 1600000 in
theorem ReadFrom_bad1 (b : Nat) (A : Option Addr) (cap : Nat) (bs u : List UInt8) (w : World) (hsm : bs.length ≤ 16777216) (h : RdAt w b A cap bs 0)
    (hbs : bs = Lib.uvarint 1025 ++ u) (hbad : MhBad u) (hA : ∀ g' o, A = some ⟨g', o, none⟩ → g' < w.heap.size) {L : Nat} {pe pu : Addr} (hE : Errs w L pe pu) (hLb : L ≤ b) :
    Calls Tryz.prog 12 #[.iface 40 (.pointer (some ⟨b, 0, none⟩))] w fun e w' => (∃ p, e = .returned (.tuple #[.nilIface, .iface 137 (.pointer (some p))])) ∧ Kp (fun i => i = b) w w' := by
  have hme := method_UnmarshalC
  have hbl := h.blt
  have hLw := hE.le
  have hRC := ReadCodec_ok b A cap bs 0 1025 (by omega) u w h (by rw [List.drop_zero]; exact hbs)
  rw [uv1025] at hRC
  have hd2 : MhBad (bs.drop 2) := by rw [hbs, uv1025]; exact hbad
  have HD := Lib.hid hd2
  clear hbs hd2 h hbad
  go_enter Tryz.func12, Tryz.ntmps12
  go_wp2_with fail
  refine hRC.mono ?_
  clear hRC
  rintro e w1 ⟨rfl, hR1, hK1⟩
  have hz1 := hK1.size
  have hE1 := hE.kp hK1 (fun i hi => by rw [hi]; exact hLb)
  go_wp2_with fail
  refine (New_mh _).mono ?_
  rintro e w2 ⟨a, mb, rfl, hM2, ha, hm, hne, hb2⟩
  have hz2 := hb2.size
  have hR2 : RdAt w2 b A cap bs 2 := hR1.keep (S := fun _ => False) (Kp.of_below hb2) id (fun _ _ _ => id)
  have hE2 := hE1.kp (S := fun _ => False) (Kp.of_below hb2) (fun i e => e.elim)
  have hU := MhUnmarshal_bad b A cap bs 2 ⟨a, 0, none⟩ mb w2 hsm hR2 HD.out hM2 (by show a ≠ b; omega) (by omega) hne (fun g' o e => by have := hA g' o e; refine ⟨by omega, ?_, by omega⟩; show g' ≠ a; omega) hE2 hLb (by omega)
  clear hR1 hM2 hR2 hE hE1 hE2
  go_wp2_with fail
  refine hU.mono ?_
  clear hU
  rintro e w3 ⟨⟨p, rfl⟩, hK3⟩
  go_wp2_with fail
  go_ret2
  exact ⟨⟨_, rfl⟩, (hK1.trans (S' := fun _ => False) (Kp.of_below hb2) (fun _ h => h.elim)).trans hK3 (fun i h => h.elim .inl (fun e => .inr (by omega)))⟩

/-- What makes reading an error. -/
def AgainBad (t : List UInt8) : Prop := VBad t ∨ (∃ n rest, t = Lib.uvarint n ++ rest ∧ n < 9223372036854775808 ∧ n ≠ 1024 ∧ n ≠ 1025) ∨ (∃ u, t = Lib.uvarint 1024 ++ u ∧ MwBad u) ∨ ∃ u, t = Lib.uvarint 1025 ++ u ∧ MhBad u
/-- What is read, so many bytes. -/
def AgainOk (t : List UInt8) (n : Nat) (ord : Bool) : Prop :=
  (∃ ss rest, t = Lib.uvarint 1024 ++ (mwBytes ss ++ rest) ∧ n = 2 + (mwBytes ss).length ∧ MwOk ss ∧ (ord = true → (ss.map (·.1)).Pairwise (· < ·))) ∨
  ∃ ss rest, t = Lib.uvarint 1025 ++ (mhBytes ss ++ rest) ∧ n = 2 + (mhBytes ss).length ∧ MhOk ss ∧ (ord = true → (ss.map (·.1)).Pairwise (· < ·) ∧ ∀ c ∈ ss, (c.2.map (·.1)).Pairwise (· < ·))

theorem ReadFrom_bad (b : Nat) (A : Option Addr) (cap : Nat) (bs : List UInt8) (w : World) (hsm : bs.length ≤ 16777216) (h : RdAt w b A cap bs 0)
    (hbad : AgainBad bs) (hA : ∀ g' o, A = some ⟨g', o, none⟩ → g' < w.heap.size) {L : Nat} {pe pu : Addr} (hE : Errs w L pe pu) (hLb : L ≤ b) :
    Calls Tryz.prog 12 #[.iface 40 (.pointer (some ⟨b, 0, none⟩))] w fun e w' => (∃ p, e = .returned (.tuple #[.nilIface, .iface 137 (.pointer (some p))])) ∧ Kp (fun i => i = b) w w' := by
  rcases hbad with hb | ⟨n, rest, hb, hn, h0, h1⟩ | ⟨u, hb, hu⟩ | ⟨u, hb, hu⟩
  · exact ReadFrom_none b A cap bs hb w h hE hLb
  · exact ReadFrom_unknown b A cap bs 0 n hn h0 h1 rest w h (by rw [List.drop_zero]; exact hb)
  · exact ReadFrom_bad0 b A cap bs u w hsm h hb hu hA hE hLb
  · exact ReadFrom_bad1 b A cap bs u w hsm h hb hu hA hE hLb

set_option maxRecDepth 100000 in
set_option maxHeartbeats 800000 in
theorem IxAgain_bad (s : ByteArray) (hbad : AgainBad s.data.toList) (hl : s.size ≤ 16777216) (w : World) {L : Nat} {pe pu : Addr} (hE : Errs w L pe pu) :
    Calls Tryz.prog 5 #[.string s] w fun e w' => e = .returned (.tuple #[.int .i64 0, .string ⟨#[]⟩, .bool false]) ∧ Below w.heap.size w w' := by
  have hsz : s.size = s.data.toList.length := by rw [Array.length_toList]; rfl
  generalize hS : s.data.toList = bs at *
  have HS := Lib.hid hS; clear hS
  have HZ := Lib.hid hsz
  have hl' : bs.length ≤ 16777216 := by omega
  have hLw := hE.le
  clear hl hsz
  have HB := Lib.hid hbad; clear hbad
  have HE := Lib.hid hE; clear hE
  go_enter Tryz.func5, Tryz.ntmps5
  go_wp2_with (with_reducible refine conv_event rfl (.tmp 9) 9 42 5 rfl Tryz.underlying9 Tryz.underlying42 Tryz.underlying5 s rfl ?_)
  intro g0 cap0 w0 hg0 hcap0 hb0 hA0 hB0
  subst hg0
  rw [HS.out] at hA0
  have hgz : w.heap.size < w0.heap.size := by
    obtain ⟨cs, fr, h⟩ := hB0 _ rfl
    exact (Array.getElem?_eq_some_iff.1 h).1
  have hE0 := HE.out.kp (S := fun _ => False) (Kp.of_below hb0) (fun i e => e.elim)
  rw [HZ.out] at hcap0
  rw [HZ.out]
  refine later ?_
  refine now ?_
  go_wp2_with fail
  refine (NewReader_ok _ cap0 bs w0 hA0 hcap0 (by omega) (fun g o e => by cases e; exact hgz)).mono ?_
  rintro e w1 ⟨rfl, hR, hB1⟩
  have hE1 := hE0.kp (S := fun _ => False) (Kp.of_below hB1) (fun i e => e.elim)
  have hRF := ReadFrom_bad w0.heap.size _ cap0 bs w1 hl' hR HB.out (fun g o e => by cases e; have := hB1.size; omega) hE1 (by omega)
  clear hR hE1 hE0 hA0 hB0
  go_wp2_with fail
  refine hRF.mono ?_
  clear hRF
  rintro e w2 ⟨⟨p, rfl⟩, hK⟩
  go_wp2_with fail
  go_ret3
  exact ⟨rfl, hK.to_below (below_next hb0 hB1) (fun i hi => by rw [hi]; exact hb0.size)⟩
end Go.Proofs.YtgdgmegpacmgnaaGreatDoor

/- spec.ReadAnyIndex: the second kind. -/
namespace Go.Proofs.YtgdgmegpacmgnaaGreatDoor
open Go.RowKit
set_option linter.unusedVariables false
set_option linter.unusedSimpArgs false
attribute [local go_sem] setCell_drewN alloc_drewN

theorem sec_len (st : RSt) (S : List Nat) (last : Nat) : (st.sec S last).1.s.length ≤ st.s.length := by
  have h1 := (num_lt st 4 (by omega)).2.2
  have h2 : (RSt.sec2 (st.num 4)).s.length ≤ st.s.length := by unfold RSt.sec2; split <;> exact h1
  have h3 := Nat.le_trans (num_lt (RSt.sec2 (st.num 4)) 8 (Nat.le_refl _)).2.2 h2
  unfold RSt.sec RSt.sec3
  split
  · exact h3
  · show ((((RSt.num (RSt.sec2 (st.num 4)) 8).2.next S last (st.num 4).1).sec4 _ _).sec5 _).s.length ≤ _
    have h4 : ∀ (x : RSt) (a b : Nat), (x.sec4 a b).s = x.s := fun x a b => by unfold RSt.sec4; split <;> rfl
    have h5 : ∀ (x : RSt) (a : Nat), (x.sec5 a).s.length ≤ x.s.length := fun x a => by unfold RSt.sec5; split; exact Nat.le_refl _; simp
    refine Nat.le_trans (h5 _ _) ?_
    rw [h4]
    exact h3
theorem secs_len : ∀ (n : Nat) (st : RSt) (S : List Nat) (last : Nat), (RSt.secs n st S last).s.length ≤ st.s.length := by
  intro n
  induction n with
  | zero => intro st S last; exact Nat.le_refl _
  | succ n ih =>
    intro st S last
    rw [RSt.secs]
    split
    · split
      · exact sec_len _ _ _
      · exact Nat.le_trans (ih _ _ _) (sec_len _ _ _)
    · exact Nat.le_refl _
theorem rows_len (st : RSt) : st.rows.s.length ≤ st.s.length :=
  Nat.le_trans (secs_len _ _ _ _) (num_lt st 4 (by omega)).2.2

theorem RowsV.form {w w' : World} {v : Value} {n : Nat} (h : RowsV w w' v n) : ∃ p k c, v = .slice p k c := by
  obtain ⟨m, rs, h, _⟩ := h
  rcases h.2 with ⟨e, _⟩ | ⟨g, c, cur, e, _⟩
  · exact ⟨_, _, _, e⟩
  · exact ⟨_, _, _, e⟩
/-- What ReadAnyIndex says of a text. -/
def Reads (t : List UInt8) (n : Nat) (ok ord left : Bool) : Prop := left = true ∨ (left = false ∧ ok = false ∧ AgainBad t) ∨ (left = false ∧ ok = true ∧ AgainOk t n ord)
def AnyV (t : List UInt8) (v : Value) : Prop := ∃ (kind : Int) (p : Option Addr) (k c n : Nat) (ok ord left : Bool), v = .agg #[.int .u64 kind, .slice p k c, .int .i64 (n : Int), .bool ok, .bool ord, .bool left] ∧ Reads t n ok ord left

theorem reads_rows (t u : List UInt8) (ht : t = Lib.uvarint 1024 ++ u) : Reads t (t.length - (RSt.rows ⟨u, true, true, false⟩).s.length) (RSt.rows ⟨u, true, true, false⟩).ok (RSt.rows ⟨u, true, true, false⟩).ord (RSt.rows ⟨u, true, true, false⟩).left := by
  rcases rows_cases u true with h | ⟨h1, h2, h3⟩ | ⟨ss, r, o, h1, h2, h3, h4, h5⟩
  · exact .inl h
  · exact .inr (.inl ⟨h1, h2, .inr (.inr (.inl ⟨u, ht, h3⟩))⟩)
  · rw [h1]
    refine .inr (.inr ⟨rfl, rfl, .inl ⟨ss, r, by rw [ht, h2], ?_, h4, fun h => (h5 h).2⟩⟩)
    rw [ht, h2, uv1024]; simp; omega
theorem reads_cods (t u : List UInt8) (ht : t = Lib.uvarint 1025 ++ u) : Reads t (t.length - (RSt.cods ⟨u, true, true, false⟩).s.length) (RSt.cods ⟨u, true, true, false⟩).ok (RSt.cods ⟨u, true, true, false⟩).ord (RSt.cods ⟨u, true, true, false⟩).left := by
  rcases cods_cases u true with h | ⟨h1, h2, h3⟩ | ⟨ss, r, o, h1, h2, h3, h4, h5⟩
  · exact .inl h
  · exact .inr (.inl ⟨h1, h2, .inr (.inr (.inr ⟨u, ht, h3⟩))⟩)
  · rw [h1]
    refine .inr (.inr ⟨rfl, rfl, .inr ⟨ss, r, by rw [ht, h2], ?_, h4, h5⟩⟩)
    rw [ht, h2, uv1025]; simp; omega

theorem row6_set {w : World} {g : Nat} {a0 a1 a2 a3 a4 a5 : Value} {t : TypeId} (h : w.heap[g]? = some (.cells #[a0, a1, a2, a3, a4, a5] t (0, 0))) (v0 v1 v2 v3 v4 v5 : Value) :
    ((((((w.setCell ⟨g, 0, none⟩ v0).setCell ⟨g, 1, none⟩ v1).setCell ⟨g, 2, none⟩ v2).setCell ⟨g, 3, none⟩ v3).setCell ⟨g, 4, none⟩ v4).setCell ⟨g, 5, none⟩ v5).heap[g]? = some (.cells #[v0, v1, v2, v3, v4, v5] t (0, 0)) := by
  have s : ∀ {W : World} {cs : Array Value} (i : Nat) (v : Value), W.heap[g]? = some (.cells cs t (0, 0)) → (W.setCell ⟨g, i, none⟩ v).heap[g]? = some (.cells (cs.setIfInBounds i v) t (0, 0)) := by
    intro W cs i v hW
    rw [setCell_eq_setRow W g _ _ _ _ _ hW, setRow_heap W g _ _ _ _ hW]
  exact s 5 _ (s 4 _ (s 3 _ (s 2 _ (s 1 _ (s 0 _ h)))))

theorem row6_set4 {w : World} {g : Nat} {a0 a1 a2 a3 a4 a5 : Value} {t : TypeId} (h : w.heap[g]? = some (.cells #[a0, a1, a2, a3, a4, a5] t (0, 0))) (v2 v3 v4 v5 : Value) :
    ((((w.setCell ⟨g, 2, none⟩ v2).setCell ⟨g, 3, none⟩ v3).setCell ⟨g, 4, none⟩ v4).setCell ⟨g, 5, none⟩ v5).heap[g]? = some (.cells #[a0, a1, v2, v3, v4, v5] t (0, 0)) := by
  have s : ∀ {W : World} {cs : Array Value} (i : Nat) (v : Value), W.heap[g]? = some (.cells cs t (0, 0)) → (W.setCell ⟨g, i, none⟩ v).heap[g]? = some (.cells (cs.setIfInBounds i v) t (0, 0)) := by
    intro W cs i v hW
    rw [setCell_eq_setRow W g _ _ _ _ _ hW, setRow_heap W g _ _ _ _ hW]
  exact s 5 _ (s 4 _ (s 3 _ (s 2 _ h)))

/-- 'append' of a row of the call's own to another, in a region that draws. -/
theorem step_append_two {P : Program} {w : World} {ops : Array Oper} {o : Oper} {a : Act} {K : Act → World → Prop} {Q : Exit → Act → World → Prop} {E : Prop} (hgd : o.guard = none) (s x : Operand) (t : TypeId)
    (ho : o.op = .call { callee := .builtin .append, args := #[s, x], argTypes := #[t, t] })
    (base : Nat) (e : TypeId) (i : TypeInfo) (z : Value) (size bytes : Nat) (ht : P.underlying t = some (.slice e)) (hi : P.info? e = some i) (hz : i.zero = some z)
    (hsize : i.size = size) (hby : i.bytes = bytes) (hzs : z.cells.size = size) (hsz : 0 < size)
    (v : Value) (n : Nat) (xs : List Value) (hs : a.eval s = v) (hown : w.ownsRow base e size v n xs)
    (base2 : Nat) (u : Value) (m : Nat) (news : List Value) (hx : a.eval x = u) (hu : w.ownsRow base2 e size u m news) (h1 : ∀ u ∈ news, u.oneCell' = true)
    (h63 : n + m ≤ maxLen) (hbytes : (n + m) * bytes ≤ 140737488355328) (hbase : base ≤ w.heap.size)
    (h : ∀ v' w', w'.ownsRow base e size v' (n + m) (xs ++ news) → w.grownBy w' v.ownBlock → K (a.put o.dst v') w') :
    if Region.wanted o (yielded ops a.tmps) = true then Oper.wp P o a w K Q else E := by
  have hw : Region.wanted o (yielded ops a.tmps) = true := by simp [Region.wanted, hgd]
  rw [if_pos hw]
  have hl := hu.1
  rcases hu.2 with ⟨rfl, hm⟩ | ⟨g, cap, cur, rfl, hg⟩
  · subst hm
    obtain rfl : news = [] := List.eq_nil_of_length_eq_zero (by omega)
    have hrun := run_append_owned_none (P := P) (w := w) base t o.type e i size ht hi v n xs hown
    unfold Oper.wp
    simp [execOp, ho, resolve, invoke, builtin, hs, hx, hrun, Result.andThen]
    refine h v w (by simpa using hown) ⟨rfl, rfl, rfl, Nat.le_refl _, fun _ _ _ => rfl⟩
  · exact wp_append_own w s x t ho base e i z size bytes ht hi hz hsize hby hzs hsz v n xs hs hown ⟨g, 0, none⟩ m cap news hx hl (World.ownsRow.cells hu (g := g) rfl) h1 h63 hbytes hbase fun v' w' h2 h3 _ => h v' w' h2 h3

theorem own_form {w : World} {B : Nat} {e : TypeId} {k : Nat} {v : Value} {n : Nat} {xs : List Value} (h : w.ownsRow B e k v n xs) : ∃ p k c, v = .slice p k c := by
  rcases h.2 with ⟨e, _⟩ | ⟨g, c, cur, e, _⟩
  · exact ⟨_, _, _, e⟩
  · exact ⟨_, _, _, e⟩

/-- What is noted of the hash functions. -/
def SeenAt (wx : World) (mb : Nat) (S : List Nat) (code : Nat) (okA : Bool) : Prop :=
  ∃ S' last', ImAt wx mb .u64 (seenP S') ∧ wx.heap[mb + 1]? = some (.cells #[.int .u64 ((last' : Nat) : Int)] 22 (0, 0)) ∧ (okA = true → S' = addN S code ∧ last' = code)

set_option maxRecDepth 100000 in
set_option maxHeartbeats 12800000 in
theorem ReadAnyIndex_mh (t u : List UInt8) (hl : t.length ≤ 1000000) (ht : t = Lib.uvarint 1025 ++ u) (w : World) :
    Calls Tryz.prog 4 #[.string (sOf t)] w fun e w' => ∃ v, e = .returned v ∧ AnyV t v ∧ Below w.heap.size w w' := by
  have hmm := @run_makeMap Tryz.prog
  have hss : (sOf t).size = t.length := rfl
  have hsd : (sOf t).data.toList = t := by simp [sOf]
  obtain ⟨w0, hw0⟩ : ∃ w0, w0 = w.alloc (.cells #[.int .u64 0, .slice none 0 0, .int .i64 0, .bool false, .bool false, .bool false] 25) := ⟨_, rfl⟩
  have hb0 : Below w.heap.size w w0 := by rw [hw0]; exact below_boxed w _
  have hz0 : w0.heap.size = w.heap.size + 1 := by rw [hw0]; simp
  have hres : w0.heap[w.heap.size]? = some (.cells #[.int .u64 0, .slice none 0 0, .int .i64 0, .bool false, .bool false, .bool false] 25 (0, 0)) := by rw [hw0]; exact heap_alloc_last w _
  have hRV := ReadVarint_ok 1025 (by omega) u (sOf t) (by rw [hsd]; exact ht) (by rw [hss]; exact hl) w0
  have HT := Lib.hid ht
  rw [uv1025] at ht hRV
  have hu : t.drop 2 = u := by rw [ht]; rfl
  have htl : t.length = 2 + u.length := by rw [ht]; simp; omega
  have hext : (sOf t).extract 2 (2 + u.length) = sOf u := by rw [← htl, sOf_drop, hu]
  clear ht hu hsd
  go_enter Tryz.func4, Tryz.ntmps4
  go_wp2_with fail
  rw [← hw0]
  clear hw0
  refine hRV.mono ?_
  clear hRV
  rintro e w1 ⟨rfl, rfl⟩
  go_upto_region 6 with fail
  obtain ⟨w2, hw2⟩ : ∃ w2, w2 = (w0.alloc (.cells #[.string (sOf u), .bool true, .bool true, .bool false] 34)).alloc (.cells #[.int .u64 1025, .slice none 0 0, .int .i64 0, .bool false, .bool false, .bool false] 25) := ⟨_, rfl⟩
  rw [← hw2]
  have hb2 : Below w.heap.size w w2 := by rw [hw2]; exact below_box (below_box hb0 _) _
  have hR2 : RdrAt w2 (w.heap.size + 1) ⟨u, true, true, false⟩ := by
    rw [hw2]
    refine (heap_alloc_old _ _ (by simp; omega)).trans ?_
    rw [← hz0]; exact heap_alloc_last w0 _
  have hO2 : w2.heap[w.heap.size + 1 + 1]? = some (.cells #[.int .u64 1025, .slice none 0 0, .int .i64 0, .bool false, .bool false, .bool false] 25 (0, 0)) := by
    rw [hw2]
    have h := heap_alloc_last (w0.alloc (.cells #[.string (sOf u), .bool true, .bool true, .bool false] 34)) (.cells #[.int .u64 1025, .slice none 0 0, .int .i64 0, .bool false, .bool false, .bool false] 25)
    rw [show (w0.alloc (.cells #[.string (sOf u), .bool true, .bool true, .bool false] 34)).heap.size = w.heap.size + 1 + 1 by simp; omega] at h
    exact h
  have hres2 : w2.heap[w.heap.size]? = some (.cells #[.int .u64 0, .slice none 0 0, .int .i64 0, .bool false, .bool false, .bool false] 25 (0, 0)) := by
    rw [hw2]
    exact (heap_alloc_old _ _ (by simp; omega)).trans ((heap_alloc_old _ _ (by omega)).trans hres)
  have hz2 : w.heap.size + 1 + 1 < w2.heap.size := (Array.getElem?_eq_some_iff.1 hO2).1
  have hRd := reads_cods t u HT.out
  have HST : Hid (RSt.grps ((⟨u, true, true, false⟩ : RSt).num 4).1 (((⟨u, true, true, false⟩ : RSt).num 4).2.many ((⟨u, true, true, false⟩ : RSt).num 4).1) [] 0 = RSt.cods ⟨u, true, true, false⟩) := Lib.hid rfl
  generalize RSt.cods ⟨u, true, true, false⟩ = stF at *
  have HRD := Lib.hid hRd
  have HTL := Lib.hid htl
  -- the map, the last one
  obtain ⟨w3, hw3⟩ : ∃ w3, w3 = (w2.alloc (.map #[] 0)).alloc (.cells #[.int .u64 0] 22) := ⟨_, rfl⟩
  have hb23 : Below w2.heap.size w2 w3 := by rw [hw3]; exact below_box (below_boxed w2 _) _
  have hS3 : ImAt w3 w2.heap.size .u64 (seenP []) := by rw [hw3]; exact (ImAt.made w2 .u64).upd (heap_alloc_old _ _ (ImAt.made w2 .u64).lt)
  have hL3 : w3.heap[w2.heap.size + 1]? = some (.cells #[.int .u64 ((0 : Nat) : Int)] 22 (0, 0)) := by
    rw [hw3]
    have := heap_alloc_last (w2.alloc (.map #[] 0)) (.cells #[.int .u64 0] 22)
    simpa using this
  have hR3 : RdrAt w3 (w.heap.size + 1) ⟨u, true, true, false⟩ := (hb23.block _ (by omega)).trans hR2
  have hO3 := (hb23.block _ hz2).trans hO2
  have hres3 := (hb23.block _ (show w.heap.size < w2.heap.size by omega)).trans hres2
  have hb3 : Below w.heap.size w w3 := hb2.trans (hb23.mono (by omega))
  have hz3 : w2.heap.size + 2 ≤ w3.heap.size := by rw [hw3]; simp
  have hN := number_ok (w.heap.size + 1) ⟨u, true, true, false⟩ 4 (by omega) w3 hR3 (by show u.length ≤ 1000000; omega)
  have hnl := num_lt ⟨u, true, true, false⟩ 4 (by omega)
  have H3 := Lib.hid (And.intro hS3 (And.intro hL3 (And.intro hO3 (And.intro hres3 hb3))))
  clear hw2 hres hRd hext hb2 hR2 hO2 hres2 hb23 hS3 hL3 hR3 hO3 hres3 hb3 htl
  generalize (⟨u, true, true, false⟩ : RSt).num 4 = nm at *
  obtain ⟨n, st1⟩ := nm
  simp only at hN hnl HST
  go_wp2_with fail
  rw [← hw3]
  clear hw3
  refine hN.mono ?_
  clear hN
  rintro e w4 ⟨rfl, hR4, hK4⟩
  have hS4 : ImAt w4 w2.heap.size .u64 (seenP []) := H3.out.1.kp hK4 (by omega)
  have hL4 : w4.heap[w2.heap.size + 1]? = some (.cells #[.int .u64 ((0 : Nat) : Int)] 22 (0, 0)) := (hK4.block _ (by omega) (by omega)).trans H3.out.2.1
  have hO4 := (hK4.block _ (Array.getElem?_eq_some_iff.1 H3.out.2.2.1).1 (by omega)).trans H3.out.2.2.1
  have hres4 := (hK4.block _ (Array.getElem?_eq_some_iff.1 H3.out.2.2.2.1).1 (by omega)).trans H3.out.2.2.2.1
  have hb4 : Below w.heap.size w w4 := hK4.to_below H3.out.2.2.2.2 (fun i hi => by rw [hi]; omega)
  have hz4 := hK4.size
  obtain ⟨s1, ok1, ord1, left1⟩ := st1
  have hr : w4.heap[w.heap.size + 1]? = some (.cells #[.string (sOf s1), .bool ok1, .bool ord1, .bool left1] 34 (0, 0)) := hR4
  have c3 := (blk_cell' hr 3).trans (show _ = some (Value.bool left1) from rfl)
  have f3 := blk_free' hr 3
  have H4 := Lib.hid (And.intro hS4 (And.intro hL4 (And.intro hO4 (And.intro hres4 (And.intro hb4 hr)))))
  clear hS4 hL4 hO4 hres4 hb4 hr hR4 hK4 H3
  go_upto_region 10 with fail
  go_cut [46] (fun _ wx => RdrAt wx (w.heap.size + 1) ((⟨s1, ok1, ord1, left1⟩ : RSt).many n) ∧ Kp (fun i => i = w.heap.size + 1) w4 wx)
  case first =>
    cases left1 with
    | true =>
      have hF : RdrAt (w4.setCell ⟨w.heap.size + 1, 3, none⟩ (.bool true)) (w.heap.size + 1) ((⟨s1, ok1, ord1, true⟩ : RSt).many n) := (row4_set H4.out.2.2.2.2.2 _).2.2.2
      have hK := kp_set w4 ⟨w.heap.size + 1, 3, none⟩ (.bool true)
      have HF := Lib.hid (And.intro hF hK)
      clear hF hK
      go_wp2_with fail
      go_meet
      exact HF.out
    | false =>
      by_cases hn : 2147483648 ≤ n
      · have hni : (2147483648 : Int) ≤ (n : Int) := by omega
        have e : ((⟨s1, ok1, ord1, false⟩ : RSt).many n) = ⟨s1, ok1, ord1, true⟩ := by simp [RSt.many, hn]
        have hF : RdrAt (w4.setCell ⟨w.heap.size + 1, 3, none⟩ (.bool true)) (w.heap.size + 1) ((⟨s1, ok1, ord1, false⟩ : RSt).many n) := by rw [e]; exact (row4_set H4.out.2.2.2.2.2 _).2.2.2
        have hK := kp_set w4 ⟨w.heap.size + 1, 3, none⟩ (.bool true)
        have HF := Lib.hid (And.intro hF hK)
        clear hF hK e
        go_wp2_with fail
        go_meet
        exact HF.out
      · have hni : ¬ (2147483648 : Int) ≤ (n : Int) := by omega
        have e : ((⟨s1, ok1, ord1, false⟩ : RSt).many n) = ⟨s1, ok1, ord1, false⟩ := by simp [RSt.many, hn]
        have hF : RdrAt (w4.setCell ⟨w.heap.size + 1, 3, none⟩ (.bool false)) (w.heap.size + 1) ((⟨s1, ok1, ord1, false⟩ : RSt).many n) := by rw [e]; exact (row4_set H4.out.2.2.2.2.2 _).2.2.2
        have hK := kp_set w4 ⟨w.heap.size + 1, 3, none⟩ (.bool false)
        have HF := Lib.hid (And.intro hF hK)
        clear hF hK e
        go_wp2_with fail
        go_meet
        exact HF.out
  case rest =>
  obtain ⟨hR5, hK5⟩ := hcut
  have hml : ((⟨s1, ok1, ord1, left1⟩ : RSt).many n).s.length ≤ u.length := hnl.2.2
  have hn4 := hnl.2.1 (Nat.le_refl _)
  have hS5 : ImAt wc w2.heap.size .u64 (seenP []) := H4.out.1.kp hK5 (by omega)
  have hL5 : wc.heap[w2.heap.size + 1]? = some (.cells #[.int .u64 ((0 : Nat) : Int)] 22 (0, 0)) := (hK5.block _ (by omega) (by omega)).trans H4.out.2.1
  have hO5 := (hK5.block _ (Array.getElem?_eq_some_iff.1 H4.out.2.2.1).1 (by omega)).trans H4.out.2.2.1
  have hres5 := (hK5.block _ (Array.getElem?_eq_some_iff.1 H4.out.2.2.2.1).1 (by omega)).trans H4.out.2.2.2.1
  have hb5 : Below w.heap.size w wc := hK5.to_below H4.out.2.2.2.2.1 (fun i hi => by rw [hi]; omega)
  have hz5 : w2.heap.size + 2 ≤ wc.heap.size := by have := hK5.size; omega
  generalize ((⟨s1, ok1, ord1, left1⟩ : RSt).many n) = st2 at *
  have hml2 : st2.s.length ≤ t.length := by have := HTL.out; omega
  have H5 := Lib.hid (And.intro hS5 (And.intro hL5 (And.intro hO5 (And.intro hres5 (And.intro hb5 hR5)))))
  clear hS5 hL5 hO5 hres5 hb5 hR5 hK5 c3 f3 hnl H4
  go_wp2_with fail
  go_loopw [10] (fun v10 wr => ∃ (n' : Nat) (st' : RSt) (S : List Nat) (last m : Nat) (q : Value) (xs : List RowC), v10 = .int .u64 (n' : Int) ∧ n' < 4294967296 ∧ wr.ownsRow (w2.heap.size + 2) rowT 3 q m (rowCells xs) ∧ m + st'.s.length ≤ t.length ∧ RdrAt wr (w.heap.size + 1) st' ∧ ImAt wr w2.heap.size .u64 (seenP S) ∧ wr.heap[w2.heap.size + 1]? = some (.cells #[.int .u64 (last : Int)] 22 (0, 0)) ∧
      wr.heap[w.heap.size + 1 + 1]? = some (.cells #[.int .u64 1025, q, .int .i64 0, .bool false, .bool false, .bool false] 25 (0, 0)) ∧ wr.heap[w.heap.size]? = some (.cells #[.int .u64 0, .slice none 0 0, .int .i64 0, .bool false, .bool false, .bool false] 25 (0, 0)) ∧ Below w.heap.size w wr ∧ w2.heap.size + 2 ≤ wr.heap.size ∧ RSt.grps n' st' S last = stF) (fun v10 _ => (intOf v10).toNat)
  case atStart => exact ⟨n, st2, [], 0, 0, .slice none 0 0, [], rfl, hn4, World.ownsRow_nil _ _ _ _, by omega, H5.out.2.2.2.2.2, H5.out.1, H5.out.2.1, H5.out.2.2.1, H5.out.2.2.2.1, H5.out.2.2.2.2.1, hz5, HST.out⟩
  case round =>
    obtain ⟨n', st', S, last, m, q, xs, rfl, hn', hown, hm, hR, hS, hL, hO, hres, hb, hz, hE⟩ := hrel
    clear H5 HST
    obtain ⟨s', ok', ord', left'⟩ := st'
    have hm : m + s'.length ≤ t.length := hm
    have hr : wr.heap[w.heap.size + 1]? = some (.cells #[.string (sOf s'), .bool ok', .bool ord', .bool left'] 34 (0, 0)) := hR
    have c1 := (blk_cell' hr 1).trans (show _ = some (Value.bool ok') from rfl)
    have c3 := (blk_cell' hr 3).trans (show _ = some (Value.bool left') from rfl)
    have HX := Lib.hid (And.intro hown (And.intro hr (And.intro hS (And.intro hL (And.intro hO (And.intro hres (And.intro hb hE)))))))
    clear hown hR hr hS hL hO hres hb hE
    go_upto_region 11 with fail
    go_cut [58] (fun s58 wx => s58 = .bool (ok' && (!left' && decide (0 < n'))) ∧ wx = wr)
    case first =>
      cases ok' with
      | false =>
        go_wp2_with fail
        go_meet
        exact ⟨rfl, rfl⟩
      | true =>
        cases left' with
        | true =>
          go_wp2_with fail
          go_meet
          exact ⟨rfl, rfl⟩
        | false =>
          by_cases h0 : 0 < n'
          · have h0i : (0 : Int) < (n' : Int) := by omega
            go_wp2_with fail
            go_meet
            exact ⟨by simp [h0], rfl⟩
          · have h0i : ¬ (0 : Int) < (n' : Int) := by omega
            go_wp2_with fail
            go_meet
            exact ⟨by simp [h0], rfl⟩
    case rest =>
    obtain ⟨h58, rfl⟩ := hcut
    obtain ⟨tst, htst⟩ : ∃ x, x = (ok' && (!left' && decide (0 < n'))) := ⟨_, rfl⟩
    rw [← htst] at h58
    subst h58
    cases tst with
    | false =>
      have hstF : stF = ⟨s', ok', ord', left'⟩ := by
        rw [← HX.out.2.2.2.2.2.2.2]
        cases n' with
        | zero => rfl
        | succ k =>
          rw [RSt.grps_stop]
          rintro ⟨h1, h2⟩
          simp only at h1 h2
          subst h1 h2
          simp at htst
      subst hstF
      obtain ⟨vp, vn, vc, rfl⟩ := own_form HX.out.1
      obtain ⟨wX, rfl⟩ : ∃ wX, wX = wc := ⟨_, rfl⟩
      obtain ⟨_, hRX, _, _, hOX, hresX, hbX, _⟩ := HX.out
      have hsl : s'.length ≤ t.length := by omega
      clear HX htst c1 c3
      go_upto_region 17 with fail
      have c0 := (blk_cell' hRX 0).trans (show _ = some (Value.string (sOf s')) from rfl)
      have c1 := (blk_cell' hRX 1).trans (show _ = some (Value.bool ok') from rfl)
      have c2 := (blk_cell' hRX 2).trans (show _ = some (Value.bool ord') from rfl)
      have c3 := (blk_cell' hRX 3).trans (show _ = some (Value.bool left') from rfl)
      have o2 := (blk_cell' hOX 2).trans (show _ = some (Value.int .i64 0) from rfl)
      have o3 := (blk_cell' hOX 3).trans (show _ = some (Value.bool false) from rfl)
      have o4 := (blk_cell' hOX 4).trans (show _ = some (Value.bool false) from rfl)
      have o5 := (blk_cell' hOX 5).trans (show _ = some (Value.bool false) from rfl)
      have p2 := blk_free' hOX 2
      have p3 := blk_free' hOX 3
      have p4 := blk_free' hOX 4
      have p5 := blk_free' hOX 5
      have hss2 : (sOf s').size = s'.length := rfl
      have hsub : IntKind.i64.wrap ((t.length : Int) - (s'.length : Int)) = (t.length : Int) - (s'.length : Int) := by rw [IntKind.wrap_i64]; omega
      go_region
      obtain ⟨wY, hwY⟩ : ∃ wY, wY = ((((wX.setCell ⟨w.heap.size + 1 + 1, 2, none⟩ (.int .i64 ((t.length : Int) - (s'.length : Int)))).setCell ⟨w.heap.size + 1 + 1, 3, none⟩ (.bool ok')).setCell ⟨w.heap.size + 1 + 1, 4, none⟩ (.bool ord')).setCell ⟨w.heap.size + 1 + 1, 5, none⟩ (.bool left')).drew := ⟨_, rfl⟩
      rw [← hwY]
      have hOY : wY.heap[w.heap.size + 1 + 1]? = some (.cells #[.int .u64 1025, .slice vp vn vc, .int .i64 ((t.length : Int) - (s'.length : Int)), .bool ok', .bool ord', .bool left'] 25 (0, 0)) := by
        rw [hwY]; exact row6_set4 hOX _ _ _ _
      have hkY : Kp (fun i => i = w.heap.size + 1 + 1) wX wY := by
        rw [hwY]
        exact (Kp.set (S := fun i => i = w.heap.size + 1 + 1) (Kp.set (S := fun i => i = w.heap.size + 1 + 1) (Kp.set (S := fun i => i = w.heap.size + 1 + 1) (Kp.set (S := fun i => i = w.heap.size + 1 + 1) (Kp.refl _ wX) (.inl rfl) _) (.inl rfl) _) (.inl rfl) _) (.inl rfl) _).drew
      have hresY := (hkY.block _ (Array.getElem?_eq_some_iff.1 hresX).1 (by omega)).trans hresX
      have hbY : Below w.heap.size w wY := hkY.to_below hbX (fun i hi => by rw [hi]; omega)
      clear hwY hkY hOX hresX hRX hbX c0 c1 c2 c3 o2 o3 o4 o5 p2 p3 p4 p5 hss2 hsub
      have y0 := (blk_cell' hOY 0).trans (show _ = some (Value.int .u64 1025) from rfl)
      have y1 := (blk_cell' hOY 1).trans (show _ = some (Value.slice vp vn vc) from rfl)
      have y2 := (blk_cell' hOY 2).trans (show _ = some (Value.int .i64 ((t.length : Int) - (s'.length : Int))) from rfl)
      have y3 := (blk_cell' hOY 3).trans (show _ = some (Value.bool ok') from rfl)
      have y4 := (blk_cell' hOY 4).trans (show _ = some (Value.bool ord') from rfl)
      have y5 := (blk_cell' hOY 5).trans (show _ = some (Value.bool left') from rfl)
      have k0 := (blk_cell' hresY 0).trans (show _ = some (Value.int .u64 0) from rfl)
      have k1 := (blk_cell' hresY 1).trans (show _ = some (Value.slice none 0 0) from rfl)
      have k2 := (blk_cell' hresY 2).trans (show _ = some (Value.int .i64 0) from rfl)
      have k3 := (blk_cell' hresY 3).trans (show _ = some (Value.bool false) from rfl)
      have k4 := (blk_cell' hresY 4).trans (show _ = some (Value.bool false) from rfl)
      have k5 := (blk_cell' hresY 5).trans (show _ = some (Value.bool false) from rfl)
      have f0 := blk_free' hresY 0
      have f1 := blk_free' hresY 1
      have f2 := blk_free' hresY 2
      have f3 := blk_free' hresY 3
      have f4 := blk_free' hresY 4
      have f5 := blk_free' hresY 5
      go_wp2_with fail
      have hset := row6_set hresY (.int .u64 1025) (.slice vp vn vc) (.int .i64 ((t.length : Int) - (s'.length : Int))) (.bool ok') (.bool ord') (.bool left')
      generalize hW : ((((((wY.setCell ⟨w.heap.size, 0, none⟩ (.int .u64 1025)).setCell ⟨w.heap.size, 1, none⟩ (.slice vp vn vc)).setCell ⟨w.heap.size, 2, none⟩ (.int .i64 ((t.length : Int) - (s'.length : Int)))).setCell ⟨w.heap.size, 3, none⟩ (.bool ok')).setCell ⟨w.heap.size, 4, none⟩ (.bool ord')).setCell ⟨w.heap.size, 5, none⟩ (.bool left')) = W at hset ⊢
      have hbW : Below w.heap.size w W := by rw [← hW]; (repeat (first | (with_reducible exact Below.refl _ _) | (with_reducible exact below_boxed _ _) | (with_reducible refine below_box ?_ _) | (with_reducible refine below_drew1 ?_) | (with_reducible refine below_drewn ?_ _) | (with_reducible refine below_bytes ?_ _ _) | (with_reducible refine below_next ?_ (by assumption)) | (with_reducible refine below_set ?_ (by first | (simp; done) | (simp; omega) | omega) _)))
      clear hW k0 k1 k2 k3 k4 k5 f0 f1 f2 f3 f4 f5 y0 y1 y2 y3 y4 y5
      have k0 := blk_cell' hset 0
      have k1 := blk_cell' hset 1
      have k2 := blk_cell' hset 2
      have k3 := blk_cell' hset 3
      have k4 := blk_cell' hset 4
      have k5 := blk_cell' hset 5
      refine bodyPost_ret (v := .agg #[.int .u64 1025, .slice vp vn vc, .int .i64 ((t.length : Int) - (s'.length : Int)), .bool ok', .bool ord', .bool left']) (by simp [results, Tryz.results4, go_sem, k0, k1, k2, k3, k4, k5]) rfl ?_
      exact ⟨_, rfl, ⟨1025, _, _, _, t.length - s'.length, ok', ord', left', by rw [show ((t.length - s'.length : Nat) : Int) = (t.length : Int) - (s'.length : Int) by omega], HRD.out⟩, hbW⟩
    | true =>
      cases ok' with
      | false => simp at htst
      | true =>
        cases left' with
        | true => simp at htst
        | false =>
          cases n' with
          | zero => simp at htst
          | succ k =>
            obtain ⟨wR, rfl⟩ : ∃ wR, wR = wc := ⟨_, rfl⟩
            have hNA := number_ok (w.heap.size + 1) ⟨s', true, ord', false⟩ 8 (Nat.le_refl _) wR HX.out.2.1 (show s'.length ≤ 1000000 by omega)
            have hnl := num_lt ⟨s', true, ord', false⟩ 8 (Nat.le_refl _)
            have hE := HX.out.2.2.2.2.2.2.2
            rw [RSt.grps, if_pos ⟨rfl, rfl⟩, RSt.grp] at hE
            generalize (⟨s', true, ord', false⟩ : RSt).num 8 = nm at *
            obtain ⟨code, stA⟩ := nm
            simp only at hNA hnl hE
            have HE := Lib.hid hE
            have hcode := hnl.1
            have hlA : stA.s.length ≤ s'.length := hnl.2.2
            clear hE hnl htst c1 c3
            go_wp2_with fail
            refine hNA.mono ?_
            clear hNA
            rintro e wA ⟨rfl, hRA, hKA⟩
            have hzA := hKA.size
            have hownA : wA.ownsRow (w2.heap.size + 2) rowT 3 q m (rowCells xs) := own_kp HX.out.1 hKA (fun g e => by have := (World.ownsRow.lt HX.out.1 g e).1; show ¬ g = w.heap.size + 1; omega)
            have hSA : ImAt wA w2.heap.size .u64 (seenP S) := HX.out.2.2.1.kp hKA (by omega)
            have hLA := (hKA.block _ (Array.getElem?_eq_some_iff.1 HX.out.2.2.2.1).1 (by omega)).trans HX.out.2.2.2.1
            have hOA := (hKA.block _ (Array.getElem?_eq_some_iff.1 HX.out.2.2.2.2.1).1 (by omega)).trans HX.out.2.2.2.2.1
            have hresA := (hKA.block _ (Array.getElem?_eq_some_iff.1 HX.out.2.2.2.2.2.1).1 (by omega)).trans HX.out.2.2.2.2.2.1
            have hbA : Below w.heap.size w wA := hKA.to_below HX.out.2.2.2.2.2.2.1 (fun i hi => by rw [hi]; omega)
            obtain ⟨sA, okA, ordA, leftA⟩ := stA
            have hlA : sA.length ≤ s'.length := hlA
            have hrA : wA.heap[w.heap.size + 1]? = some (.cells #[.string (sOf sA), .bool okA, .bool ordA, .bool leftA] 34 (0, 0)) := hRA
            have c1 := (blk_cell' hrA 1).trans (show _ = some (Value.bool okA) from rfl)
            have hNx := next_ok (w.heap.size + 1) w2.heap.size (w2.heap.size + 1) ⟨sA, okA, ordA, leftA⟩ S last code wA hRA hSA hLA (by omega) (by omega) (by omega)
            have HA := Lib.hid (And.intro hownA (And.intro hSA (And.intro hLA (And.intro hOA (And.intro hresA (And.intro hbA hrA))))))
            clear hownA hSA hLA hOA hresA hbA hrA hRA hKA HX
            go_upto_if 63 with fail
            go_cut [64] (fun _ wx => RdrAt wx (w.heap.size + 1) (RSt.grp1 (code, ⟨sA, okA, ordA, leftA⟩) S last) ∧ SeenAt wx w2.heap.size S code okA ∧ Kp (fun i => i = w.heap.size + 1 ∨ i = w2.heap.size ∨ i = w2.heap.size + 1) wA wx)
            case first =>
              cases okA with
              | false =>
                have HF : Hid (RdrAt wA (w.heap.size + 1) (RSt.grp1 (code, ⟨sA, false, ordA, leftA⟩) S last) ∧ SeenAt wA w2.heap.size S code false) := Lib.hid ⟨HA.out.2.2.2.2.2.2, S, last, HA.out.2.1, HA.out.2.2.1, fun h => by cases h⟩
                clear hNx
                go_wp2_with fail
                go_meet
                exact ⟨HF.out.1, HF.out.2, Kp.refl _ _⟩
              | true =>
                go_wp2_with fail
                refine hNx.mono ?_
                clear hNx
                rintro e wB ⟨rfl, hRB, hSB, hLB, hKB⟩
                have HF : Hid (RdrAt wB (w.heap.size + 1) (RSt.grp1 (code, ⟨sA, true, ordA, leftA⟩) S last) ∧ SeenAt wB w2.heap.size S code true ∧ Kp (fun i => i = w.heap.size + 1 ∨ i = w2.heap.size ∨ i = w2.heap.size + 1) wA wB) := Lib.hid ⟨hRB, ⟨addN S code, code, hSB, hLB, fun _ => ⟨rfl, rfl⟩⟩, hKB⟩
                clear hRB hSB hLB hKB
                go_wp2_with fail
                go_meet
                exact HF.out
            case rest =>
            obtain ⟨hRB, hSB, hKB⟩ := hcut
            clear hNx c1
            obtain ⟨wB, rfl⟩ : ∃ wB, wB = wc := ⟨_, rfl⟩
            have hlB : (RSt.grp1 (code, ⟨sA, okA, ordA, leftA⟩) S last).s.length ≤ sA.length := by unfold RSt.grp1; split <;> exact Nat.le_refl _
            have hokB : (RSt.grp1 (code, ⟨sA, okA, ordA, leftA⟩) S last).ok = true → okA = true := by
              unfold RSt.grp1
              split
              · rename_i h; intro _; exact h
              · intro h; exact h
            generalize RSt.grp1 (code, ⟨sA, okA, ordA, leftA⟩) S last = stB at *
            obtain ⟨S', last', hSB, hLB, hSL⟩ := hSB
            have hE' : RSt.grps k stB.rows S' last' = stF := by
              rw [← HE.out]
              by_cases hB : stB.ok = true ∧ stB.left = false
              · obtain ⟨h1, h2⟩ := hSL (hokB hB.1)
                rw [h1, h2]
              · have := rows_stop stB hB
                rw [RSt.grps_stop (by rw [this.1]; simp), RSt.grps_stop (by rw [this.1]; simp)]
            have hzB := hKB.size
            have hownB : wB.ownsRow (w2.heap.size + 2) rowT 3 q m (rowCells xs) := own_kp HA.out.1 hKB (fun g e => by have := (World.ownsRow.lt HA.out.1 g e).1; show ¬ (g = w.heap.size + 1 ∨ g = w2.heap.size ∨ g = w2.heap.size + 1); omega)
            have hOB := (hKB.block _ (Array.getElem?_eq_some_iff.1 HA.out.2.2.2.1).1 (by omega)).trans HA.out.2.2.2.1
            have hresB := (hKB.block _ (Array.getElem?_eq_some_iff.1 HA.out.2.2.2.2.1).1 (by omega)).trans HA.out.2.2.2.2.1
            have hbB : Below w.heap.size w wB := hKB.to_below HA.out.2.2.2.2.2.1 (fun i hi => by omega)
            have hRows := rows_ok (w.heap.size + 1) code stB wB.drew hRB (by omega)
            have hrl := rows_len stB
            have o1 := (blk_cell' hOB 1).trans (show _ = some q from rfl)
            obtain ⟨i0, ui, uz0, uz1, uz2⟩ := info_parts info_Row
            have HB := Lib.hid (And.intro hSB (And.intro hLB (And.intro hOB (And.intro hresB (And.intro hbB (And.intro hownB hE'))))))
            clear hSB hLB hOB hresB hbB hownB hE' hRB hKB HA HE hSL hokB
            go_upto_region 16 with fail
            have hkB5 : ∀ w5, Kp (fun i => i = w.heap.size + 1) wB.drew w5 → Kp (fun i => i = w.heap.size + 1) wB w5 := fun w5 h => (Kp.refl _ wB).drew.trans h (fun i h => .inl h)
            have HK5 := Lib.hid hkB5
            clear hkB5
            go_region_law (first | (go_simp; go_at_call 8; refine hRows.mono ?_; rintro e w5 ⟨v, rfl, ⟨m2, rs2, hown2, hm2⟩, hR5, hK5⟩; have hKB5 := HK5.out w5 hK5; have hownq5 := own_kp HB.out.2.2.2.2.2.1 hKB5 (fun g e => by have := (World.ownsRow.lt HB.out.2.2.2.2.2.1 g e).1; show ¬ g = w.heap.size + 1; omega); have hO5 := (hKB5.block _ (Array.getElem?_eq_some_iff.1 HB.out.2.2.1).1 (by omega)).trans HB.out.2.2.1; have o5 := (blk_cell' hO5 1).trans (show _ = some q from rfl); have hz5 := hKB5.size; clear hK5) | (refine step_append_two rfl (.tmp 68) (.tmp 70) 23 rfl (w2.heap.size + 2) rowT i0 (.agg #[.int .u64 0, .string ⟨#[]⟩, .int .u64 0]) 3 32 Tryz.underlying23 ui uz0 uz1 uz2 rfl (by decide) q m (rowCells xs) rfl hownq5 _ v m2 (rowCells rs2) rfl hown2 (rowCells_one _) (by unfold maxLen; omega) (by omega) (by omega) ?_; intro v6 w6 hown6 hgrow6; obtain ⟨p6, n6, c6, rfl⟩ := own_form hown6; have hO6 := ((kp_grown hgrow6).block _ (Array.getElem?_eq_some_iff.1 hO5).1 (fun e => by have := (World.ownsRow.lt hownq5 _ e.symm).1; omega)).trans hO5; have q6 := (blk_cell' hO6 1).trans (show _ = some q from rfl); have qf6 := blk_free' hO6 1))
            all_goals
              have hkZ := kp_set w6 ⟨w.heap.size + 1 + 1, 1, none⟩ (.slice p6 n6 c6)
              have hOZ : (w6.setCell ⟨w.heap.size + 1 + 1, 1, none⟩ (.slice p6 n6 c6)).heap[w.heap.size + 1 + 1]? = some (.cells #[.int .u64 1025, .slice p6 n6 c6, .int .i64 0, .bool false, .bool false, .bool false] 25 (0, 0)) := by
                rw [setCell_eq_setRow w6 _ _ _ _ _ _ hO6, setRow_heap w6 _ _ _ _ _ hO6]; rfl
              obtain ⟨wZ, hwZ⟩ : ∃ wZ, wZ = w6.setCell ⟨w.heap.size + 1 + 1, 1, none⟩ (.slice p6 n6 c6) := ⟨_, rfl⟩
              rw [← hwZ] at hkZ hOZ ⊢
              have hK5Z : Kp (fun i => i = w.heap.size + 1 + 1 ∨ w2.heap.size + 2 ≤ i) w5 wZ := ((kp_grown hgrow6).mono (S' := fun i => i = w.heap.size + 1 + 1 ∨ w2.heap.size + 2 ≤ i) (fun i h => .inl (.inr (World.ownsRow.lt hownq5 i h.symm).1))).trans hkZ (fun i h => .inl (.inl h))
              have hKBZ : Kp (fun i => i = w.heap.size + 1 ∨ i = w.heap.size + 1 + 1 ∨ w2.heap.size + 2 ≤ i) wB wZ := (hKB5.mono (S' := fun i => i = w.heap.size + 1 ∨ i = w.heap.size + 1 + 1 ∨ w2.heap.size + 2 ≤ i) (fun i h => .inl (.inl h))).trans hK5Z (fun i h => .inl (.inr h))
              have hownZ : wZ.ownsRow (w2.heap.size + 2) rowT 3 (.slice p6 n6 c6) (m + m2) (rowCells (xs ++ rs2)) := by
                rw [rowCells_append]
                exact own_kp hown6 hkZ (fun g e => by have := (World.ownsRow.lt hown6 g e).1; show ¬ g = w.heap.size + 1 + 1; omega)
              have hRZ : RdrAt wZ (w.heap.size + 1) stB.rows := (hK5Z.block _ (Array.getElem?_eq_some_iff.1 hR5).1 (by omega)).trans hR5
              have hSZ : ImAt wZ w2.heap.size .u64 (seenP S') := HB.out.1.kp hKBZ (by omega)
              have hLZ := (hKBZ.block _ (Array.getElem?_eq_some_iff.1 HB.out.2.1).1 (by omega)).trans HB.out.2.1
              have hresZ := (hKBZ.block _ (Array.getElem?_eq_some_iff.1 HB.out.2.2.2.1).1 (by omega)).trans HB.out.2.2.2.1
              have hbZ : Below w.heap.size w wZ := hKBZ.to_below HB.out.2.2.2.2.1 (fun i hi => by omega)
              have hzZ : w2.heap.size + 2 ≤ wZ.heap.size := by have := hKBZ.size; omega
              have hbd : m + m2 + stB.rows.s.length ≤ t.length := by omega
              have HZ := Lib.hid (And.intro hownZ (And.intro hRZ (And.intro hSZ (And.intro hLZ (And.intro hOZ (And.intro hresZ hbZ))))))
              clear hwZ hkZ hOZ hK5Z hKBZ hownZ hRZ hSZ hLZ hresZ hbZ hown6 hgrow6 hO6 q6 qf6 hownq5 hO5 o5 hR5 hown2 hKB5 hRows ui uz0 uz1 uz2 o1
              go_wp2_with fail
              go_roundw
              case rel => exact ⟨k, stB.rows, S', last', m + m2, _, xs ++ rs2, by go_num, by omega, HZ.out.1, hbd, HZ.out.2.1, HZ.out.2.2.1, HZ.out.2.2.2.1, HZ.out.2.2.2.2.1, HZ.out.2.2.2.2.2.1, HZ.out.2.2.2.2.2.2, hzZ, HB.out.2.2.2.2.2.2⟩
              case measure => first | (simp [intOf]; done) | (simp [intOf]; omega)
end Go.Proofs.YtgdgmegpacmgnaaGreatDoor
