import Derived.Test.YtgdgmegpacmgnaaGreatDoorG16
import Derived.Test.YtgdgmegpacmgnaaGreatDoorG05
/- What a reader of numbers makes of any text: a fault, nothing said, or whole rows. -/
namespace Go.Proofs.YtgdgmegpacmgnaaGreatDoor
open Go.RowKit
set_option linter.unusedVariables false
set_option linter.unusedSimpArgs false

/-- One length of rows is read: what is behind it; the length; whether the reading ends there. -/
def RSt.sec2 (a : Nat × RSt) : RSt := if a.2.ok = true ∧ a.1 < 8 then { a.2 with ok := false } else a.2
def RSt.sec4 (st : RSt) (wd size : Nat) : RSt := if 33554432 < wd ∨ st.s.length < size ∨ size % wd ≠ 0 then { st with left := true } else st
def RSt.sec5 (st : RSt) (size : Nat) : RSt := if st.left = true then st else { st with s := st.s.drop size }
def RSt.sec3 (wd : Nat) (c : Nat × RSt) (S : List Nat) (last : Nat) : RSt × Nat × Bool :=
  if c.2.ok = false then (c.2, wd, true) else (((c.2.next S last wd).sec4 wd c.1).sec5 c.1, wd, false)
def RSt.sec (st : RSt) (S : List Nat) (last : Nat) : RSt × Nat × Bool := RSt.sec3 (st.num 4).1 ((RSt.sec2 (st.num 4)).num 8) S last
def RSt.secs : Nat → RSt → List Nat → Nat → RSt
  | 0, st, _, _ => st
  | n + 1, st, S, last => if st.ok = true ∧ st.left = false then if (st.sec S last).2.2 = true then (st.sec S last).1 else RSt.secs n (st.sec S last).1 (addN S (st.sec S last).2.1) (st.sec S last).2.1 else st
def RSt.many (st : RSt) (n : Nat) : RSt := { st with left := st.left || decide (2147483648 ≤ n) }
def RSt.rows (st : RSt) : RSt := RSt.secs (st.num 4).1 ((st.num 4).2.many (st.num 4).1) [] 0

/-- What reading makes of the second kind: one hash function, then so many. -/
def RSt.grp1 (c : Nat × RSt) (S : List Nat) (last : Nat) : RSt := if c.2.ok = true then c.2.next S last c.1 else c.2
def RSt.grp (st : RSt) (S : List Nat) (last : Nat) : RSt := (RSt.grp1 (st.num 8) S last).rows
def RSt.grps : Nat → RSt → List Nat → Nat → RSt
  | 0, st, _, _ => st
  | n + 1, st, S, last => if st.ok = true ∧ st.left = false then RSt.grps n (st.grp S last) (addN S (st.num 8).1) (st.num 8).1 else st
def RSt.cods (st : RSt) : RSt := RSt.grps (st.num 4).1 ((st.num 4).2.many (st.num 4).1) [] 0

/-- No rows of one length begin here. -/
def SecBad (t : List UInt8) : Prop := t.length < 12 ∨ Lib.leNat (t.take 4) < 8
def SecOk (s : Nat × List UInt8) : Prop := 8 ≤ s.1 ∧ s.1 ≤ 33554432 ∧ s.2.length % s.1 = 0
/-- Rows of so many lengths are read. -/
def MwOk (ss : List (Nat × List UInt8)) : Prop := (∀ s ∈ ss, SecOk s) ∧ (ss.map (·.1)).Nodup
def MwBad (t : List UInt8) : Prop := t.length < 4 ∨ ∃ n ss tail, t = Lib.leBytes 4 n ++ (secsBytes ss ++ tail) ∧ ss.length < n ∧ n < 2147483648 ∧ SecBad tail ∧ MwOk ss
def MhOk (cs : List (Nat × List (Nat × List UInt8))) : Prop := (∀ c ∈ cs, c.1 < 18446744073709551616 ∧ MwOk c.2 ∧ c.2.length < 2147483648) ∧ (cs.map (·.1)).Nodup
def MhBad (t : List UInt8) : Prop := t.length < 4 ∨ ∃ n cs tail, t = Lib.leBytes 4 n ++ (codsBytes cs ++ tail) ∧ cs.length < n ∧ n < 2147483648 ∧ (tail.length < 8 ∨ MwBad (tail.drop 8)) ∧ MhOk cs

theorem le_take (k : Nat) : ∀ t : List UInt8, k ≤ t.length → Lib.leBytes k (Lib.leNat (t.take k)) = t.take k := by
  induction k with
  | zero => intro t _; rfl
  | succ k ih =>
    intro t h
    cases t with
    | nil => simp at h
    | cons b t =>
      rw [List.take_succ_cons, Lib.leNat, Lib.leBytes]
      have hb := b.toNat_lt
      have h1 : (b.toNat + 256 * Lib.leNat (List.take k t)) % 256 = b.toNat := by omega
      have h2 : (b.toNat + 256 * Lib.leNat (List.take k t)) / 256 = Lib.leNat (List.take k t) := by omega
      rw [h1, h2, ih t (by simpa using h)]
      congr 1
      simp
theorem le_split (k : Nat) (t : List UInt8) (h : k ≤ t.length) : t = Lib.leBytes k (Lib.leNat (t.take k)) ++ t.drop k := by
  rw [le_take k t h, List.take_append_drop]
theorem le_lt (k : Nat) (t : List UInt8) (h : k ≤ t.length) : Lib.leNat (t.take k) < 256 ^ k := by
  have := Lib.leNat_lt (t.take k)
  rwa [List.length_take, Nat.min_eq_left h] at this

theorem RSt.num_t {t : List UInt8} {ord : Bool} {k : Nat} (h : k ≤ t.length) : (⟨t, true, ord, false⟩ : RSt).num k = (Lib.leNat (t.take k), ⟨t.drop k, true, ord, false⟩) := by
  simp [RSt.num, h]
theorem RSt.num_f {t : List UInt8} {ord : Bool} {k : Nat} (h : ¬ k ≤ t.length) : (⟨t, true, ord, false⟩ : RSt).num k = (0, ⟨t, false, ord, false⟩) := by
  simp [RSt.num, h]
theorem RSt.num_n {t : List UInt8} {ord left : Bool} {k : Nat} : (⟨t, false, ord, left⟩ : RSt).num k = (0, ⟨t, false, ord, left⟩) := by
  simp [RSt.num]
theorem RSt.num_l {t : List UInt8} {ok ord : Bool} {k : Nat} : (⟨t, ok, ord, true⟩ : RSt).num k = (0, ⟨t, false, ord, true⟩) := by
  simp [RSt.num]

theorem sec_cases (t : List UInt8) (ord : Bool) (S : List Nat) (last : Nat) :
    (((⟨t, true, ord, false⟩ : RSt).sec S last).2.2 = true ∧ ((⟨t, true, ord, false⟩ : RSt).sec S last).1.ok = false ∧ ((⟨t, true, ord, false⟩ : RSt).sec S last).1.left = false ∧ SecBad t) ∨
    (((⟨t, true, ord, false⟩ : RSt).sec S last).2.2 = false ∧ ((⟨t, true, ord, false⟩ : RSt).sec S last).1.left = true) ∨
    ∃ wd data rest, t = secBytes (wd, data) ++ rest ∧ SecOk (wd, data) ∧ wd ∉ S ∧ (⟨t, true, ord, false⟩ : RSt).sec S last = (⟨rest, true, ord && (decide (S = []) || decide (last < wd)), false⟩, wd, false) := by
  by_cases h4 : 4 ≤ t.length
  · by_cases h8 : Lib.leNat (t.take 4) < 8
    · left
      simp only [RSt.sec, RSt.num_t h4, RSt.sec2, h8, and_self, if_true, RSt.num_n, RSt.sec3]
      exact ⟨trivial, trivial, trivial, .inr h8⟩
    · by_cases h12 : 8 ≤ (t.drop 4).length
      · simp only [RSt.sec, RSt.num_t h4, RSt.sec2, h8, and_false, if_false, RSt.num_t h12, RSt.sec3]
        simp only [RSt.next, RSt.sec4, Bool.false_or, Bool.true_eq_false, if_false]
        obtain ⟨wd, hwd⟩ : ∃ wd, wd = Lib.leNat (t.take 4) := ⟨_, rfl⟩
        obtain ⟨size, hsz⟩ : ∃ size, size = Lib.leNat ((t.drop 4).take 8) := ⟨_, rfl⟩
        have hlt4 := le_lt 4 t h4
        have e4 := le_split 4 t h4
        have e8 := le_split 8 _ h12
        rw [← hwd] at h8 e4 ⊢
        rw [← hsz] at e8 ⊢
        by_cases hm : wd ∈ S
        · right; left
          refine ⟨trivial, ?_⟩
          split <;> simp [RSt.sec5, hm]
        · by_cases hx : 33554432 < wd ∨ ((t.drop 4).drop 8).length < size ∨ size % wd ≠ 0
          · right; left
            rw [if_pos hx]
            exact ⟨trivial, by simp [RSt.sec5]⟩
          · right; right
            rw [if_neg hx]
            have hle : size ≤ ((t.drop 4).drop 8).length := by omega
            refine ⟨wd, ((t.drop 4).drop 8).take size, ((t.drop 4).drop 8).drop size, ?_, ⟨?_, ?_, ?_⟩, hm, ?_⟩
            · simp only [secBytes, List.length_take, Nat.min_eq_left hle, List.append_assoc, List.take_append_drop]
              rw [← e8]; exact e4
            · show 8 ≤ wd; omega
            · show wd ≤ 33554432; omega
            · show (List.take size ((t.drop 4).drop 8)).length % wd = 0
              rw [List.length_take, Nat.min_eq_left hle]; omega
            · simp [RSt.sec5, hm]
      · left
        simp only [RSt.sec, RSt.num_t h4, RSt.sec2, h8, and_false, if_false, RSt.num_f h12, RSt.sec3]
        refine ⟨by first | trivial | rfl, by first | trivial | rfl, by first | trivial | rfl, .inl ?_⟩
        rw [List.length_drop] at h12; omega
  · left
    simp only [RSt.sec, RSt.num_f h4, RSt.sec2, RSt.num_n, RSt.sec3]
    exact ⟨by first | trivial | rfl, by first | trivial | rfl, by first | trivial | rfl, .inl (by omega)⟩

theorem RSt.secs_stop {n : Nat} {st : RSt} {S : List Nat} {last : Nat} (h : ¬ (st.ok = true ∧ st.left = false)) : RSt.secs n st S last = st := by
  cases n with
  | zero => rfl
  | succ n => rw [RSt.secs, if_neg h]
theorem addN_new {S : List Nat} {n : Nat} (h : n ∉ S) : addN S n = S ++ [n] := by simp [addN, h]

theorem secs_cases : ∀ (n : Nat) (t : List UInt8) (ord : Bool) (S : List Nat) (last : Nat),
    (RSt.secs n ⟨t, true, ord, false⟩ S last).left = true ∨
    ((RSt.secs n ⟨t, true, ord, false⟩ S last).left = false ∧ (RSt.secs n ⟨t, true, ord, false⟩ S last).ok = false ∧ ∃ ss tail, t = secsBytes ss ++ tail ∧ ss.length < n ∧ SecBad tail ∧ (∀ s ∈ ss, SecOk s) ∧ (S ++ ss.map (·.1)).Nodup = S.Nodup) ∨
    ∃ ss rest o, RSt.secs n ⟨t, true, ord, false⟩ S last = ⟨rest, true, o, false⟩ ∧ t = secsBytes ss ++ rest ∧ ss.length = n ∧ (∀ s ∈ ss, SecOk s) ∧ (S ++ ss.map (·.1)).Nodup = S.Nodup ∧
      (o = true → ord = true ∧ (ss.map (·.1)).Pairwise (· < ·) ∧ (S ≠ [] → ∀ x ∈ ss.map (·.1), last < x)) := by
  intro n
  induction n with
  | zero =>
    intro t ord S last
    right; right
    exact ⟨[], t, ord, rfl, rfl, rfl, by simp, by simp, fun h => ⟨h, List.Pairwise.nil, by simp⟩⟩
  | succ n ih =>
    intro t ord S last
    rw [RSt.secs, if_pos ⟨rfl, rfl⟩]
    rcases sec_cases t ord S last with ⟨h1, h2, h3, h4⟩ | ⟨h1, h2⟩ | ⟨wd, data, rest, ht, hok, hm, he⟩
    · rw [if_pos h1]
      right; left
      exact ⟨h3, h2, [], t, rfl, by simp, h4, by simp, by simp⟩
    · rw [h1, if_neg (by simp), RSt.secs_stop (by rw [h2]; simp)]
      exact .inl h2
    · rw [he]
      simp only [Bool.false_eq_true, if_false]
      have hnd : ∀ l : List Nat, (addN S wd ++ l).Nodup = (addN S wd).Nodup → (S ++ wd :: l).Nodup = S.Nodup := by
        intro l hl
        rw [addN_new hm] at hl
        rw [List.append_assoc, List.singleton_append] at hl
        rw [hl]
        simp [List.nodup_append, hm]
        intro _ a ha e; subst e; exact hm ha
      rcases ih rest (ord && (decide (S = []) || decide (last < wd))) (addN S wd) wd with h | ⟨h1, h2, ss, tail, h3, h4, h5, h6, h7⟩ | ⟨ss, r, o, h1, h3, h4, h5, h6, h7⟩
      · exact .inl h
      · right; left
        refine ⟨h1, h2, (wd, data) :: ss, tail, ?_, by simp; omega, h5, ?_, ?_⟩
        · rw [ht, h3]; simp [secsBytes]
        · intro s hs
          rcases List.mem_cons.1 hs with rfl | hs
          · exact hok
          · exact h6 s hs
        · exact hnd _ h7
      · right; right
        refine ⟨(wd, data) :: ss, r, o, h1, ?_, by simp [h4], ?_, ?_, ?_⟩
        · rw [ht, h3]; simp [secsBytes]
        · intro s hs
          rcases List.mem_cons.1 hs with rfl | hs
          · exact hok
          · exact h5 s hs
        · exact hnd _ h6
        · intro ho
          obtain ⟨a1, a2, a3⟩ := h7 ho
          have hne : addN S wd ≠ [] := by rw [addN_new hm]; simp
          have a4 := a3 hne
          simp only [Bool.and_eq_true, Bool.or_eq_true, decide_eq_true_eq] at a1
          refine ⟨a1.1, List.pairwise_cons.2 ⟨fun x hx => a4 x hx, a2⟩, fun hS x hx => ?_⟩
          rcases List.mem_cons.1 hx with rfl | hx
          · exact a1.2.resolve_left hS
          · exact Nat.lt_trans (a1.2.resolve_left hS) (a4 x hx)

/-- Rows sorted by digests, read. -/
theorem rows_cases (t : List UInt8) (ord : Bool) :
    (RSt.rows ⟨t, true, ord, false⟩).left = true ∨
    ((RSt.rows ⟨t, true, ord, false⟩).left = false ∧ (RSt.rows ⟨t, true, ord, false⟩).ok = false ∧ MwBad t) ∨
    ∃ ss rest o, RSt.rows ⟨t, true, ord, false⟩ = ⟨rest, true, o, false⟩ ∧ t = mwBytes ss ++ rest ∧ ss.length < 2147483648 ∧ MwOk ss ∧ (o = true → ord = true ∧ (ss.map (·.1)).Pairwise (· < ·)) := by
  unfold RSt.rows
  by_cases h4 : 4 ≤ t.length
  · rw [RSt.num_t h4]
    obtain ⟨n, hn⟩ : ∃ n, n = Lib.leNat (t.take 4) := ⟨_, rfl⟩
    have e4 := le_split 4 t h4
    rw [← hn] at e4 ⊢
    simp only [RSt.many, Bool.false_or]
    by_cases hb : 2147483648 ≤ n
    · left
      rw [RSt.secs_stop (by simp [hb])]
      simp [hb]
    · rw [show decide (2147483648 ≤ n) = false from by simp; omega]
      rcases secs_cases n (t.drop 4) ord [] 0 with h | ⟨h1, h2, ss, tail, h3, h4, h5, h6, h7⟩ | ⟨ss, r, o, h1, h3, h4, h5, h6, h7⟩
      · exact .inl h
      · right; left
        refine ⟨h1, h2, .inr ⟨n, ss, tail, ?_, h4, by omega, h5, h6, ?_⟩⟩
        · rw [← h3]; exact e4
        · simpa using h7
      · right; right
        refine ⟨ss, r, o, h1, ?_, by omega, ⟨h5, by simpa using h6⟩, fun ho => ⟨(h7 ho).1, (h7 ho).2.1⟩⟩
        rw [mwBytes, h4, List.append_assoc, ← h3]; exact e4
  · rw [RSt.num_f h4]
    simp only [RSt.many, RSt.secs]
    right; left
    exact ⟨by simp, trivial, .inl (by omega)⟩

/-- Reading does not go on behind a fault. -/
theorem rows_stop (st : RSt) (h : ¬ (st.ok = true ∧ st.left = false)) : st.rows.ok = false ∧ st.rows.left = st.left := by
  have : st.num 4 = (0, { st with ok := false }) := by unfold RSt.num; rw [if_neg]; intro h2; exact h ⟨h2.1, h2.2.1⟩
  unfold RSt.rows
  rw [this]
  simp [RSt.many, RSt.secs]

theorem RSt.grps_stop {n : Nat} {st : RSt} {S : List Nat} {last : Nat} (h : ¬ (st.ok = true ∧ st.left = false)) : RSt.grps n st S last = st := by
  cases n with
  | zero => rfl
  | succ n => rw [RSt.grps, if_neg h]

theorem grps_cases : ∀ (n : Nat) (t : List UInt8) (ord : Bool) (S : List Nat) (last : Nat),
    (RSt.grps n ⟨t, true, ord, false⟩ S last).left = true ∨
    ((RSt.grps n ⟨t, true, ord, false⟩ S last).left = false ∧ (RSt.grps n ⟨t, true, ord, false⟩ S last).ok = false ∧ ∃ cs tail, t = codsBytes cs ++ tail ∧ cs.length < n ∧ (tail.length < 8 ∨ MwBad (tail.drop 8)) ∧
      (∀ c ∈ cs, c.1 < 18446744073709551616 ∧ MwOk c.2 ∧ c.2.length < 2147483648) ∧ (S ++ cs.map (·.1)).Nodup = S.Nodup) ∨
    ∃ cs rest o, RSt.grps n ⟨t, true, ord, false⟩ S last = ⟨rest, true, o, false⟩ ∧ t = codsBytes cs ++ rest ∧ cs.length = n ∧ (∀ c ∈ cs, c.1 < 18446744073709551616 ∧ MwOk c.2 ∧ c.2.length < 2147483648) ∧ (S ++ cs.map (·.1)).Nodup = S.Nodup ∧
      (o = true → ord = true ∧ (cs.map (·.1)).Pairwise (· < ·) ∧ (∀ c ∈ cs, (c.2.map (·.1)).Pairwise (· < ·)) ∧ (S ≠ [] → ∀ x ∈ cs.map (·.1), last < x)) := by
  intro n
  induction n with
  | zero =>
    intro t ord S last
    right; right
    exact ⟨[], t, ord, rfl, rfl, rfl, by simp, by simp, fun h => ⟨h, List.Pairwise.nil, by simp, by simp⟩⟩
  | succ n ih =>
    intro t ord S last
    rw [RSt.grps, if_pos ⟨rfl, rfl⟩]
    by_cases h8 : 8 ≤ t.length
    · obtain ⟨code, hcode⟩ : ∃ code, code = Lib.leNat (t.take 8) := ⟨_, rfl⟩
      have e8 := le_split 8 t h8
      have hlt := le_lt 8 t h8
      rw [← hcode] at e8 hlt
      simp only [RSt.grp, RSt.num_t h8, RSt.grp1, if_true, ← hcode, RSt.next, Bool.false_or]
      by_cases hm : code ∈ S
      · left
        have hs := rows_stop ⟨t.drop 8, true, ord && (decide (S = []) || decide (last < code)), decide (code ∈ S)⟩ (by simp [hm])
        rw [RSt.grps_stop (by rw [hs.1]; simp), hs.2]
        simp [hm]
      · rw [show decide (code ∈ S) = false from by simp [hm]]
        have hnd : ∀ l : List Nat, (addN S code ++ l).Nodup = (addN S code).Nodup → (S ++ code :: l).Nodup = S.Nodup := by
          intro l hl
          rw [addN_new hm] at hl
          rw [List.append_assoc, List.singleton_append] at hl
          rw [hl]
          simp [List.nodup_append, hm]
          intro _ a ha e; subst e; exact hm ha
        rcases rows_cases (t.drop 8) (ord && (decide (S = []) || decide (last < code))) with h | ⟨h1, h2, h3⟩ | ⟨ss, r, o, h1, h2, h3, h4, h5⟩
        · left
          rw [RSt.grps_stop (by rw [h]; simp)]
          exact h
        · right; left
          rw [RSt.grps_stop (by rw [h2]; simp)]
          exact ⟨h1, h2, [], t, rfl, by simp, .inr h3, by simp, by simp⟩
        · rw [h1]
          have ht : t = codBytes (code, ss) ++ r := by
            rw [codBytes, List.append_assoc, ← h2]; exact e8
          have hc : (code, ss).1 < 18446744073709551616 ∧ MwOk (code, ss).2 ∧ (code, ss).2.length < 2147483648 := ⟨by show code < _; omega, h4, h3⟩
          rcases ih r o (addN S code) code with h | ⟨k1, k2, cs, tail, k3, k4, k5, k6, k7⟩ | ⟨cs, r', o', k1, k3, k4, k5, k6, k7⟩
          · exact .inl h
          · right; left
            refine ⟨k1, k2, (code, ss) :: cs, tail, ?_, by simp; omega, k5, ?_, ?_⟩
            · rw [ht, k3]; simp [codsBytes]
            · intro c hc'
              rcases List.mem_cons.1 hc' with rfl | hc'
              · exact hc
              · exact k6 c hc'
            · exact hnd _ k7
          · right; right
            refine ⟨(code, ss) :: cs, r', o', k1, ?_, by simp [k4], ?_, ?_, ?_⟩
            · rw [ht, k3]; simp [codsBytes]
            · intro c hc'
              rcases List.mem_cons.1 hc' with rfl | hc'
              · exact hc
              · exact k5 c hc'
            · exact hnd _ k6
            · intro ho
              obtain ⟨a1, a2, a5, a3⟩ := k7 ho
              have hne : addN S code ≠ [] := by rw [addN_new hm]; simp
              have a4 := a3 hne
              obtain ⟨b1, b2⟩ := h5 a1
              simp only [Bool.and_eq_true, Bool.or_eq_true, decide_eq_true_eq] at b1
              refine ⟨b1.1, List.pairwise_cons.2 ⟨fun x hx => a4 x hx, a2⟩, ?_, fun hS x hx => ?_⟩
              · intro c hc'
                rcases List.mem_cons.1 hc' with rfl | hc'
                · exact b2
                · exact a5 c hc'
              · rcases List.mem_cons.1 hx with rfl | hx
                · exact b1.2.resolve_left hS
                · exact Nat.lt_trans (b1.2.resolve_left hS) (a4 x hx)
    · right; left
      simp only [RSt.grp, RSt.num_f h8, RSt.grp1, Bool.false_eq_true, if_false]
      have hs := rows_stop ⟨t, false, ord, false⟩ (by simp)
      rw [RSt.grps_stop (by rw [hs.1]; simp)]
      exact ⟨hs.2, hs.1, [], t, rfl, by simp, .inl (by omega), by simp, by simp⟩

/-- Rows by hash functions, read. -/
theorem cods_cases (t : List UInt8) (ord : Bool) :
    (RSt.cods ⟨t, true, ord, false⟩).left = true ∨
    ((RSt.cods ⟨t, true, ord, false⟩).left = false ∧ (RSt.cods ⟨t, true, ord, false⟩).ok = false ∧ MhBad t) ∨
    ∃ cs rest o, RSt.cods ⟨t, true, ord, false⟩ = ⟨rest, true, o, false⟩ ∧ t = mhBytes cs ++ rest ∧ cs.length < 2147483648 ∧ MhOk cs ∧ (o = true → (cs.map (·.1)).Pairwise (· < ·) ∧ ∀ c ∈ cs, (c.2.map (·.1)).Pairwise (· < ·)) := by
  unfold RSt.cods
  by_cases h4 : 4 ≤ t.length
  · rw [RSt.num_t h4]
    obtain ⟨n, hn⟩ : ∃ n, n = Lib.leNat (t.take 4) := ⟨_, rfl⟩
    have e4 := le_split 4 t h4
    rw [← hn] at e4 ⊢
    simp only [RSt.many, Bool.false_or]
    by_cases hb : 2147483648 ≤ n
    · left
      rw [RSt.grps_stop (by simp [hb])]
      simp [hb]
    · rw [show decide (2147483648 ≤ n) = false from by simp; omega]
      rcases grps_cases n (t.drop 4) ord [] 0 with h | ⟨h1, h2, ss, tail, h3, h4, h5, h6, h7⟩ | ⟨ss, r, o, h1, h3, h4, h5, h6, h7⟩
      · exact .inl h
      · right; left
        refine ⟨h1, h2, .inr ⟨n, ss, tail, ?_, h4, by omega, h5, h6, ?_⟩⟩
        · rw [← h3]; exact e4
        · simpa using h7
      · right; right
        refine ⟨ss, r, o, h1, ?_, by omega, ⟨h5, by simpa using h6⟩, fun ho => ⟨(h7 ho).2.1, (h7 ho).2.2.1⟩⟩
        rw [mhBytes, h4, List.append_assoc, ← h3]; exact e4
  · rw [RSt.num_f h4]
    simp only [RSt.many, RSt.grps]
    right; left
    exact ⟨by simp, trivial, .inl (by omega)⟩
end Go.Proofs.YtgdgmegpacmgnaaGreatDoor
