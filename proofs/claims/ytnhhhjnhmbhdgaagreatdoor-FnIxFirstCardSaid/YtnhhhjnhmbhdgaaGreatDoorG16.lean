import Derived.Test.YtnhhhjnhmbhdgaaGreatDoorG15
/- The stable sort of elements of k cells: symMerge_func. -/
namespace Go.Proofs.YtnhhhjnhmbhdgaaGreatDoor
open Go.Shelf Go.RowKit Go.Lib Go.Sort
set_option linter.unusedVariables false
set_option linter.unusedSimpArgs false
set_option linter.unusedSectionVars false
attribute [local go_sem] setCell_drewN alloc_drewN
variable {α : Type} [Inhabited α]

/-- True up to a place, false from there on. -/
def Falls (q : Nat → Bool) (lo hi : Nat) : Prop := ∀ c c', lo ≤ c → c ≤ c' → c' < hi → q c' = true → q c = true
theorem Falls.up {q : Nat → Bool} {lo hi h : Nat} (hF : Falls q lo hi) (hh : h < hi) (e : q h = true) : ∀ c, lo ≤ c → c < h + 1 → q c = true := fun c h1 h2 => hF c h h1 (by omega) hh e
theorem Falls.down {q : Nat → Bool} {lo hi h : Nat} (hF : Falls q lo hi) (hh : lo ≤ h) (e : q h = false) : ∀ c, h ≤ c → c < hi → q c = false := fun c h1 h2 => by
  cases h' : q c with
  | false => rfl
  | true => rw [hF h c hh h1 h2 h'] at e; cases e

theorem half_facts {i j k : Nat} (hk : k = (i + j) / 2) (hb : i + j < 9223372036854775808) : IntKind.i64.wrap ((i : Int) + (j : Int)) = (i : Int) + (j : Int) ∧ ((i : Int) + (j : Int)) / 2 = (k : Int) := by
  refine ⟨by rw [IntKind.wrap_i64]; omega, by omega⟩

set_option maxHeartbeats 3200000 in
set_option maxRecDepth 100000 in
/-- One element ahead. -/
theorem symMerge_first (enc : α → List Value) (k : Nat) (hk : ∀ x, (enc x).length = k) (lt : α → α → Bool) (hO : SWO lt) (g : Nat) (lb : Array Value) (sf : Nat) (sb : Array Value) (blk off : Nat)
    (eg : ∀ args w, (callFunc g args).run Tryz.prog w = .ok (.enter g args) w) (a m b : Nat) (d : Array α) (w : World) (hm1 : m = a + 1)
    (hless : LessG g lb enc k lt blk off d.size w) (hswap : SwapSwapsK Tryz.prog sf sb enc k blk off d.size) (hH : HoldsK enc k w blk off d) (hblk : blk < w.heap.size) (hmb : m < b) (hb : b ≤ d.size) (hsz : d.size < 4611686018427387904)
    (hB : SortedIn lt m b d) :
    Calls Tryz.prog 121 #[.agg #[.func (.func g) #[] lb, .func (.func sf) #[] sb], .int .i64 a, .int .i64 m, .int .i64 b] w fun e w' => e = .returned (.tuple #[]) ∧ ∃ d', SWK enc k w blk off d' w' ∧ PermIn a b d d' ∧ SortedIn lt a b d' := by
  have hH1 := holdsK_alloc hH hblk (.cells #[.func (.func g) #[] lb, .func (.func sf) #[] sb] 75)
  have hb1 : blk < (w.alloc (.cells #[.func (.func g) #[] lb, .func (.func sf) #[] sb] 75)).heap.size := by simp; omega
  have hx0 : (w.alloc (.cells #[.func (.func g) #[] lb, .func (.func sf) #[] sb] 75)).cell? ⟨w.heap.size, 0, none⟩ = some (.func (.func g) #[] lb) := by simp
  have hx1 : (w.alloc (.cells #[.func (.func g) #[] lb, .func (.func sf) #[] sb] 75)).cell? ⟨w.heap.size, 1, none⟩ = some (.func (.func sf) #[] sb) := by simp
  have hl1 : LessG g lb enc k lt blk off d.size (w.alloc (.cells #[.func (.func g) #[] lb, .func (.func sf) #[] sb] 75)) := lessG_on hless ((SWK.start hH).alloc _) hblk rfl
  have HH := Lib.hid hH
  have hma : (m : Int) - (a : Int) = 1 := by omega
  have hF : Falls (fun c => lt d[c]! d[a]!) m b := by
    intro c c' h1 h2 h3 e
    exact swo_lt_of_le hO (sortedF_le hO (f := fun t => d[t]!) hB h1 h2 h3) e
  have ham : a < m := by omega
  have HM := Lib.hid hm1
  clear hH hless hm1
  go_enter Tryz.func121, Tryz.ntmps121
  go_wp2
  go_loopw [8, 9] (fun vi vj wr => ∃ (i j : Nat), vi = .int .i64 (i : Int) ∧ vj = .int .i64 (j : Int) ∧ m ≤ i ∧ i ≤ j ∧ j ≤ b ∧ SWK enc k (w.alloc (.cells #[.func (.func g) #[] lb, .func (.func sf) #[] sb] 75)) blk off d wr ∧
      (∀ c, m ≤ c → c < i → lt d[c]! d[a]! = true) ∧ (∀ c, j ≤ c → c < b → lt d[c]! d[a]! = false)) (fun vi vj _ => (intOf vj).toNat - (intOf vi).toNat)
  case atStart => exact ⟨m, b, rfl, rfl, Nat.le_refl _, by omega, Nat.le_refl _, SWK.start hH1, fun c h1 h2 => by omega, fun c h1 h2 => by omega⟩
  case round =>
    obtain ⟨i, j, rfl, rfl, hmi, hij, hjb, hS, hT, hFa⟩ := hrel
    have c0 := swk_cell hS hx0 (by show w.heap.size ≠ blk; omega)
    by_cases hlt : i < j
    · obtain ⟨h, hh⟩ : ∃ h, h = (i + j) / 2 := ⟨_, rfl⟩
      obtain ⟨hsum, hsh⟩ := half_facts hh (by omega)
      have hhr : i ≤ h ∧ h < j := by omega
      have hl := hl1 d wr rfl hS h a (by omega) (by omega)
      have HT := Lib.hid hT; have HF2 := Lib.hid hFa; have HF := Lib.hid hF; have HS := Lib.hid hS
      clear hT hFa hF hh hS
      cases hv : lt d[h]! d[a]! with
      | true =>
        rw [hv] at hl
        have HV := Lib.hid hv
        clear hv
        go_wp2_with (go_at_fn g; refine hl.mono ?_; rintro e w' ⟨rfl, hq⟩)
        go_roundw
        case rel => exact ⟨h + 1, j, by go_num, rfl, by omega, by omega, hjb, swk_trans HS.out hq hb1 rfl, HF.out.up (by omega) HV.out, HF2.out⟩
        case measure => simp [intOf]; omega
      | false =>
        rw [hv] at hl
        have HV := Lib.hid hv
        clear hv
        go_wp2_with (go_at_fn g; refine hl.mono ?_; rintro e w' ⟨rfl, hq⟩)
        go_roundw
        case rel => exact ⟨i, h, rfl, rfl, by omega, by omega, by omega, swk_trans HS.out hq hb1 rfl, HT.out, HF.out.down (by omega) HV.out⟩
        case measure => simp [intOf]; omega
    · obtain rfl : i = j := by omega
      have HT := Lib.hid hT; have HF2 := Lib.hid hFa
      clear hT hFa hF hij
      obtain ⟨wo, rfl⟩ : ∃ wo, wo = wr := ⟨_, rfl⟩
      go_wp2
      go_loopw [11] (fun vk wr2 => ∃ (x : Nat) (dk : Array α), vk = .int .i64 (x : Int) ∧ a ≤ x ∧ x + 1 ≤ i ∧ SWK enc k (w.alloc (.cells #[.func (.func g) #[] lb, .func (.func sf) #[] sb] 75)) blk off dk wr2 ∧ dk.size = d.size ∧ PermIn a b d dk ∧ ∀ t, dk[t]! = rotG (fun t => d[t]!) a (a + 1) (x + 1) t) (fun vk _ => i - (intOf vk).toNat)
      case atStart => exact ⟨a, d, rfl, Nat.le_refl _, by omega, hS, rfl, permIn_refl _ _ _, fun t => up_zero (fun t => d[t]!) a t⟩
      case round =>
        clear c0 hS
        obtain ⟨x, dk, rfl, hax, hxi, hS, hds, hP, hG⟩ := hrel
        by_cases hx : x < i - 1
        · have hHk := hS.holds hb1 hH1 hds
          have c1 := swk_cell hS hx1 (by show w.heap.size ≠ blk; omega)
          have hs := hswap wr dk hHk hds x (x + 1) (by omega) (by omega)
          have hS2 := hS.swap hk hb1 x (x + 1) (by omega) (by omega)
          have hP2 := permIn_trans _ _ _ _ _ hP (swp_permIn dk a b x (x + 1) (by omega) (by omega) (by omega) (by omega) (by omega))
          have hG2 := fun t => up_step dk a x (fun t => d[t]!) hax (by omega) hG t
          have HX := Lib.hid (And.intro hS2 (And.intro hP2 hG2))
          rw [show ((x + 1 : Nat) : Int) = (x : Int) + 1 by omega] at hs
          have hxc : (x : Int) < (i : Int) - 1 := by omega
          clear hS2 hP2 hG2 hS hP hG hHk hswap
          go_wp2
          go_roundw
          case rel => exact ⟨x + 1, swp dk x (x + 1), by go_num, by omega, by omega, HX.out.1, by rw [size_swp]; exact hds, HX.out.2.1, HX.out.2.2⟩
          case measure => simp [intOf]; omega
        · obtain rfl : i = x + 1 := by omega
          have hxc : ¬ (x : Int) < ((x + 1 : Nat) : Int) - 1 := by omega
          have HX := Lib.hid (And.intro hS (And.intro hP hG))
          clear hS hP hG
          go_wp2
          refine bodyPost_ret (v := .tuple #[]) (by simp [results, Tryz.results121, go_sem]) rfl ?_
          refine ⟨rfl, dk, swk_of_alloc HX.out.1 hblk HH.out hds, HX.out.2.1, ?_⟩
          have := merge_up hO (a := a) (b := b) (i := x + 1) (f := fun t => d[t]!) (by rw [← HM.out]; exact hB) (by have := HM.out; omega) (by omega) (by rw [← HM.out]; exact HT.out) HF2.out
          intro u v h1 h2 h3
          rw [HX.out.2.2 u, HX.out.2.2 v]
          exact this u v h1 h2 h3
set_option maxHeartbeats 3200000 in
set_option maxRecDepth 100000 in
/-- One element behind. -/
theorem symMerge_last (enc : α → List Value) (k : Nat) (hk : ∀ x, (enc x).length = k) (lt : α → α → Bool) (hO : SWO lt) (g : Nat) (lb : Array Value) (sf : Nat) (sb : Array Value) (blk off : Nat)
    (eg : ∀ args w, (callFunc g args).run Tryz.prog w = .ok (.enter g args) w) (a m b : Nat) (d : Array α) (w : World) (hm1 : b = m + 1) (hne : m ≠ a + 1)
    (hless : LessG g lb enc k lt blk off d.size w) (hswap : SwapSwapsK Tryz.prog sf sb enc k blk off d.size) (hH : HoldsK enc k w blk off d) (hblk : blk < w.heap.size) (ham : a < m) (hb : b ≤ d.size) (hsz : d.size < 4611686018427387904)
    (hA : SortedIn lt a m d) :
    Calls Tryz.prog 121 #[.agg #[.func (.func g) #[] lb, .func (.func sf) #[] sb], .int .i64 a, .int .i64 m, .int .i64 b] w fun e w' => e = .returned (.tuple #[]) ∧ ∃ d', SWK enc k w blk off d' w' ∧ PermIn a b d d' ∧ SortedIn lt a b d' := by
  have hH1 := holdsK_alloc hH hblk (.cells #[.func (.func g) #[] lb, .func (.func sf) #[] sb] 75)
  have hb1 : blk < (w.alloc (.cells #[.func (.func g) #[] lb, .func (.func sf) #[] sb] 75)).heap.size := by simp; omega
  have hx0 : (w.alloc (.cells #[.func (.func g) #[] lb, .func (.func sf) #[] sb] 75)).cell? ⟨w.heap.size, 0, none⟩ = some (.func (.func g) #[] lb) := by simp
  have hx1 : (w.alloc (.cells #[.func (.func g) #[] lb, .func (.func sf) #[] sb] 75)).cell? ⟨w.heap.size, 1, none⟩ = some (.func (.func sf) #[] sb) := by simp
  have hl1 : LessG g lb enc k lt blk off d.size (w.alloc (.cells #[.func (.func g) #[] lb, .func (.func sf) #[] sb] 75)) := lessG_on hless ((SWK.start hH).alloc _) hblk rfl
  have HH := Lib.hid hH
  have hma : ((m : Int) - (a : Int) == 1) = false := by simp; omega
  have hbm : (b : Int) - (m : Int) = 1 := by omega
  have hF : Falls (fun c => !lt d[m]! d[c]!) a m := by
    intro c c' h1 h2 h3 e
    simp only [Bool.not_eq_true', Bool.not_eq_eq_eq_not, Bool.not_true] at e ⊢
    exact hO.ntrans _ _ _ e (sortedF_le hO (f := fun t => d[t]!) hA h1 h2 h3)
  have HM := Lib.hid hm1
  clear hH hless hm1 hne
  go_enter Tryz.func121, Tryz.ntmps121
  go_wp2
  go_loopw [12, 13] (fun vi vj wr => ∃ (i j : Nat), vi = .int .i64 (i : Int) ∧ vj = .int .i64 (j : Int) ∧ a ≤ i ∧ i ≤ j ∧ j ≤ m ∧ SWK enc k (w.alloc (.cells #[.func (.func g) #[] lb, .func (.func sf) #[] sb] 75)) blk off d wr ∧
      (∀ c, a ≤ c → c < i → (!lt d[m]! d[c]!) = true) ∧ (∀ c, j ≤ c → c < m → (!lt d[m]! d[c]!) = false)) (fun vi vj _ => (intOf vj).toNat - (intOf vi).toNat)
  case atStart => exact ⟨a, m, rfl, rfl, Nat.le_refl _, by omega, Nat.le_refl _, SWK.start hH1, fun c h1 h2 => by omega, fun c h1 h2 => by omega⟩
  case round =>
    obtain ⟨i, j, rfl, rfl, hmi, hij, hjb, hS, hT, hFa⟩ := hrel
    have c0 := swk_cell hS hx0 (by show w.heap.size ≠ blk; omega)
    by_cases hlt : i < j
    · obtain ⟨h, hh⟩ : ∃ h, h = (i + j) / 2 := ⟨_, rfl⟩
      obtain ⟨hsum, hsh⟩ := half_facts hh (by omega)
      have hhr : i ≤ h ∧ h < j := by omega
      have hl := hl1 d wr rfl hS m h (by omega) (by omega)
      have HT := Lib.hid hT; have HF2 := Lib.hid hFa; have HF := Lib.hid hF; have HS := Lib.hid hS
      clear hT hFa hF hh hS
      cases hv : lt d[m]! d[h]! with
      | false =>
        rw [hv] at hl
        have HV : Hid ((!lt d[m]! d[h]!) = true) := Lib.hid (by rw [hv]; rfl)
        clear hv
        go_wp2_with (go_at_fn g; refine hl.mono ?_; rintro e w' ⟨rfl, hq⟩)
        go_roundw
        case rel => exact ⟨h + 1, j, by go_num, rfl, by omega, by omega, hjb, swk_trans HS.out hq hb1 rfl, HF.out.up (by omega) HV.out, HF2.out⟩
        case measure => simp [intOf]; omega
      | true =>
        rw [hv] at hl
        have HV : Hid ((!lt d[m]! d[h]!) = false) := Lib.hid (by rw [hv]; rfl)
        clear hv
        go_wp2_with (go_at_fn g; refine hl.mono ?_; rintro e w' ⟨rfl, hq⟩)
        go_roundw
        case rel => exact ⟨i, h, rfl, rfl, by omega, by omega, by omega, swk_trans HS.out hq hb1 rfl, HT.out, HF.out.down (by omega) HV.out⟩
        case measure => simp [intOf]; omega
    · obtain rfl : i = j := by omega
      have HT := Lib.hid hT; have HF2 := Lib.hid hFa
      clear hT hFa hF hij
      obtain ⟨wo, rfl⟩ : ∃ wo, wo = wr := ⟨_, rfl⟩
      go_wp2
      go_loopw [15] (fun vk wr2 => ∃ (x : Nat) (dk : Array α), vk = .int .i64 (x : Int) ∧ i ≤ x ∧ x ≤ m ∧ SWK enc k (w.alloc (.cells #[.func (.func g) #[] lb, .func (.func sf) #[] sb] 75)) blk off dk wr2 ∧ dk.size = d.size ∧ PermIn a b d dk ∧ ∀ t, dk[t]! = rotG (fun t => d[t]!) x m (m + 1) t) (fun vk _ => (intOf vk).toNat - i)
      case atStart => exact ⟨m, d, rfl, by omega, Nat.le_refl _, hS, rfl, permIn_refl _ _ _, fun t => down_zero (fun t => d[t]!) m t⟩
      case round =>
        clear c0 hS
        obtain ⟨x, dk, rfl, hax, hxi, hS, hds, hP, hG⟩ := hrel
        by_cases hx : i < x
        · have hHk := hS.holds hb1 hH1 hds
          have c1 := swk_cell hS hx1 (by show w.heap.size ≠ blk; omega)
          have hs := hswap wr dk hHk hds x (x - 1) (by omega) (by omega)
          have hS2 := hS.swap hk hb1 x (x - 1) (by omega) (by omega)
          have hP2 := permIn_trans _ _ _ _ _ hP (swp_permIn dk a b x (x - 1) (by omega) (by omega) (by omega) (by omega) (by omega))
          have hG2 := fun t => down_step dk x m (fun t => d[t]!) (by omega) hxi (by omega) hG t
          have HX := Lib.hid (And.intro hS2 (And.intro hP2 hG2))
          rw [show ((x - 1 : Nat) : Int) = (x : Int) - 1 by omega] at hs
          clear hS2 hP2 hG2 hS hP hG hHk hswap
          go_wp2
          go_roundw
          case rel => exact ⟨x - 1, swp dk x (x - 1), by go_num, by omega, by omega, HX.out.1, by rw [size_swp]; exact hds, HX.out.2.1, HX.out.2.2⟩
          case measure => simp [intOf]; omega
        · obtain rfl : i = x := by omega
          have HX := Lib.hid (And.intro hS (And.intro hP hG))
          clear hS hP hG
          go_wp2
          refine bodyPost_ret (v := .tuple #[]) (by simp [results, Tryz.results121, go_sem]) rfl ?_
          refine ⟨rfl, dk, swk_of_alloc HX.out.1 hblk HH.out hds, HX.out.2.1, ?_⟩
          have := merge_down hO (a := a) (m := m) (i := i) (f := fun t => d[t]!) hA (by omega) (by omega) (fun c h1 h2 => by simpa using HT.out c h1 h2) (fun c h1 h2 => by simpa using HF2.out c h1 h2)
          intro u v h1 h2 h3
          rw [HX.out.2.2 u, HX.out.2.2 v]
          exact this u v h1 h2 (by have := HM.out; omega)

/-- The memory while one array is sorted. -/
structure Fam (enc : α → List Value) (k : Nat) (lt : α → α → Bool) (g : Nat) (lb : Array Value) (blk off N : Nat) (d : Array α) (w : World) : Prop where
  less : LessG g lb enc k lt blk off N w
  holds : HoldsK enc k w blk off d
  blt : blk < w.heap.size
  size : d.size = N
theorem Fam.on {enc : α → List Value} {k : Nat} {lt : α → α → Bool} {g : Nat} {lb : Array Value} {blk off N : Nat} {d d' : Array α} {w w' : World} (h : Fam enc k lt g lb blk off N d w) (hS : SWK enc k w blk off d' w') (hs : d'.size = d.size) : Fam enc k lt g lb blk off N d' w' :=
  ⟨lessG_on h.less hS h.blt (hs.trans h.size), hS.holds h.blt h.holds hs, hS.lt h.blt, hs.trans h.size⟩

theorem merge_fin {lt : α → α → Bool} {a mid b : Nat} {d d1 d2 d3 : Array α} (ham : a ≤ mid) (hmb : mid ≤ b) (hb : b ≤ d.size) (hP : PermIn a b d d1) (h1 : PermIn a mid d1 d2) (h2 : PermIn mid b d2 d3) (s1 : SortedIn lt a mid d2) (s2 : SortedIn lt mid b d3)
    (hx : ∀ x y, a ≤ x → x < mid → mid ≤ y → y < b → lt d1[y]! d1[x]! = false) : PermIn a b d d3 ∧ SortedIn lt a b d3 := by
  have e1 : d1.size = d.size := hP.1
  have e2 : d2.size = d1.size := h1.1
  refine ⟨permIn_trans _ _ _ _ _ hP (permIn_trans _ _ _ _ _ (permIn_mono _ _ _ _ _ _ (Nat.le_refl _) hmb (by omega) h1) (permIn_mono _ _ _ _ _ _ ham (Nat.le_refl _) (by omega) h2)), ?_⟩
  exact sorted_join (sorted_other s1 h2 (.inl (Nat.le_refl _))) s2 (cross_perm ham hmb (by omega) h1 h2 hx)
theorem sorted_none {lt : α → α → Bool} {a b : Nat} {d : Array α} (h : b ≤ a) : SortedIn lt a b d := fun i j h1 h2 h3 => by omega
theorem sorted_fn {lt : α → α → Bool} {a b : Nat} {d : Array α} {f : Nat → α} (h : SortedF lt a b f) (hG : ∀ t, d[t]! = f t) : SortedIn lt a b d := fun i j h1 h2 h3 => by rw [hG i, hG j]; exact h i j h1 h2 h3
end Go.Proofs.YtnhhhjnhmbhdgaaGreatDoor

/- The stable sort of elements of k cells: symMerge_func in general. -/
namespace Go.Proofs.YtnhhhjnhmbhdgaaGreatDoor
open Go.Shelf Go.RowKit Go.Lib Go.Sort
set_option linter.unusedVariables false
set_option linter.unusedSimpArgs false
set_option linter.unusedSectionVars false
attribute [local go_sem] setCell_drewN alloc_drewN
variable {α : Type} [Inhabited α]

set_option maxHeartbeats 6400000 in
set_option maxRecDepth 100000 in
theorem symMerge_ok (enc : α → List Value) (k : Nat) (hk : ∀ x, (enc x).length = k) (lt : α → α → Bool) (hO : SWO lt) (g : Nat) (lb : Array Value) (sf : Nat) (sb : Array Value) (blk off N : Nat)
    (eg : ∀ args w, (callFunc g args).run Tryz.prog w = .ok (.enter g args) w) (hswap : SwapSwapsK Tryz.prog sf sb enc k blk off N) (hsz : N < 4611686018427387904) :
    ∀ (fuel a m b : Nat) (d : Array α) (w : World), b - a ≤ fuel → Fam enc k lt g lb blk off N d w → a < m → m < b → b ≤ N → SortedIn lt a m d → SortedIn lt m b d →
    Calls Tryz.prog 121 #[.agg #[.func (.func g) #[] lb, .func (.func sf) #[] sb], .int .i64 a, .int .i64 m, .int .i64 b] w fun e w' => e = .returned (.tuple #[]) ∧ ∃ d', SWK enc k w blk off d' w' ∧ PermIn a b d d' ∧ SortedIn lt a b d' := by
  intro fuel
  induction fuel with
  | zero => intro a m b d w hf _ h1 h2; omega
  | succ fuel ih =>
    intro a m b d w hf hFam ham hmb hb hA hB
    obtain ⟨hless, hH, hblk, hN⟩ := hFam
    subst hN
    by_cases h1 : m = a + 1
    · exact symMerge_first enc k hk lt hO g lb sf sb blk off eg a m b d w h1 hless hswap hH hblk hmb hb hsz hB
    by_cases h2 : b = m + 1
    · exact symMerge_last enc k hk lt hO g lb sf sb blk off eg a m b d w h2 h1 hless hswap hH hblk ham hb hsz hA
    have hH1 := holdsK_alloc hH hblk (.cells #[.func (.func g) #[] lb, .func (.func sf) #[] sb] 75)
    have hb1 : blk < (w.alloc (.cells #[.func (.func g) #[] lb, .func (.func sf) #[] sb] 75)).heap.size := by simp; omega
    have hx0 : (w.alloc (.cells #[.func (.func g) #[] lb, .func (.func sf) #[] sb] 75)).cell? ⟨w.heap.size, 0, none⟩ = some (.func (.func g) #[] lb) := by simp
    have hx1 : (w.alloc (.cells #[.func (.func g) #[] lb, .func (.func sf) #[] sb] 75)).cell? ⟨w.heap.size, 1, none⟩ = some (.func (.func sf) #[] sb) := by simp
    have hl1 : LessG g lb enc k lt blk off d.size (w.alloc (.cells #[.func (.func g) #[] lb, .func (.func sf) #[] sb] 75)) := lessG_on hless ((SWK.start hH).alloc _) hblk rfl
    have HH := Lib.hid hH
    have hma : ((m : Int) - (a : Int) == 1) = false := by simp; omega
    have hbm : ((b : Int) - (m : Int) == 1) = false := by simp; omega
    obtain ⟨mid, hmid⟩ : ∃ mid, mid = (a + b) / 2 := ⟨_, rfl⟩
    obtain ⟨hsumM, hshM⟩ := half_facts hmid (by omega)
    have hmr : a < mid ∧ mid < b := by omega
    obtain ⟨s0, r0, hcase⟩ : ∃ s0 r0, (mid < m ∧ s0 = mid + m - b ∧ r0 = mid) ∨ (m ≤ mid ∧ s0 = a ∧ r0 = m) := by
      by_cases h : mid < m
      · exact ⟨_, _, .inl ⟨h, rfl, rfl⟩⟩
      · exact ⟨_, _, .inr ⟨by omega, rfl, rfl⟩⟩
    have hrange : a ≤ s0 ∧ s0 ≤ r0 ∧ r0 ≤ mid ∧ r0 ≤ m ∧ (∀ c, s0 ≤ c → c < r0 → a ≤ c ∧ c < m ∧ m ≤ mid + m - 1 - c ∧ mid + m - 1 - c < b) := by
      refine ⟨by omega, by omega, by omega, by omega, fun c h1 h2 => by omega⟩
    have hF : Falls (fun c => !lt d[mid + m - 1 - c]! d[c]!) s0 r0 := by
      intro c c' h1 h2 h3 e
      simp only [Bool.not_eq_true', Bool.not_eq_eq_eq_not, Bool.not_true] at e ⊢
      have r1 := hrange.2.2.2.2 c h1 (by omega)
      have r2 := hrange.2.2.2.2 c' (by omega) h3
      have g1 : lt d[mid + m - 1 - c]! d[mid + m - 1 - c']! = false := sortedF_le hO (f := fun t => d[t]!) hB (by omega) (by omega) (by omega)
      have g2 : lt d[c']! d[c]! = false := sortedF_le hO (f := fun t => d[t]!) hA (by omega) h2 (by omega)
      exact hO.ntrans _ _ _ g1 (hO.ntrans _ _ _ e g2)
    have hEND : ∀ i, s0 ≤ i → i ≤ r0 → (∀ c, s0 ≤ c → c < i → (!lt d[mid + m - 1 - c]! d[c]!) = true) → (∀ c, i ≤ c → c < r0 → (!lt d[mid + m - 1 - c]! d[c]!) = false) → ∀ d1 : Array α, (∀ t, d1[t]! = rotG (fun t => d[t]!) i m (mid + m - i) t) →
        SortedIn lt a i d1 ∧ SortedIn lt i mid d1 ∧ SortedIn lt mid (mid + m - i) d1 ∧ SortedIn lt (mid + m - i) b d1 ∧ ∀ x y, a ≤ x → x < mid → mid ≤ y → y < b → lt d1[y]! d1[x]! = false := by
      intro i hi1 hi2 hT hFa d1 hG
      obtain ⟨p1, p2, p3, p4⟩ := rot_parts (a := a) (m := m) (b := b) (mid := mid) (s := i) (f := fun t => d[t]!) hA hB (by omega) (by omega) (by omega) (by omega)
      refine ⟨sorted_fn p1 hG, sorted_fn p2 hG, sorted_fn p3 hG, sorted_fn p4 hG, fun x y h1 h2 h3 h4 => ?_⟩
      rw [hG x, hG y]
      exact cross hO (f := fun t => d[t]!) hA hB ham hmb hmid hcase hi1 hi2 (fun c h1 h2 => by simpa using hT c h1 h2) (fun c h1 h2 => by simpa using hFa c h1 h2) x y h1 h2 h3 h4
    have HE := Lib.hid hEND
    have HR := Lib.hid hrange.2.2.2.2
    have hra : a ≤ s0 ∧ s0 ≤ r0 ∧ r0 ≤ mid ∧ r0 ≤ m ∧ mid + m ≤ b + s0 := by omega
    have HM := Lib.hid hmid
    have HF0 := Lib.hid hF
    have hswap' := hswap
    clear hEND hrange hF hmid h1 h2 hH hless hA hB
    go_enter Tryz.func121, Tryz.ntmps121
    rcases hcase with ⟨hc1, hc2, hc3⟩ | ⟨hc1, hc2, hc3⟩
    · have hs0 : (mid : Int) + (m : Int) - (b : Int) = (s0 : Int) := by omega
      have HC := Lib.hid (And.intro hc2 hc3)
      clear hc2 hc3
      go_wp2
      go_loopw [18, 19] (fun vi vj wr => ∃ (i j : Nat), vi = .int .i64 (i : Int) ∧ vj = .int .i64 (j : Int) ∧ s0 ≤ i ∧ i ≤ j ∧ j ≤ r0 ∧ SWK enc k (w.alloc (.cells #[.func (.func g) #[] lb, .func (.func sf) #[] sb] 75)) blk off d wr ∧
        (∀ c, s0 ≤ c → c < i → (!lt d[mid + m - 1 - c]! d[c]!) = true) ∧ (∀ c, j ≤ c → c < r0 → (!lt d[mid + m - 1 - c]! d[c]!) = false)) (fun vi vj _ => (intOf vj).toNat - (intOf vi).toNat)
      case atStart => exact ⟨s0, r0, by have := HC.out; first | rfl | (congr 1; omega), by have := HC.out; first | rfl | (congr 1; omega), Nat.le_refl _, by omega, Nat.le_refl _, SWK.start hH1, fun c h1 h2 => by omega, fun c h1 h2 => by omega⟩
      case round =>
        obtain ⟨i, j, rfl, rfl, hmi, hij, hjb, hS, hT, hFa⟩ := hrel
        have c0 := swk_cell hS hx0 (by show w.heap.size ≠ blk; omega)
        have c1 := swk_cell hS hx1 (by show w.heap.size ≠ blk; omega)
        by_cases hlt : i < j
        · obtain ⟨h, hh⟩ : ∃ h, h = (i + j) / 2 := ⟨_, rfl⟩
          obtain ⟨hsum, hsh⟩ := half_facts hh (by omega)
          have hhr : i ≤ h ∧ h < j := by omega
          have hr := HR.out h (by omega) (by omega)
          have hl := hl1 d wr rfl hS (mid + m - 1 - h) h (by omega) (by omega)
          rw [show ((mid + m - 1 - h : Nat) : Int) = (mid : Int) + m - 1 - h by omega] at hl
          have HT := Lib.hid hT; have HF2 := Lib.hid hFa; have HS := Lib.hid hS
          clear hT hFa hh hS
          cases hv : lt d[mid + m - 1 - h]! d[h]! with
          | false =>
            rw [hv] at hl
            have HV : Hid ((!lt d[mid + m - 1 - h]! d[h]!) = true) := Lib.hid (by rw [hv]; rfl)
            clear hv
            go_wp2_with (go_at_fn g; refine hl.mono ?_; rintro e w' ⟨rfl, hq⟩)
            go_roundw
            case rel => exact ⟨h + 1, j, by go_num, rfl, by omega, by omega, hjb, swk_trans HS.out hq hb1 rfl, HF0.out.up (by omega) HV.out, HF2.out⟩
            case measure => simp [intOf]; omega
          | true =>
            rw [hv] at hl
            have HV : Hid ((!lt d[mid + m - 1 - h]! d[h]!) = false) := Lib.hid (by rw [hv]; rfl)
            clear hv
            go_wp2_with (go_at_fn g; refine hl.mono ?_; rintro e w' ⟨rfl, hq⟩)
            go_roundw
            case rel => exact ⟨i, h, rfl, rfl, by omega, by omega, by omega, swk_trans HS.out hq hb1 rfl, HT.out, HF0.out.down (by omega) HV.out⟩
            case measure => simp [intOf]; omega
        · obtain rfl : i = j := by omega
          obtain ⟨e, he⟩ : ∃ e, e = mid + m - i := ⟨_, rfl⟩
          have hE : ∀ d1 : Array α, (∀ t, d1[t]! = rotG (fun t => d[t]!) i m e t) → SortedIn lt a i d1 ∧ SortedIn lt i mid d1 ∧ SortedIn lt mid e d1 ∧ SortedIn lt e b d1 ∧ ∀ x y, a ≤ x → x < mid → mid ≤ y → y < b → lt d1[y]! d1[x]! = false := by
            rw [he]; exact fun d1 hG => HE.out i hmi hjb hT hFa d1 hG
          have HE1 := Lib.hid hE
          have hei : (mid : Int) + (m : Int) - (i : Int) = (e : Int) := by omega
          have FW : Fam enc k lt g lb blk off d.size d wr := ⟨lessG_on hl1 hS hb1 rfl, hS.holds hb1 hH1 rfl, hS.lt hb1, rfl⟩
          have hro : a ≤ i ∧ i ≤ mid ∧ i ≤ m ∧ mid ≤ e ∧ m ≤ e ∧ e ≤ b := by omega
          have HEE := Lib.hid he
          have HS := Lib.hid hS
          clear hE hT hFa hij he hS hra hl1 hH1
          by_cases hrot : i < m ∧ i < mid
          · obtain ⟨him, hid⟩ := hrot
            have hme : m < e := by have := HEE.out; omega
            have hde : mid < e := by have := HEE.out; omega
            have hRo := rotate_ok enc k hk (.func g) #[] lb sf sb blk off i m e d wr hswap FW.holds FW.blt him hme (by omega) hsz
            have HFW := Lib.hid FW
            clear FW
            go_wp2_with fail
            refine hRo.mono ?_
            clear hRo
            rintro e' w1 ⟨rfl, d1, hS1, hP1, hG1⟩
            have F1 := HFW.out.on hS1 hP1.1
            obtain ⟨q1, q2, q3, q4, qx⟩ := HE1.out d1 hG1
            have HP : Hid (PermIn a b d d1) := Lib.hid (permIn_mono _ _ _ _ _ _ (by omega) (by omega) (by omega) hP1)
            have hS1' := swk_trans HS.out hS1 hb1 hP1.1
            have c01 := swk_cell hS1' hx0 (by show w.heap.size ≠ blk; omega)
            have c11 := swk_cell hS1' hx1 (by show w.heap.size ≠ blk; omega)
            have HX := Lib.hid qx
            clear hS1 hP1 hG1 c0 c1 qx
            by_cases hai : a < i
            · have hM1 := ih a i mid d1 w1 (by omega) F1 hai hid (by omega) q1 q2
              have HQ := Lib.hid (And.intro F1 (And.intro q3 q4))
              have HS1 := Lib.hid hS1'
              clear F1 q1 q2 q3 q4 hS1'
              go_wp2_with fail
              refine hM1.mono ?_
              clear hM1
              rintro e' w2 ⟨rfl, d2, hS2, hP2, hs2⟩
              have hS2' := swk_trans HS1.out hS2 hb1 hP2.1
              have F2 := HQ.out.1.on hS2 hP2.1
              have c02 := swk_cell hS2' hx0 (by show w.heap.size ≠ blk; omega)
              have c12 := swk_cell hS2' hx1 (by show w.heap.size ≠ blk; omega)
              have q3' := sorted_other HQ.out.2.1 hP2 (.inr (Nat.le_refl _))
              have q4' := sorted_other HQ.out.2.2 hP2 (.inr (by omega))
              by_cases heb : e < b
              · have hM2 := ih mid e b d2 w2 (by omega) F2 hde heb (by omega) q3' q4'
                have HZ := Lib.hid (And.intro hS2' (And.intro hP2 hs2))
                clear F2 q3' q4' hS2' hS2 hP2 hs2 c01 c11
                go_wp2_with (refine hM2.mono ?_; clear hM2; rintro e' w3 ⟨rfl, d3, hS3, hP3, hs3⟩)
                go_end0
                exact ⟨rfl, d3, swk_of_alloc (swk_trans HZ.out.1 hS3 hb1 hP3.1) hblk HH.out (by rw [hP3.1, HZ.out.2.1.1, HP.out.1]), merge_fin (by omega) (by omega) hb HP.out HZ.out.2.1 hP3 HZ.out.2.2 hs3 HX.out⟩
              · obtain rfl : e = b := by omega
                have HZ := Lib.hid (And.intro hS2' (And.intro hP2 (And.intro hs2 q3')))
                clear F2 q3' q4' hS2' hS2 hP2 hs2 c01 c11
                go_wp2
                go_end0
                exact ⟨rfl, d2, swk_of_alloc HZ.out.1 hblk HH.out (by rw [HZ.out.2.1.1, HP.out.1]), merge_fin (by omega) (by omega) hb HP.out HZ.out.2.1 (permIn_refl _ _ _) HZ.out.2.2.1 HZ.out.2.2.2 HX.out⟩
            · obtain rfl : a = i := by omega
              by_cases heb : e < b
              · have hM2 := ih mid e b d1 w1 (by omega) F1 hde heb (by omega) q3 q4
                have HZ := Lib.hid (And.intro hS1' q2)
                clear F1 q1 q2 q3 q4 hS1'
                go_wp2_with (refine hM2.mono ?_; clear hM2; rintro e' w3 ⟨rfl, d3, hS3, hP3, hs3⟩)
                go_end0
                exact ⟨rfl, d3, swk_of_alloc (swk_trans HZ.out.1 hS3 hb1 hP3.1) hblk HH.out (by rw [hP3.1, HP.out.1]), merge_fin (by omega) (by omega) hb HP.out (permIn_refl _ _ _) hP3 HZ.out.2 hs3 HX.out⟩
              · obtain rfl : e = b := by omega
                have HZ := Lib.hid (And.intro hS1' (And.intro q2 q3))
                clear F1 q1 q2 q3 q4 hS1'
                go_wp2
                go_end0
                exact ⟨rfl, d1, swk_of_alloc HZ.out.1 hblk HH.out HP.out.1, merge_fin (by omega) (by omega) hb HP.out (permIn_refl _ _ _) (permIn_refl _ _ _) HZ.out.2.1 HZ.out.2.2 HX.out⟩
          · obtain ⟨q1, q2, q3, q4, qx⟩ := HE1.out d (fun t => rot_none (fun t => d[t]!) i m e t (by have := HEE.out; omega) hro.2.2.1 hro.2.2.2.2.1)
            have HX := Lib.hid qx
            by_cases him : i < m
            · obtain rfl : i = mid := by omega
              obtain rfl : e = m := by have := HEE.out; omega
              have hM2 := ih i e b d wr (by omega) FW (by omega) hmb (by omega) q3 q4
              have HZ := Lib.hid q1
              clear FW q1 q2 q3 q4 qx
              go_wp2_with (refine hM2.mono ?_; clear hM2; rintro e' w3 ⟨rfl, d3, hS3, hP3, hs3⟩)
              go_end0
              exact ⟨rfl, d3, swk_of_alloc (swk_trans HS.out hS3 hb1 hP3.1) hblk HH.out hP3.1, merge_fin (by omega) (by omega) hb (permIn_refl _ _ _) (permIn_refl _ _ _) hP3 HZ.out hs3 HX.out⟩
            · obtain rfl : i = m := by omega
              obtain rfl : e = mid := by have := HEE.out; omega
              by_cases hid : i < e
              · have hM1 := ih a i e d wr (by omega) FW ham hid (by omega) q1 q2
                have HZ := Lib.hid q4
                clear FW q1 q2 q3 q4 qx
                go_wp2_with (refine hM1.mono ?_; clear hM1; rintro e' w2 ⟨rfl, d2, hS2, hP2, hs2⟩)
                go_end0
                exact ⟨rfl, d2, swk_of_alloc (swk_trans HS.out hS2 hb1 hP2.1) hblk HH.out hP2.1, merge_fin (by omega) (by omega) hb (permIn_refl _ _ _) hP2 (permIn_refl _ _ _) hs2 (sorted_other HZ.out hP2 (.inr (Nat.le_refl _))) HX.out⟩
              · obtain rfl : i = e := by omega
                have HZ := Lib.hid (And.intro q1 q4)
                clear FW q1 q2 q3 q4 qx
                go_wp2
                go_end0
                exact ⟨rfl, d, swk_of_alloc HS.out hblk HH.out rfl, merge_fin (by omega) (by omega) hb (permIn_refl _ _ _) (permIn_refl _ _ _) (permIn_refl _ _ _) HZ.out.1 HZ.out.2 HX.out⟩
    · have HC := Lib.hid (And.intro hc2 hc3)
      have hc1' : ¬ mid < m := by omega
      clear hc2 hc3
      go_wp2
      go_loopw [18, 19] (fun vi vj wr => ∃ (i j : Nat), vi = .int .i64 (i : Int) ∧ vj = .int .i64 (j : Int) ∧ s0 ≤ i ∧ i ≤ j ∧ j ≤ r0 ∧ SWK enc k (w.alloc (.cells #[.func (.func g) #[] lb, .func (.func sf) #[] sb] 75)) blk off d wr ∧
        (∀ c, s0 ≤ c → c < i → (!lt d[mid + m - 1 - c]! d[c]!) = true) ∧ (∀ c, j ≤ c → c < r0 → (!lt d[mid + m - 1 - c]! d[c]!) = false)) (fun vi vj _ => (intOf vj).toNat - (intOf vi).toNat)
      case atStart => exact ⟨s0, r0, by have := HC.out; first | rfl | (congr 1; omega), by have := HC.out; first | rfl | (congr 1; omega), Nat.le_refl _, by omega, Nat.le_refl _, SWK.start hH1, fun c h1 h2 => by omega, fun c h1 h2 => by omega⟩
      case round =>
        obtain ⟨i, j, rfl, rfl, hmi, hij, hjb, hS, hT, hFa⟩ := hrel
        have c0 := swk_cell hS hx0 (by show w.heap.size ≠ blk; omega)
        have c1 := swk_cell hS hx1 (by show w.heap.size ≠ blk; omega)
        by_cases hlt : i < j
        · obtain ⟨h, hh⟩ : ∃ h, h = (i + j) / 2 := ⟨_, rfl⟩
          obtain ⟨hsum, hsh⟩ := half_facts hh (by omega)
          have hhr : i ≤ h ∧ h < j := by omega
          have hr := HR.out h (by omega) (by omega)
          have hl := hl1 d wr rfl hS (mid + m - 1 - h) h (by omega) (by omega)
          rw [show ((mid + m - 1 - h : Nat) : Int) = (mid : Int) + m - 1 - h by omega] at hl
          have HT := Lib.hid hT; have HF2 := Lib.hid hFa; have HS := Lib.hid hS
          clear hT hFa hh hS
          cases hv : lt d[mid + m - 1 - h]! d[h]! with
          | false =>
            rw [hv] at hl
            have HV : Hid ((!lt d[mid + m - 1 - h]! d[h]!) = true) := Lib.hid (by rw [hv]; rfl)
            clear hv
            go_wp2_with (go_at_fn g; refine hl.mono ?_; rintro e w' ⟨rfl, hq⟩)
            go_roundw
            case rel => exact ⟨h + 1, j, by go_num, rfl, by omega, by omega, hjb, swk_trans HS.out hq hb1 rfl, HF0.out.up (by omega) HV.out, HF2.out⟩
            case measure => simp [intOf]; omega
          | true =>
            rw [hv] at hl
            have HV : Hid ((!lt d[mid + m - 1 - h]! d[h]!) = false) := Lib.hid (by rw [hv]; rfl)
            clear hv
            go_wp2_with (go_at_fn g; refine hl.mono ?_; rintro e w' ⟨rfl, hq⟩)
            go_roundw
            case rel => exact ⟨i, h, rfl, rfl, by omega, by omega, by omega, swk_trans HS.out hq hb1 rfl, HT.out, HF0.out.down (by omega) HV.out⟩
            case measure => simp [intOf]; omega
        · obtain rfl : i = j := by omega
          obtain ⟨e, he⟩ : ∃ e, e = mid + m - i := ⟨_, rfl⟩
          have hE : ∀ d1 : Array α, (∀ t, d1[t]! = rotG (fun t => d[t]!) i m e t) → SortedIn lt a i d1 ∧ SortedIn lt i mid d1 ∧ SortedIn lt mid e d1 ∧ SortedIn lt e b d1 ∧ ∀ x y, a ≤ x → x < mid → mid ≤ y → y < b → lt d1[y]! d1[x]! = false := by
            rw [he]; exact fun d1 hG => HE.out i hmi hjb hT hFa d1 hG
          have HE1 := Lib.hid hE
          have hei : (mid : Int) + (m : Int) - (i : Int) = (e : Int) := by omega
          have FW : Fam enc k lt g lb blk off d.size d wr := ⟨lessG_on hl1 hS hb1 rfl, hS.holds hb1 hH1 rfl, hS.lt hb1, rfl⟩
          have hro : a ≤ i ∧ i ≤ mid ∧ i ≤ m ∧ mid ≤ e ∧ m ≤ e ∧ e ≤ b := by omega
          have HEE := Lib.hid he
          have HS := Lib.hid hS
          clear hE hT hFa hij he hS hra hl1 hH1
          by_cases hrot : i < m ∧ i < mid
          · obtain ⟨him, hid⟩ := hrot
            have hme : m < e := by have := HEE.out; omega
            have hde : mid < e := by have := HEE.out; omega
            have hRo := rotate_ok enc k hk (.func g) #[] lb sf sb blk off i m e d wr hswap FW.holds FW.blt him hme (by omega) hsz
            have HFW := Lib.hid FW
            clear FW
            go_wp2_with fail
            refine hRo.mono ?_
            clear hRo
            rintro e' w1 ⟨rfl, d1, hS1, hP1, hG1⟩
            have F1 := HFW.out.on hS1 hP1.1
            obtain ⟨q1, q2, q3, q4, qx⟩ := HE1.out d1 hG1
            have HP : Hid (PermIn a b d d1) := Lib.hid (permIn_mono _ _ _ _ _ _ (by omega) (by omega) (by omega) hP1)
            have hS1' := swk_trans HS.out hS1 hb1 hP1.1
            have c01 := swk_cell hS1' hx0 (by show w.heap.size ≠ blk; omega)
            have c11 := swk_cell hS1' hx1 (by show w.heap.size ≠ blk; omega)
            have HX := Lib.hid qx
            clear hS1 hP1 hG1 c0 c1 qx
            by_cases hai : a < i
            · have hM1 := ih a i mid d1 w1 (by omega) F1 hai hid (by omega) q1 q2
              have HQ := Lib.hid (And.intro F1 (And.intro q3 q4))
              have HS1 := Lib.hid hS1'
              clear F1 q1 q2 q3 q4 hS1'
              go_wp2_with fail
              refine hM1.mono ?_
              clear hM1
              rintro e' w2 ⟨rfl, d2, hS2, hP2, hs2⟩
              have hS2' := swk_trans HS1.out hS2 hb1 hP2.1
              have F2 := HQ.out.1.on hS2 hP2.1
              have c02 := swk_cell hS2' hx0 (by show w.heap.size ≠ blk; omega)
              have c12 := swk_cell hS2' hx1 (by show w.heap.size ≠ blk; omega)
              have q3' := sorted_other HQ.out.2.1 hP2 (.inr (Nat.le_refl _))
              have q4' := sorted_other HQ.out.2.2 hP2 (.inr (by omega))
              by_cases heb : e < b
              · have hM2 := ih mid e b d2 w2 (by omega) F2 hde heb (by omega) q3' q4'
                have HZ := Lib.hid (And.intro hS2' (And.intro hP2 hs2))
                clear F2 q3' q4' hS2' hS2 hP2 hs2 c01 c11
                go_wp2_with (refine hM2.mono ?_; clear hM2; rintro e' w3 ⟨rfl, d3, hS3, hP3, hs3⟩)
                go_end0
                exact ⟨rfl, d3, swk_of_alloc (swk_trans HZ.out.1 hS3 hb1 hP3.1) hblk HH.out (by rw [hP3.1, HZ.out.2.1.1, HP.out.1]), merge_fin (by omega) (by omega) hb HP.out HZ.out.2.1 hP3 HZ.out.2.2 hs3 HX.out⟩
              · obtain rfl : e = b := by omega
                have HZ := Lib.hid (And.intro hS2' (And.intro hP2 (And.intro hs2 q3')))
                clear F2 q3' q4' hS2' hS2 hP2 hs2 c01 c11
                go_wp2
                go_end0
                exact ⟨rfl, d2, swk_of_alloc HZ.out.1 hblk HH.out (by rw [HZ.out.2.1.1, HP.out.1]), merge_fin (by omega) (by omega) hb HP.out HZ.out.2.1 (permIn_refl _ _ _) HZ.out.2.2.1 HZ.out.2.2.2 HX.out⟩
            · obtain rfl : a = i := by omega
              by_cases heb : e < b
              · have hM2 := ih mid e b d1 w1 (by omega) F1 hde heb (by omega) q3 q4
                have HZ := Lib.hid (And.intro hS1' q2)
                clear F1 q1 q2 q3 q4 hS1'
                go_wp2_with (refine hM2.mono ?_; clear hM2; rintro e' w3 ⟨rfl, d3, hS3, hP3, hs3⟩)
                go_end0
                exact ⟨rfl, d3, swk_of_alloc (swk_trans HZ.out.1 hS3 hb1 hP3.1) hblk HH.out (by rw [hP3.1, HP.out.1]), merge_fin (by omega) (by omega) hb HP.out (permIn_refl _ _ _) hP3 HZ.out.2 hs3 HX.out⟩
              · obtain rfl : e = b := by omega
                have HZ := Lib.hid (And.intro hS1' (And.intro q2 q3))
                clear F1 q1 q2 q3 q4 hS1'
                go_wp2
                go_end0
                exact ⟨rfl, d1, swk_of_alloc HZ.out.1 hblk HH.out HP.out.1, merge_fin (by omega) (by omega) hb HP.out (permIn_refl _ _ _) (permIn_refl _ _ _) HZ.out.2.1 HZ.out.2.2 HX.out⟩
          · obtain ⟨q1, q2, q3, q4, qx⟩ := HE1.out d (fun t => rot_none (fun t => d[t]!) i m e t (by have := HEE.out; omega) hro.2.2.1 hro.2.2.2.2.1)
            have HX := Lib.hid qx
            by_cases him : i < m
            · obtain rfl : i = mid := by omega
              obtain rfl : e = m := by have := HEE.out; omega
              have hM2 := ih i e b d wr (by omega) FW (by omega) hmb (by omega) q3 q4
              have HZ := Lib.hid q1
              clear FW q1 q2 q3 q4 qx
              go_wp2_with (refine hM2.mono ?_; clear hM2; rintro e' w3 ⟨rfl, d3, hS3, hP3, hs3⟩)
              go_end0
              exact ⟨rfl, d3, swk_of_alloc (swk_trans HS.out hS3 hb1 hP3.1) hblk HH.out hP3.1, merge_fin (by omega) (by omega) hb (permIn_refl _ _ _) (permIn_refl _ _ _) hP3 HZ.out hs3 HX.out⟩
            · obtain rfl : i = m := by omega
              obtain rfl : e = mid := by have := HEE.out; omega
              by_cases hid : i < e
              · have hM1 := ih a i e d wr (by omega) FW ham hid (by omega) q1 q2
                have HZ := Lib.hid q4
                clear FW q1 q2 q3 q4 qx
                go_wp2_with (refine hM1.mono ?_; clear hM1; rintro e' w2 ⟨rfl, d2, hS2, hP2, hs2⟩)
                go_end0
                exact ⟨rfl, d2, swk_of_alloc (swk_trans HS.out hS2 hb1 hP2.1) hblk HH.out hP2.1, merge_fin (by omega) (by omega) hb (permIn_refl _ _ _) hP2 (permIn_refl _ _ _) hs2 (sorted_other HZ.out hP2 (.inr (Nat.le_refl _))) HX.out⟩
              · obtain rfl : i = e := by omega
                have HZ := Lib.hid (And.intro q1 q4)
                clear FW q1 q2 q3 q4 qx
                go_wp2
                go_end0
                exact ⟨rfl, d, swk_of_alloc HS.out hblk HH.out rfl, merge_fin (by omega) (by omega) hb (permIn_refl _ _ _) (permIn_refl _ _ _) (permIn_refl _ _ _) HZ.out.1 HZ.out.2 HX.out⟩
end Go.Proofs.YtnhhhjnhmbhdgaaGreatDoor
