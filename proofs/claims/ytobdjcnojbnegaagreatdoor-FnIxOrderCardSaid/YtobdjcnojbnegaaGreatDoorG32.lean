import Derived.Test.YtobdjcnojbnegaaGreatDoorG16
import Derived.Test.YtobdjcnojbnegaaGreatDoorG07
import Derived.Test.YtobdjcnojbnegaaGreatDoorG03
import Derived.Sort.LotA
import Derived.RegionTactic
import Derived.Test.YtobdjcnojbnegaaGreatDoorG31
import Derived.Test.YtobdjcnojbnegaaGreatDoorG30
import Derived.Test.YtobdjcnojbnegaaGreatDoorG11
import Derived.Deep.CutBlock
import Derived.Deep.DeepCutAuto
import Derived.Deep.RegionLaw
/- spec.Once; slices of entries; entries in another order. -/
namespace Go.Proofs.YtobdjcnojbnegaaGreatDoor
open Go.RowKit
set_option linter.unusedVariables false
set_option linter.unusedSimpArgs false
attribute [local go_sem] setCell_drewN alloc_drewN

theorem ent_size (W : World) : (sizeOf 40).run Tryz.prog W = .ok 5 W := by simp [sizeOf, typeInfo]; kernel_rfl
/-- 'l[:hi]' of entries. -/
theorem ent_cut_h (g o hi n c : Nat) (hh : hi ≤ n) (hn : n ≤ c) (x : Int) (hx : x = hi) (W : World) :
    (Instr.slice 22 (.slice (some ⟨g, o, none⟩) n c) none (some (.int .i64 x)) none).run Tryz.prog W = .ok (.slice (some ⟨g, o, none⟩) hi c) W := by
  subst hx
  have hel : Tryz.prog.elem 22 = 40 := by kernel_rfl
  rw [run_slice_h W 22 (some ⟨g, o, none⟩) n c (by rw [hel]; exact Tryz.underlying22) .i64 (hi : Int) (Int.natCast_nonneg _) (by omega), hel, ent_size]
  simp only [Result.andThen, sliced, Int.toNat_natCast, Nat.zero_mul, Option.map_some, Addr.add_mid, Nat.add_zero, Nat.sub_zero, ite_self]
/-- 'l[lo:]' of entries. -/
theorem ent_cut_l (g o lo n c : Nat) (hlo : lo ≤ n) (hn : n ≤ c) (hne : lo < c) (x : Int) (hx : x = lo) (W : World) :
    (Instr.slice 22 (.slice (some ⟨g, o, none⟩) n c) (some (.int .i64 x)) none none).run Tryz.prog W = .ok (.slice (some ⟨g, o + lo * 5, none⟩) (n - lo) (c - lo)) W := by
  subst hx
  have hel : Tryz.prog.elem 22 = 40 := by kernel_rfl
  rw [run_slice_l W 22 (some ⟨g, o, none⟩) n c (by rw [hel]; exact Tryz.underlying22) .i64 (lo : Int) (Int.natCast_nonneg _) (by omega), hel, ent_size]
  have hne' : ¬ c = lo := by omega
  simp only [Result.andThen, sliced, Int.toNat_natCast, Option.map_some]
  simp only [hne', if_false, Addr.add_mid]

/-- Two entries are not one to an index of a kind. -/
def NS (kind : Nat) (y x : CidOf × Int) : Prop := ¬ (x.1.dig = y.1.dig ∧ (kind = 1024 ∨ x.1.code = y.1.code))

set_option maxRecDepth 100000 in
set_option maxHeartbeats 6400000 in
theorem Once_ok (l : List (CidOf × Int)) (A : Option Addr) (cap kind : Nat) (w : World) (hR : RowsAt w A l) (hlen : l.length ≤ 1000000) (hcap : l.length ≤ cap) :
    Calls Tryz.prog 16 #[.slice A l.length cap, .int .u64 (kind : Int)] w fun e w' => (e = .returned (.bool false) ∨ (e = .returned (.bool true) ∧ l.Pairwise (NS kind))) ∧ Below w.heap.size w w' := by
  have HR := Lib.hid hR
  clear hR
  go_enter Tryz.func16, Tryz.ntmps16
  go_wp2_with fail
  go_loopw [11] (fun vi wr => ∃ k : Nat, k ≤ l.length ∧ vi = .int .i64 (k : Int) ∧ (l.take k).Pairwise (NS kind) ∧ Below w.heap.size w wr) (fun vi _ => l.length - (intOf vi).toNat)
  case atStart => exact ⟨0, Nat.zero_le _, rfl, by simp, Below.refl _ _⟩
  case round =>
    obtain ⟨k, hk, rfl, hPw, hB⟩ := hrel
    by_cases hlt : k < l.length
    · obtain ⟨x, hx⟩ : ∃ x, l[k]? = some x := ⟨_, List.getElem?_eq_getElem hlt⟩
      obtain ⟨g0, o, rfl, hg0, c0, c1, c2, c3, c4⟩ := HR.out.row hB hx
      have hgl : g0 < wr.heap.size := by have := hB.size; omega
      have hcut := fun W => ent_cut_h g0 o k l.length cap hk hcap (k : Int) rfl W
      have htk : l.take (k + 1) = l.take k ++ [x] := by rw [List.take_succ_eq_append_getElem hlt, (List.getElem?_eq_some_iff.1 hx).2]
      have HTK := Lib.hid htk
      obtain ⟨wo, rfl⟩ : ∃ wo, wo = wr := ⟨_, rfl⟩
      have HB := Lib.hid (And.intro hPw hB)
      clear hPw hB htk
      go_wp2_with fail
      have hbx := heap_alloc_last wo (.cells #[.int .u64 x.1.ver, .int .u64 x.1.codec, .int .u64 x.1.code, .string (sOf x.1.dig), .int .u64 x.2] 40)
      obtain ⟨wb, hwb⟩ : ∃ wb, wb = wo.alloc (.cells #[.int .u64 x.1.ver, .int .u64 x.1.codec, .int .u64 x.1.code, .string (sOf x.1.dig), .int .u64 x.2] 40) := ⟨_, rfl⟩
      have hbb : Below w.heap.size w wb := by rw [hwb]; exact below_box HB.out.2 _
      rw [← hwb] at hbx ⊢
      have hzb : wo.heap.size < wb.heap.size := (Array.getElem?_eq_some_iff.1 hbx).1
      have HBX := Lib.hid (And.intro hbx hbb)
      clear hwb hbx hbb c0 c1 c2 c3 c4
      go_loopw [20] (fun vj wr => ∃ j : Nat, j ≤ k ∧ vj = .int .i64 (j : Int) ∧ (∀ y ∈ l.take j, NS kind y x) ∧ Below wb.heap.size wb wr) (fun vj _ => k - (intOf vj).toNat)
      case atStart => exact ⟨0, Nat.zero_le _, rfl, by simp, Below.refl _ _⟩
      case round =>
        obtain ⟨j, hj, rfl, hAll, hBj⟩ := hrel
        have hBw : Below w.heap.size w wr := HBX.out.2.trans (hBj.mono HBX.out.2.size)
        by_cases hjk : j < k
        · obtain ⟨y, hy⟩ : ∃ y, l[j]? = some y := ⟨_, List.getElem?_eq_getElem (by omega)⟩
          obtain ⟨g1, o1, e1, hg1, d0, d1, d2, d3, d4⟩ := HR.out.row hBw hy
          cases e1
          have hbr := (hBj.block _ hzb).trans HBX.out.1
          have hbl := (Array.getElem?_eq_some_iff.1 hbr).1
          have m2 := (blk_cell' hbr 2).trans (show _ = some (Value.int .u64 x.1.code) from rfl)
          have m3 := (blk_cell' hbr 3).trans (show _ = some (Value.string (sOf x.1.dig)) from rfl)
          have hbn : Below wb.heap.size wb (wr.alloc (.cells #[.int .u64 y.1.ver, .int .u64 y.1.codec, .int .u64 y.1.code, .string (sOf y.1.dig), .int .u64 y.2] 40)) := below_box hBj _
          have hbw : Below w.heap.size w (wr.alloc (.cells #[.int .u64 y.1.ver, .int .u64 y.1.codec, .int .u64 y.1.code, .string (sOf y.1.dig), .int .u64 y.2] 40)) := below_box hBw _
          have htj : l.take (j + 1) = l.take j ++ [y] := by rw [List.take_succ_eq_append_getElem (by omega), (List.getElem?_eq_some_iff.1 hy).2]
          have HTJ := Lib.hid htj
          have HN := Lib.hid (And.intro hAll (And.intro hbn hbw))
          have hgl2 : g0 < wr.heap.size := by have := hBw.size; omega
          clear hAll hBj hBw htj hbn hbw hbr hy
          by_cases hd : x.1.dig = y.1.dig
          · have hdb : ((sOf x.1.dig).toList == (sOf y.1.dig).toList) = true := by rw [hd]; simp
            by_cases hkd : kind = 1024
            · have hkb : ((kind : Int) == 1024) = true := by simp; omega
              go_wp2_with fail
              go_ret
              exact ⟨.inl rfl, HN.out.2.2⟩
            · have hkb : ((kind : Int) == 1024) = false := by simp; omega
              by_cases hc : x.1.code = y.1.code
              · have hcb : ((x.1.code : Int) == (y.1.code : Int)) = true := by simp; omega
                go_wp2_with fail
                go_ret
                exact ⟨.inl rfl, HN.out.2.2⟩
              · have hcb : ((x.1.code : Int) == (y.1.code : Int)) = false := by simp; omega
                have HNS : Hid (NS kind y x) := Lib.hid (fun h => h.2.elim hkd hc)
                go_wp2_with fail
                go_roundw
                case rel => exact ⟨j + 1, by omega, by go_num, fun z hz => by
                  rw [HTJ.out] at hz
                  rcases List.mem_append.1 hz with hz | hz
                  · exact HN.out.1 z hz
                  · rw [List.mem_singleton] at hz; subst hz; exact HNS.out, HN.out.2.1⟩
                case measure => simp [intOf]; omega
          · have hdb : ((sOf x.1.dig).toList == (sOf y.1.dig).toList) = false := by simpa [show ∀ l : List UInt8, (sOf l).toList = l from fun l => ByteArray.toList_mk l] using hd
            have HNS : Hid (NS kind y x) := Lib.hid (fun h => hd h.1)
            go_wp2_with fail
            go_roundw
            case rel => exact ⟨j + 1, by omega, by go_num, fun z hz => by
              rw [HTJ.out] at hz
              rcases List.mem_append.1 hz with hz | hz
              · exact HN.out.1 z hz
              · rw [List.mem_singleton] at hz; subst hz; exact HNS.out, HN.out.2.1⟩
            case measure => simp [intOf]; omega
        · obtain rfl : j = k := by omega
          have hPn : (l.take (j + 1)).Pairwise (NS kind) := by
            rw [HTK.out, List.pairwise_append]
            exact ⟨HB.out.1, by simp, fun y hy z hz => by rw [List.mem_singleton] at hz; subst hz; exact hAll y hy⟩
          have HP := Lib.hid (And.intro hPn hBw)
          clear hAll hBj hBw hPn
          go_wp2_with fail
          go_roundw
          case rel => exact ⟨j + 1, by omega, by go_num, HP.out.1, HP.out.2⟩
          case measure => simp [intOf]; omega
    · obtain rfl : k = l.length := by omega
      rw [List.take_length] at hPw
      have HP := Lib.hid (And.intro hPw hB)
      clear hPw hB
      go_wp2_with fail
      go_ret
      exact ⟨.inr ⟨rfl, HP.out.1⟩, HP.out.2⟩

/-- 'append' to a row of the call's own, in a region that draws. -/
theorem step_append_own {P : Program} {w : World} {ops : Array Oper} {o : Oper} {a : Act} {K : Act → World → Prop} {Q : Exit → Act → World → Prop} {E : Prop} (hgd : o.guard = none) (s x : Operand) (t : TypeId)
    (ho : o.op = .call { callee := .builtin .append, args := #[s, x], argTypes := #[t, t] })
    (base : Nat) (e : TypeId) (i : TypeInfo) (z : Value) (size bytes : Nat) (ht : P.underlying t = some (.slice e)) (hi : P.info? e = some i) (hz : i.zero = some z)
    (hsize : i.size = size) (hby : i.bytes = bytes) (hzs : z.cells.size = size) (hsz : 0 < size)
    (v : Value) (n : Nat) (xs : List Value) (hs : a.eval s = v) (hown : w.ownsRow base e size v n xs)
    (ad : Addr) (m c : Nat) (news : List Value) (hx : a.eval x = .slice (some ad) m c) (hl : news.length = m * size) (hnews : ∀ j u, news[j]? = some u → w.cell? (ad.add j) = some u) (h1 : ∀ u ∈ news, u.oneCell' = true)
    (h63 : n + m ≤ maxLen) (hbytes : (n + m) * bytes ≤ 140737488355328) (hbase : base ≤ w.heap.size)
    (h : ∀ v' w', w'.ownsRow base e size v' (n + m) (xs ++ news) → w.grownBy w' v.ownBlock → (v' = .slice none 0 0 ↔ v = .slice none 0 0 ∧ m = 0) → K (a.put o.dst v') w') :
    if Region.wanted o (yielded ops a.tmps) = true then Oper.wp P o a w K Q else E := by
  have hw : Region.wanted o (yielded ops a.tmps) = true := by simp [Region.wanted, hgd]
  rw [if_pos hw]
  exact wp_append_own w s x t ho base e i z size bytes ht hi hz hsize hby hzs hsz v n xs hs hown ad m c news hx hl hnews h1 h63 hbytes hbase h

/-! ### Rows of entries that are turned -/
theorem splice_get {α : Type} (cur vs : List α) (o q : Nat) (h : o + vs.length ≤ cur.length) : (splice cur o vs)[q]? = if o ≤ q ∧ q < o + vs.length then vs[q - o]? else cur[q]? := by
  have hl : (cur.take o).length = o := by rw [List.length_take]; omega
  unfold splice
  rcases Nat.lt_or_ge q o with h1 | h1
  · rw [List.getElem?_append_left (by omega), List.getElem?_take_of_lt h1, if_neg (by omega)]
  · rw [List.getElem?_append_right (by omega), hl]
    rcases Nat.lt_or_ge (q - o) vs.length with h2 | h2
    · rw [List.getElem?_append_left h2, if_pos (by omega)]
    · rw [List.getElem?_append_right h2, List.getElem?_drop, if_neg (by omega), show o + vs.length + (q - o - vs.length) = q by omega]
/-- n entries d at the beginning of block g. -/
def EntRowW (W : World) (g n : Nat) (d : Array (CidOf × Int)) : Prop :=
  ∃ cur : List Value, W.heap[g]? = some (.cells cur.toArray 40 (0, 0)) ∧ n * 5 ≤ cur.length ∧ ∀ t, t < n → ∀ r u, (EntCells d[t]!)[r]? = some u → cur[t * 5 + r]? = some u
theorem EntRowW.cells {W : World} {g n : Nat} {d : Array (CidOf × Int)} (h : EntRowW W g n d) {t : Nat} (ht : t < n) : ∀ r u, (EntCells d[t]!)[r]? = some u → W.cell? ⟨g, t * 5 + r, none⟩ = some u := by
  obtain ⟨cur, hg, hl, hc⟩ := h
  intro r u hr
  rw [blk_cell' hg]
  simpa using hc t ht r u hr
theorem EntRowW.rows {W : World} {g n : Nat} {d : Array (CidOf × Int)} (h : EntRowW W g n d) (hd : d.size = n) : RowsAt W (some ⟨g, 0, none⟩) d.toList := by
  refine .inr ⟨g, 0, rfl, fun i x hi r u hr => ?_⟩
  have hil : i < n := by have := (List.getElem?_eq_some_iff.1 hi).1; simpa [hd] using this
  have hx : d[i]! = x := by
    rw [getElem!_pos d i (by omega)]
    simpa [hd, hil] using hi
  rw [Nat.zero_add]
  exact h.cells hil r u (by rw [hx]; exact hr)
theorem EntRowW.swap {W : World} {g n i j : Nat} {d : Array (CidOf × Int)} (h : EntRowW W g n d) (hd : d.size = n) (hi : i < n) (hj : j < n) (hij : i ≠ j) :
    EntRowW ((W.setCells g (i * 5) (EntCells d[j]!)).setCells g (j * 5) (EntCells d[i]!)) g n (Sort.swp d i j) ∧ Kp (fun x => x = g) W ((W.setCells g (i * 5) (EntCells d[j]!)).setCells g (j * 5) (EntCells d[i]!)) := by
  obtain ⟨cur, hg, hl, hc⟩ := h
  have h5 : ∀ x : CidOf × Int, (EntCells x).length = 5 := fun _ => rfl
  have hi5 : i * 5 + 5 ≤ n * 5 := by omega
  have hj5 : j * 5 + 5 ≤ n * 5 := by omega
  have h1 := heap_setCells g 40 (EntCells d[j]!) (i * 5) cur W hg (by rw [h5]; omega)
  have hl1 : (splice cur (i * 5) (EntCells d[j]!)).length = cur.length := by simp only [splice, List.length_append, List.length_take, List.length_drop, h5]; omega
  have h2 := heap_setCells g 40 (EntCells d[i]!) (j * 5) _ _ h1 (by rw [h5, hl1]; omega)
  refine ⟨⟨_, h2, by simp only [splice, List.length_append, List.length_take, List.length_drop, h5] at hl1 ⊢; omega, fun t ht r u hr => ?_⟩, (kp_setCells g _ _ _).trans (kp_setCells g _ _ _) (fun _ h => .inl h)⟩
  have hr5 : r < 5 := by have := (List.getElem?_eq_some_iff.1 hr).1; rwa [h5] at this
  rw [Sort.swp_get d (by omega) (by omega)] at hr
  rw [splice_get _ _ _ _ (by rw [h5, hl1]; omega), splice_get _ _ _ _ (by rw [h5]; omega), h5, h5]
  by_cases htj : t = j
  · subst htj
    rw [if_pos rfl] at hr
    rw [if_pos (by omega), show t * 5 + r - t * 5 = r by omega]
    exact hr
  · rw [if_neg htj] at hr
    rw [if_neg (by omega)]
    by_cases hti : t = i
    · subst hti
      rw [if_pos rfl] at hr
      rw [if_pos (by omega), show t * 5 + r - t * 5 = r by omega]
      exact hr
    · rw [if_neg hti] at hr
      rw [if_neg (by omega)]
      exact hc t ht r u hr
theorem EntRowW.of_own {W : World} {z g n cap : Nat} {l : List (CidOf × Int)} (h : W.ownsRow z 40 5 (.slice (some ⟨g, 0, none⟩) n cap) n (entRow l)) (hn : l.length = n) : EntRowW W g n l.toArray ∧ n ≤ cap := by
  rcases h.2 with ⟨e, _⟩ | ⟨g', cap', cur, e, hb, hg, hnc, hc, hs, ht⟩
  · cases e
  · cases e
    refine ⟨⟨cur.toList, by simpa using hg, by rw [Array.length_toList, hs]; exact Nat.mul_le_mul_right _ hnc, fun t htn r u hr => ?_⟩, hnc⟩
    rw [List.getElem!_toArray, getElem!_pos l t (by omega)] at hr
    have h1 := entRow_get (l := l) (i := t) (List.getElem?_eq_getElem (by omega)) hr
    rw [← ht, List.getElem?_take] at h1
    split at h1
    · exact h1
    · cases h1
theorem perm_swp {α : Type} [Inhabited α] (d : Array α) (i j : Nat) (hi : i < d.size) (hj : j < d.size) : (Sort.swp d i j).toList.Perm d.toList := by
  have h := Sort.swp_permIn d 0 d.size i j (Nat.zero_le _) hi (Nat.zero_le _) hj (Nat.le_refl _)
  have h1 := h.2.2
  have h2 := h.1
  rw [Array.extract_size] at h1
  rwa [show (Sort.swp d i j).extract 0 d.size = Sort.swp d i j by rw [← h2, Array.extract_size]] at h1
end Go.Proofs.YtobdjcnojbnegaaGreatDoor

/- FnIxOrder: the walk. -/
namespace Go.Proofs.YtobdjcnojbnegaaGreatDoor
open Go.RowKit
set_option linter.unusedVariables false
set_option linter.unusedSimpArgs false
attribute [local go_sem] setCell_drewN alloc_drewN

theorem EntRowW.drew {W : World} {g n : Nat} {d : Array (CidOf × Int)} (h : EntRowW W g n d) : EntRowW W.drew g n d := h

/-- What an index of entries is. -/
def IxP (kind : Nat) (l : Ents) (s : ByteArray) : Prop :=
  (kind = 1024 ∧ ∃ secs, SecsFor l secs ∧ s = sOf (Lib.uvarint 1024 ++ mwBytes (sortedSecs secs))) ∨ (kind = 1025 ∧ ∃ cs, CodsFor l cs ∧ s = sOf (Lib.uvarint 1025 ++ mhBytes (sortedCods cs)))
theorem IxP.same {kind : Nat} {l m : Ents} {s t : ByteArray} (hp : l.Perm m) (ho : l.Pairwise (NS kind)) (h1 : IxP kind l s) (h2 : IxP kind m t) : t = s := by
  rcases h1 with ⟨rfl, a, ha, rfl⟩ | ⟨rfl, a, ha, rfl⟩
  · rcases h2 with ⟨_, b, hb, rfl⟩ | ⟨h, _⟩
    · have hO : OnceD l := ho.imp fun {x y} h e => h ⟨e.symm, .inl rfl⟩
      rw [SecsFor.same hp hO ha hb]
    · omega
  · rcases h2 with ⟨h, _⟩ | ⟨_, b, hb, rfl⟩
    · omega
    · have hO : OnceC l := ho.imp fun {x y} h e => h ⟨e.1.symm, .inr e.2.symm⟩
      rw [CodsFor.same hp hO ha hb]
theorem IxBytes_any (kind : Nat) (hk : kind = 1024 ∨ kind = 1025) (l : Ents) (hl : ∀ x ∈ l, x.1.Ok) (ho : ∀ x ∈ l, 0 ≤ x.2 ∧ x.2 < 18446744073709551616) (hlen : l.length ≤ 100) (A : Option Addr) (cap : Nat) (w : World) (hR : RowsAt w A l) :
    Calls Tryz.prog 10 #[.slice A l.length cap, .int .u64 (kind : Int)] w fun e w' => (∃ s, e = .returned (.tuple #[.string s, .bool true]) ∧ IxP kind l s) ∧ Below w.heap.size w w' := by
  rcases hk with rfl | rfl
  · exact (IxBytes_srt l hl ho hlen A cap w hR).mono fun e w' ⟨⟨s, h1, h2⟩, h3⟩ => ⟨⟨s, h1, .inl ⟨rfl, h2⟩⟩, h3⟩
  · exact (IxBytes_mh l hl ho hlen A cap w hR).mono fun e w' ⟨⟨s, h1, h2⟩, h3⟩ => ⟨⟨s, h1, .inr ⟨rfl, h2⟩⟩, h3⟩
theorem ixOne_any (kind : Nat) (hk : kind = 1024 ∨ kind = 1025) (p : Addr) (w : World) (hg5 : 0 < w.heap.size) (he : w.cell? ⟨0, 0, none⟩ = some (.iface 168 (.pointer (some p)))) :
    Calls Tryz.prog 15 #[.int .u64 (kind : Int)] w fun e w' => e = .returned (.bool true) ∧ Below w.heap.size w w' := by
  rcases hk with rfl | rfl
  · exact ixOne_sorted p w hg5 he
  · exact ixOne_mh p w hg5 he

set_option maxRecDepth 100000 in
set_option maxHeartbeats 12800000 in
theorem FnIxOrder_ok (l : Ents) (A : Option Addr) (cap kind t : Nat) (w : World) (ht : t < 256) (hR : RowsAt w A l) (hlen : l.length ≤ 9223372036854775807) (hcap : l.length ≤ cap) (hoff : ∀ x ∈ l, 0 ≤ x.2 ∧ x.2 < 18446744073709551616)
    (p : Addr) (hg5 : 0 < w.heap.size) (he : w.cell? ⟨0, 0, none⟩ = some (.iface 168 (.pointer (some p)))) :
    Calls Tryz.prog 4 #[.slice A l.length cap, .int .u64 (kind : Int), .int .u8 (t : Int)] w fun e w' => e = .returned (.bool true) ∧ Below w.heap.size w w' := by
  have hep : ∀ W, Below w.heap.size w W → 0 < W.heap.size ∧ W.cell? ⟨0, 0, none⟩ = some (.iface 168 (.pointer (some p))) := fun W hW => ⟨by have := hW.size; omega, (hW.cell (p := ⟨0, 0, none⟩) hg5).trans he⟩
  have h7 := zzFits7_ok l A cap w hR hlen hcap
  have hGd := fun W (hW : Below w.heap.size w W) => ixGood_ok l A cap kind W (hR.below hW) hlen hcap
  have HR := Lib.hid hR; have HGd := Lib.hid hGd; have HEp := Lib.hid hep; have HOff := Lib.hid hoff
  clear hGd he hg5 hR hoff hep
  go_enter Tryz.func4, Tryz.ntmps4
  go_wp2_with fail
  refine h7.mono ?_
  clear h7
  rintro e w1 ⟨b7, rfl, hb1⟩
  cases b7 with
  | false =>
    go_wp2_with fail
    go_ret
    exact ⟨rfl, hb1⟩
  | true =>
    have hG1 := HGd.out w1 hb1
    have HB1 := Lib.hid hb1
    clear hb1
    go_wp2_with fail
    refine hG1.mono ?_
    clear hG1
    rintro e w2 ⟨hbr, hb2⟩
    have HB2 := Lib.hid (below_next HB1.out hb2)
    clear hb2
    rcases hbr with rfl | ⟨rfl, hG⟩
    · go_wp2_with fail
      go_ret
      exact ⟨rfl, HB2.out⟩
    · have hOn := Once_ok l A cap kind w2 (HR.out.below HB2.out) (by have : l.length ≤ 100 := hG.1; omega) hcap
      have hl100 : l.length ≤ 100 := hG.1
      have HG := Lib.hid hG
      clear hG
      go_wp2_with fail
      refine hOn.mono ?_
      clear hOn
      rintro e w3 ⟨hbo, hb3⟩
      have HB3 := Lib.hid (below_next HB2.out hb3)
      clear hb3
      rcases hbo with rfl | ⟨rfl, hPw⟩
      · go_wp2_with fail
        go_ret
        exact ⟨rfl, HB3.out⟩
      · have HPW := Lib.hid hPw
        clear hPw
        by_cases h0 : l.length = 0
        · have h0b : ((l.length : Int) == 0) = true := beq_iff_eq.2 (by omega)
          go_wp2_with fail
          go_ret
          exact ⟨rfl, HB3.out⟩
        · have h0b : ((l.length : Int) == 0) = false := beq_eq_false_iff_ne.2 (by omega)
          obtain ⟨K, hKd⟩ : ∃ K, K = t % l.length := ⟨_, rfl⟩
          have hKl : K < l.length := by rw [hKd]; exact Nat.mod_lt _ (by omega)
          have hK2 : (t : Int) % (l.length : Int) = (K : Int) := by rw [hKd]; exact (Int.natCast_emod t l.length).symm
          have hK1 : (t : Int).tmod (l.length : Int) = (K : Int) := by rw [Int.tmod_eq_emod_of_nonneg (Int.natCast_nonneg _)]; exact hK2
          obtain ⟨g0, o, rfl, hcs⟩ : ∃ g o, A = some ⟨g, o, none⟩ ∧ ∀ i x, l[i]? = some x → ∀ j v, (EntCells x)[j]? = some v → w.cell? ⟨g, o + i * 5 + j, none⟩ = some v := by
            rcases HR.out with h | h
            · subst h; simp at h0
            · exact h
          have hcut1 := fun W => ent_cut_l g0 o K l.length cap (by omega) hcap (by omega) (K : Int) rfl W
          have hcut2 := fun W => ent_cut_h g0 o K l.length cap (by omega) hcap (K : Int) rfl W
          have hCS := Lib.hid hcs
          obtain ⟨i0, ui, uz0, uz1, uz2⟩ := info_parts entInfo0
          clear hKd hcs
          go_wp2_with fail
          have hown0 : ((w3.alloc (.cells #[] 40)).drew).ownsRow w3.heap.size 40 5 (.slice (some ⟨w3.heap.size, 0, none⟩) 0 0) 0 [] := World.ownsRow_made w3 #[] 0 (Nat.le_refl _) (Nat.zero_le _) rfl
          have hB3d : Below w.heap.size w (w3.alloc (.cells #[] 40)).drew := below_drew1 (below_box HB3.out _)
          have hz3 := HB3.out.size
          have hone : ∀ m : Ents, ∀ u ∈ entRow m, u.oneCell' = true := fun m u hu => by
            obtain ⟨x, _, hx⟩ := List.mem_flatMap.1 hu
            exact ent_one x u hx
          have hN1 : ∀ j u, (entRow (l.drop K))[j]? = some u → ((w3.alloc (.cells #[] 40)).drew).cell? ((⟨g0, o + K * 5, none⟩ : Addr).add j) = some u := entRow_news fun i x hx j v hj => by
            rw [List.getElem?_drop] at hx
            have h := hCS.out (K + i) x hx j v hj
            rw [show o + K * 5 + i * 5 + j = o + (K + i) * 5 + j by omega]
            exact (hB3d.cell (World.block_lt_of_cell? w _ h)).trans h
          have hN2 : ∀ W, Below w.heap.size w W → ∀ j u, (entRow (l.take K))[j]? = some u → W.cell? ((⟨g0, o, none⟩ : Addr).add j) = some u := fun W hW => entRow_news fun i x hx j v hj => by
            rw [List.getElem?_take] at hx
            split at hx
            · have h := hCS.out i x hx j v hj
              exact (hW.cell (World.block_lt_of_cell? w _ h)).trans h
            · cases hx
          have hG4 : ∀ w4, World.grownBy (w3.alloc (.cells #[] 40)).drew w4 (some w3.heap.size) → Below w.heap.size w w4 ∧ w3.heap.size ≤ w4.heap.size := fun w4 hg => ⟨(kp_grown hg).to_below hB3d (fun i e => by cases e; exact hz3), by have := hg.size; simp at this; omega⟩
          have hl1 : (entRow (l.drop K)).length = (l.length - K) * 5 := by rw [entRow_len, List.length_drop]
          have hl2 : (entRow (l.take K)).length = K * 5 := by rw [entRow_len, List.length_take, Nat.min_eq_left (by omega)]
          have hrow : entRow (l.drop K) ++ entRow (l.take K) = entRow (l.drop K ++ l.take K) := by rw [entRow, entRow, entRow, List.flatMap_append]
          have hHN2 := Lib.hid hN2
          have HG4 := Lib.hid hG4
          clear hN2 hG4
          go_region_law (first | (refine step_append_own rfl (.tmp 38) (.tmp 41) 22 rfl w3.heap.size 40 i0 (.agg #[.int .u64 0, .int .u64 0, .int .u64 0, .string ⟨#[]⟩, .int .u64 0]) 5 48 Tryz.underlying22 ui uz0 uz1 uz2 rfl (by decide) _ _ _ rfl hown0 ⟨g0, o + K * 5, none⟩ (l.length - K) (cap - K) (entRow (l.drop K)) rfl hl1 hN1 (hone _) (by unfold maxLen; omega) (by omega) (by simp) ?_; intro v4 w4 hown4 hgrow4 hnn4; obtain ⟨hB4, hz4⟩ := HG4.out w4 hgrow4; have hN2 := hHN2.out w4 hB4) | (refine step_append_own rfl (.tmp 42) (.tmp 45) 22 rfl w3.heap.size 40 i0 (.agg #[.int .u64 0, .int .u64 0, .int .u64 0, .string ⟨#[]⟩, .int .u64 0]) 5 48 Tryz.underlying22 ui uz0 uz1 uz2 rfl (by decide) _ _ _ rfl hown4 ⟨g0, o, none⟩ K cap (entRow (l.take K)) rfl hl2 hN2 (hone _) (by unfold maxLen; omega) (by omega) hz4 ?_; intro v5 w5 hown5 hgrow5 hnn5))
          have hB5 : Below w.heap.size w w5 := (kp_grown hgrow5).to_below hB4 (fun i e => by have := (World.ownsRow.lt hown4 i e.symm).1; omega)
          obtain ⟨other, hother⟩ : ∃ other, other = l.drop K ++ l.take K := ⟨_, rfl⟩
          have hown6 : w5.ownsRow w3.heap.size 40 5 v5 l.length (entRow other) := by
            have h := hown5
            rw [show 0 + (l.length - K) + K = l.length by omega, List.nil_append, hrow, ← hother] at h
            exact h
          have hol : other.length = l.length := by rw [hother, List.length_append, List.length_drop, List.length_take]; omega
          have hop : other.Perm l := by
            rw [hother]
            exact List.perm_append_comm.trans (.of_eq (List.take_append_drop K l))
          obtain ⟨g2, c2, rfl, hg2, hg2l⟩ := hown6.form (by omega)
          have hg2w : w.heap.size ≤ g2 := by have := HB3.out.size; omega
          obtain ⟨hE, hc2⟩ := EntRowW.of_own hown6 hol
          have HE := Lib.hid (And.intro hE (And.intro hop (And.intro hB5 hol)))
          obtain ⟨r, hr⟩ : ∃ r, r = t % 2 := ⟨_, rfl⟩
          have hm2 : (t : Int) % 2 = (r : Int) := by omega
          have hm1 : (t : Int).tmod 2 = (r : Int) := by rw [Int.tmod_eq_emod_of_nonneg (Int.natCast_nonneg _)]; exact hm2
          have hr2 : r < 2 := by omega
          clear hr hE hop hol hB5 hother hown6 hown5 hgrow5 hnn5 hown4 hgrow4 hnn4 hN2 hB4 hz4 hown0 hB3d hz3 hN1 hl1 hl2 hrow hone hHN2 HG4 hCS hcut1 hcut2 hK1 hK2 ui uz0 uz1 uz2
          go_upto_if 49 with fail
          go_cut [9, 10] (fun s9 s10 wx => ∃ d : Array (CidOf × Int), EntRowW wx g2 l.length d ∧ d.size = l.length ∧ d.toList.Perm l ∧ Below w.heap.size w wx)
          case first =>
            by_cases hr1 : r = 1
            · have hrb : ((r : Int) == 1) = true := beq_iff_eq.2 (by omega)
              go_wp2_with fail
              go_loopw [9, 10] (fun vi vj wr => ∃ (i j : Nat) (d : Array (CidOf × Int)), vi = .int .i64 (i : Int) ∧ vj = .int .i64 (j : Int) ∧ i + j + 1 = l.length ∧ EntRowW wr g2 l.length d ∧ d.size = l.length ∧ d.toList.Perm l ∧ Below w.heap.size w wr) (fun vi vj _ => (intOf vj).toNat + 1 - (intOf vi).toNat)
              case atStart => exact ⟨0, l.length - 1, other.toArray, rfl, by go_num, by omega, HE.out.1, by simpa using HE.out.2.2.2, by simpa using HE.out.2.1, HE.out.2.2.1⟩
              case round =>
                obtain ⟨i, j, d, rfl, rfl, hij, hE, hd, hP, hB⟩ := hrel
                by_cases hlt : i < j
                · have hgl : g2 < wr.heap.size := by obtain ⟨cur, h, _⟩ := hE; exact (Array.getElem?_eq_some_iff.1 h).1
                  have hi : i < l.length := by omega
                  have hj : j < l.length := by omega
                  have ci := hE.cells hi
                  have cj := hE.cells hj
                  have hsw := hE.swap hd hi hj (by omega)
                  obtain ⟨cur, hgc, hcl, _⟩ := hE
                  obtain ⟨x, hx⟩ : ∃ x, x = d[i]! := ⟨_, rfl⟩
                  obtain ⟨y, hy⟩ : ∃ y, y = d[j]! := ⟨_, rfl⟩
                  rw [← hx] at ci hsw
                  rw [← hy] at cj hsw
                  have a0 := ci 0 _ rfl; have a1 := ci 1 _ rfl; have a2 := ci 2 _ rfl; have a3 := ci 3 _ rfl; have a4 := ci 4 _ rfl
                  have b0 := cj 0 _ rfl; have b1 := cj 1 _ rfl; have b2 := cj 2 _ rfl; have b3 := cj 3 _ rfl; have b4 := cj 4 _ rfl
                  rw [Nat.add_zero] at a0 b0
                  simp only [World.setCells, EntCells, Nat.add_assoc, Nat.reduceAdd] at hsw
                  have hd2 : (Sort.swp d i j).size = l.length := by rw [Sort.swp_size]; exact hd
                  have hp2 : (Sort.swp d i j).toList.Perm l := (perm_swp d i j (by omega) (by omega)).trans hP
                  have HSW := Lib.hid (And.intro hsw (And.intro hd2 (And.intro hp2 hB)))
                  have HG := Lib.hid hgc
                  clear hsw hd2 hp2 hB hP hd ci cj hx hy hgc
                  have n00 : ¬ i * 5 = j * 5 := by omega
                  have m00 : ¬ j * 5 = i * 5 := by omega
                  have n01 : ¬ i * 5 = j * 5 + 1 := by omega
                  have m01 : ¬ j * 5 + 1 = i * 5 := by omega
                  have n02 : ¬ i * 5 = j * 5 + 2 := by omega
                  have m02 : ¬ j * 5 + 2 = i * 5 := by omega
                  have n03 : ¬ i * 5 = j * 5 + 3 := by omega
                  have m03 : ¬ j * 5 + 3 = i * 5 := by omega
                  have n04 : ¬ i * 5 = j * 5 + 4 := by omega
                  have m04 : ¬ j * 5 + 4 = i * 5 := by omega
                  have n10 : ¬ i * 5 + 1 = j * 5 := by omega
                  have m10 : ¬ j * 5 = i * 5 + 1 := by omega
                  have n11 : ¬ i * 5 + 1 = j * 5 + 1 := by omega
                  have m11 : ¬ j * 5 + 1 = i * 5 + 1 := by omega
                  have n12 : ¬ i * 5 + 1 = j * 5 + 2 := by omega
                  have m12 : ¬ j * 5 + 2 = i * 5 + 1 := by omega
                  have n13 : ¬ i * 5 + 1 = j * 5 + 3 := by omega
                  have m13 : ¬ j * 5 + 3 = i * 5 + 1 := by omega
                  have n14 : ¬ i * 5 + 1 = j * 5 + 4 := by omega
                  have m14 : ¬ j * 5 + 4 = i * 5 + 1 := by omega
                  have n20 : ¬ i * 5 + 2 = j * 5 := by omega
                  have m20 : ¬ j * 5 = i * 5 + 2 := by omega
                  have n21 : ¬ i * 5 + 2 = j * 5 + 1 := by omega
                  have m21 : ¬ j * 5 + 1 = i * 5 + 2 := by omega
                  have n22 : ¬ i * 5 + 2 = j * 5 + 2 := by omega
                  have m22 : ¬ j * 5 + 2 = i * 5 + 2 := by omega
                  have n23 : ¬ i * 5 + 2 = j * 5 + 3 := by omega
                  have m23 : ¬ j * 5 + 3 = i * 5 + 2 := by omega
                  have n24 : ¬ i * 5 + 2 = j * 5 + 4 := by omega
                  have m24 : ¬ j * 5 + 4 = i * 5 + 2 := by omega
                  have n30 : ¬ i * 5 + 3 = j * 5 := by omega
                  have m30 : ¬ j * 5 = i * 5 + 3 := by omega
                  have n31 : ¬ i * 5 + 3 = j * 5 + 1 := by omega
                  have m31 : ¬ j * 5 + 1 = i * 5 + 3 := by omega
                  have n32 : ¬ i * 5 + 3 = j * 5 + 2 := by omega
                  have m32 : ¬ j * 5 + 2 = i * 5 + 3 := by omega
                  have n33 : ¬ i * 5 + 3 = j * 5 + 3 := by omega
                  have m33 : ¬ j * 5 + 3 = i * 5 + 3 := by omega
                  have n34 : ¬ i * 5 + 3 = j * 5 + 4 := by omega
                  have m34 : ¬ j * 5 + 4 = i * 5 + 3 := by omega
                  have n40 : ¬ i * 5 + 4 = j * 5 := by omega
                  have m40 : ¬ j * 5 = i * 5 + 4 := by omega
                  have n41 : ¬ i * 5 + 4 = j * 5 + 1 := by omega
                  have m41 : ¬ j * 5 + 1 = i * 5 + 4 := by omega
                  have n42 : ¬ i * 5 + 4 = j * 5 + 2 := by omega
                  have m42 : ¬ j * 5 + 2 = i * 5 + 4 := by omega
                  have n43 : ¬ i * 5 + 4 = j * 5 + 3 := by omega
                  have m43 : ¬ j * 5 + 3 = i * 5 + 4 := by omega
                  have n44 : ¬ i * 5 + 4 = j * 5 + 4 := by omega
                  have m44 : ¬ j * 5 + 4 = i * 5 + 4 := by omega
                  have f0 : wr.frozen? ⟨g2, i * 5, none⟩ = false := blk_free' HG.out _
                  have e0 : wr.frozen? ⟨g2, j * 5, none⟩ = false := blk_free' HG.out _
                  have f1 : wr.frozen? ⟨g2, i * 5 + 1, none⟩ = false := blk_free' HG.out _
                  have e1 : wr.frozen? ⟨g2, j * 5 + 1, none⟩ = false := blk_free' HG.out _
                  have f2 : wr.frozen? ⟨g2, i * 5 + 2, none⟩ = false := blk_free' HG.out _
                  have e2 : wr.frozen? ⟨g2, j * 5 + 2, none⟩ = false := blk_free' HG.out _
                  have f3 : wr.frozen? ⟨g2, i * 5 + 3, none⟩ = false := blk_free' HG.out _
                  have e3 : wr.frozen? ⟨g2, j * 5 + 3, none⟩ = false := blk_free' HG.out _
                  have f4 : wr.frozen? ⟨g2, i * 5 + 4, none⟩ = false := blk_free' HG.out _
                  have e4 : wr.frozen? ⟨g2, j * 5 + 4, none⟩ = false := blk_free' HG.out _
                  go_wp2_with fail
                  go_region
                  clear n00 m00 n01 m01 n02 m02 n03 m03 n04 m04 n10 m10 n11 m11 n12 m12 n13 m13 n14 m14 n20 m20 n21 m21 n22 m22 n23 m23 n24 m24 n30 m30 n31 m31 n32 m32 n33 m33 n34 m34 n40 m40 n41 m41 n42 m42 n43 m43 n44 m44 f0 e0 a0 b0 f1 e1 a1 b1 f2 e2 a2 b2 f3 e3 a3 b3 f4 e4 a4 b4
                  obtain ⟨wz, hwz⟩ : ∃ wz, wz = ((wr.setCells g2 (i * 5) (EntCells y)).setCells g2 (j * 5) (EntCells x)).drew := ⟨_, rfl⟩
                  simp only [World.setCells, EntCells, Nat.add_assoc, Nat.reduceAdd] at hwz
                  have hE2 : EntRowW wz g2 l.length (Sort.swp d i j) := by rw [hwz]; exact EntRowW.drew HSW.out.1.1
                  have hB2 : Below w.heap.size w wz := by rw [hwz]; exact below_drew1 (HSW.out.1.2.to_below HSW.out.2.2.2 (fun _ e => by subst e; exact hg2w))
                  rw [← hwz]
                  have HZ := Lib.hid (And.intro hE2 hB2)
                  clear hwz hE2 hB2
                  go_wp2_with fail
                  go_roundw
                  case rel => exact ⟨i + 1, j - 1, Sort.swp d i j, by go_num, by go_num, by omega, HZ.out.1, HSW.out.2.1, HSW.out.2.2.1, HZ.out.2⟩
                  case measure => first | (simp [intOf]; done) | (simp [intOf]; omega)
                · have HX := Lib.hid (And.intro hE (And.intro hd (And.intro hP hB)))
                  clear hE hd hP hB
                  go_wp2_with fail
                  go_meet
                  exact ⟨d, HX.out.1, HX.out.2.1, HX.out.2.2.1, HX.out.2.2.2⟩
            · have hrb : ((r : Int) == 1) = false := beq_eq_false_iff_ne.2 (by omega)
              go_wp2_with fail
              go_meet
              exact ⟨other.toArray, HE.out.1, by simpa using HE.out.2.2.2, by simpa using HE.out.2.1, HE.out.2.2.1⟩
          case rest =>
            obtain ⟨d, hE, hd, hP, hB⟩ := hcut
            have hl : ∀ x ∈ l, x.1.Ok := fun x hx => good_ok (HG.out.2.2 x hx)
            have hkd : kind = 1024 ∨ kind = 1025 := HG.out.2.1
            have hld : d.toList.length = l.length := by rw [Array.length_toList, hd]
            have hA := IxBytes_any kind hkd l hl HOff.out hl100 (some ⟨g0, o, none⟩) cap wc (HR.out.below hB)
            have hD := fun W (hW : Below wc.heap.size wc W) => IxBytes_any kind hkd d.toList (fun x hx => hl x (hP.mem_iff.1 hx)) (fun x hx => HOff.out x (hP.mem_iff.1 hx)) (by omega) (some ⟨g2, 0, none⟩) c2 W ((hE.rows hd).below hW)
            rw [hld] at hD
            have HD := Lib.hid hD
            have HX := Lib.hid (And.intro hP hB)
            clear hE hd hP hB hl hld hD
            go_wp2_with fail
            refine hA.mono ?_
            clear hA
            rintro e wA ⟨⟨sA, rfl, hPA⟩, hbA⟩
            have hDA := HD.out wA hbA
            have hwA := below_next HX.out.2 hbA
            have HPA := Lib.hid hPA
            clear hPA hbA HD
            go_wp2_with fail
            refine hDA.mono ?_
            clear hDA
            rintro e wB ⟨⟨sB, rfl, hPB⟩, hbB⟩
            obtain rfl : sB = sA := IxP.same HX.out.1.symm HPW.out HPA.out hPB
            have hself : (sB.toList == sB.toList) = true := by simp
            have hwB := below_next hwA hbB
            have hOne := ixOne_any kind hkd p wB (HEp.out _ hwB).1 (HEp.out _ hwB).2
            clear hPB hbB hwA HPA
            go_wp2_with fail
            refine hOne.mono ?_
            clear hOne
            rintro e wC ⟨rfl, hbC⟩
            have hwC := below_next hwB hbC
            clear hbC hwB
            go_wp2_with fail
            go_ret
            exact ⟨rfl, hwC⟩
end Go.Proofs.YtobdjcnojbnegaaGreatDoor
