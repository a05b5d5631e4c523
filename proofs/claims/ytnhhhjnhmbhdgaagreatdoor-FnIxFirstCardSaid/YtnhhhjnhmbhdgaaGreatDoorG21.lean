import Derived.Test.YtnhhhjnhmbhdgaaGreatDoorG15
import Derived.Test.YtnhhhjnhmbhdgaaGreatDoorG17
import Derived.Test.YtnhhhjnhmbhdgaaGreatDoorG09
import Derived.Test.YtnhhhjnhmbhdgaaGreatDoorG19
import Derived.Test.YtnhhhjnhmbhdgaaGreatDoorG20
import Derived.RegionCalls
/- spec.Offsets: the offsets that an index has for an identifier. -/
namespace Go.Proofs.YtnhhhjnhmbhdgaaGreatDoor
open Go.RowKit
set_option linter.unusedVariables false
set_option linter.unusedSimpArgs false
attribute [local go_sem] setCell_drewN alloc_drewN

def hits (kind : Nat) (c : CidOf) (x : CidOf × Int) : Bool := decide (x.1.dig = c.dig ∧ (kind = 1024 ∨ x.1.code = c.code))
/-- The offsets that an index of a kind has for an identifier. -/
def offsOf (l : List (CidOf × Int)) (kind : Nat) (c : CidOf) : List Nat := (l.filter (hits kind c)).map fun x => x.2.toNat
theorem offsOf_snoc (l : List (CidOf × Int)) (x : CidOf × Int) (kind : Nat) (c : CidOf) : offsOf (l ++ [x]) kind c = if hits kind c x = true then offsOf l kind c ++ [x.2.toNat] else offsOf l kind c := by
  by_cases h : hits kind c x = true <;> simp [offsOf, h]

set_option maxRecDepth 100000 in
set_option maxHeartbeats 3200000 in
theorem Offsets_ok (l : List (CidOf × Int)) (A : Option Addr) (cap kind : Nat) (c : CidOf) (w : World) (hR : RowsAt w A l) (hlen : l.length ≤ 1000000) (hcap : l.length ≤ cap) (hoff : ∀ x ∈ l, 0 ≤ x.2 ∧ x.2 < 18446744073709551616) :
    Calls Tryz.prog 8 #[.slice A l.length cap, .int .u64 (kind : Int), .agg #[.int .u64 c.ver, .int .u64 c.codec, .int .u64 c.code, .string (sOf c.dig)]] w fun e w' => ∃ v, e = .returned v ∧ OutOf w' w.heap.size v (sortN (offsOf l kind c)) ∧ Below w.heap.size w w' := by
  obtain ⟨i0, ti, tz0, tz1, tz2⟩ := info_parts info_u64
  have hbc : Below w.heap.size w (w.alloc (.cells #[.int .u64 c.ver, .int .u64 c.codec, .int .u64 c.code, .string (sOf c.dig)] 25)) := below_boxed w _
  have hcb0 := heap_alloc_new w (.cells #[.int .u64 c.ver, .int .u64 c.codec, .int .u64 c.code, .string (sOf c.dig)] 25)
  have hcb1 := (heap_alloc_old (w.alloc (.cells #[.int .u64 c.ver, .int .u64 c.codec, .int .u64 c.code, .string (sOf c.dig)] 25)) (.cells #[.slice none 0 0] 29) (show w.heap.size < (w.alloc (.cells #[.int .u64 c.ver, .int .u64 c.codec, .int .u64 c.code, .string (sOf c.dig)] 25)).heap.size by simp)).trans hcb0
  have hob1 := heap_alloc_new (w.alloc (.cells #[.int .u64 c.ver, .int .u64 c.codec, .int .u64 c.code, .string (sOf c.dig)] 25)) (.cells #[.slice none 0 0] 29)
  have hbw1 : Below w.heap.size w ((w.alloc (.cells #[.int .u64 c.ver, .int .u64 c.codec, .int .u64 c.code, .string (sOf c.dig)] 25)).alloc (.cells #[.slice none 0 0] 29)) := by (repeat (first | (with_reducible exact Below.refl _ _) | (with_reducible exact below_boxed _ _) | (with_reducible refine below_box ?_ _) | (with_reducible refine below_drew1 ?_) | (with_reducible refine below_drewn ?_ _) | (with_reducible refine below_bytes ?_ _ _) | (with_reducible refine below_next ?_ (by assumption)) | (with_reducible refine below_set ?_ (by first | (simp; done) | (simp; omega) | omega) _)))
  have hsz1 : (w.alloc (.cells #[.int .u64 c.ver, .int .u64 c.codec, .int .u64 c.code, .string (sOf c.dig)] 25)).heap.size = w.heap.size + 1 := by simp
  rw [hsz1] at hob1
  have HST := Lib.hid (And.intro hcb1 (And.intro hob1 hbw1))
  clear hcb0 hcb1 hob1 hbw1 hsz1 hbc
  go_enter Tryz.func8, Tryz.ntmps8
  go_wp2_with fail
  go_loopw [12] (fun vi wr => ∃ k : Nat, k ≤ l.length ∧ vi = .int .i64 (k : Int) ∧ wr.heap[w.heap.size]? = some (.cells #[.int .u64 c.ver, .int .u64 c.codec, .int .u64 c.code, .string (sOf c.dig)] 25 (0, 0)) ∧ BoxU wr (w.heap.size + 1) (offsOf (l.take k) kind c) ∧ Below w.heap.size w wr) (fun vi _ => l.length - (intOf vi).toNat)
  case atStart => exact ⟨0, Nat.zero_le _, rfl, HST.out.1, ⟨_, HST.out.2.1, World.ownsRow_nil _ _ _ _, fun _ => rfl⟩, HST.out.2.2⟩
  case round =>
    obtain ⟨k, hk, rfl, hcb, hBx, hB⟩ := hrel
    by_cases hlt : k < l.length
    · obtain ⟨x, hx⟩ : ∃ x, l[k]? = some x := ⟨_, List.getElem?_eq_getElem hlt⟩
      obtain ⟨g0, o, rfl, hg0, r0, r1, r2, r3, r4⟩ := hR.row hB hx
      have htk := take_snoc' hx
      have hxo := hoff x (List.mem_of_getElem? hx)
      have hwl : (offsOf (l.take k) kind c).length ≤ k := by
        have := List.length_filter_le (hits kind c) (l.take k)
        rw [List.length_take] at this
        unfold offsOf; rw [List.length_map]; omega
      obtain ⟨ws, hws⟩ : ∃ ws, ws = offsOf (l.take k) kind c := ⟨_, rfl⟩
      rw [← hws] at hBx hwl
      have HW : Hid (offsOf (l.take (k + 1)) kind c = if hits kind c x = true then ws ++ [x.2.toNat] else ws) := Lib.hid (by rw [htk, offsOf_snoc, hws])
      have hg0r : g0 < wr.heap.size := by have := hB.size; omega
      have hclt := (Array.getElem?_eq_some_iff.1 hcb).1
      have hcb1 := (heap_alloc_old wr (.cells #[.int .u64 x.1.ver, .int .u64 x.1.codec, .int .u64 x.1.code, .string (sOf x.1.dig), .int .u64 x.2] 37) hclt).trans hcb
      have k2 := (blk_cell' hcb1 2).trans (show _ = some (Value.int .u64 c.code) from rfl)
      have k3 := (blk_cell' hcb1 3).trans (show _ = some (Value.string (sOf c.dig)) from rfl)
      have hOb := hBx.alloc (.cells #[.int .u64 x.1.ver, .int .u64 x.1.codec, .int .u64 x.1.code, .string (sOf x.1.dig), .int .u64 x.2] 37)
      have hbb : Below w.heap.size w (wr.alloc (.cells #[.int .u64 x.1.ver, .int .u64 x.1.codec, .int .u64 x.1.code, .string (sOf x.1.dig), .int .u64 x.2] 37)) := below_box hB _
      clear hws htk hx hBx hcb
      by_cases hd : x.1.dig = c.dig
      · have hdb : ((sOf x.1.dig).toList == (sOf c.dig).toList) = true := by rw [hd]; simp
        by_cases hkd : kind = 1024
        · have HWW : Hid (offsOf (l.take (k + 1)) kind c = ws ++ [x.2.toNat]) := Lib.hid (by rw [HW.out, if_pos (by simp [hits, hd, hkd])])
          have hkb : ((kind : Int) == 1024) = true := by simp; omega
          have HD := Lib.hid hd; have HK := Lib.hid hkd
          clear hd hkd
          obtain ⟨v3, hb3, hown3, hn3⟩ := hOb
          have c3 := (blk_cell' hb3 0).trans (show _ = some v3 from rfl)
          go_wp2_with (at_builtin; refine later ?_)
          refine now ?_
          refine wpList_append_own _ rfl _ _ 29 rfl (w.heap.size + 1 + 1) 23 i0 (.int .u64 0) 1 8 Tryz.underlying29 ti tz0 tz1 tz2 rfl (by decide) _ _ _ rfl (hown3.alloc _) ⟨wr.heap.size + 1, 0, none⟩ 1 1 [.int .u64 x.2] rfl rfl (by rw [show wr.heap.size + 1 = (wr.alloc (.cells #[.int .u64 x.1.ver, .int .u64 x.1.codec, .int .u64 x.1.code, .string (sOf x.1.dig), .int .u64 x.2] 37)).heap.size by simp]; exact one_cell _ _ _) (ints_oneCell .u64 [x.2]) ?c3 ?c4 ?c5 ?_
          case c3 => unfold maxLen; omega
          case c4 => omega
          case c5 => simp; omega
          intro v' w4 hown4 hgrow hnn
          have hvo : ∀ j, v3.ownBlock = some j → w.heap.size + 1 + 1 ≤ j ∧ j < wr.heap.size + 1 := fun j e => by have := hown3.lt j e; simpa using this
          have hz1 : w.heap.size + 1 < wr.heap.size + 1 := by have := (Array.getElem?_eq_some_iff.1 hb3).1; simpa using this
          have hb4 : w4.heap[w.heap.size + 1]? = some (.cells #[v3] 29 (0, 0)) := (hgrow.block _ (by simp; omega) (fun e => by have := (hvo _ e.symm).1; omega)).trans ((heap_alloc_old _ _ (by simp; omega)).trans hb3)
          have hc4 : w4.heap[w.heap.size]? = some (.cells #[.int .u64 c.ver, .int .u64 c.codec, .int .u64 c.code, .string (sOf c.dig)] 25 (0, 0)) := (hgrow.block _ (by simp; omega) (fun e => by have := (hvo _ e.symm).1; omega)).trans ((heap_alloc_old _ _ (by simp; omega)).trans hcb1)
          have f4 := blk_free' hb4 0
          have c4 := (blk_cell' hb4 0).trans (show _ = some v3 from rfl)
          have hB4 : Below w.heap.size w w4 := (below_box hbb _).trans ⟨hgrow.os, hgrow.tape, hgrow.output, hgrow.size, fun i hi => hgrow.block i (by simp; omega) (fun e => by have := (hvo i e.symm).1; omega)⟩
          rcases hown4.2 with ⟨_, hbad⟩ | ⟨g, capg, cur, rfl, hge, hg, hle, hcm, hcs, htk⟩
          · simp at hbad
          have hne : g ≠ w.heap.size + 1 := by omega
          clear hown4 hgrow hown3 hvo hnn c3 hb3
          go_wp2_with fail
          go_roundw
          case rel =>
            have hb5 : (w4.setCell ⟨w.heap.size + 1, 0, none⟩ (.slice (some ⟨g, 0, none⟩) (ws.length + 1) capg)).heap[w.heap.size + 1]? = some (.cells #[.slice (some ⟨g, 0, none⟩) (ws.length + 1) capg] 29 (0, 0)) := by
              rw [setCell_eq_setRow w4 (w.heap.size + 1) 0 _ _ _ _ hb4, setRow_heap w4 (w.heap.size + 1) _ _ _ _ hb4]; rfl
            refine ⟨k + 1, by omega, by go_num, (Below.heap_setCell _ _ _ _ (by show w.heap.size ≠ w.heap.size + 1; omega)).trans hc4, ?_, hB4.setCell (by show w.heap.size ≤ w.heap.size + 1; omega) _⟩
            rw [HWW.out]
            refine ⟨_, hb5, ⟨by simp, .inr ⟨g, capg, cur, by simp, hge, (Below.heap_setCell _ _ _ _ hne).trans hg, by simpa using hle, hcm, hcs, ?_⟩⟩, fun e => by cases e⟩
            have hx2 : Value.int IntKind.u64 x.2 = offVal x.2.toNat := by unfold offVal; rw [show ((x.2.toNat : Nat) : Int) = x.2 by omega]
            simp only [List.length_append, List.length_cons, List.length_nil, List.map_append, List.map_cons, List.map_nil, hx2] at htk ⊢
            exact htk
          case measure => simp [intOf]; omega
        · by_cases hc : x.1.code = c.code
          · have HWW : Hid (offsOf (l.take (k + 1)) kind c = ws ++ [x.2.toNat]) := Lib.hid (by rw [HW.out, if_pos (by simp [hits, hd, hc])])
            have hkb : ((kind : Int) == 1024) = false := by simp; omega
            have hcb : ((x.1.code : Int) == (c.code : Int)) = true := by simp; omega
            have HD := Lib.hid hd; have HK := Lib.hid hkd; have HC := Lib.hid hc
            clear hd hkd hc
            obtain ⟨v3, hb3, hown3, hn3⟩ := hOb
            have c3 := (blk_cell' hb3 0).trans (show _ = some v3 from rfl)
            go_wp2_with (at_builtin; refine later ?_)
            refine now ?_
            refine wpList_append_own _ rfl _ _ 29 rfl (w.heap.size + 1 + 1) 23 i0 (.int .u64 0) 1 8 Tryz.underlying29 ti tz0 tz1 tz2 rfl (by decide) _ _ _ rfl (hown3.alloc _) ⟨wr.heap.size + 1, 0, none⟩ 1 1 [.int .u64 x.2] rfl rfl (by rw [show wr.heap.size + 1 = (wr.alloc (.cells #[.int .u64 x.1.ver, .int .u64 x.1.codec, .int .u64 x.1.code, .string (sOf x.1.dig), .int .u64 x.2] 37)).heap.size by simp]; exact one_cell _ _ _) (ints_oneCell .u64 [x.2]) ?d3 ?d4 ?d5 ?_
            case d3 => unfold maxLen; omega
            case d4 => omega
            case d5 => simp; omega
            intro v' w4 hown4 hgrow hnn
            have hvo : ∀ j, v3.ownBlock = some j → w.heap.size + 1 + 1 ≤ j ∧ j < wr.heap.size + 1 := fun j e => by have := hown3.lt j e; simpa using this
            have hz1 : w.heap.size + 1 < wr.heap.size + 1 := by have := (Array.getElem?_eq_some_iff.1 hb3).1; simpa using this
            have hb4 : w4.heap[w.heap.size + 1]? = some (.cells #[v3] 29 (0, 0)) := (hgrow.block _ (by simp; omega) (fun e => by have := (hvo _ e.symm).1; omega)).trans ((heap_alloc_old _ _ (by simp; omega)).trans hb3)
            have hc4 : w4.heap[w.heap.size]? = some (.cells #[.int .u64 c.ver, .int .u64 c.codec, .int .u64 c.code, .string (sOf c.dig)] 25 (0, 0)) := (hgrow.block _ (by simp; omega) (fun e => by have := (hvo _ e.symm).1; omega)).trans ((heap_alloc_old _ _ (by simp; omega)).trans hcb1)
            have f4 := blk_free' hb4 0
            have c4 := (blk_cell' hb4 0).trans (show _ = some v3 from rfl)
            have hB4 : Below w.heap.size w w4 := (below_box hbb _).trans ⟨hgrow.os, hgrow.tape, hgrow.output, hgrow.size, fun i hi => hgrow.block i (by simp; omega) (fun e => by have := (hvo i e.symm).1; omega)⟩
            rcases hown4.2 with ⟨_, hbad⟩ | ⟨g, capg, cur, rfl, hge, hg, hle, hcm, hcs, htk⟩
            · simp at hbad
            have hne : g ≠ w.heap.size + 1 := by omega
            clear hown4 hgrow hown3 hvo hnn c3 hb3
            go_wp2_with fail
            go_roundw
            case rel =>
              have hb5 : (w4.setCell ⟨w.heap.size + 1, 0, none⟩ (.slice (some ⟨g, 0, none⟩) (ws.length + 1) capg)).heap[w.heap.size + 1]? = some (.cells #[.slice (some ⟨g, 0, none⟩) (ws.length + 1) capg] 29 (0, 0)) := by
                rw [setCell_eq_setRow w4 (w.heap.size + 1) 0 _ _ _ _ hb4, setRow_heap w4 (w.heap.size + 1) _ _ _ _ hb4]; rfl
              refine ⟨k + 1, by omega, by go_num, (Below.heap_setCell _ _ _ _ (by show w.heap.size ≠ w.heap.size + 1; omega)).trans hc4, ?_, hB4.setCell (by show w.heap.size ≤ w.heap.size + 1; omega) _⟩
              rw [HWW.out]
              refine ⟨_, hb5, ⟨by simp, .inr ⟨g, capg, cur, by simp, hge, (Below.heap_setCell _ _ _ _ hne).trans hg, by simpa using hle, hcm, hcs, ?_⟩⟩, fun e => by cases e⟩
              have hx2 : Value.int IntKind.u64 x.2 = offVal x.2.toNat := by unfold offVal; rw [show ((x.2.toNat : Nat) : Int) = x.2 by omega]
              simp only [List.length_append, List.length_cons, List.length_nil, List.map_append, List.map_cons, List.map_nil, hx2] at htk ⊢
              exact htk
            case measure => simp [intOf]; omega
          · have HWW : Hid (offsOf (l.take (k + 1)) kind c = ws) := Lib.hid (by rw [HW.out, if_neg (by simp [hits, hd, hkd, hc])])
            have hkb : ((kind : Int) == 1024) = false := by simp; omega
            have hcb : ((x.1.code : Int) == (c.code : Int)) = false := by simp; omega
            have HD := Lib.hid hd; have HK := Lib.hid hkd
            clear hd hkd hc
            go_wp2_with fail
            go_roundw
            case rel => exact ⟨k + 1, by omega, by go_num, by assumption, by rw [HWW.out]; exact hOb, hbb⟩
            case measure => simp [intOf]; omega
      · have HWW : Hid (offsOf (l.take (k + 1)) kind c = ws) := Lib.hid (by rw [HW.out, if_neg (by simp [hits, hd])])
        have hdb : ((sOf x.1.dig).toList == (sOf c.dig).toList) = false := by simpa [sofList] using hd
        clear hd
        go_wp2_with fail
        go_roundw
        case rel => exact ⟨k + 1, by omega, by go_num, by assumption, by rw [HWW.out]; exact hOb, hbb⟩
        case measure => simp [intOf]; omega
    · obtain rfl : k = l.length := by omega
      rw [List.take_length] at hBx
      have hwl : (offsOf l kind c).length ≤ l.length := by
        have := List.length_filter_le (hits kind c) l
        unfold offsOf; rw [List.length_map]; omega
      obtain ⟨ws, hws⟩ : ∃ ws, ws = offsOf l kind c := ⟨_, rfl⟩
      rw [← hws] at hBx hwl
      have HW := Lib.hid hws
      clear hws
      obtain ⟨v, hb, hown, hn⟩ := hBx
      have hS := sortBox 14 less_offsets (enters_of Tryz.func14 (by kernel_rfl) rfl) (w.heap.size + 1) ws v wr (by omega) hb hown hn
      have c0 := (blk_cell' hb 0).trans (show _ = some v from rfl)
      have hmf : ∀ (fn : Fn) (first cap : Array Value) (w : World), (Instr.makeFunc fn first cap).run Tryz.prog w = .ok (.func fn first cap) w := fun _ _ _ _ => rfl
      clear hb hown hn
      go_wp2_with fail
      refine hS.mono ?_
      clear hS
      rintro e w1 ⟨rfl, hb1, hO1, hB1⟩
      have c1 := (blk_cell' hb1 0).trans (show _ = some v from rfl)
      go_wp2_with fail
      go_ret
      exact ⟨v, rfl, by rw [← HW.out]; exact hO1.mono (by omega), hB.trans (hB1.mono (by omega))⟩
end Go.Proofs.YtnhhhjnhmbhdgaaGreatDoor

/- FnIxFirst: the law. -/
namespace Go.Proofs.YtnhhhjnhmbhdgaaGreatDoor
open Go.RowKit
set_option linter.unusedVariables false
set_option linter.unusedSimpArgs false
attribute [local go_sem] setCell_drewN alloc_drewN

/-- What the first offset must be. -/
def Found (l : List (CidOf × Int)) (kind : Nat) (c : CidOf) (f : Nat) (y : Int) : Prop := (offsOf l kind c = [] ∧ y = 1) ∨ (y = 0 ∧ f ∈ offsOf l kind c)
theorem offsOf_none {l : List (CidOf × Int)} {kind : Nat} {c : CidOf} (h : ∀ x ∈ l, ¬ (x.1.dig = c.dig ∧ (kind = 1024 ∨ x.1.code = c.code))) : offsOf l kind c = [] := by
  rw [offsOf, List.map_eq_nil_iff, List.filter_eq_nil_iff]
  intro x hx
  simpa [hits] using h x hx
theorem offsOf_mem {l : List (CidOf × Int)} {kind : Nat} {c : CidOf} {x : CidOf × Int} (hx : x ∈ l) (h : x.1.dig = c.dig ∧ (kind = 1024 ∨ x.1.code = c.code)) : x.2.toNat ∈ offsOf l kind c := by
  refine List.mem_map.2 ⟨x, List.mem_filter.2 ⟨hx, ?_⟩, rfl⟩
  simpa [hits] using h
theorem found_sorted {l l' : List (CidOf × Int)} {c : CidOf} {M : List Nat} (hP : l'.Perm l) (hS : SortedD l') (hoff : ∀ x ∈ l, 0 ≤ x.2 ∧ x.2 < 18446744073709551616) (hT : Tells (secsOf l l') c.dig M) : Found l 1024 c (headN M) (whyOf M) := by
  rcases tells_sorted hP hS hoff hT with ⟨rfl, h⟩ | ⟨x, hx, e, M', rfl⟩
  · exact .inl ⟨offsOf_none fun x hx hh => h x hx hh.1, rfl⟩
  · exact .inr ⟨rfl, offsOf_mem hx ⟨e, .inl rfl⟩⟩
theorem found_mh {l : List (CidOf × Int)} {ss : List (Nat × List (Nat × List UInt8))} {c : CidOf} {M : List Nat} (hss : ss.map (·.1) = sortN (codesOf l)) (hPa : Parts l ss) (hoff : ∀ x ∈ l, 0 ≤ x.2 ∧ x.2 < 18446744073709551616) (hT : TellsC ss c.code c.dig M) : Found l 1025 c (headN M) (whyOf M) := by
  rcases hT with ⟨h, rfl⟩ | ⟨p, hp, e, hT⟩
  · refine .inl ⟨offsOf_none fun x hx hh => ?_, rfl⟩
    have hc : x.1.code = c.code := by rcases hh.2 with h' | h'; omega; exact h'
    have hm : x.1.code ∈ ss.map (·.1) := by rw [hss]; exact sortN_mem.2 (codesOf_all x hx)
    obtain ⟨q, hq, hqe⟩ := List.mem_map.1 hm
    exact h q hq (hqe.trans hc)
  · obtain ⟨l', hP, hS, h2⟩ := hPa p hp
    rw [h2, e] at hT
    rw [e] at hP
    rcases tells_sorted hP hS (fun x hx => hoff x (mem_coded.1 hx).1) hT with ⟨rfl, h⟩ | ⟨x, hx, ed, M', rfl⟩
    · refine .inl ⟨offsOf_none fun x hx hh => ?_, rfl⟩
      have hc : x.1.code = c.code := by rcases hh.2 with h' | h'; omega; exact h'
      exact h x (mem_coded.2 ⟨hx, hc⟩) hh.1
    · exact .inr ⟨rfl, offsOf_mem (mem_coded.1 hx).1 ⟨ed, .inr (mem_coded.1 hx).2⟩⟩

/-- What is asked of the two calls. -/
structure Pair (l : List (CidOf × Int)) (A : Option Addr) (cap kind : Nat) (c : CidOf) (w : World) (P : ByteArray → Prop) : Prop where
  write : ∀ W, Below w.heap.size w W → Calls Tryz.prog 10 #[.slice A l.length cap, .int .u64 (kind : Int)] W fun e w' => ∃ s, e = .returned (.string s) ∧ P s ∧ Below W.heap.size W w'
  read : ∀ s, P s → ∀ W, Below w.heap.size w W → Calls Tryz.prog 9 #[.string s, .agg #[.int .u64 c.ver, .int .u64 c.codec, .int .u64 c.code, .string (sOf c.dig)]] W fun e w' => ∃ (f : Nat) (y : Int), e = .returned (.tuple #[.int .u64 (f : Int), .int .u8 y]) ∧ Found l kind c f y ∧ Below W.heap.size W w'
  one : ∀ W, Below w.heap.size w W → Calls Tryz.prog 11 #[.int .u64 (kind : Int)] W fun e w' => e = .returned (.bool true) ∧ Below W.heap.size W w'

theorem pair_sorted (l : List (CidOf × Int)) (A : Option Addr) (cap : Nat) (c : CidOf) (w : World) (hR : RowsAt w A l) (hA : A = none → cap = 0) (hcap : l.length ≤ cap) (hG : Good l 1024) (hoff : ∀ x ∈ l, 0 ≤ x.2 ∧ x.2 < 18446744073709551616) (hc : c.Ok)
    (p : Addr) (hg5 : 0 < w.heap.size) (he : w.cell? ⟨0, 0, none⟩ = some (.iface 165 (.pointer (some p)))) :
    Pair l A cap 1024 c w fun s => ∃ l', l'.Perm l ∧ SortedD l' ∧ s = sOf (Lib.uvarint 1024 ++ sortedSpec l l') := by
  have hl := hG.1
  have hd : ∀ x ∈ l, x.1.dig.length ≤ 1000 := fun x hx => by have := (hG.2.2 x hx).1; omega
  have hep : ∀ W, Below w.heap.size w W → 0 < W.heap.size ∧ W.cell? ⟨0, 0, none⟩ = some (.iface 165 (.pointer (some p))) := fun W hW => ⟨by have := hW.size; omega, (hW.cell (p := ⟨0, 0, none⟩) hg5).trans he⟩
  refine ⟨fun W hW => ?_, ?_, fun W hW => ixOne_sorted p W (hep W hW).1 (hep W hW).2⟩
  · refine (IndexBytes_srt 1000 (stable_ents 1000 (by omega)) l A cap W (hR.below hW) hA (by omega) (by omega) hcap hd hoff).mono ?_
    rintro e w' ⟨l', hP, hS, rfl, hb⟩
    exact ⟨_, rfl, ⟨l', hP, hS, rfl⟩, hb⟩
  · rintro s ⟨l', hP, hS, rfl⟩ W hW
    have hsec := secsOf_ok hP hd (by omega)
    have hsm := sortedSpec_small hP hl hd
    refine (IxFirst_sorted _ (secsOf l l') [] (by rw [sortedSpec_eq]; simp [sOf]) hsec.1 hsec.2 (by
      show (Lib.uvarint 1024 ++ sortedSpec l l').toArray.size ≤ _
      simp only [List.size_toArray, List.length_append, uv1024, List.length_cons, List.length_nil]; omega) c hc p W (hep W hW).1 (hep W hW).2).mono ?_
    rintro e w' ⟨M, rfl, hT, hb⟩
    exact ⟨_, _, rfl, found_sorted hP hS hoff hT, hb⟩
theorem pair_mh (l : List (CidOf × Int)) (A : Option Addr) (cap : Nat) (c : CidOf) (w : World) (hR : RowsAt w A l) (hcap : l.length ≤ cap) (hG : Good l 1025) (hoff : ∀ x ∈ l, 0 ≤ x.2 ∧ x.2 < 18446744073709551616) (hc : c.Ok)
    (p : Addr) (hg5 : 0 < w.heap.size) (he : w.cell? ⟨0, 0, none⟩ = some (.iface 165 (.pointer (some p)))) :
    Pair l A cap 1025 c w fun s => ∃ ss, ss.map (·.1) = sortN (codesOf l) ∧ Parts l ss ∧ (mhBytes ss).length ≤ 10090000 ∧ s = sOf (Lib.uvarint 1025 ++ mhBytes ss) := by
  have hl := hG.1
  have hd : ∀ x ∈ l, x.1.dig.length ≤ 1000 := fun x hx => by have := (hG.2.2 x hx).1; omega
  have hcod : ∀ x ∈ l, x.1.code < 18446744073709551616 := fun x hx => by have := (good_ok (hG.2.2 x hx)).code; omega
  have hep : ∀ W, Below w.heap.size w W → 0 < W.heap.size ∧ W.cell? ⟨0, 0, none⟩ = some (.iface 165 (.pointer (some p))) := fun W hW => ⟨by have := hW.size; omega, (hW.cell (p := ⟨0, 0, none⟩) hg5).trans he⟩
  refine ⟨fun W hW => ?_, ?_, fun W hW => ixOne_mh p W (hep W hW).1 (hep W hW).2⟩
  · refine (IndexBytes_mh 1000 (stable_ents 1000 (by omega)) l A cap W (hR.below hW) hl (by omega) hcap hd hoff hcod).mono ?_
    rintro e w' ⟨ss, h1, h2, h3, rfl, hb⟩
    exact ⟨_, rfl, ⟨ss, h1, h2, h3, rfl⟩, hb⟩
  · rintro s ⟨ss, hss, hPa, hsz, rfl⟩ W hW
    refine (IxFirst_mh _ ss [] (by simp [sOf]) (fun q hq => ?_) (by rw [hss]; exact (List.mergeSort_perm _ _).nodup_iff.2 (codesOf_nodup l)) (by
      show (Lib.uvarint 1025 ++ mhBytes ss).toArray.size ≤ _
      simp only [List.size_toArray, List.length_append, uv1025, List.length_cons, List.length_nil]; omega) c hc p W (hep W hW).1 (hep W hW).2).mono ?_
    · obtain ⟨l', hP, hS, h2⟩ := hPa q hq
      have hm : q.1 ∈ sortN (codesOf l) := by rw [← hss]; exact List.mem_map.2 ⟨q, hq, rfl⟩
      obtain ⟨x, hx, hxe⟩ := codesOf_mem (sortN_mem.1 hm)
      have hsec := secsOf_ok hP (fun y hy => hd y (mem_coded.1 hy).1) (by have := List.length_filter_le (hasCode q.1) l; unfold codedOf; omega)
      rw [h2]
      exact ⟨by rw [← hxe]; exact hcod x hx, hsec.1, hsec.2⟩
    · rintro e w' ⟨M, rfl, hT, hb⟩
      exact ⟨_, _, rfl, found_mh hss hPa hoff hT, hb⟩
end Go.Proofs.YtnhhhjnhmbhdgaaGreatDoor

/- FnIxFirst: the walk. -/
namespace Go.Proofs.YtnhhhjnhmbhdgaaGreatDoor
open Go.RowKit
set_option linter.unusedVariables false
set_option linter.unusedSimpArgs false
attribute [local go_sem] setCell_drewN alloc_drewN

set_option maxRecDepth 100000 in
set_option maxHeartbeats 6400000 in
theorem FnIxFirst_ok (l : List (CidOf × Int)) (A : Option Addr) (cap kind : Nat) (c : CidOf) (w : World) (hR : RowsAt w A l) (hA : A = none → cap = 0) (hlen : l.length ≤ 9223372036854775807) (hcap : l.length ≤ cap) (hoff : ∀ x ∈ l, 0 ≤ x.2 ∧ x.2 < 18446744073709551616)
    (p : Addr) (hg5 : 0 < w.heap.size) (he : w.cell? ⟨0, 0, none⟩ = some (.iface 165 (.pointer (some p)))) :
    Calls Tryz.prog 3 #[.slice A l.length cap, .int .u64 (kind : Int), c.agg] w fun e w' => e = .returned (.bool true) ∧ Below w.heap.size w w' := by
  have hag : c.agg = .agg #[.int .u64 c.ver, .int .u64 c.codec, .int .u64 c.code, .string (sOf c.dig)] := rfl
  have hPr : Good l kind → c.Ok → ∃ P, Pair l A cap kind c w P := fun hG hc => by
    rcases hG.2.1 with rfl | rfl
    · exact ⟨_, pair_sorted l A cap c w hR hA hcap hG hoff hc p hg5 he⟩
    · exact ⟨_, pair_mh l A cap c w hR hcap hG hoff hc p hg5 he⟩
  have hOf : Good l kind → ∀ W, Below w.heap.size w W → Calls Tryz.prog 8 #[.slice A l.length cap, .int .u64 (kind : Int), .agg #[.int .u64 c.ver, .int .u64 c.codec, .int .u64 c.code, .string (sOf c.dig)]] W fun e w' => ∃ v, e = .returned v ∧ OutOf w' W.heap.size v (sortN (offsOf l kind c)) ∧ Below W.heap.size W w' := fun hG W hW => Offsets_ok l A cap kind c W (hR.below hW) (by have := hG.1; omega) hcap hoff
  have h7 := fun W (hW : Below w.heap.size w W) => zzFits7_ok l A cap W (hR.below hW) hlen hcap
  have hGd := fun W (hW : Below w.heap.size w W) => ixGood_ok l A cap kind W (hR.below hW) hlen hcap
  have h1 := fun W => zzFits1_ok c W
  have hT := fun W => Tidy_ok c W
  have HPr := Lib.hid hPr; have HOf := Lib.hid hOf; have H7 := Lib.hid h7; have HGd := Lib.hid hGd
  rw [hag] at h1 hT ⊢
  have hcb := heap_alloc_new w (.cells #[.int .u64 c.ver, .int .u64 c.codec, .int .u64 c.code, .string (sOf c.dig)] 25)
  have hb0 : Below w.heap.size w (w.alloc (.cells #[.int .u64 c.ver, .int .u64 c.codec, .int .u64 c.code, .string (sOf c.dig)] 25)) := below_boxed w _
  have HC := Lib.hid hcb; have HB0 := Lib.hid hb0
  have hz0 : (w.alloc (.cells #[.int .u64 c.ver, .int .u64 c.codec, .int .u64 c.code, .string (sOf c.dig)] 25)).heap.size = w.heap.size + 1 := by simp
  have hss : (sOf c.dig).size = c.dig.length := rfl
  have hK : ∀ W, Below (w.heap.size + 1) (w.alloc (.cells #[.int .u64 c.ver, .int .u64 c.codec, .int .u64 c.code, .string (sOf c.dig)] 25)) W → W.heap[w.heap.size]? = some (.cells #[.int .u64 c.ver, .int .u64 c.codec, .int .u64 c.code, .string (sOf c.dig)] 25 (0, 0)) := fun W hW => (hW.block _ (by omega)).trans hcb
  have hBw : ∀ W, Below (w.heap.size + 1) (w.alloc (.cells #[.int .u64 c.ver, .int .u64 c.codec, .int .u64 c.code, .string (sOf c.dig)] 25)) W → Below w.heap.size w W := fun W hW => hb0.trans (hW.mono (by omega))
  have HK := Lib.hid hK; have HBw := Lib.hid hBw
  clear hPr hOf h7 hGd hcb hb0 hag he hg5 hR hoff hK hBw
  go_enter Tryz.func3, Tryz.ntmps3
  go_wp2_with fail
  refine (H7.out _ HB0.out).mono ?_
  rintro e w1 ⟨b7, rfl, hb1⟩
  rw [hz0] at hb1
  have hc1 := HK.out w1 hb1
  have k0 := (blk_cell' hc1 0).trans (show _ = some (Value.int .u64 c.ver) from rfl)
  have k1 := (blk_cell' hc1 1).trans (show _ = some (Value.int .u64 c.codec) from rfl)
  have k2 := (blk_cell' hc1 2).trans (show _ = some (Value.int .u64 c.code) from rfl)
  have k3 := (blk_cell' hc1 3).trans (show _ = some (Value.string (sOf c.dig)) from rfl)
  cases b7 with
  | false =>
    go_wp2_with fail
    go_ret
    exact ⟨rfl, HBw.out _ hb1⟩
  | true =>
    go_wp2_with fail
    refine (h1 _).mono ?_
    rintro e w2 ⟨rfl, hb2⟩
    have hb02 : Below (w.heap.size + 1) (w.alloc (.cells #[.int .u64 c.ver, .int .u64 c.codec, .int .u64 c.code, .string (sOf c.dig)] 25)) w2 := hb1.trans (hb2.mono (by have := hb1.size; omega))
    clear hc1 k0 k1 k2 k3 hb1 hb2
    generalize fitB c.dig.length = bf
    cases bf with
    | false =>
      go_wp2_with fail
      go_ret
      exact ⟨rfl, HBw.out _ hb02⟩
    | true =>
      go_wp2_with fail
      refine (HGd.out _ (HBw.out _ hb02)).mono ?_
      rintro e w3 ⟨hbr, hb3⟩
      have hb03 : Below (w.heap.size + 1) (w.alloc (.cells #[.int .u64 c.ver, .int .u64 c.codec, .int .u64 c.code, .string (sOf c.dig)] 25)) w3 := hb02.trans (hb3.mono (by have := hb02.size; omega))
      have hc3 := HK.out w3 hb03
      have k0 := (blk_cell' hc3 0).trans (show _ = some (Value.int .u64 c.ver) from rfl)
      have k1 := (blk_cell' hc3 1).trans (show _ = some (Value.int .u64 c.codec) from rfl)
      have k2 := (blk_cell' hc3 2).trans (show _ = some (Value.int .u64 c.code) from rfl)
      have k3 := (blk_cell' hc3 3).trans (show _ = some (Value.string (sOf c.dig)) from rfl)
      clear hb02 hb3 hc3
      rcases hbr with rfl | ⟨rfl, hG⟩
      · go_wp2_with fail
        go_ret
        exact ⟨rfl, HBw.out _ hb03⟩
      · by_cases h200 : (200 : Int) < (c.dig.length : Int)
        · go_wp2_with fail
          go_ret
          exact ⟨rfl, HBw.out _ hb03⟩
        · go_wp2_with fail
          refine (hT _).mono ?_
          rintro e w4 ⟨rfl, hb4⟩
          have hb04 : Below (w.heap.size + 1) (w.alloc (.cells #[.int .u64 c.ver, .int .u64 c.codec, .int .u64 c.code, .string (sOf c.dig)] 25)) w4 := hb03.trans (hb4.mono (by have := hb03.size; omega))
          have hc4 := HK.out w4 hb04
          have HOK : Hid (tidyB c.ver c.codec c.code c.dig.length = true → c.Ok) := Lib.hid (fun h => good_ok ⟨by omega, h⟩)
          clear k0 k1 k2 k3 hb03 hb4
          cases htb : tidyB c.ver c.codec c.code c.dig.length with
          | false =>
            go_wp2_with fail
            go_ret
            exact ⟨rfl, HBw.out _ hb04⟩
          | true =>
            obtain ⟨P, hPair⟩ := HPr.out hG (HOK.out htb)
            have k0 := (blk_cell' hc4 0).trans (show _ = some (Value.int .u64 c.ver) from rfl)
            have k1 := (blk_cell' hc4 1).trans (show _ = some (Value.int .u64 c.codec) from rfl)
            have k2 := (blk_cell' hc4 2).trans (show _ = some (Value.int .u64 c.code) from rfl)
            have k3 := (blk_cell' hc4 3).trans (show _ = some (Value.string (sOf c.dig)) from rfl)
            have hOf := HOf.out hG w4 (HBw.out _ hb04)
            have HT := Lib.hid htb
            clear htb hc4
            go_wp2_with fail
            refine hOf.mono ?_
            clear hOf
            rintro e w5 ⟨vO, rfl, hO, hb5⟩
            have hb05 : Below (w.heap.size + 1) (w.alloc (.cells #[.int .u64 c.ver, .int .u64 c.codec, .int .u64 c.code, .string (sOf c.dig)] 25)) w5 := hb04.trans (hb5.mono (by have := hb04.size; omega))
            have hc5 := HK.out w5 hb05
            clear k0 k1 k2 k3 hb5
            obtain ⟨os, hos⟩ : ∃ os, os = sortN (offsOf l kind c) := ⟨_, rfl⟩
            rw [← hos] at hO
            obtain ⟨pO, cO, rfl⟩ : ∃ p q, vO = .slice p os.length q := by
              rcases hO.2 with ⟨h, h'⟩ | ⟨g, q, _, h, _⟩
              · exact ⟨none, 0, by rw [h, h']⟩
              · exact ⟨_, q, h⟩
            have hosl : os.length ≤ 100 := by
              have h1 := List.length_filter_le (hits kind c) l
              have h2 := hG.1
              rw [hos, sortN_len]; unfold offsOf; rw [List.length_map]; omega
            have HOS := Lib.hid hos
            have k0 := (blk_cell' hc5 0).trans (show _ = some (Value.int .u64 c.ver) from rfl)
            have k1 := (blk_cell' hc5 1).trans (show _ = some (Value.int .u64 c.codec) from rfl)
            have k2 := (blk_cell' hc5 2).trans (show _ = some (Value.int .u64 c.code) from rfl)
            have k3 := (blk_cell' hc5 3).trans (show _ = some (Value.string (sOf c.dig)) from rfl)
            have hbw5 := HBw.out _ hb05
            have hwr := hPair.write w5.drew (below_drew1 hbw5)
            have HPair := Lib.hid hPair
            have hK6 : ∀ w6, Below w5.drew.heap.size w5.drew w6 → w6.heap[w.heap.size]? = some (.cells #[.int .u64 c.ver, .int .u64 c.codec, .int .u64 c.code, .string (sOf c.dig)] 25 (0, 0)) := fun w6 h => (h.block _ (Array.getElem?_eq_some_iff.1 hc5).1).trans hc5
            have HK6 := Lib.hid hK6
            clear hos hPair hb04 hc5 hK6
            go_wp2_with fail
            go_region_with (first | (go_at_call 10; refine hwr.mono ?_; rintro e w6 ⟨s, rfl, hs, hb6⟩; have hc6 := HK6.out w6 hb6; have m0 := (blk_cell' hc6 0).trans (show _ = some (Value.int .u64 c.ver) from rfl); have m1 := (blk_cell' hc6 1).trans (show _ = some (Value.int .u64 c.codec) from rfl); have m2 := (blk_cell' hc6 2).trans (show _ = some (Value.int .u64 c.code) from rfl); have m3 := (blk_cell' hc6 3).trans (show _ = some (Value.string (sOf c.dig)) from rfl); clear hc6) | (go_at_call 9; refine (HPair.out.read s hs _ (by first | exact below_drew1 (below_next (below_drew1 hbw5) hb6) | exact below_next (below_drew1 hbw5) hb6)).mono ?_; rintro e w7 ⟨f, y, rfl, hF, hb7⟩))
            all_goals
              have hb57 : Below w5.heap.size w5 w7 := by (repeat (first | (with_reducible exact Below.refl _ _) | (with_reducible exact below_boxed _ _) | (with_reducible refine below_box ?_ _) | (with_reducible refine below_drew1 ?_) | (with_reducible refine below_drewn ?_ _) | (with_reducible refine below_bytes ?_ _ _) | (with_reducible refine below_next ?_ (by assumption)) | (with_reducible refine below_set ?_ (by first | (simp; done) | (simp; omega) | omega) _)))
              have hO7 : OutOf w7 w4.heap.size (.slice pO os.length cO) os := own_kp hO (Kp.of_below (S := fun _ => False) hb57) (fun _ _ => id)
              have hbw7 : Below w.heap.size w w7 := hbw5.trans (hb57.mono hbw5.size)
              have HO7 := Lib.hid hO7; have HF := Lib.hid hF
              have hOne := HPair.out.one w7 hbw7
              have HOne := Lib.hid hOne
              clear hO hO7 hF hb57 hb6 hb7 hs hbw5 hb05 hwr k0 k1 k2 k3 m0 m1 m2 m3 hOne
              go_wp2_with fail
              go_loopw [10, 50] (fun vb vi wr => ∃ k : Nat, k ≤ os.length ∧ vi = .int .i64 (k : Int) ∧ vb = .bool (decide (f ∈ os.take k)) ∧ wr = w7) (fun _ vi _ => os.length - (intOf vi).toNat)
              case atStart => exact ⟨0, Nat.zero_le _, rfl, by simp, rfl⟩
              case round =>
                obtain ⟨k, hk, rfl, rfl, rfl⟩ := hrel
                obtain ⟨b, hb⟩ : ∃ b, b = decide (f ∈ os.take k) := ⟨_, rfl⟩
                rw [← hb]
                have HB := Lib.hid hb
                clear hb
                by_cases hlt : k < os.length
                · obtain ⟨n, hn⟩ : ∃ n, os[k]? = some n := ⟨_, List.getElem?_eq_getElem hlt⟩
                  have htk : os.take (k + 1) = os.take k ++ [n] := by rw [List.take_succ_eq_append_getElem hlt, (List.getElem?_eq_some_iff.1 hn).2]
                  have HTK : Hid (decide (f ∈ os.take (k + 1)) = (b || decide (f = n))) := Lib.hid (by rw [htk, HB.out]; simp)
                  obtain ⟨bO, rfl⟩ : ∃ b, pO = some ⟨b, 0, none⟩ := by
                    rcases HO7.out.2 with ⟨h, h'⟩ | ⟨b, _, _, h, _⟩
                    · omega
                    · cases h; exact ⟨b, rfl⟩
                  have hcell : wr.cell? ⟨bO, k, none⟩ = some (.int .u64 (n : Int)) := by
                    have h1 := World.ownsRow.cells HO7.out (g := bO) rfl k (offVal n) (by rw [List.getElem?_map, hn]; rfl)
                    by_cases h0 : k = 0
                    · subst h0; simpa [Addr.add, offVal] using h1
                    · simpa [Addr.add, h0, offVal] using h1
                  clear hn htk
                  cases b with
                  | true =>
                    go_wp2_with fail
                    go_roundw
                    case rel => exact ⟨k + 1, by omega, by go_num, by rw [HTK.out]; rfl, (by trivial)⟩
                    case measure => simp [intOf]; omega
                  | false =>
                    by_cases hnf : f = n
                    · subst hnf
                      go_wp2_with fail
                      go_roundw
                      case rel => exact ⟨k + 1, by omega, by go_num, by rw [HTK.out]; simp, (by trivial)⟩
                      case measure => simp [intOf]; omega
                    · have hne : ((n : Int) == (f : Int)) = false := by simp; omega
                      have HNF := Lib.hid hnf
                      clear hnf
                      go_wp2_with fail
                      go_roundw
                      case rel => exact ⟨k + 1, by omega, by go_num, by rw [HTK.out]; simp [HNF.out], (by trivial)⟩
                      case measure => simp [intOf]; omega
                · obtain rfl : k = os.length := by omega
                  rw [List.take_length] at HB
                  by_cases h0 : os.length = 0
                  · have hy : y = 1 := by
                      rcases HF.out with ⟨_, h⟩ | ⟨_, h⟩
                      · exact h
                      · have : f ∈ os := by rw [HOS.out]; exact sortN_mem.2 h
                        rw [List.length_eq_zero_iff.1 h0] at this; simp at this
                    subst hy
                    have h0' : (os.length : Int) = 0 := by omega
                    go_wp2_with fail
                    refine HOne.out.mono ?_
                    rintro e w8 ⟨rfl, hb8⟩
                    go_wp2_with fail
                    go_ret
                    exact ⟨rfl, below_next hbw7 hb8⟩
                  · have hpos : 0 < os.length := by omega
                    have hyf : y = 0 ∧ b = true := by
                      rcases HF.out with ⟨h, _⟩ | ⟨h1, h2⟩
                      · exfalso
                        have : os = [] := by rw [HOS.out, h]; simp [sortN]
                        rw [this] at hpos; simp at hpos
                      · exact ⟨h1, by rw [HB.out]; simp only [decide_eq_true_eq]; rw [HOS.out]; exact sortN_mem.2 h2⟩
                    obtain ⟨rfl, rfl⟩ := hyf
                    have h0' : ((os.length : Int) == 0) = false := beq_eq_false_iff_ne.2 (by omega)
                    clear h0
                    go_wp2_with fail
                    refine HOne.out.mono ?_
                    rintro e w8 ⟨rfl, hb8⟩
                    go_wp2_with fail
                    go_ret
                    exact ⟨rfl, below_next hbw7 hb8⟩
end Go.Proofs.YtnhhhjnhmbhdgaaGreatDoor
