import Derived.Test.YtnhhhjnhmbhdgaaGreatDoorG07
import Derived.Test.YtnhhhjnhmbhdgaaGreatDoorG03
import Derived.LoopTactic
import Derived.RegionCalls
import Derived.Deep.RegionWith
import Derived.BigRegion
import Derived.LaidEql
/- All offsets for a digest, of one width. -/
namespace Go.Proofs.YtnhhhjnhmbhdgaaGreatDoor
open Go.RowKit
set_option linter.unusedVariables false
set_option linter.unusedSimpArgs false
attribute [local go_sem] setCell_drewN alloc_drewN

/-- The offsets of the rows from i on, as long as they have the digest d; at most k rows are looked at. -/
def runFrom (width : Nat) (data d : List UInt8) : Nat → Nat → List Nat
  | 0, _ => []
  | k + 1, i => if d = rowDig width data i then Lib.leNat (rowOff width data i) :: runFrom width data d k (i + 1) else []

theorem Told.keepB {ob : Nat} {w w' : World} {t : TypeId} {A : Option Addr} {bs : List UInt8} (h : Told ob w w') (hA : BytesAt w A bs) (hB : ByteBlk w t A) (ht : t ≠ 23) (hn : ∀ ad, A = some ad → ad.block ≠ ob) : BytesAt w' A bs ∧ ByteBlk w' t A := by
  have hk : ∀ ad, A = some ad → w'.heap[ad.block]? = w.heap[ad.block]? := by
    intro ad e
    obtain ⟨cs, fr, hh⟩ := hB ad e
    exact (h.cells hh (hn ad e) ht).trans hh.symm
  exact ⟨hA.upd hk, hB.upd hk⟩

/-- What a search needs of the memory: the width and its rows, the digest, and the two variables that the closures see. -/
structure GetI (w : World) (ob sb db g gd width n : Nat) (data d : List UInt8) (A : Option Addr) (c : Nat) : Prop where
  sec : SecAt w g gd width n data
  dig : BytesAt w A d
  blk : ByteBlk w 5 A
  s : w.heap[sb]? = some (.cells #[.pointer (some ⟨g, 0, none⟩)] 306 (0, 0))
  d : w.heap[db]? = some (.cells #[.slice A d.length c] 49 (0, 0))
  ne : sb ≠ ob ∧ db ≠ ob ∧ g ≠ ob ∧ gd ≠ ob
  nA : ∀ ad, A = some ad → ad.block ≠ ob
theorem GetI.told {w w' : World} {ob sb db g gd width n : Nat} {data d : List UInt8} {A : Option Addr} {c : Nat} (h : GetI w ob sb db g gd width n data d A c) (k : Told ob w w') : GetI w' ob sb db g gd width n data d A c := by
  obtain ⟨⟨h1, h2, h3, h4, h5, h6⟩, h7, h8, h9, h10, h11, h12⟩ := h
  obtain ⟨a1, a2⟩ := k.keepB h7 h8 (by decide) h12
  exact ⟨⟨k.cells h1 h11.2.2.1 (by decide), k.cells h2 h11.2.2.2 (by decide), h3, h4, h5, h6⟩, a1, a2, k.cells h9 h11.1 (by decide), k.cells h10 h11.2.1 (by decide), h11, h12⟩
theorem OutAt.told {w w' : World} {ob mb most : Nat} {os : List Nat} (h : OutAt w ob mb most os) (hw : w'.heap = w.heap) : OutAt w' ob mb most os := by
  obtain ⟨⟨v, h1, h2⟩, h3, h4⟩ := h
  have hc : ∀ p : Addr, w'.cell? p = w.cell? p := fun p => World.cell?_of_block (by rw [hw])
  refine ⟨⟨v, by rw [hw]; exact h1, h2.1, ?_⟩, (hc _).trans h3, h4⟩
  rcases h2.2 with h | ⟨g, cap, cur, e1, e2, e3, e4⟩
  · exact .inl h
  · exact .inr ⟨g, cap, cur, e1, e2, by rw [hw]; exact e3, e4⟩
/-- A step that makes memory and leaves the rest. -/
theorem OutAt.below {w w' : World} {ob mb most : Nat} {os : List Nat} (h : OutAt w ob mb most os) (hb : Below w.heap.size w w') : OutAt w' ob mb most os := by
  obtain ⟨⟨v, h1, h2⟩, h3, h4⟩ := h
  have hl := (Array.getElem?_eq_some_iff.1 h1).1
  refine ⟨⟨v, (hb.block _ hl).trans h1, h2.1, ?_⟩, (hb.cell (p := ⟨mb, 0, none⟩) (by show mb < _; omega)).trans h3, h4⟩
  rcases h2.2 with h | ⟨g, cap, cur, e1, e2, e3, e4⟩
  · exact .inl h
  · exact .inr ⟨g, cap, cur, e1, e2, (hb.block _ (Array.getElem?_eq_some_iff.1 e3).1).trans e3, e4⟩
theorem Told.of_below {ob : Nat} {w w' : World} (h : Below w.heap.size w w') (hl : ob ≤ w.heap.size) : Told ob w w' :=
  ⟨h.mono hl, fun k o hk _ _ => (h.block k (Array.getElem?_eq_some_iff.1 hk).1).trans hk⟩

theorem eight {l : List UInt8} (h : l.length = 8) : ∃ b0 b1 b2 b3 b4 b5 b6 b7, l = [b0, b1, b2, b3, b4, b5, b6, b7] := by
  match l, h with
  | [b0, b1, b2, b3, b4, b5, b6, b7], _ => exact ⟨b0, b1, b2, b3, b4, b5, b6, b7, rfl⟩

/-- What a search ends with: the offsets told; an error if there is none. -/
def GotAll (ev : Value) (M : List Nat) (e : Ending) : Prop := e = .returned (if M = [] then ev else .nilIface)

set_option maxRecDepth 100000 in
set_option maxHeartbeats 3200000 in
theorem getAll_ok (ob mb most g gd width n : Nat) (data d : List UInt8) (A : Option Addr) (c : Nat) (ty : TypeId) (ev : Value) (w : World) (hI : SecAt w g gd width n data) (hd : BytesAt w A d) (hB : ByteBlk w 5 A) (hne : g ≠ ob ∧ gd ≠ ob) (hnA : ∀ ad, A = some ad → ad.block ≠ ob)
    (hO : OutAt w ob mb most []) (hm : 1 ≤ most) (hn : n ≤ 1000000) (hg5 : 0 < ob) (he : w.cell? ⟨0, 0, none⟩ = some (.iface ty ev)) :
    Calls Tryz.prog 192 #[.pointer (some ⟨g, 0, none⟩), .slice A d.length c, .func (.func 88) #[] #[.pointer (some ⟨ob, 0, none⟩), .pointer (some ⟨mb, 0, none⟩)]] w fun e w' =>
      ∃ r, Halves (fun i => decide (Lib.compareBytes d (rowDig width data i) ≤ 0)) n r ∧ GotAll (.iface ty ev) (runFrom width data d (n - r) r) e ∧ OutAt w' ob mb most ((runFrom width data d (n - r) r).take most) ∧ Told ob w w' := by
  have hobl : ob < w.heap.size := by obtain ⟨⟨v, h, _⟩, _⟩ := hO; exact (Array.getElem?_eq_some_iff.1 h).1
  have hgl := (Array.getElem?_eq_some_iff.1 hI.blk).1
  have hb1 : Below w.heap.size w ((w.alloc (.cells #[.pointer (some ⟨g, 0, none⟩)] 306)).alloc (.cells #[.slice A d.length c] 49)) := by (repeat (first | (with_reducible exact Below.refl _ _) | (with_reducible exact below_boxed _ _) | (with_reducible refine below_box ?_ _) | (with_reducible refine below_drew1 ?_) | (with_reducible refine below_drewn ?_ _) | (with_reducible refine below_bytes ?_ _ _) | (with_reducible refine below_next ?_ (by assumption)) | (with_reducible refine below_set ?_ (by first | (simp; done) | (simp; omega) | omega) _)))
  obtain ⟨W, hW⟩ : ∃ W, W = ((w.alloc (.cells #[.pointer (some ⟨g, 0, none⟩)] 306)).alloc (.cells #[.slice A d.length c] 49)) := ⟨_, rfl⟩
  have hT : Told ob w W := by rw [hW]; exact Told.of_below hb1 (Nat.le_of_lt hobl)
  have hG : GetI W ob w.heap.size (w.heap.size + 1) g gd width n data d A c := by
    rw [hW]
    obtain ⟨a1, a2⟩ := (Told.of_below hb1 (Nat.le_of_lt hobl)).keepB hd hB (by decide) hnA
    refine ⟨⟨?_, ?_, hI.w8, hI.wle, hI.len, hI.big⟩, a1, a2, ?_, ?_, ⟨by omega, by omega, hne.1, hne.2⟩, hnA⟩
    · exact (hb1.block _ hgl).trans hI.blk
    · exact (hb1.block _ (Array.getElem?_eq_some_iff.1 hI.row).1).trans hI.row
    · rw [heap_alloc_old _ _ (by simp), heap_alloc_last]
    · have := heap_alloc_last (w.alloc (.cells #[.pointer (some ⟨g, 0, none⟩)] 306)) (.cells #[.slice A d.length c] 49)
      simpa using this
  have hO1 : OutAt W ob mb most [] := by rw [hW]; exact hO.below hb1
  have he1 : W.cell? ⟨0, 0, none⟩ = some (.iface ty ev) := (hT.bel.cell (p := ⟨0, 0, none⟩) hg5).trans he
  have hs0 := (blk_cell' hG.sec.blk 1).trans (show _ = some (Value.int .u64 (n : Int)) from rfl)
  have hss := (blk_cell' hG.s 0).trans (show _ = some (Value.pointer (some ⟨g, 0, none⟩)) from rfl)
  have hS := Search_ok w.heap.size (w.heap.size + 1) n (fun i => decide (Lib.compareBytes d (rowDig width data i) ≤ 0)) W (by omega) (fun i q hi => lessAt_ok w.heap.size (w.heap.size + 1) g gd width n i data d A c (W.drewN q) ⟨hG.sec.blk, hG.sec.row, hG.sec.w8, hG.sec.wle, hG.sec.len, hG.sec.big⟩ hi hG.dig hss ((blk_cell' hG.d 0).trans rfl))
  have hg1 := (blk_cell' hI.blk 1).trans (show _ = some (Value.int .u64 (n : Int)) from rfl)
  rw [hW] at hS
  have hnw : IntKind.i64.wrap (n : Int) = (n : Int) := by rw [IntKind.wrap_i64]; omega
  clear hb1 hI hd hB hO he
  have hmf : ∀ (fn : Fn) (first cap : Array Value) (w : World), (Instr.makeFunc fn first cap).run Tryz.prog w = .ok (.func fn first cap) w := fun _ _ _ _ => rfl
  go_enter Tryz.func192, Tryz.ntmps192
  go_wp2_with fail
  refine hS.mono ?_
  clear hS hg1
  rintro e w1 ⟨⟨r, rfl, hH⟩, q, rfl⟩
  rw [← hW]
  have hrn := hH.1
  have HH := Lib.hid hH; clear hH
  have hG1 : GetI (W.drewN q) ob w.heap.size (w.heap.size + 1) g gd width n data d A c := hG.told ((Told.refl _ _).drewN q)
  have hO2 : OutAt (W.drewN q) ob mb most [] := hO1.told rfl
  have hT1 : Told ob w (W.drewN q) := hT.drewN q
  have he2 : (W.drewN q).cell? ⟨0, 0, none⟩ = some (.iface ty ev) := he1
  generalize W.drewN q = W1 at *
  clear hs0 hss hG hO1 hT he1 hW
  go_wp2_with fail
  go_loopw [7, 8] (fun vi va wr => ∃ (i : Nat) (os : List Nat), vi = .int .i64 (i : Int) ∧ va = .bool (!os.isEmpty) ∧ i ≤ n ∧ r ≤ i ∧ (os = [] ∨ os.length < most) ∧ os.length = i - r ∧ runFrom width data d (n - r) r = os ++ runFrom width data d (n - i) i ∧ OutAt wr ob mb most os ∧ GetI wr ob w.heap.size (w.heap.size + 1) g gd width n data d A c ∧ Told ob w wr ∧ wr.cell? ⟨0, 0, none⟩ = some (.iface ty ev)) (fun vi _ _ => n - (intOf vi).toNat)
  case atStart => exact ⟨r, [], rfl, rfl, hrn, Nat.le_refl _, .inl rfl, by simp, rfl, hO2, hG1, hT1, he2⟩
  case round =>
    clear hG1 hO2 hT1 he2
    obtain ⟨i, os, rfl, rfl, hin, hri, hos, hlen, hrun, hO, hG, hT, he⟩ := hrel
    have c0 := (blk_cell' hG.sec.blk 0).trans (show _ = some (Value.int .u32 (width : Int)) from rfl)
    have c1 := (blk_cell' hG.sec.blk 1).trans (show _ = some (Value.int .u64 (n : Int)) from rfl)
    have c2 := (blk_cell' hG.sec.blk 2).trans (show _ = some (Value.slice (some ⟨gd, 0, none⟩) data.length data.length) from rfl)
    have cs := (blk_cell' hG.s 0).trans (show _ = some (Value.pointer (some ⟨g, 0, none⟩)) from rfl)
    have cd := (blk_cell' hG.d 0).trans (show _ = some (Value.slice A d.length c) from rfl)
    have hiw : IntKind.u64.wrap (i : Int) = (i : Int) := by rw [IntKind.wrap_u64]; omega
    by_cases hlt : i < n
    · obtain ⟨b1, b2⟩ := row_bounds hG.sec.w8 hG.sec.len hlt
      have hrd := rowDig_len hG.sec.w8 hG.sec.len hlt
      have h8 := hG.sec.w8
      have hwl := hG.sec.wle
      have hbig := hG.sec.big
      have hrow := hG.sec.row
      obtain ⟨p, hp⟩ : ∃ p, p = i * width := ⟨_, rfl⟩
      rw [← hp] at b1 b2
      have hm1 := mul_wrap hp (by omega)
      have hm2 : IntKind.i64.wrap (((i : Int) + 1) * (width : Int)) = ((p + width : Nat) : Int) := by
        have := mul_wrap (a := i + 1) (b := width) (p := p + width) b2.symm (by omega)
        simpa using this
      have hrb : BytesAt wr (some ⟨gd, p, none⟩) (rowDig width data i) := by unfold rowDig; rw [← hp]; exact row_bytes hrow p (width - 8)
      have hoff : rowOff width data i = (data.drop (p + width - 8)).take 8 := by unfold rowOff; rw [b2]
      obtain ⟨pw, hpw⟩ : ∃ pw, pw = p + width := ⟨_, rfl⟩
      rw [← hpw] at hm2 hoff b2
      obtain ⟨po, hpo⟩ : ∃ po, po = pw - 8 := ⟨_, rfl⟩
      rw [← hpo] at hoff
      have hpo2 : IntKind.i64.wrap ((pw : Int) - 8) = (po : Int) := by rw [IntKind.wrap_i64]; omega
      have hiw1 : IntKind.i64.wrap ((i : Int) + 1) = (i : Int) + 1 := by rw [IntKind.wrap_i64]; omega
      have hww : IntKind.i64.wrap (width : Int) = (width : Int) := by rw [IntKind.wrap_i64]; omega
      have hs1 := fun W => cut_lh gd p po data.length (by omega) (by omega) (by omega) (p : Int) (po : Int) rfl rfl W
      have hs2 := fun W => cut_all A d.length c W
      have hs3 := fun W => cut_lh gd po pw data.length (by omega) (by omega) (by omega) (po : Int) (pw : Int) rfl rfl W
      have hlen1 : (rowDig width data i).length = po - p := by rw [hrd]; omega
      have hE : ∀ n', Calls Tryz.prog 207 #[.slice A d.length c, .slice (some ⟨gd, p, none⟩) (po - p) (data.length - p)] (wr.drewN n') fun e w' => e = .returned (.bool (decide (d = rowDig width data i))) ∧ w' = wr.drewN n' := by
        intro n'
        have := Equal_ok d (rowDig width data i) A (some ⟨gd, p, none⟩) c (data.length - p) (wr.drewN n') hG.dig hrb
        rw [hlen1] at this
        exact this.mono fun e w' h => ⟨by rw [h.1]; exact congrArg (fun b => Ending.returned (.bool b)) (by by_cases hx : d = rowDig width data i <;> simp [hx]), h.2.symm⟩
      have hol : (rowOff width data i).length = 8 := by rw [hoff]; simp only [List.length_take, List.length_drop]; omega
      have hob : BytesAt wr (some ⟨gd, po, none⟩) (rowOff width data i) := by rw [hoff]; exact row_bytes hrow po 8
      have hrk : n - i = n - (i + 1) + 1 := by omega
      have hrec : runFrom width data d (n - i) i = if d = rowDig width data i then Lib.leNat (rowOff width data i) :: runFrom width data d (n - (i + 1)) (i + 1) else [] := by rw [hrk]; rfl
      rw [hrec] at hrun
      have h8o : 8 ≤ pw - po := by omega
      have HR := Lib.hid hrun; have HB := Lib.hid (And.intro b1 (And.intro b2 (And.intro hpw hpo))); have HL := Lib.hid hlen1; have HOS := Lib.hid hos; have HLN := Lib.hid hlen
      clear hrun hrec hrk hoff hpo hpw b1 b2 hp hrd hlen1 hos hlen
      by_cases hdd : d = rowDig width data i
      · have hdt : decide (d = rowDig width data i) = true := decide_eq_true hdd
        rw [hdt] at hE
        rw [if_pos hdd] at HR
        obtain ⟨y0, y1, y2, y3, y4, y5, y6, y7, hys⟩ := eight hol
        rw [hys] at hob
        have HY := Lib.hid hys
        clear hys hol hdd hdt hrb
        rcases hob with hob | ⟨g', o', e', hob⟩
        · cases hob
        cases e'
        have q0 := hob 0 y0 rfl
        have q1 := hob 1 y1 rfl
        have q2 := hob 2 y2 rfl
        have q3 := hob 3 y3 rfl
        have q4 := hob 4 y4 rfl
        have q5 := hob 5 y5 rfl
        have q6 := hob 6 y6 rfl
        have q7 := hob 7 y7 rfl
        have hU : ∀ n', Calls Tryz.prog 208 #[.agg #[], .slice (some ⟨gd, po, none⟩) (pw - po) (data.length - po)] (wr.drewN n') fun e w' => e = .returned (.int .u64 (Lib.leNat (rowOff width data i) : Int)) ∧ Below wr.heap.size wr w' := by
          intro n'
          rw [HY.out]
          exact (Tryz.binary_LE_Uint64 gd po (pw - po) (data.length - po) y0 y1 y2 y3 y4 y5 y6 y7 (wr.drewN n') h8o q0 q1 q2 q3 q4 q5 q6 q7).mono fun e w' h => ⟨h.1, ⟨h.2.os, h.2.tape, h.2.output, h.2.size, h.2.block⟩⟩
        clear hob q0 q1 q2 q3 q4 q5 q6 q7
        generalize Lib.leNat (rowOff width data i) = off at *
        go_wp2_with fail
        go_quiet ((go_at_call 207; exact Calls.quiet_of_same (hE _)))
        go_wp2_with fail
        refine wp_region_noPanic ?_
        go_region_with (go_at_call 208; refine (hU _).mono ?_; rintro e w2 ⟨rfl, hb2⟩)
        all_goals
          refine NoPanic.normal ?_
          have hobw : ob ≤ wr.heap.size := by have := hT.bel.size; omega
          have hT2 : Told ob wr w2 := Told.of_below hb2 hobw
          have hO2 : OutAt w2 ob mb most os := hO.below hb2
          have hG2 := hG.told hT2
          have he2 : w2.cell? ⟨0, 0, none⟩ = some (.iface ty ev) := (hT2.bel.cell (p := ⟨0, 0, none⟩) hg5).trans he
          have hT3 := hT.trans hT2
          have hTell := tell_ok ob mb most os off w2 hO2 (by have := HLN.out; omega)
          clear hO hG hT he hT2 hb2 hU hO2 c0 c1 c2 cs cd
          by_cases hmo : os.length + 1 < most
          · have hdm : decide (os.length + 1 < most) = true := decide_eq_true hmo
            rw [hdm] at hTell
            clear hdm
            go_wp2_with fail
            refine hTell.mono ?_
            clear hTell
            rintro e w3 ⟨rfl, hO3, hT4⟩
            have hG3 := hG2.told hT4
            have he3 : w3.cell? ⟨0, 0, none⟩ = some (.iface ty ev) := (hT4.bel.cell (p := ⟨0, 0, none⟩) hg5).trans he2
            have hT5 := hT3.trans hT4
            clear hG2 he2 hT3 hT4
            go_wp2_with fail
            go_roundw
            case rel => exact ⟨i + 1, os ++ [off], by go_num, by simp, by omega, by omega, .inr (by simpa using hmo), by simp; have := HLN.out; omega, by rw [HR.out]; simp, hO3, hG3, hT5, he3⟩
            case measure => simp [intOf]; omega
          · have hdm : decide (os.length + 1 < most) = false := decide_eq_false hmo
            rw [hdm] at hTell
            clear hdm
            go_wp2_with fail
            refine hTell.mono ?_
            clear hTell
            rintro e w3 ⟨rfl, hO3, hT4⟩
            have hT5 := hT3.trans hT4
            clear hG2 he2 hT3 hT4
            go_wp2_with fail
            go_ret
            refine ⟨r, HH.out, by rw [HR.out]; simp [GotAll], ?_, hT5⟩
            have hml : most = (os ++ [off]).length := by
              have := HOS.out
              simp only [List.length_append, List.length_cons, List.length_nil]
              rcases this with h | h
              · subst h; simp at hmo ⊢; omega
              · omega
            rw [HR.out, show os ++ off :: runFrom width data d (n - (i + 1)) (i + 1) = (os ++ [off]) ++ runFrom width data d (n - (i + 1)) (i + 1) by simp, List.take_left' hml.symm]
            exact hO3
      · have hdt : decide (d = rowDig width data i) = false := decide_eq_false hdd
        rw [hdt] at hE
        rw [if_neg hdd, List.append_nil] at HR
        clear hdt hdd hrb hob hol
        cases os with
        | nil =>
          go_wp2_with fail
          go_quiet ((go_at_call 207; exact Calls.quiet_of_same (hE _)))
          go_wp2_with fail
          go_ret
          exact ⟨r, HH.out, by rw [HR.out]; rfl, by rw [HR.out, List.take_nil]; exact hO.told rfl, hT.drewN _⟩
        | cons o os =>
          go_wp2_with fail
          go_quiet ((go_at_call 207; exact Calls.quiet_of_same (hE _)))
          go_wp2_with fail
          go_ret
          exact ⟨r, HH.out, by rw [HR.out]; rfl, by rw [HR.out, List.take_of_length_le (by rcases HOS.out with h | h; cases h; omega)]; exact hO.told rfl, hT.drewN _⟩
    · obtain rfl : i = n := by omega
      have hr0 : runFrom width data d (i - i) i = [] := by rw [Nat.sub_self]; rfl
      rw [hr0, List.append_nil] at hrun
      have HR := Lib.hid hrun; clear hrun hr0
      cases os with
      | nil =>
        go_wp2_with fail
        go_ret
        exact ⟨r, HH.out, by rw [HR.out]; rfl, by rw [HR.out]; simpa using hO, hT⟩
      | cons o os =>
        go_wp2_with fail
        go_ret
        exact ⟨r, HH.out, by rw [HR.out]; rfl, by rw [HR.out, List.take_of_length_le (by rcases hos with h | h; cases h; omega)]; exact hO, hT⟩
end Go.Proofs.YtnhhhjnhmbhdgaaGreatDoor

/- All offsets for an identifier, of an index sorted by digests. -/
namespace Go.Proofs.YtnhhhjnhmbhdgaaGreatDoor
open Go.RowKit
set_option linter.unusedVariables false
set_option linter.unusedSimpArgs false
attribute [local go_sem] setCell_drewN alloc_drewN

/-- Each part of an index is whole rows. -/
def Whole (secs : List Sec) : Prop := ∀ s ∈ secs, 8 ≤ s.width ∧ s.width ≤ 33554432 ∧ (∃ n, s.data.length = n * s.width ∧ n ≤ 1000000)

/-- The offsets that an index tells for a digest. -/
def Tells (secs : List (Nat × List UInt8)) (d : List UInt8) (M : List Nat) : Prop :=
  (∀ s ∈ secs, s.1 ≠ d.length + 8) ∧ M = [] ∨ ∃ s ∈ secs, s.1 = d.length + 8 ∧ ∃ n r, s.2.length = n * s.1 ∧ Halves (fun i => decide (Lib.compareBytes d (rowDig s.1 s.2 i) ≤ 0)) n r ∧ M = runFrom s.1 s.2 d (n - r) r
/-- What a search in an index ends with. -/
def GotMw (secs : List (Nat × List UInt8)) (d : List UInt8) (ev : Value) (M : List Nat) (e : Ending) : Prop :=
  GotAll ev M e ∧ ((∀ s ∈ secs, s.1 ≠ d.length + 8) ∧ M = [] ∨ ∃ s ∈ secs, s.1 = d.length + 8 ∧ ∃ n r, s.2.length = n * s.1 ∧ Halves (fun i => decide (Lib.compareBytes d (rowDig s.1 s.2 i) ≤ 0)) n r ∧ M = runFrom s.1 s.2 d (n - r) r)

theorem mwZero (W : World) : (zeroValue 275).run Tryz.prog W = .ok (.agg #[.int .u32 0, .int .u64 0, .slice none 0 0]) W := by kernel_rfl
set_option maxRecDepth 100000 in
set_option maxHeartbeats 3200000 in
theorem MwGetAll_ok (a : Addr) (mk ob mb most : Nat) (secs : List Sec) (c : CidOf) (hc : c.Ok) (ty : TypeId) (ev : Value) (w : World) (hM : MwAt w a mk secs) (hW : Whole secs) (hO : OutAt w ob mb most []) (hm : 1 ≤ most)
    (hne : ∀ s ∈ secs, s.gd ≠ ob) (hg5 : 0 < ob) (he : w.cell? ⟨0, 0, none⟩ = some (.iface ty ev)) :
    Calls Tryz.prog 180 #[.pointer (some a), .agg #[.string c.str], .func (.func 88) #[] #[.pointer (some ⟨ob, 0, none⟩), .pointer (some ⟨mb, 0, none⟩)]] w fun e w' =>
      ∃ M, GotMw (secs.map Sec.two) c.dig (.iface ty ev) M e ∧ OutAt w' ob mb most (M.take most) ∧ Told ob w w' := by
  have hobl : ob < w.heap.size := by obtain ⟨⟨v, h, _⟩, _⟩ := hO; exact (Array.getElem?_eq_some_iff.1 h).1
  have hdl := hc.dig
  have hal := World.block_lt_of_cell? w _ hM.cell
  go_enter Tryz.func180, Tryz.ntmps180
  go_wp2_with fail
  refine (Hash_ok c hc _).mono ?_
  rintro e w1 ⟨A1, c1, rfl, hc1, hA1, hB1, hF1, hb1⟩
  obtain ⟨hcc, hff⟩ := bcell hb1
  have hz : w.heap.size < w1.heap.size := by have := hb1.size; simp at this; omega
  go_wp2_with fail
  refine (Decode_ok c.code hc.code c.dig (by omega) A1 _ c1 _ hA1 rfl hc1).mono ?_
  rintro e w2 ⟨g, A2, c2, rfl, hc2, hS2, hb2, hg2, hblk⟩
  clear hcc hff
  have hbw : Below w.heap.size w w2 := by (repeat (first | (with_reducible exact Below.refl _ _) | (with_reducible exact below_boxed _ _) | (with_reducible refine below_box ?_ _) | (with_reducible refine below_drew1 ?_) | (with_reducible refine below_drewn ?_ _) | (with_reducible refine below_bytes ?_ _ _) | (with_reducible refine below_next ?_ (by assumption)) | (with_reducible refine below_set ?_ (by first | (simp; done) | (simp; omega) | omega) _)))
  have hA2 : BytesAt w2 A2 c.dig := hS2.bytes _ (hA1.below hb2)
  have hB2 : ByteBlk w2 5 A2 := hS2.blk _ _ (hB1.below hb2)
  have hF2 : From w.heap.size A2 := hS2.frm _ (hF1.mono (by simp))
  have k3 : w2.cell? ⟨g, 3, none⟩ = some (.slice A2 c.dig.length c2) := by simp [World.cell?, hblk]
  have hM2 : MwAt w2 a mk secs := hM.kp (S := fun _ => False) (Kp.of_below hbw) id id (fun _ _ => id)
  have hO2 : OutAt w2 ob mb most [] := hO.below hbw
  have hz2 : w1.heap.size ≤ w2.heap.size := hb2.size
  have he2 : w2.cell? ⟨0, 0, none⟩ = some (.iface ty ev) := (hbw.cell (p := ⟨0, 0, none⟩) (by show 0 < _; omega)).trans he
  have ca := hM2.cell
  have hdw : IntKind.u32.wrap ((c.dig.length : Int) + 8) = (c.dig.length : Int) + 8 := by rw [IntKind.wrap_u32]; omega
  have hfs := find_sec (secs := secs) (k := (c.dig.length : Int) + 8)
  have hbl : Below w.heap.size w w2 := hbw
  have hgl2 : g < w2.heap.size := (Array.getElem?_eq_some_iff.1 hblk).1
  have hal2 := World.block_lt_of_cell? w2 _ ca
  have hml2 := hM2.map.lt
  have hg52 : 0 < w2.heap.size := by omega
  clear hb1 hb2 hblk hA1 hB1 hF1 hM hO hS2
  cases hf : secs.find? (fun s => decide ((s.width : Int) = (c.dig.length : Int) + 8)) with
  | none =>
    rw [hf] at hfs
    have hl1 := (hM2.map.upd (w' := w2.drew) rfl).look_no (P := Tryz.prog) Tryz.underlying161 Tryz.underlying99 hfs true _ mwZero
    have hl2 := (hM2.map.upd (w' := (w2.alloc (.cells #[.int .u32 0, .int .u64 0, .slice none 0 0] 275)).drew) (heap_alloc_old w2 _ hml2)).look_no (P := Tryz.prog) Tryz.underlying161 Tryz.underlying99 hfs true _ mwZero
    simp only [if_true] at hl1 hl2
    have HF := Lib.hid hf
    clear hf hfs
    go_wp2_with fail
    go_region
    all_goals
      go_wp2_with fail
      go_ret
      have hbx : Below w2.heap.size w2 (w2.alloc (.cells #[.int .u32 0, .int .u64 0, .slice none 0 0] 275)) := below_boxed w2 _
      refine ⟨[], ⟨rfl, .inl ⟨?_, rfl⟩⟩, (by rw [List.take_nil]; exact (hO2.below hbx).told rfl), ((Told.of_below hbl (Nat.le_of_lt hobl)).trans (Told.of_below hbx (by omega))).drewN 1⟩
      intro s hs
      obtain ⟨s0, hs0, rfl⟩ := List.mem_map.1 hs
      have := List.find?_eq_none.1 HF.out s0 hs0
      simp only [decide_eq_true_eq] at this
      show s0.width ≠ _
      omega
  | some s =>
    rw [hf] at hfs
    have hsm : s ∈ secs := List.mem_of_find?_eq_some hf
    have hsw : (s.width : Int) = (c.dig.length : Int) + 8 := by have := List.find?_some hf; simpa using this
    obtain ⟨h8, hwl, n, hn, hn6⟩ := hW s hsm
    have hrow := hM2.row s hsm
    have hgd := hne s hsm
    have hgdl := (Array.getElem?_eq_some_iff.1 hrow).1
    have hl1 := (hM2.map.upd (w' := w2.drew) rfl).look (P := Tryz.prog) Tryz.underlying161 Tryz.underlying99 hfs true
    have hl2 := (hM2.map.upd (w' := (w2.alloc (.cells #[.int .u32 0, .int .u64 0, .slice none 0 0] 275)).drew) (heap_alloc_old w2 _ hml2)).look (P := Tryz.prog) Tryz.underlying161 Tryz.underlying99 hfs true
    simp only [if_true] at hl1 hl2
    have hdv : s.data.length / s.width = n := by rw [hn]; exact Nat.mul_div_cancel _ (by omega)
    have hsv : s.val = .agg #[.int .u32 (s.width : Int), .int .u64 (n : Int), .slice (some ⟨s.gd, 0, none⟩) s.data.length s.data.length] := by unfold Sec.val; rw [hdv]
    rw [hsv] at hl1 hl2
    have hbig : s.data.length ≤ 1099511627776 := by
      rw [hn]
      have : n * s.width ≤ 1000000 * 208 := Nat.mul_le_mul hn6 (by omega)
      omega
    have HN := Lib.hid hn
    have hsecW : ∀ W : World, Below w2.heap.size w2 W → W.heap[w2.heap.size]? = some (.cells #[.int .u32 (s.width : Int), .int .u64 (n : Int), .slice (some ⟨s.gd, 0, none⟩) s.data.length s.data.length] 275 (0, 0)) → SecAt W w2.heap.size s.gd s.width n s.data :=
      fun W hb h => ⟨h, (hb.block _ hgdl).trans hrow, h8, hwl, HN.out, hbig⟩
    have hbx : Below w2.heap.size w2 (w2.alloc (.cells #[.int .u32 (s.width : Int), .int .u64 (n : Int), .slice (some ⟨s.gd, 0, none⟩) s.data.length s.data.length] 275)).drew := below_drew1 (below_boxed w2 _)
    have hG := getAll_ok ob mb most w2.heap.size s.gd s.width n s.data c.dig A2 c2 ty ev _ (hsecW _ hbx (heap_alloc_last w2 _)) (hA2.below hbx) (hB2.below hbx) ⟨by omega, hgd⟩ (fun ad e => by have := hF2 ad e; omega) (hO2.below hbx) hm hn6 hg5 ((hbx.cell (p := ⟨0, 0, none⟩) (by show 0 < _; omega)).trans he2)
    have hTx : Told ob w (w2.alloc (.cells #[.int .u32 (s.width : Int), .int .u64 (n : Int), .slice (some ⟨s.gd, 0, none⟩) s.data.length s.data.length] 275)).drew := (Told.of_below hbl (Nat.le_of_lt hobl)).trans (Told.of_below hbx (by omega))
    have HSW := Lib.hid hsw
    clear hf hfs hsw hn hdv hsv hsecW hbx hrow
    go_wp2_with fail
    go_region
    all_goals
      go_wp2_with fail
      refine hG.mono ?_
      clear hG
      rintro e w3 ⟨r, hH, hGA, hO3, hT3⟩
      have he : ∃ v, e = .returned v := by unfold GotAll at hGA; exact ⟨_, hGA⟩
      obtain ⟨v, rfl⟩ := he
      go_wp2_with fail
      go_ret
      have hsw := HSW.out
      exact ⟨_, ⟨hGA, .inr ⟨s.two, List.mem_map.2 ⟨s, hsm, rfl⟩, by show s.width = _; omega, n, r, HN.out, hH, rfl⟩⟩, hO3, hTx.trans hT3⟩
end Go.Proofs.YtnhhhjnhmbhdgaaGreatDoor

/- index.ReadFrom of an index sorted by digests; impl.IxAll over it. -/
namespace Go.Proofs.YtnhhhjnhmbhdgaaGreatDoor
open Go.RowKit
set_option linter.unusedVariables false
set_option linter.unusedSimpArgs false
attribute [local go_sem] setCell_drewN alloc_drewN

theorem own_mono {w : World} {B B' : Nat} {e : TypeId} {k : Nat} {v : Value} {n : Nat} {xs : List Value} (h : w.ownsRow B e k v n xs) (hb : B' ≤ B) : w.ownsRow B' e k v n xs := by
  refine ⟨h.1, ?_⟩
  rcases h.2 with h | ⟨g, cap, cur, e1, e2, e3⟩
  · exact .inl h
  · exact .inr ⟨g, cap, cur, e1, Nat.le_trans hb e2, e3⟩
def whyOf (M : List Nat) : Int := if M = [] then 1 else 0
/-- A slice of offsets of the call's own. -/
def OutOf (w : World) (B : Nat) (v : Value) (os : List Nat) : Prop := w.ownsRow B 23 1 v os.length (os.map offVal)
theorem OutOf.mono {w : World} {B B' : Nat} {v : Value} {os : List Nat} (h : OutOf w B v os) (hb : B' ≤ B) : OutOf w B' v os := own_mono h hb
theorem method_UnmarshalM (v : Value) (w : World) : (method 454 mwT v "Unmarshal").run Tryz.prog w = .ok (202, v) w := by kernel_rfl
theorem method_GetAllM (v : Value) (w : World) : (method 454 mwT v "GetAll").run Tryz.prog w = .ok (180, v) w := by kernel_rfl
theorem uv1024 : Lib.uvarint 1024 = [128, 8] := by rw [Lib.uvarint_big (by omega), Lib.uvarint_small (by omega)]; rfl

set_option maxRecDepth 100000 in
set_option maxHeartbeats 1600000 in
theorem ReadFrom_sorted (b : Nat) (A : Option Addr) (cap : Nat) (bs : List UInt8) (ss : List (Nat × List UInt8)) (rest : List UInt8) (hw : ∀ s ∈ ss, 8 ≤ s.1 ∧ s.1 ≤ 33554432) (hnd : (ss.map (·.1)).Nodup) (w : World) (hsm : bs.length ≤ 16777216) (h : RdAt w b A cap bs 0)
    (hbs : bs = Lib.uvarint 1024 ++ (mwBytes ss ++ rest)) (hA : ∀ g' o, A = some ⟨g', o, none⟩ → g' < w.heap.size) :
    Calls Tryz.prog 15 #[.iface 47 (.pointer (some ⟨b, 0, none⟩))] w fun e w' => ∃ a mk secs, e = .returned (.tuple #[.iface mwT (.pointer (some a)), .nilIface]) ∧ RdAt w' b A cap bs (2 + (mwBytes ss).length) ∧
      secs.map Sec.two = ss ∧ MwAt w' a mk secs ∧ (∀ s ∈ secs, w.heap.size ≤ s.gd) ∧ w.heap.size ≤ a.block ∧ w.heap.size ≤ mk ∧ Kp (fun i => i = b) w w' := by
  have hme := method_UnmarshalM
  have hbl := h.blt
  have hRC := ReadCodec_ok b A cap bs 0 1024 (by omega) (mwBytes ss ++ rest) w h (by rw [List.drop_zero]; exact hbs)
  rw [uv1024] at hRC
  have hd2 : bs.drop 2 = mwBytes ss ++ rest := by rw [hbs, uv1024]; rfl
  have HD := Lib.hid hd2
  clear hbs hd2 h
  go_enter Tryz.func15, Tryz.ntmps15
  go_wp2_with fail
  refine hRC.mono ?_
  clear hRC
  rintro e w1 ⟨rfl, hR1, hK1⟩
  have hz1 := hK1.size
  go_wp2_with fail
  refine (New_sorted _).mono ?_
  rintro e w2 ⟨rfl, hM2, hb2⟩
  have hR2 : RdAt w2 b A cap bs 2 := hR1.keep (S := fun _ => False) (Kp.of_below hb2) id (fun _ _ _ => id)
  have hal := World.block_lt_of_cell? w2 _ hM2.cell
  have hU := MwUnmarshal_ok b A cap bs 2 ⟨w1.heap.size + 1, 0, none⟩ w1.heap.size ss rest hw hnd w2 hsm hR2 HD.out hM2 (by show w1.heap.size + 1 ≠ b; omega) (by omega) (by show w1.heap.size + 1 ≠ w1.heap.size; omega) (fun g' o e => by have := hA g' o e; have := hb2.size; refine ⟨by omega, ?_, by omega⟩; show g' ≠ w1.heap.size + 1; omega)
  clear hR1 hM2 hR2 hw hnd
  go_wp2_with fail
  refine hU.mono ?_
  clear hU
  rintro e w3 ⟨rfl, hR3, ⟨secs, hs, hM3, hg⟩, hK3⟩
  have hz2 := hb2.size
  go_wp2_with fail
  go_ret2
  refine ⟨_, _, secs, rfl, hR3, hs, hM3, fun s h => by have := hg s h; omega, by show w.heap.size ≤ w1.heap.size + 1; omega, hz1, ?_⟩
  exact (hK1.trans (S' := fun _ => False) (Kp.of_below hb2) (fun _ h => h.elim)).trans hK3 (fun i h => h.elim .inl (fun e => .inr (by omega)))

set_option maxRecDepth 100000 in
theorem found_nil (w : World) : Calls Tryz.prog 19 #[.nilIface] w fun e w' => e = .returned (.int .u8 0) ∧ w = w' := by
  go_enter Tryz.func19, Tryz.ntmps19
  go_wp2_with fail
  go_ret
  exact ⟨rfl, rfl⟩
theorem infoErrP : (Tryz.prog.info? 165).map (·.comparable) = some true := by kernel_rfl
theorem infoErrS : (Tryz.prog.info? 167).isSome = true := by kernel_rfl
theorem eql_err (p : Addr) (w : World) : (Go.binOp .eql 44 (.iface 165 (.pointer (some p))) (.iface 165 (.pointer (some p)))).run Tryz.prog w = .ok (.bool true) w := by
  obtain ⟨i, hi, hc⟩ := Option.map_eq_some_iff.1 infoErrP
  obtain ⟨j, hj⟩ := Option.isSome_iff_exists.1 infoErrS
  exact run_eql_iface_ptr_same w p Tryz.underlying44 Tryz.underlying165 hi hc hj
set_option maxRecDepth 100000 in
theorem found_no (p : Addr) (w : World) (he : w.cell? ⟨0, 0, none⟩ = some (.iface 165 (.pointer (some p)))) : Calls Tryz.prog 19 #[.iface 165 (.pointer (some p))] w fun e w' => e = .returned (.int .u8 1) ∧ w = w' := by
  have hq := eql_err
  go_enter Tryz.func19, Tryz.ntmps19
  go_wp2_with fail
  go_ret
  exact ⟨rfl, rfl⟩
set_option maxRecDepth 100000 in
set_option maxHeartbeats 3200000 in
theorem offsets_sorted (s : ByteArray) (ss : List (Nat × List UInt8)) (rest : List UInt8) (hs : s.data.toList = Lib.uvarint 1024 ++ (mwBytes ss ++ rest)) (hw : ∀ x ∈ ss, 8 ≤ x.1 ∧ x.1 ≤ 33554432 ∧ ∃ n, x.2.length = n * x.1 ∧ n ≤ 1000000) (hnd : (ss.map (·.1)).Nodup)
    (hl : s.size ≤ 16777216) (c : CidOf) (hc : c.Ok) (most : Nat) (hm : 1 ≤ most) (p : Addr) (w : World) (hg5 : 0 < w.heap.size) (he : w.cell? ⟨0, 0, none⟩ = some (.iface 165 (.pointer (some p)))) :
    Calls Tryz.prog 43 #[.string s, .agg #[.int .u64 c.ver, .int .u64 c.codec, .int .u64 c.code, .string (sOf c.dig)], .int .i64 (most : Int)] w fun e w' =>
      ∃ v M, e = .returned (.tuple #[v, .int .u8 (whyOf M)]) ∧ Tells ss c.dig M ∧ OutOf w' w.heap.size v (M.take most) ∧ Below w.heap.size w w' := by
  have hsz : s.size = s.data.toList.length := by rw [Array.length_toList]; rfl
  generalize hS : s.data.toList = bs at *
  have HS := Lib.hid hS; clear hS
  have HZ := Lib.hid hsz
  have hl' : bs.length ≤ 16777216 := by omega
  have hp : 0 < bs.length := by rw [hs, List.length_append, uv1024]; simp; omega
  clear hl hsz
  have HB := Lib.hid hs; clear hs
  have hme := method_GetAllM
  have hmf : ∀ (fn : Fn) (first cap : Array Value) (w : World), (Instr.makeFunc fn first cap).run Tryz.prog w = .ok (.func fn first cap) w := fun _ _ _ _ => rfl
  go_enter Tryz.func43, Tryz.ntmps43
  go_wp2_with (with_reducible refine conv_event rfl (.tmp 14) 9 49 5 rfl Tryz.underlying9 Tryz.underlying49 Tryz.underlying5 s rfl ?_)
  intro g0 cap0 w0 hg0 hcap0 hb0 hA0 hB0
  refine later ?_
  have hwA : Below w.heap.size w ((w.alloc (.cells #[.int .u64 (c.ver : Int), .int .u64 (c.codec : Int), .int .u64 (c.code : Int), .string (sOf c.dig)] 25)).alloc (.cells #[.int .i64 (most : Int)] 3)) := by (repeat (first | (with_reducible exact Below.refl _ _) | (with_reducible exact below_boxed _ _) | (with_reducible refine below_box ?_ _) | (with_reducible refine below_drew1 ?_) | (with_reducible refine below_drewn ?_ _) | (with_reducible refine below_bytes ?_ _ _) | (with_reducible refine below_next ?_ (by assumption)) | (with_reducible refine below_set ?_ (by first | (simp; done) | (simp; omega) | omega) _)))
  have hA1 := heap_alloc_last w (.cells #[.int .u64 (c.ver : Int), .int .u64 (c.codec : Int), .int .u64 (c.code : Int), .string (sOf c.dig)] 25)
  have hA2 := heap_alloc_last (w.alloc (.cells #[.int .u64 (c.ver : Int), .int .u64 (c.codec : Int), .int .u64 (c.code : Int), .string (sOf c.dig)] 25)) (.cells #[.int .i64 (most : Int)] 3)
  have hsz1 : (w.alloc (.cells #[.int .u64 (c.ver : Int), .int .u64 (c.codec : Int), .int .u64 (c.code : Int), .string (sOf c.dig)] 25)).heap.size = w.heap.size + 1 := by simp
  rw [hsz1] at hA2
  have hcb : w0.heap[w.heap.size]? = some (.cells #[.int .u64 (c.ver : Int), .int .u64 (c.codec : Int), .int .u64 (c.code : Int), .string (sOf c.dig)] 25 (0, 0)) := (hb0.block _ (by omega)).trans ((heap_alloc_old _ _ (by simp)).trans hA1)
  have hmb : w0.heap[w.heap.size + 1]? = some (.cells #[.int .i64 (most : Int)] 3 (0, 0)) := (hb0.block _ (by omega)).trans hA2
  have hbw0 : Below w.heap.size w w0 := hwA.trans (hb0.mono (by omega))
  have hgz : g0 < w0.heap.size := by
    rw [HS.out] at hA0
    rcases hA0 with h | ⟨g, o, e, hc⟩
    · rw [h] at hp; simp at hp
    · cases e
      exact World.block_lt_of_cell? w0 _ (hc 0 bs[0] (List.getElem?_eq_getElem hp))
  rw [HS.out] at hA0
  rw [HZ.out] at hcap0
  have hg0' : w.heap.size + 1 < g0 := by omega
  have hNR := NewReader_ok (some ⟨g0, 0, none⟩) cap0 bs w0 hA0 hcap0 (by omega) (fun g o e => by cases e; exact hgz)
  clear hA1 hA2 hsz1 hwA hb0 hA0 hB0 hg0
  rw [HZ.out]
  refine now ?_
  go_wp2_with fail
  refine hNR.mono ?_
  rintro e w1 ⟨rfl, hR1, hb1⟩
  have hz01 : w0.heap.size < w1.heap.size := hR1.blt
  have hRF := ReadFrom_sorted w0.heap.size (some ⟨g0, 0, none⟩) cap0 bs ss rest (fun x hx => ⟨(hw x hx).1, (hw x hx).2.1⟩) hnd w1 hl' hR1 HB.out (fun g' o e => by cases e; omega)
  have hbw1 := hbw0.trans (hb1.mono hbw0.size)
  have hcb1 := (hb1.block _ (Array.getElem?_eq_some_iff.1 hcb).1).trans hcb
  have hmb1 := (hb1.block _ (Array.getElem?_eq_some_iff.1 hmb).1).trans hmb
  clear hNR hR1 hb1 hcb hmb
  go_wp2_with fail
  refine hRF.mono ?_
  clear hRF
  rintro e w2 ⟨a, mk, secs, rfl, _, hss, hM2, hgds, haz, hmz, hK2⟩
  have hcb2 := (hK2.block _ (Array.getElem?_eq_some_iff.1 hcb1).1 (by omega)).trans hcb1
  have hmb2 := (hK2.block _ (Array.getElem?_eq_some_iff.1 hmb1).1 (by omega)).trans hmb1
  have hbw2 : Below w.heap.size w w2 := hK2.to_below hbw1 (fun i hi => by omega)
  have hz12 := hK2.size
  have kc0 := (blk_cell' hcb2 0).trans (show _ = some (Value.int .u64 (c.ver : Int)) from rfl)
  have kc1 := (blk_cell' hcb2 1).trans (show _ = some (Value.int .u64 (c.codec : Int)) from rfl)
  have kc2 := (blk_cell' hcb2 2).trans (show _ = some (Value.int .u64 (c.code : Int)) from rfl)
  have kc3 := (blk_cell' hcb2 3).trans (show _ = some (Value.string (sOf c.dig)) from rfl)
  have hWh : Whole secs := by
    intro x hx
    have := hw x.two (by rw [← hss]; exact List.mem_map.2 ⟨x, hx, rfl⟩)
    exact ⟨this.1, this.2.1, this.2.2⟩
  have HSS := Lib.hid hss
  clear hK2 hcb1 hmb1 hbw1 hbw0 hw hnd hss
  go_wp2_with fail
  refine (cidIn_ok c hc w2).mono ?_
  rintro e w3 ⟨rfl, hb3⟩
  have hbX : Below w2.heap.size w2 ((w3.alloc (.cells #[.string c.str] 51)).alloc (.cells #[.slice none 0 0] 29)) := (by (repeat (first | (with_reducible exact Below.refl _ _) | (with_reducible exact below_boxed _ _) | (with_reducible refine below_box ?_ _) | (with_reducible refine below_drew1 ?_) | (with_reducible refine below_drewn ?_ _) | (with_reducible refine below_bytes ?_ _ _) | (with_reducible refine below_next ?_ (by assumption)) | (with_reducible refine below_set ?_ (by first | (simp; done) | (simp; omega) | omega) _))) : Below w2.heap.size w2 _)
  have hsz3 : (w3.alloc (.cells #[.string c.str] 51)).heap.size = w3.heap.size + 1 := by simp
  have hz3 := hb3.size
  have hMX := hM2.kp (S := fun _ => False) (Kp.of_below hbX) id id (fun _ _ => id)
  have hbwX : Below w.heap.size w ((w3.alloc (.cells #[.string c.str] 51)).alloc (.cells #[.slice none 0 0] 29)) := below_next hbw2 hbX
  have hOX : OutAt ((w3.alloc (.cells #[.string c.str] 51)).alloc (.cells #[.slice none 0 0] 29)) (w3.heap.size + 1) (w.heap.size + 1) most [] := by
    have h1 := heap_alloc_last (w3.alloc (.cells #[.string c.str] 51)) (.cells #[.slice none 0 0] 29)
    rw [hsz3] at h1
    refine ⟨⟨_, h1, World.ownsRow_nil _ _ _ _⟩, ?_, by omega⟩
    exact (blk_cell' ((hbX.block _ (Array.getElem?_eq_some_iff.1 hmb2).1).trans hmb2) 0).trans rfl
  have hgdX : ∀ x ∈ secs, x.gd ≠ w3.heap.size + 1 := fun x hx => by have := (Array.getElem?_eq_some_iff.1 (hM2.row x hx)).1; omega
  have heX := (hbwX.cell (p := ⟨0, 0, none⟩) hg5).trans he
  have hGA := MwGetAll_ok a mk (w3.heap.size + 1) (w.heap.size + 1) most secs c hc 165 (.pointer (some p)) _ hMX hWh hOX hm hgdX (by omega) heX
  have HBW := Lib.hid hbwX
  clear hMX hOX hM2 hcb2 hmb2 kc0 kc1 kc2 kc3 hbX hbw2 hb3 hsz3
  go_wp2_with fail
  refine hGA.mono ?_
  clear hGA
  rintro e w4 ⟨M, hG, hO4, hT4⟩
  obtain ⟨hGA, hTe⟩ : GotAll _ M e ∧ Tells (secs.map Sec.two) c.dig M := hG
  rw [HSS.out] at hTe
  have hbw4 : Below w.heap.size w w4 := HBW.out.trans (hT4.bel.mono (by omega))
  have he4 := (hT4.bel.cell (p := ⟨0, 0, none⟩) (by show 0 < w3.heap.size + 1; omega)).trans heX
  obtain ⟨⟨v, hvb, hown⟩, _, _⟩ := hO4
  have kv := (blk_cell' hvb 0).trans (show _ = some v from rfl)
  have hownw : OutOf w4 w.heap.size v (M.take most) := own_mono hown (by omega)
  clear hT4 heX hvb hown
  by_cases hM0 : M = []
  · have hf := fun n => found_no p (w4.drewN n) he4
    rw [GotAll, if_pos hM0] at hGA
    subst hGA
    go_wp2_with fail
    go_quiet ((go_at_call 19; exact Calls.quiet_of_same ((hf _).mono fun e w1 h => ⟨h.1, h.2.symm⟩)))
    go_wp2_with fail
    go_ret2
    exact ⟨v, M, by rw [whyOf, if_pos hM0]; rfl, hTe, own_kp hownw (S := fun _ => False) ⟨rfl, rfl, rfl, Nat.le_refl _, fun _ _ _ => rfl⟩ (fun _ _ => id), below_drewn hbw4 _⟩
  · have hf := fun n => found_nil (w4.drewN n)
    rw [GotAll, if_neg hM0] at hGA
    subst hGA
    go_wp2_with fail
    go_quiet ((go_at_call 19; exact Calls.quiet_of_same ((hf _).mono fun e w1 h => ⟨h.1, h.2.symm⟩)))
    go_wp2_with fail
    go_ret2
    exact ⟨v, M, by rw [whyOf, if_neg hM0]; rfl, hTe, own_kp hownw (S := fun _ => False) ⟨rfl, rfl, rfl, Nat.le_refl _, fun _ _ _ => rfl⟩ (fun _ _ => id), below_drewn hbw4 _⟩

set_option maxRecDepth 100000 in
set_option maxHeartbeats 800000 in
theorem IxAll_sorted (s : ByteArray) (ss : List (Nat × List UInt8)) (rest : List UInt8) (hs : s.data.toList = Lib.uvarint 1024 ++ (mwBytes ss ++ rest)) (hw : ∀ x ∈ ss, 8 ≤ x.1 ∧ x.1 ≤ 33554432 ∧ ∃ n, x.2.length = n * x.1 ∧ n ≤ 1000000) (hnd : (ss.map (·.1)).Nodup)
    (hl : s.size ≤ 16777216) (c : CidOf) (hc : c.Ok) (most : Nat) (hm : 1 ≤ most) (p : Addr) (w : World) (hg5 : 0 < w.heap.size) (he : w.cell? ⟨0, 0, none⟩ = some (.iface 165 (.pointer (some p)))) :
    Calls Tryz.prog 24 #[.string s, .agg #[.int .u64 c.ver, .int .u64 c.codec, .int .u64 c.code, .string (sOf c.dig)], .int .i64 (most : Int)] w fun e w' =>
      ∃ v M, e = .returned (.tuple #[v, .int .u8 (whyOf M)]) ∧ Tells ss c.dig M ∧ OutOf w' w.heap.size v (M.take most) ∧ Below w.heap.size w w' := by
  have hb0 : Below w.heap.size w (w.alloc (.cells #[.int .u64 (c.ver : Int), .int .u64 (c.codec : Int), .int .u64 (c.code : Int), .string (sOf c.dig)] 25)) := below_boxed w _
  have hO := offsets_sorted s ss rest hs hw hnd hl c hc most hm p (w.alloc (.cells #[.int .u64 (c.ver : Int), .int .u64 (c.codec : Int), .int .u64 (c.code : Int), .string (sOf c.dig)] 25)) (by have := hb0.size; omega) ((hb0.cell (p := ⟨0, 0, none⟩) hg5).trans he)
  clear hs hw hnd he
  go_enter Tryz.func24, Tryz.ntmps24
  go_wp2_with fail
  refine hO.mono ?_
  clear hO
  rintro e w1 ⟨v, M, rfl, hT, hown, hb⟩
  go_wp2_with fail
  go_ret2
  exact ⟨v, M, rfl, hT, hown.mono hb0.size, hb0.trans (hb.mono hb0.size)⟩
end Go.Proofs.YtnhhhjnhmbhdgaaGreatDoor
