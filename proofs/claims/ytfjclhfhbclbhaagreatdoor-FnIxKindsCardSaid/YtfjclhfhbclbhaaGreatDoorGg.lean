/- All offsets for a digest, of one width. -/
import Derived.Test.YtfjclhfhbclbhaaGreatDoorOf
import Derived.Test.YtfjclhfhbclbhaaGreatDoorEnc
import Derived.LoopTactic
import Derived.RegionCalls
import Derived.Deep.RegionWith
namespace Go.Proofs.YtfjclhfhbclbhaaGreatDoor
open Go.RowKit
set_option linter.unusedVariables false
set_option linter.unusedSimpArgs false
attribute [local go_sem] setCell_drewN alloc_drewN

/-- The offsets of the rows from i on, as long as they have the digest d; at most k rows are looked at. -/
def runFrom (width : Nat) (data d : List UInt8) : Nat → Nat → List Nat
  | 0, _ => []
  | k + 1, i => if d = rowDig width data i then Lib.leNat (rowOff width data i) :: runFrom width data d k (i + 1) else []

theorem Told.keepB {ob : Nat} {w w' : World} {t : TypeId} {A : Option Addr} {bs : List UInt8} (h : Told ob w w') (hA : BytesAt w A bs) (hB : ByteBlk w t A) (ht : t ≠ 22) (hn : ∀ ad, A = some ad → ad.block ≠ ob) : BytesAt w' A bs ∧ ByteBlk w' t A := by
  have hk : ∀ ad, A = some ad → w'.heap[ad.block]? = w.heap[ad.block]? := by
    intro ad e
    obtain ⟨cs, fr, hh⟩ := hB ad e
    exact (h.cells hh (hn ad e) ht).trans hh.symm
  exact ⟨hA.upd hk, hB.upd hk⟩

/-- What a search needs of the memory: the width and its rows, the digest, and the two variables that the closures see. -/
structure GetI (w : World) (ob sb db g gd width n : Nat) (data d : List UInt8) (A : Option Addr) (c : Nat) : Prop where
  sec : SecAt w g gd width n data
  dig : BytesAt w A d
  blk : ByteBlk w 5 A
  s : w.heap[sb]? = some (.cells #[.pointer (some ⟨g, 0, none⟩)] 301 (0, 0))
  d : w.heap[db]? = some (.cells #[.slice A d.length c] 27 (0, 0))
  ne : sb ≠ ob ∧ db ≠ ob ∧ g ≠ ob ∧ gd ≠ ob
  nA : ∀ ad, A = some ad → ad.block ≠ ob
theorem GetI.told {w w' : World} {ob sb db g gd width n : Nat} {data d : List UInt8} {A : Option Addr} {c : Nat} (h : GetI w ob sb db g gd width n data d A c) (k : Told ob w w') : GetI w' ob sb db g gd width n data d A c := by
  obtain ⟨⟨h1, h2, h3, h4, h5, h6⟩, h7, h8, h9, h10, h11, h12⟩ := h
  obtain ⟨a1, a2⟩ := k.keepB h7 h8 (by decide) h12
  exact ⟨⟨k.cells h1 h11.2.2.1 (by decide), k.cells h2 h11.2.2.2 (by decide), h3, h4, h5, h6⟩, a1, a2, k.cells h9 h11.1 (by decide), k.cells h10 h11.2.1 (by decide), h11, h12⟩
theorem OutAt.told {w w' : World} {ob mb most : Nat} {os : List Nat} (h : OutAt w ob mb most os) (hw : w'.heap = w.heap) : OutAt w' ob mb most os := by
  obtain ⟨⟨v, h1, h2⟩, h3, h4⟩ := h
  have hc : ∀ p : Addr, w'.cell? p = w.cell? p := fun p => World.cell?_of_block (by rw [hw])
  refine ⟨⟨v, by rw [hw]; exact h1, h2.1, ?_⟩, (hc _).trans h3, h4⟩
  rcases h2.2 with h | ⟨g, cap, cur, e1, e2, e3, e4⟩
  · exact .inl h
  · exact .inr ⟨g, cap, cur, e1, e2, by rw [hw]; exact e3, e4⟩
/-- A step that makes memory and leaves the rest. -/
theorem OutAt.below {w w' : World} {ob mb most : Nat} {os : List Nat} (h : OutAt w ob mb most os) (hb : Below w.heap.size w w') : OutAt w' ob mb most os := by
  obtain ⟨⟨v, h1, h2⟩, h3, h4⟩ := h
  have hl := (Array.getElem?_eq_some_iff.1 h1).1
  refine ⟨⟨v, (hb.block _ hl).trans h1, h2.1, ?_⟩, (hb.cell (p := ⟨mb, 0, none⟩) (by show mb < _; omega)).trans h3, h4⟩
  rcases h2.2 with h | ⟨g, cap, cur, e1, e2, e3, e4⟩
  · exact .inl h
  · exact .inr ⟨g, cap, cur, e1, e2, (hb.block _ (Array.getElem?_eq_some_iff.1 e3).1).trans e3, e4⟩
theorem Told.of_below {ob : Nat} {w w' : World} (h : Below w.heap.size w w') (hl : ob ≤ w.heap.size) : Told ob w w' :=
  ⟨h.mono hl, fun k o hk _ _ => (h.block k (Array.getElem?_eq_some_iff.1 hk).1).trans hk⟩

theorem eight {l : List UInt8} (h : l.length = 8) : ∃ b0 b1 b2 b3 b4 b5 b6 b7, l = [b0, b1, b2, b3, b4, b5, b6, b7] := by
  match l, h with
  | [b0, b1, b2, b3, b4, b5, b6, b7], _ => exact ⟨b0, b1, b2, b3, b4, b5, b6, b7, rfl⟩

/-- What a search ends with: the offsets told; an error if there is none. -/
def GotAll (ev : Value) (M : List Nat) (e : Ending) : Prop := e = .returned (if M = [] then ev else .nilIface)

set_option maxRecDepth 100000 in
set_option maxHeartbeats 3200000 in
theorem getAll_ok (ob mb most g gd width n : Nat) (data d : List UInt8) (A : Option Addr) (c : Nat) (ty : TypeId) (ev : Value) (w : World) (hI : SecAt w g gd width n data) (hd : BytesAt w A d) (hB : ByteBlk w 5 A) (hne : g ≠ ob ∧ gd ≠ ob) (hnA : ∀ ad, A = some ad → ad.block ≠ ob)
    (hO : OutAt w ob mb most []) (hm : 1 ≤ most) (hn : n ≤ 1000000) (hg5 : 4 < ob) (he : w.cell? ⟨4, 0, none⟩ = some (.iface ty ev)) :
    Calls Tryz.prog 189 #[.pointer (some ⟨g, 0, none⟩), .slice A d.length c, .func (.func 44) #[] #[.pointer (some ⟨ob, 0, none⟩), .pointer (some ⟨mb, 0, none⟩)]] w fun e w' =>
      ∃ r, Halves (fun i => decide (Lib.compareBytes d (rowDig width data i) ≤ 0)) n r ∧ GotAll (.iface ty ev) (runFrom width data d (n - r) r) e ∧ OutAt w' ob mb most ((runFrom width data d (n - r) r).take most) ∧ Told ob w w' := by
  have hobl : ob < w.heap.size := by obtain ⟨⟨v, h, _⟩, _⟩ := hO; exact (Array.getElem?_eq_some_iff.1 h).1
  have hgl := (Array.getElem?_eq_some_iff.1 hI.blk).1
  have hb1 : Below w.heap.size w ((w.alloc (.cells #[.pointer (some ⟨g, 0, none⟩)] 301)).alloc (.cells #[.slice A d.length c] 27)) := by (repeat (first | (with_reducible exact Below.refl _ _) | (with_reducible exact below_boxed _ _) | (with_reducible refine below_box ?_ _) | (with_reducible refine below_drew1 ?_) | (with_reducible refine below_drewn ?_ _) | (with_reducible refine below_bytes ?_ _ _) | (with_reducible refine below_next ?_ (by assumption)) | (with_reducible refine below_set ?_ (by first | (simp; done) | (simp; omega) | omega) _)))
  obtain ⟨W, hW⟩ : ∃ W, W = ((w.alloc (.cells #[.pointer (some ⟨g, 0, none⟩)] 301)).alloc (.cells #[.slice A d.length c] 27)) := ⟨_, rfl⟩
  have hT : Told ob w W := by rw [hW]; exact Told.of_below hb1 (Nat.le_of_lt hobl)
  have hG : GetI W ob w.heap.size (w.heap.size + 1) g gd width n data d A c := by
    rw [hW]
    obtain ⟨a1, a2⟩ := (Told.of_below hb1 (Nat.le_of_lt hobl)).keepB hd hB (by decide) hnA
    refine ⟨⟨?_, ?_, hI.w8, hI.wle, hI.len, hI.big⟩, a1, a2, ?_, ?_, ⟨by omega, by omega, hne.1, hne.2⟩, hnA⟩
    · exact (hb1.block _ hgl).trans hI.blk
    · exact (hb1.block _ (Array.getElem?_eq_some_iff.1 hI.row).1).trans hI.row
    · rw [heap_alloc_old _ _ (by simp), heap_alloc_last]
    · have := heap_alloc_last (w.alloc (.cells #[.pointer (some ⟨g, 0, none⟩)] 301)) (.cells #[.slice A d.length c] 27)
      simpa using this
  have hO1 : OutAt W ob mb most [] := by rw [hW]; exact hO.below hb1
  have he1 : W.cell? ⟨4, 0, none⟩ = some (.iface ty ev) := (hT.bel.cell (p := ⟨4, 0, none⟩) hg5).trans he
  have hs0 := (blk_cell' hG.sec.blk 1).trans (show _ = some (Value.int .u64 (n : Int)) from rfl)
  have hss := (blk_cell' hG.s 0).trans (show _ = some (Value.pointer (some ⟨g, 0, none⟩)) from rfl)
  have hS := Search_ok w.heap.size (w.heap.size + 1) n (fun i => decide (Lib.compareBytes d (rowDig width data i) ≤ 0)) W (by omega) (fun i q hi => lessAt_ok w.heap.size (w.heap.size + 1) g gd width n i data d A c (W.drewN q) ⟨hG.sec.blk, hG.sec.row, hG.sec.w8, hG.sec.wle, hG.sec.len, hG.sec.big⟩ hi hG.dig hss ((blk_cell' hG.d 0).trans rfl))
  have hg1 := (blk_cell' hI.blk 1).trans (show _ = some (Value.int .u64 (n : Int)) from rfl)
  rw [hW] at hS
  have hnw : IntKind.i64.wrap (n : Int) = (n : Int) := by rw [IntKind.wrap_i64]; omega
  clear hb1 hI hd hB hO he
  have hmf : ∀ (fn : Fn) (first cap : Array Value) (w : World), (Instr.makeFunc fn first cap).run Tryz.prog w = .ok (.func fn first cap) w := fun _ _ _ _ => rfl
  go_enter Tryz.func189, Tryz.ntmps189
  go_wp2_with fail
  refine hS.mono ?_
  clear hS hg1
  rintro e w1 ⟨⟨r, rfl, hH⟩, q, rfl⟩
  rw [← hW]
  have hrn := hH.1
  have HH := Lib.hid hH; clear hH
  have hG1 : GetI (W.drewN q) ob w.heap.size (w.heap.size + 1) g gd width n data d A c := hG.told ((Told.refl _ _).drewN q)
  have hO2 : OutAt (W.drewN q) ob mb most [] := hO1.told rfl
  have hT1 : Told ob w (W.drewN q) := hT.drewN q
  have he2 : (W.drewN q).cell? ⟨4, 0, none⟩ = some (.iface ty ev) := he1
  generalize W.drewN q = W1 at *
  clear hs0 hss hG hO1 hT he1 hW
  go_wp2_with fail
  go_loopw [7, 8] (fun vi va wr => ∃ (i : Nat) (os : List Nat), vi = .int .i64 (i : Int) ∧ va = .bool (!os.isEmpty) ∧ i ≤ n ∧ r ≤ i ∧ (os = [] ∨ os.length < most) ∧ os.length = i - r ∧ runFrom width data d (n - r) r = os ++ runFrom width data d (n - i) i ∧ OutAt wr ob mb most os ∧ GetI wr ob w.heap.size (w.heap.size + 1) g gd width n data d A c ∧ Told ob w wr ∧ wr.cell? ⟨4, 0, none⟩ = some (.iface ty ev)) (fun vi _ _ => n - (intOf vi).toNat)
  case atStart => exact ⟨r, [], rfl, rfl, hrn, Nat.le_refl _, .inl rfl, by simp, rfl, hO2, hG1, hT1, he2⟩
  case round =>
    clear hG1 hO2 hT1 he2
    obtain ⟨i, os, rfl, rfl, hin, hri, hos, hlen, hrun, hO, hG, hT, he⟩ := hrel
    have c0 := (blk_cell' hG.sec.blk 0).trans (show _ = some (Value.int .u32 (width : Int)) from rfl)
    have c1 := (blk_cell' hG.sec.blk 1).trans (show _ = some (Value.int .u64 (n : Int)) from rfl)
    have c2 := (blk_cell' hG.sec.blk 2).trans (show _ = some (Value.slice (some ⟨gd, 0, none⟩) data.length data.length) from rfl)
    have cs := (blk_cell' hG.s 0).trans (show _ = some (Value.pointer (some ⟨g, 0, none⟩)) from rfl)
    have cd := (blk_cell' hG.d 0).trans (show _ = some (Value.slice A d.length c) from rfl)
    have hiw : IntKind.u64.wrap (i : Int) = (i : Int) := by rw [IntKind.wrap_u64]; omega
    by_cases hlt : i < n
    · obtain ⟨b1, b2⟩ := row_bounds hG.sec.w8 hG.sec.len hlt
      have hrd := rowDig_len hG.sec.w8 hG.sec.len hlt
      have h8 := hG.sec.w8
      have hwl := hG.sec.wle
      have hbig := hG.sec.big
      have hrow := hG.sec.row
      obtain ⟨p, hp⟩ : ∃ p, p = i * width := ⟨_, rfl⟩
      rw [← hp] at b1 b2
      have hm1 := mul_wrap hp (by omega)
      have hm2 : IntKind.i64.wrap (((i : Int) + 1) * (width : Int)) = ((p + width : Nat) : Int) := by
        have := mul_wrap (a := i + 1) (b := width) (p := p + width) b2.symm (by omega)
        simpa using this
      have hrb : BytesAt wr (some ⟨gd, p, none⟩) (rowDig width data i) := by unfold rowDig; rw [← hp]; exact row_bytes hrow p (width - 8)
      have hoff : rowOff width data i = (data.drop (p + width - 8)).take 8 := by unfold rowOff; rw [b2]
      obtain ⟨pw, hpw⟩ : ∃ pw, pw = p + width := ⟨_, rfl⟩
      rw [← hpw] at hm2 hoff b2
      obtain ⟨po, hpo⟩ : ∃ po, po = pw - 8 := ⟨_, rfl⟩
      rw [← hpo] at hoff
      have hpo2 : IntKind.i64.wrap ((pw : Int) - 8) = (po : Int) := by rw [IntKind.wrap_i64]; omega
      have hiw1 : IntKind.i64.wrap ((i : Int) + 1) = (i : Int) + 1 := by rw [IntKind.wrap_i64]; omega
      have hww : IntKind.i64.wrap (width : Int) = (width : Int) := by rw [IntKind.wrap_i64]; omega
      have hs1 := fun W => cut_lh gd p po data.length (by omega) (by omega) (by omega) (p : Int) (po : Int) rfl rfl W
      have hs2 := fun W => cut_all A d.length c W
      have hs3 := fun W => cut_lh gd po pw data.length (by omega) (by omega) (by omega) (po : Int) (pw : Int) rfl rfl W
      have hlen1 : (rowDig width data i).length = po - p := by rw [hrd]; omega
      have hE : ∀ n', Calls Tryz.prog 204 #[.slice A d.length c, .slice (some ⟨gd, p, none⟩) (po - p) (data.length - p)] (wr.drewN n') fun e w' => e = .returned (.bool (decide (d = rowDig width data i))) ∧ w' = wr.drewN n' := by
        intro n'
        have := Equal_ok d (rowDig width data i) A (some ⟨gd, p, none⟩) c (data.length - p) (wr.drewN n') hG.dig hrb
        rw [hlen1] at this
        exact this.mono fun e w' h => ⟨by rw [h.1]; exact congrArg (fun b => Ending.returned (.bool b)) (by by_cases hx : d = rowDig width data i <;> simp [hx]), h.2.symm⟩
      have hol : (rowOff width data i).length = 8 := by rw [hoff]; simp only [List.length_take, List.length_drop]; omega
      have hob : BytesAt wr (some ⟨gd, po, none⟩) (rowOff width data i) := by rw [hoff]; exact row_bytes hrow po 8
      have hrk : n - i = n - (i + 1) + 1 := by omega
      have hrec : runFrom width data d (n - i) i = if d = rowDig width data i then Lib.leNat (rowOff width data i) :: runFrom width data d (n - (i + 1)) (i + 1) else [] := by rw [hrk]; rfl
      rw [hrec] at hrun
      have h8o : 8 ≤ pw - po := by omega
      have HR := Lib.hid hrun; have HB := Lib.hid (And.intro b1 (And.intro b2 (And.intro hpw hpo))); have HL := Lib.hid hlen1; have HOS := Lib.hid hos; have HLN := Lib.hid hlen
      clear hrun hrec hrk hoff hpo hpw b1 b2 hp hrd hlen1 hos hlen
      by_cases hdd : d = rowDig width data i
      · have hdt : decide (d = rowDig width data i) = true := decide_eq_true hdd
        rw [hdt] at hE
        rw [if_pos hdd] at HR
        obtain ⟨y0, y1, y2, y3, y4, y5, y6, y7, hys⟩ := eight hol
        rw [hys] at hob
        have HY := Lib.hid hys
        clear hys hol hdd hdt hrb
        rcases hob with hob | ⟨g', o', e', hob⟩
        · cases hob
        cases e'
        have q0 := hob 0 y0 rfl
        have q1 := hob 1 y1 rfl
        have q2 := hob 2 y2 rfl
        have q3 := hob 3 y3 rfl
        have q4 := hob 4 y4 rfl
        have q5 := hob 5 y5 rfl
        have q6 := hob 6 y6 rfl
        have q7 := hob 7 y7 rfl
        have hU : ∀ n', Calls Tryz.prog 205 #[.agg #[], .slice (some ⟨gd, po, none⟩) (pw - po) (data.length - po)] (wr.drewN n') fun e w' => e = .returned (.int .u64 (Lib.leNat (rowOff width data i) : Int)) ∧ Below wr.heap.size wr w' := by
          intro n'
          rw [HY.out]
          exact (Tryz.binary_LE_Uint64 gd po (pw - po) (data.length - po) y0 y1 y2 y3 y4 y5 y6 y7 (wr.drewN n') h8o q0 q1 q2 q3 q4 q5 q6 q7).mono fun e w' h => ⟨h.1, ⟨h.2.os, h.2.tape, h.2.output, h.2.size, h.2.block⟩⟩
        clear hob q0 q1 q2 q3 q4 q5 q6 q7
        generalize Lib.leNat (rowOff width data i) = off at *
        go_wp2_with fail
        go_quiet ((go_at_call 204; exact Calls.quiet_of_same (hE _)))
        go_wp2_with fail
        refine wp_region_noPanic ?_
        go_region_with (go_at_call 205; refine (hU _).mono ?_; rintro e w2 ⟨rfl, hb2⟩)
        all_goals
          refine NoPanic.normal ?_
          have hobw : ob ≤ wr.heap.size := by have := hT.bel.size; omega
          have hT2 : Told ob wr w2 := Told.of_below hb2 hobw
          have hO2 : OutAt w2 ob mb most os := hO.below hb2
          have hG2 := hG.told hT2
          have he2 : w2.cell? ⟨4, 0, none⟩ = some (.iface ty ev) := (hT2.bel.cell (p := ⟨4, 0, none⟩) hg5).trans he
          have hT3 := hT.trans hT2
          have hTell := tell_ok ob mb most os off w2 hO2 (by have := HLN.out; omega)
          clear hO hG hT he hT2 hb2 hU hO2 c0 c1 c2 cs cd
          by_cases hmo : os.length + 1 < most
          · have hdm : decide (os.length + 1 < most) = true := decide_eq_true hmo
            rw [hdm] at hTell
            clear hdm
            go_wp2_with fail
            refine hTell.mono ?_
            clear hTell
            rintro e w3 ⟨rfl, hO3, hT4⟩
            have hG3 := hG2.told hT4
            have he3 : w3.cell? ⟨4, 0, none⟩ = some (.iface ty ev) := (hT4.bel.cell (p := ⟨4, 0, none⟩) hg5).trans he2
            have hT5 := hT3.trans hT4
            clear hG2 he2 hT3 hT4
            go_wp2_with fail
            go_roundw
            case rel => exact ⟨i + 1, os ++ [off], by go_num, by simp, by omega, by omega, .inr (by simpa using hmo), by simp; have := HLN.out; omega, by rw [HR.out]; simp, hO3, hG3, hT5, he3⟩
            case measure => simp [intOf]; omega
          · have hdm : decide (os.length + 1 < most) = false := decide_eq_false hmo
            rw [hdm] at hTell
            clear hdm
            go_wp2_with fail
            refine hTell.mono ?_
            clear hTell
            rintro e w3 ⟨rfl, hO3, hT4⟩
            have hT5 := hT3.trans hT4
            clear hG2 he2 hT3 hT4
            go_wp2_with fail
            go_ret
            refine ⟨r, HH.out, by rw [HR.out]; simp [GotAll], ?_, hT5⟩
            have hml : most = (os ++ [off]).length := by
              have := HOS.out
              simp only [List.length_append, List.length_cons, List.length_nil]
              rcases this with h | h
              · subst h; simp at hmo ⊢; omega
              · omega
            rw [HR.out, show os ++ off :: runFrom width data d (n - (i + 1)) (i + 1) = (os ++ [off]) ++ runFrom width data d (n - (i + 1)) (i + 1) by simp, List.take_left' hml.symm]
            exact hO3
      · have hdt : decide (d = rowDig width data i) = false := decide_eq_false hdd
        rw [hdt] at hE
        rw [if_neg hdd, List.append_nil] at HR
        clear hdt hdd hrb hob hol
        cases os with
        | nil =>
          go_wp2_with fail
          go_quiet ((go_at_call 204; exact Calls.quiet_of_same (hE _)))
          go_wp2_with fail
          go_ret
          exact ⟨r, HH.out, by rw [HR.out]; rfl, by rw [HR.out, List.take_nil]; exact hO.told rfl, hT.drewN _⟩
        | cons o os =>
          go_wp2_with fail
          go_quiet ((go_at_call 204; exact Calls.quiet_of_same (hE _)))
          go_wp2_with fail
          go_ret
          exact ⟨r, HH.out, by rw [HR.out]; rfl, by rw [HR.out, List.take_of_length_le (by rcases HOS.out with h | h; cases h; omega)]; exact hO.told rfl, hT.drewN _⟩
    · obtain rfl : i = n := by omega
      have hr0 : runFrom width data d (i - i) i = [] := by rw [Nat.sub_self]; rfl
      rw [hr0, List.append_nil] at hrun
      have HR := Lib.hid hrun; clear hrun hr0
      cases os with
      | nil =>
        go_wp2_with fail
        go_ret
        exact ⟨r, HH.out, by rw [HR.out]; rfl, by rw [HR.out]; simpa using hO, hT⟩
      | cons o os =>
        go_wp2_with fail
        go_ret
        exact ⟨r, HH.out, by rw [HR.out]; rfl, by rw [HR.out, List.take_of_length_le (by rcases hos with h | h; cases h; omega)]; exact hO, hT⟩
end Go.Proofs.YtfjclhfhbclbhaaGreatDoor
