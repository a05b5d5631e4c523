/- spec.TooLong, spec.Puts, laws.stOf: what is said of a put. -/
import Derived.Test.YtifoicdnibgdaaaGreatDoorVi
import Derived.Test.YtifoicdnibgdaaaGreatDoorOpts
import Derived.Test.YtifoicdnibgdaaaGreatDoorAll
namespace Go.Proofs.YtifoicdnibgdaaaGreatDoor
open Go.RowKit
set_option linter.unusedVariables false
set_option linter.unusedSimpArgs false
attribute [local go_sem] setCell_drewN alloc_drewN

def CidCells (c : CidOf) : List Value := [.int .u64 c.ver, .int .u64 c.codec, .int .u64 c.code, .string (sOf c.dig)]
theorem CidCells_length (c : CidOf) : (CidCells c).length = 4 := rfl
def CRows (w : World) (A : Option Addr) (l : List CidOf) : Prop :=
  l = [] ∨ ∃ g o, A = some ⟨g, o, none⟩ ∧ ∀ i x, l[i]? = some x → ∀ j v, (CidCells x)[j]? = some v → w.cell? ⟨g, o + i * 4 + j, none⟩ = some v
theorem CRows.below {w w' : World} {A : Option Addr} {l : List CidOf} (h : CRows w A l) (hb : Below w.heap.size w w') : CRows w' A l := by
  rcases h with h | ⟨g, o, e, hc⟩
  · exact .inl h
  · exact .inr ⟨g, o, e, fun i x hx j v hj => (hb.cell (World.block_lt_of_cell? w _ (hc i x hx j v hj))).trans (hc i x hx j v hj)⟩
theorem CRows.row {w wr : World} {A : Option Addr} {l : List CidOf} (hR : CRows w A l) (hb : Below w.heap.size w wr) {k : Nat} {x : CidOf} (hx : l[k]? = some x) :
    ∃ g0 o, A = some ⟨g0, o, none⟩ ∧ g0 < w.heap.size ∧ wr.cell? ⟨g0, o + k * 4, none⟩ = some (.int .u64 x.ver) ∧ wr.cell? ⟨g0, o + k * 4 + 1, none⟩ = some (.int .u64 x.codec) ∧ wr.cell? ⟨g0, o + k * 4 + 2, none⟩ = some (.int .u64 x.code) ∧ wr.cell? ⟨g0, o + k * 4 + 3, none⟩ = some (.string (sOf x.dig)) := by
  rcases hR with rfl | ⟨g0, o, rfl, hc⟩
  · simp at hx
  have c0 := hc k x hx 0 _ rfl
  have hg0 : g0 < w.heap.size := World.block_lt_of_cell? w _ c0
  have h := fun j v hj => (hb.cell (p := ⟨g0, o + k * 4 + j, none⟩) hg0).trans (hc k x hx j v hj)
  exact ⟨g0, o, rfl, hg0, h 0 _ rfl, h 1 _ rfl, h 2 _ rfl, h 3 _ rfl⟩
theorem cflat_get : ∀ (L : List CidOf) (i : Nat) (x : CidOf) (j : Nat), L[i]? = some x → j < 4 → (L.flatMap CidCells)[i * 4 + j]? = (CidCells x)[j]?
  | y :: L, 0, x, j, h, hj => by
    simp at h; subst h
    simp only [List.flatMap_cons, Nat.zero_mul, Nat.zero_add]
    rw [List.getElem?_append_left (by rw [CidCells_length]; omega)]
  | y :: L, i + 1, x, j, h, hj => by
    simp only [List.flatMap_cons]
    rw [List.getElem?_append_right (by rw [CidCells_length]; omega), CidCells_length, show (i + 1) * 4 + j - 4 = i * 4 + j by omega]
    exact cflat_get L i x j (by simpa using h) hj
theorem crows_own {w : World} {B : Nat} {v : Value} {L : List CidOf} (h : w.ownsRow B 28 4 v L.length (L.flatMap CidCells)) : ∃ A cap, v = .slice A L.length cap ∧ L.length ≤ cap ∧ CRows w A L := by
  rcases h.2 with ⟨rfl, h0⟩ | ⟨g, cap, cur, rfl, _, hh, hc, _, hsz, htk⟩
  · have hn : L = [] := List.eq_nil_of_length_eq_zero h0
    subst hn
    exact ⟨none, 0, rfl, Nat.le_refl _, .inl rfl⟩
  · refine ⟨_, cap, rfl, hc, .inr ⟨g, 0, rfl, fun i x hx j u hj => ?_⟩⟩
    have hj5 : j < 4 := by have := (List.getElem?_eq_some_iff.1 hj).1; simpa [CidCells_length] using this
    have hi := (List.getElem?_eq_some_iff.1 hx).1
    have hf := cflat_get L i x j hx hj5
    rw [hj, ← htk, List.getElem?_take_of_lt (by omega)] at hf
    rw [blk_cell hh, ← hf]
    simp

theorem own_growS {w w1 w2 : World} {e : TypeId} {size : Nat} {v : Value} {n : Nat} {xs : List Value} (h : w1.ownsRow w.heap.size e size v n xs) (hb : Below w.heap.size w w1) (hg : w1.grownBy w2 v.ownBlock) : Below w.heap.size w w2 :=
  hb.grown hg hb.size (fun k hk => by
    rcases h.2 with ⟨rfl, _⟩ | ⟨g, cap, cur, rfl, hge, _⟩
    · cases hk
    · cases hk; exact hge)
theorem sOf_list (l : List UInt8) : (sOf l).toList = l := ByteArray.toList_mk l
theorem info_cid : (Tryz.prog.info? 28).map (fun i => (i.zero, i.size, i.bytes)) = some (some (.agg #[.int .u64 0, .int .u64 0, .int .u64 0, .string ⟨#[]⟩]), 4, 40) := by kernel_rfl

set_option maxRecDepth 100000 in
set_option maxHeartbeats 1600000 in
theorem stOf_ok (l : List (CidOf × Int)) (A : Option Addr) (cap : Nat) (w : World) (hR : RowsAt w A l) (hlen : l.length ≤ 60) (hcap : l.length ≤ cap) :
    Calls Tryz.prog 12 #[.slice A l.length cap] w fun e w' => ∃ B cap', e = .returned (.slice B l.length cap') ∧ l.length ≤ cap' ∧ CRows w' B (l.map (·.1)) ∧ Below w.heap.size w w' := by
  obtain ⟨i0, hi, hz0, hz1, hz2⟩ := info_parts info_cid
  go_enter Tryz.func12, Tryz.ntmps12
  go_wp2_with fail
  go_loopw [3, 8] (fun v vi wr => ∃ k : Nat, k ≤ l.length ∧ vi = .int .i64 k ∧ wr.ownsRow w.heap.size 28 4 v k (((l.map (·.1)).take k).flatMap CidCells) ∧ Below w.heap.size w wr) (fun _ vi _ => l.length - (intOf vi).toNat)
  case atStart => exact ⟨0, Nat.zero_le _, rfl, ⟨rfl, .inl ⟨rfl, rfl⟩⟩, Below.refl _ _⟩
  case round =>
    obtain ⟨k, hk, rfl, hown, hbw⟩ := hrel
    by_cases hlt : k < l.length
    · have hx := List.getElem?_eq_getElem hlt
      have hx1 : (l.map (·.1))[k]? = some l[k].1 := by simp [hx]
      have htk : (l.map (·.1)).take (k + 1) = (l.map (·.1)).take k ++ [l[k].1] := by rw [List.take_add_one, hx1]; rfl
      generalize l[k] = x at hx hx1 htk
      obtain ⟨g0, o, rfl, hg0, c0, c1, c2, c3, c4⟩ := hR.row hbw hx
      have hsz := hbw.size
      have hglt : g0 < wr.heap.size := by omega
      generalize hq : ((l.map (·.1)).take k).flatMap CidCells = xs at *
      go_wp2_with (at_builtin; refine wpList_append_own _ rfl _ _ 37 rfl w.heap.size 28 i0 _ 4 40 Tryz.underlying37 hi hz0 hz1 hz2 rfl (by decide) _ _ _ rfl ((hown.alloc _).alloc _) ⟨wr.heap.size + 1, 0, none⟩ 1 1 (CidCells x.1) rfl rfl ?c1 ?c2 ?c3 ?c4 ?c5 ?_)
      case c1 => intro j u hj; simpa [CidCells] using hj
      case c2 => intro u hu; simp [CidCells] at hu; rcases hu with rfl | rfl | rfl | rfl <;> rfl
      case c3 => unfold maxLen; omega
      case c4 => omega
      case c5 => omega
      intro v' w2 hown' hgrow _
      have hbel' := own_growS (hown.alloc _ |>.alloc _) (below_box (below_box hbw _) _) hgrow
      rw [← hq, show CidCells x.1 = ([x.1]).flatMap CidCells by simp, ← List.flatMap_append, ← htk] at hown'
      go_wp2_with fail
      exact ⟨⟨k + 1, by omega, by simp, hown', hbel'⟩, by simp [intOf]; omega⟩
    · obtain rfl : k = l.length := by omega
      rw [List.take_of_length_le (by simp)] at hown
      obtain ⟨B, cap', rfl, hc', hC⟩ := crows_own (L := l.map (·.1)) (by simpa using hown)
      go_wp2_with fail
      go_ret
      exact ⟨B, cap', by simp, by simpa using hc', hC, hbw⟩

/-- Is an identifier too long? -/
def tooLong (c : CidOf) (o : OOpt) : Bool := decide ((if o.mc = 0 then 2048 else o.mc) < c.bytes.length)

theorem bytes_len (c : CidOf) (hc : c.Ok) : c.bytes.length ≤ 240 := by
  have u1 : (Lib.uvarint 1).length ≤ 10 := Lib.uvarint_length 9 1 (by decide)
  have u2 : (Lib.uvarint c.codec).length ≤ 10 := Lib.uvarint_length 9 _ (Nat.lt_of_lt_of_le hc.codec (by decide))
  have u3 : (Lib.uvarint c.code).length ≤ 10 := Lib.uvarint_length 9 _ (Nat.lt_of_lt_of_le hc.code (by decide))
  have u4 : (Lib.uvarint c.dig.length).length ≤ 10 := Lib.uvarint_length 9 _ (Nat.lt_of_le_of_lt hc.dig (by decide))
  have u5 := hc.dig
  unfold CidOf.bytes CidOf.mh
  split <;> simp <;> omega

set_option maxRecDepth 100000 in
set_option maxHeartbeats 1600000 in
theorem TooLong_ok (c : CidOf) (hc : c.Ok) (o : OOpt) (w : World) : Calls Tryz.prog 21 #[.agg (CidCells c).toArray, .agg o.cells.toArray] w fun e w' => e = .returned (.bool (tooLong c o)) ∧ Below w.heap.size w w' := by
  have hl := bytes_len c hc
  have hs : (sOf c.bytes).size = c.bytes.length := by simp [sOf, ByteArray.size]
  have hw : IntKind.u64.wrap (c.bytes.length : Int) = (c.bytes.length : Int) := by rw [IntKind.wrap_u64]; omega
  have ho : (Value.agg o.cells.toArray) = .agg #[.bool o.z, .bool o.i, .bool o.d, .bool o.wh, .bool o.v1, .bool o.tr, .int .u64 o.dp, .int .u64 o.ip, .int .u64 o.codec, .int .u64 o.mc, .int .u64 o.mh, .int .u64 o.ms] := rfl
  have hcc : (Value.agg (CidCells c).toArray) = .agg #[.int .u64 c.ver, .int .u64 c.codec, .int .u64 c.code, .string (sOf c.dig)] := rfl
  rw [ho, hcc]
  by_cases hm : o.mc = 0
  · have ht : tooLong c o = decide (2048 < c.bytes.length) := by unfold tooLong; rw [if_pos hm]
    rw [ht, hm]
    generalize c.bytes.length = n at *
    go_enter Tryz.func21, Tryz.ntmps21
    go_wp2_with (go_at_call 43; refine (CidBytes_ok c hc _).mono ?_; rintro e w1 ⟨rfl, hb1⟩)
    have hdd : decide ((2048 : Int) < (n : Int)) = decide (2048 < n) := decide_eq_decide.2 (by omega)
    go_ret
    exact ⟨by simp [hdd], by (repeat (first | (with_reducible exact Below.refl _ _) | (with_reducible exact below_boxed _ _) | (with_reducible refine below_box ?_ _) | (with_reducible refine below_drew1 ?_) | (with_reducible refine below_drewn ?_ _) | (with_reducible refine below_bytes ?_ _ _) | (with_reducible refine below_next ?_ (by assumption)) | (with_reducible refine below_set ?_ (by first | (simp; done) | (simp; omega) | omega) _)))⟩
  · have ht : tooLong c o = decide (o.mc < c.bytes.length) := by unfold tooLong; rw [if_neg hm]
    rw [ht]
    go_enter Tryz.func21, Tryz.ntmps21
    go_wp2_with (go_at_call 43; refine (CidBytes_ok c hc _).mono ?_; rintro e w1 ⟨rfl, hb1⟩)
    go_ret
    exact ⟨rfl, by (repeat (first | (with_reducible exact Below.refl _ _) | (with_reducible exact below_boxed _ _) | (with_reducible refine below_box ?_ _) | (with_reducible refine below_drew1 ?_) | (with_reducible refine below_drewn ?_ _) | (with_reducible refine below_bytes ?_ _ _) | (with_reducible refine below_next ?_ (by assumption)) | (with_reducible refine below_set ?_ (by first | (simp; done) | (simp; omega) | omega) _)))⟩

/-- Is it there already? -/
def here (c : CidOf) (o : OOpt) (x : CidOf) : Bool := !o.d && (if o.wh then decide (x.ver = c.ver ∧ x.codec = c.codec ∧ x.code = c.code ∧ x.dig = c.dig) else decide (x.dig = c.dig))
/-- Is it put, and is there no error? -/
def putsB (l : List CidOf) (c : CidOf) (o : OOpt) : Bool × Bool :=
  if c.code = 0 ∧ o.i = false then (false, true) else if tooLong c o = true then (false, false) else (!l.any (here c o), true)

set_option maxRecDepth 100000 in
set_option maxHeartbeats 3200000 in
theorem Puts_ok (l : List CidOf) (c : CidOf) (hc : c.Ok) (o : OOpt) (A : Option Addr) (cap : Nat) (w : World) (hR : CRows w A l) (hlen : l.length ≤ 60) (hcap : l.length ≤ cap) :
    Calls Tryz.prog 11 #[.slice A l.length cap, .agg (CidCells c).toArray, .agg o.cells.toArray] w fun e w' => e = .returned (.tuple #[.bool (putsB l c o).1, .bool (putsB l c o).2]) ∧ Below w.heap.size w w' := by
  have hT := fun W => TooLong_ok c hc o W
  have ho : (Value.agg o.cells.toArray) = .agg #[.bool o.z, .bool o.i, .bool o.d, .bool o.wh, .bool o.v1, .bool o.tr, .int .u64 o.dp, .int .u64 o.ip, .int .u64 o.codec, .int .u64 o.mc, .int .u64 o.mh, .int .u64 o.ms] := rfl
  have hcc : (Value.agg (CidCells c).toArray) = .agg #[.int .u64 c.ver, .int .u64 c.codec, .int .u64 c.code, .string (sOf c.dig)] := rfl
  rw [ho, hcc]
  simp only [ho, hcc] at hT
  by_cases h0 : c.code = 0 ∧ o.i = false
  · have hp : putsB l c o = (false, true) := by unfold putsB; rw [if_pos h0]
    rw [hp, h0.1, h0.2]
    go_enter Tryz.func11, Tryz.ntmps11
    go_wp2_with fail
    refine bodyPost_ret (v := .tuple #[.bool false, .bool true]) (by simp [results, Tryz.results11, go_sem]) rfl ?_
    exact ⟨rfl, by (repeat (first | (with_reducible exact Below.refl _ _) | (with_reducible exact below_boxed _ _) | (with_reducible refine below_box ?_ _) | (with_reducible refine below_drew1 ?_) | (with_reducible refine below_drewn ?_ _) | (with_reducible refine below_bytes ?_ _ _) | (with_reducible refine below_next ?_ (by assumption)) | (with_reducible refine below_set ?_ (by first | (simp; done) | (simp; omega) | omega) _)))⟩
  · have h1 : ¬ c.code = 0 ∨ o.i = true := by
      rcases Classical.em (c.code = 0) with h | h
      · right
        cases hi : o.i with
        | true => rfl
        | false => exact absurd ⟨h, hi⟩ h0
      · exact .inl h
    have hp : putsB l c o = if tooLong c o = true then (false, false) else (!l.any (here c o), true) := by unfold putsB; rw [if_neg h0]
    have HP := Lib.hid hp
    clear hp h0
    go_enter Tryz.func11, Tryz.ntmps11
    go_upto_region 1 with fail
    go_cut [17] (fun s17 wx => s17 = .bool false ∧ (w.alloc (.cells #[.int .u64 c.ver, .int .u64 c.codec, .int .u64 c.code, .string (sOf c.dig)] 28)).alloc (.cells #[.bool o.z, .bool o.i, .bool o.d, .bool o.wh, .bool o.v1, .bool o.tr, .int .u64 o.dp, .int .u64 o.ip, .int .u64 o.codec, .int .u64 o.mc, .int .u64 o.mh, .int .u64 o.ms] 33) = wx)
    case first =>
      rcases h1 with h1 | h1
      · go_wp2_with fail
        go_meet
        exact ⟨rfl, rfl⟩
      · by_cases h2 : c.code = 0
        · have q1 : ((c.code : Int) == 0) = true := by simp [h2]
          have q2 : decide (c.code = 0) = true := by simp [h2]
          clear h2
          go_wp2_with fail
          go_meet
          exact ⟨rfl, by rw [h1]⟩
        · clear h1
          go_wp2_with fail
          go_meet
          exact ⟨rfl, rfl⟩
    case rest =>
      obtain ⟨rfl, rfl⟩ := hcut
      clear h1
      go_wp2_with fail
      refine (hT _).mono ?_
      rintro e w1 ⟨rfl, hb1⟩
      cases htl : tooLong c o with
      | true =>
        go_wp2_with fail
        refine bodyPost_ret (v := .tuple #[.bool false, .bool false]) (by simp [results, Tryz.results11, go_sem]) rfl ?_
        have hp := HP.out
        exact ⟨by rw [hp, htl]; rfl, by (repeat (first | (with_reducible exact Below.refl _ _) | (with_reducible exact below_boxed _ _) | (with_reducible refine below_box ?_ _) | (with_reducible refine below_drew1 ?_) | (with_reducible refine below_drewn ?_ _) | (with_reducible refine below_bytes ?_ _ _) | (with_reducible refine below_next ?_ (by assumption)) | (with_reducible refine below_set ?_ (by first | (simp; done) | (simp; omega) | omega) _)))⟩
      | false =>
        go_wp2_with fail
        generalize hW : (w.alloc (.cells #[.int .u64 c.ver, .int .u64 c.codec, .int .u64 c.code, .string (sOf c.dig)] 28)).alloc (.cells #[.bool o.z, .bool o.i, .bool o.d, .bool o.wh, .bool o.v1, .bool o.tr, .int .u64 o.dp, .int .u64 o.ip, .int .u64 o.codec, .int .u64 o.mc, .int .u64 o.mh, .int .u64 o.ms] 33) = W0 at *
        have hbw0 : Below w.heap.size w W0 := by rw [← hW]; exact below_box (below_boxed _ _) _
        have a0 : W0.cell? ⟨w.heap.size, 0, none⟩ = some (.int .u64 c.ver) := by rw [← hW]; simp
        have a1 : W0.cell? ⟨w.heap.size, 1, none⟩ = some (.int .u64 c.codec) := by rw [← hW]; simp
        have a2 : W0.cell? ⟨w.heap.size, 2, none⟩ = some (.int .u64 c.code) := by rw [← hW]; simp
        have a3 : W0.cell? ⟨w.heap.size, 3, none⟩ = some (.string (sOf c.dig)) := by rw [← hW]; simp
        have a4 : W0.cell? ⟨w.heap.size + 1, 2, none⟩ = some (.bool o.d) := by rw [← hW]; simp
        have a5 : W0.cell? ⟨w.heap.size + 1, 3, none⟩ = some (.bool o.wh) := by rw [← hW]; simp
        have hz0 : w.heap.size + 1 < W0.heap.size := by rw [← hW]; simp
        clear hW
        go_loopw [23] (fun vi wr => ∃ k : Nat, k ≤ l.length ∧ vi = .int .i64 k ∧ (l.take k).any (here c o) = false ∧ Below W0.heap.size W0 wr) (fun vi _ => l.length - (intOf vi).toNat)
        case atStart => exact ⟨0, Nat.zero_le _, rfl, rfl, hb1⟩
        case round =>
          clear hb1
          obtain ⟨k, hk, rfl, hno, hbw⟩ := hrel
          by_cases hlt : k < l.length
          · have hx := List.getElem?_eq_getElem hlt
            have htk : l.take (k + 1) = l.take k ++ [l[k]] := by rw [List.take_add_one, hx]; rfl
            have hmem := List.mem_of_getElem? hx
            generalize l[k] = x at hx htk hmem
            have hno' : here c o x = false → (l.take (k + 1)).any (here c o) = false := fun h => by rw [htk, List.any_append, hno]; simp [h]
            have hyes : here c o x = true → l.any (here c o) = true := fun h => List.any_eq_true.2 ⟨x, hmem, h⟩
            obtain ⟨g0, off, rfl, hg0, c0, c1, c2, c3⟩ := (hR.below hbw0).row hbw hx
            have hsz := hbw.size
            have hglt : g0 < wr.heap.size := by omega
            have b0 := (hbw.cell (p := ⟨w.heap.size, 0, none⟩) (show w.heap.size < W0.heap.size by omega)).trans a0
            have b1 := (hbw.cell (p := ⟨w.heap.size, 1, none⟩) (show w.heap.size < W0.heap.size by omega)).trans a1
            have b2 := (hbw.cell (p := ⟨w.heap.size, 2, none⟩) (show w.heap.size < W0.heap.size by omega)).trans a2
            have b3 := (hbw.cell (p := ⟨w.heap.size, 3, none⟩) (show w.heap.size < W0.heap.size by omega)).trans a3
            have b4 := (hbw.cell (p := ⟨w.heap.size + 1, 2, none⟩) hz0).trans a4
            have b5 := (hbw.cell (p := ⟨w.heap.size + 1, 3, none⟩) hz0).trans a5
            have hz1 : w.heap.size + 1 < wr.heap.size := by omega
            have hz2 : w.heap.size < wr.heap.size := by omega
            clear a0 a1 a2 a3 a4 a5 hz0 hno
            cases hd : o.d with
            | true =>
              rw [hd] at b4
              have hf : here c o x = false := by simp [here, hd]
              go_wp2_with fail
              exact ⟨⟨k + 1, by omega, by simp, hno' hf, below_next hbw (below_boxed wr _)⟩, by simp [intOf]; omega⟩
            | false =>
              rw [hd] at b4
              cases hwh : o.wh with
              | true =>
                rw [hwh] at b5
                go_wp2_with fail
                all_goals first
                  | (refine bodyPost_ret (v := .tuple #[.bool false, .bool true]) (by simp [results, Tryz.results11, go_sem]) rfl ?_
                     have hp := HP.out
                     have hy := hyes (by simp only [sOf_list, Int.ofNat_inj, beq_iff_eq, beq_eq_false_iff_ne, ne_eq] at *; simp [here, *])
                     exact ⟨by rw [hp, htl, hy]; rfl, below_next hbw0 (below_next hbw (below_boxed wr _))⟩)
                  | exact ⟨⟨k + 1, by omega, by simp, hno' (by simp only [sOf_list, Int.ofNat_inj, beq_iff_eq, beq_eq_false_iff_ne, ne_eq] at *; simp [here, *]), below_next hbw (below_boxed wr _)⟩, by simp [intOf]; omega⟩
              | false =>
                rw [hwh] at b5
                go_wp2_with fail
                all_goals first
                  | (refine bodyPost_ret (v := .tuple #[.bool false, .bool true]) (by simp [results, Tryz.results11, go_sem]) rfl ?_
                     have hp := HP.out
                     have hy := hyes (by simp only [sOf_list, Int.ofNat_inj, beq_iff_eq, beq_eq_false_iff_ne, ne_eq] at *; simp [here, *])
                     exact ⟨by rw [hp, htl, hy]; rfl, below_next hbw0 (below_next hbw (below_boxed wr _))⟩)
                  | exact ⟨⟨k + 1, by omega, by simp, hno' (by simp only [sOf_list, Int.ofNat_inj, beq_iff_eq, beq_eq_false_iff_ne, ne_eq] at *; simp [here, *]), below_next hbw (below_boxed wr _)⟩, by simp [intOf]; omega⟩
          · obtain rfl : k = l.length := by omega
            rw [List.take_of_length_le (Nat.le_refl _)] at hno
            go_wp2_with fail
            refine bodyPost_ret (v := .tuple #[.bool true, .bool true]) (by simp [results, Tryz.results11, go_sem]) rfl ?_
            have hp := HP.out
            exact ⟨by rw [hp, htl, hno]; rfl, below_next hbw0 hbw⟩
end Go.Proofs.YtifoicdnibgdaaaGreatDoor
