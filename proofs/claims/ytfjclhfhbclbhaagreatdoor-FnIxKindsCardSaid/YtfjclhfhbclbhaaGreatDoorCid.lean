/- Identifiers: an identifier's text taken apart. -/
import Derived.Test.YtfjclhfhbclbhaaGreatDoorVar
namespace Go.Proofs.YtfjclhfhbclbhaaGreatDoor
open Go.RowKit
set_option linter.unusedVariables false
set_option linter.unusedSimpArgs false

/-- What is known of an identifier: of version 0 the text is 0x12, 0x20 and the digest of 32 bytes; of version 1: 1, codec, code, length, digest. -/
structure CidOf where
  ver : Nat
  codec : Nat
  code : Nat
  dig : List UInt8

def CidOf.mh (c : CidOf) : List UInt8 := Lib.uvarint c.code ++ (Lib.uvarint c.dig.length ++ c.dig)
def CidOf.bytes (c : CidOf) : List UInt8 := if c.ver = 0 then c.mh else Lib.uvarint 1 ++ (Lib.uvarint c.codec ++ c.mh)
def CidOf.str (c : CidOf) : ByteArray := ⟨c.bytes.toArray⟩

/-- A tidy one with a digest of at most 200 bytes. -/
structure CidOf.Ok (c : CidOf) : Prop where
  ver : c.ver = 0 ∧ c.codec = 112 ∧ c.code = 18 ∧ c.dig.length = 32 ∨ c.ver = 1
  codec : c.codec < 9223372036854775808
  code : c.code < 9223372036854775808
  dig : c.dig.length ≤ 200

theorem uvarint_le9 {n : Nat} (h : n < 9223372036854775808) : (Lib.uvarint n).length ≤ 9 :=
  Lib.uvarint_length 8 n (by have : (128 : Nat) ^ (8 + 1) = 9223372036854775808 := by decide
                             omega)

theorem uvarint_1 : Lib.uvarint 1 = [1] := by rw [Lib.uvarint_small (by omega)]; rfl

theorem CidOf.mh_length {c : CidOf} (h : c.Ok) : c.mh.length ≤ 218 ∧ 2 ≤ c.mh.length := by
  have h1 := uvarint_le9 h.code
  have h2 := uvarint_le9 (n := c.dig.length) (by have := h.dig; omega)
  have h3 := Lib.uvarint_pos c.code
  have h4 := Lib.uvarint_pos c.dig.length
  have := h.dig
  unfold CidOf.mh
  simp only [List.length_append]
  omega

theorem CidOf.bytes_length {c : CidOf} (h : c.Ok) : c.bytes.length ≤ 228 ∧ 2 ≤ c.bytes.length := by
  have h1 := uvarint_le9 h.codec
  have h2 := CidOf.mh_length h
  unfold CidOf.bytes
  split
  · omega
  · simp only [List.length_append, uvarint_1, List.length_cons, List.length_nil]
    omega

theorem CidOf.str_toList (c : CidOf) : c.str.data.toList = c.bytes := rfl

theorem CidOf.str_size {c : CidOf} (h : c.Ok) : c.str.size ≤ 228 ∧ 2 ≤ c.str.size := by
  rw [Go.Proofs.YtfjclhfhbclbhaaGreatDoor.str_size c.str_toList]; exact CidOf.bytes_length h

theorem CidOf.bytes_v0 {c : CidOf} (h : c.Ok) (h0 : c.ver = 0) : c.bytes = 18 :: 32 :: c.dig ∧ c.dig.length = 32 ∧ c.codec = 112 ∧ c.code = 18 := by
  rcases h.ver with ⟨_, h1, h2, h3⟩ | h1
  · refine ⟨?_, h3, h1, h2⟩
    unfold CidOf.bytes CidOf.mh
    rw [if_pos h0, h2, h3, Lib.uvarint_small (by omega), Lib.uvarint_small (by omega)]
    rfl
  · omega

theorem CidOf.bytes_v1 {c : CidOf} (h0 : c.ver = 1) : c.bytes = 1 :: (Lib.uvarint c.codec ++ c.mh) := by
  unfold CidOf.bytes
  rw [if_neg (by omega), uvarint_1]; rfl

set_option maxRecDepth 100000 in
set_option maxHeartbeats 800000 in
theorem Version_0 (s : ByteArray) (hs : s.size = 34) (a0 : (s[0]'(by omega)).toNat = 18) (a1 : (s[1]'(by omega)).toNat = 32) (w : World) :
    Calls Tryz.prog 188 #[.agg #[.string s]] w fun e w' => e = .returned (.int .u64 0) ∧ Below w.heap.size w w' := by
  go_enter Tryz.func188, Tryz.ntmps188
  go_wp2
  go_ret
  exact ⟨rfl, (Below.refl _ _).alloc (Nat.le_refl _) _⟩

set_option maxRecDepth 100000 in
set_option maxHeartbeats 800000 in
theorem Version_1 (s : ByteArray) (hs : 2 ≤ s.size) (a0 : (s[0]'(by omega)).toNat = 1) (w : World) :
    Calls Tryz.prog 188 #[.agg #[.string s]] w fun e w' => e = .returned (.int .u64 1) ∧ Below w.heap.size w w' := by
  go_enter Tryz.func188, Tryz.ntmps188
  go_wp2
  all_goals (go_ret; exact ⟨rfl, (Below.refl _ _).alloc (Nat.le_refl _) _⟩)

theorem Version_any (c : CidOf) (hc : c.Ok) (w : World) :
    Calls Tryz.prog 188 #[.agg #[.string c.str]] w fun e w' => e = .returned (.int .u64 c.ver) ∧ Below w.heap.size w w' := by
  rcases hc.ver with h | h
  · obtain ⟨hb, hd, _, _⟩ := CidOf.bytes_v0 hc h.1
    have hs : c.str.size = 34 := by rw [Go.Proofs.YtfjclhfhbclbhaaGreatDoor.str_size c.str_toList, hb]; simp; omega
    rw [h.1]
    exact Version_0 _ hs (by rw [str_at (c.str_toList.trans hb) 0 18 rfl]; rfl) (by rw [str_at (c.str_toList.trans hb) 1 32 rfl]; rfl) w
  · have hb := CidOf.bytes_v1 h
    rw [h]
    exact Version_1 _ (CidOf.str_size hc).2 (by rw [str_at (c.str_toList.trans hb) 0 1 rfl]; rfl) w

theorem toList_ne {s : ByteArray} (h : 2 ≤ s.size) : s.toList.isEmpty = false := by
  rw [ByteArray.toList_eq, List.isEmpty_eq_false_iff_exists_mem]
  refine ⟨s[0], ?_⟩
  exact List.mem_of_getElem? (i := 0) (List.getElem?_eq_some_iff.2 ⟨by rw [Array.length_toList]; exact Nat.lt_of_lt_of_le (by omega) h, rfl⟩)

set_option maxRecDepth 100000 in
set_option maxHeartbeats 800000 in
theorem Defined_ok (s : ByteArray) (hs : 2 ≤ s.size) (w : World) :
    Calls Tryz.prog 200 #[.agg #[.string s]] w fun e w' => e = .returned (.bool true) ∧ Below w.heap.size w w' := by
  have h1 := toList_ne hs
  go_enter Tryz.func200, Tryz.ntmps200
  go_wp2
  go_ret
  exact ⟨rfl, (Below.refl _ _).alloc (Nat.le_refl _) _⟩

set_option maxRecDepth 100000 in
set_option maxHeartbeats 800000 in
theorem Bytes_ok (s : ByteArray) (hs : 2 ≤ s.size) (hm : s.size ≤ 140737488355328) (w : World) :
    Calls Tryz.prog 187 #[.agg #[.string s]] w fun e w' => ∃ g c, e = .returned (.slice (some ⟨g, 0, none⟩) s.size c) ∧ s.size ≤ c ∧ BytesAt w' (some ⟨g, 0, none⟩) s.data.toList ∧ ByteBlk w' 5 (some ⟨g, 0, none⟩) ∧ Below w.heap.size w w' ∧ w.heap.size ≤ g := by
  have hcv := fun W => Lib.run_convert_string_bytes (P := Tryz.prog) W 9 27 5 s Tryz.underlying9 Tryz.underlying27 Tryz.underlying5
  go_enter Tryz.func187, Tryz.ntmps187
  go_wp2_with (go_at_call 200; refine (Defined_ok _ hs _).mono ?_; rintro e w1 ⟨rfl, hb⟩; obtain ⟨hc, hf⟩ := bcell hb)
  go_ret
  exact ⟨_, _, rfl, grownCap_ge _ _ _ _, BytesAt.bytesWorld _ _ _, ByteBlk.bytesWorld _ _ _, by (repeat (first | (with_reducible exact Below.refl _ _) | (with_reducible exact below_boxed _ _) | (with_reducible refine below_box ?_ _) | (with_reducible refine below_drew1 ?_) | (with_reducible refine below_drewn ?_ _) | (with_reducible refine below_bytes ?_ _ _) | (with_reducible refine below_next ?_ (by assumption)) | (with_reducible refine below_set ?_ (by first | (simp; done) | (simp; omega) | omega) _))), Below.size (by (repeat (first | (with_reducible exact Below.refl _ _) | (with_reducible exact below_boxed _ _) | (with_reducible refine below_box ?_ _) | (with_reducible refine below_drew1 ?_) | (with_reducible refine below_drewn ?_ _) | (with_reducible refine below_bytes ?_ _ _) | (with_reducible refine below_next ?_ (by assumption)) | (with_reducible refine below_set ?_ (by first | (simp; done) | (simp; omega) | omega) _))) : Below w.heap.size w w1)⟩

set_option maxRecDepth 100000 in
set_option maxHeartbeats 1600000 in
theorem Hash_v1 (c : CidOf) (hc : c.Ok) (h1 : c.ver = 1) (w : World) :
    Calls Tryz.prog 175 #[.agg #[.string c.str]] w fun e w' => ∃ A cap, e = .returned (.slice A c.mh.length cap) ∧ c.mh.length ≤ cap ∧ BytesAt w' A c.mh ∧ ByteBlk w' 5 A ∧ From w.heap.size A ∧ Below w.heap.size w w' := by
  have hsz := CidOf.str_size hc
  have hb : c.str.data.toList = Lib.uvarint 1 ++ (Lib.uvarint c.codec ++ c.mh) := by rw [CidOf.str_toList]; unfold CidOf.bytes; rw [if_neg (by omega)]
  have hL : c.str.size = 1 + ((Lib.uvarint c.codec).length + c.mh.length) := by rw [Go.Proofs.YtfjclhfhbclbhaaGreatDoor.str_size hb]; simp [uvarint_1]; omega
  have hu1 : (Lib.uvarint 1).length = 1 := by rw [uvarint_1]; rfl
  have hV := fun W => Version_any c hc W
  rw [h1] at hV
  have h9 := uvarint_le9 hc.codec
  generalize c.str = s at *
  have HB := Lib.hid hb; clear hb
  have HL := Lib.hid hL; clear hL
  have HU := Lib.hid hu1; clear hu1
  have H1 := Lib.hid h1; clear h1
  go_enter Tryz.func175, Tryz.ntmps175
  go_wp2_with fail
  refine (Bytes_ok s hsz.2 (by omega) _).mono ?_
  rintro e w1 ⟨g, c1, rfl, hc1, hA1, hB1, hb1, hg1⟩
  obtain ⟨hcc, hff⟩ := bcell hb1
  go_wp2_with fail
  refine (hV _).mono ?_
  rintro e w2 ⟨rfl, hb2⟩
  have hA2 := hA1.below hb2
  have hB2 := hB1.below hb2
  go_wp2_with fail
  refine (FromUvarint_at 1 (by omega) _ (Lib.uvarint c.codec ++ c.mh) _ _ _ _ hA2 HB.out (by rw [Array.length_toList]; rfl) (by omega)).mono ?_
  rintro e w3 ⟨rfl, rfl⟩
  rw [HU.out]
  obtain ⟨A2, hcut2, hcb2, hck2, hcf2⟩ := cut8 (some ⟨g, 0, none⟩) s.size c1 1 ((Lib.uvarint c.codec).length + c.mh.length) 1 rfl HL.out hc1
  go_wp2_with fail
  refine (FromUvarint_at c.codec hc.codec _ c.mh _ _ _ _ (hcb2 _ _ (by rw [Array.length_toList]; rfl) hA2) (by rw [HB.out, uvarint_1]; rfl) (by rw [HB.out, uvarint_1]; simp) (by have := HL.out; omega)).mono ?_
  rintro e w3 ⟨rfl, rfl⟩
  obtain ⟨A3, hcut3, hcb3, hck3, hcf3⟩ := cut8 (some ⟨g, 0, none⟩) s.size c1 (1 + (Lib.uvarint c.codec).length) c.mh.length (1 + ((Lib.uvarint c.codec).length : Int)) (by omega) (by have := HL.out; omega) hc1
  go_wp2_with fail
  go_ret
  refine ⟨_, _, rfl, ?_, ?_, hck3 _ _ hB2, hcf3 _ ?_, by (repeat (first | (with_reducible exact Below.refl _ _) | (with_reducible exact below_boxed _ _) | (with_reducible refine below_box ?_ _) | (with_reducible refine below_drew1 ?_) | (with_reducible refine below_drewn ?_ _) | (with_reducible refine below_bytes ?_ _ _) | (with_reducible refine below_next ?_ (by assumption)) | (with_reducible refine below_set ?_ (by first | (simp; done) | (simp; omega) | omega) _)))⟩
  · have := HL.out; omega
  · have := hcb3 _ _ (by rw [Array.length_toList]; rfl) hA2
    rw [HB.out, uvarint_1] at this
    have e : List.drop (1 + (Lib.uvarint c.codec).length) ([1] ++ (Lib.uvarint c.codec ++ c.mh)) = c.mh := by
      rw [Nat.add_comm]; show List.drop (Lib.uvarint c.codec).length _ = _; exact List.drop_left
    rw [e] at this; exact this
  · intro ad e; cases e; exact Nat.le_trans (Below.size (by (repeat (first | (with_reducible exact Below.refl _ _) | (with_reducible exact below_boxed _ _) | (with_reducible refine below_box ?_ _) | (with_reducible refine below_drew1 ?_) | (with_reducible refine below_drewn ?_ _) | (with_reducible refine below_bytes ?_ _ _) | (with_reducible refine below_next ?_ (by assumption)) | (with_reducible refine below_set ?_ (by first | (simp; done) | (simp; omega) | omega) _))) : Below w.heap.size w (w.alloc (Obj.cells #[Value.string s] 63)))) hg1

set_option maxRecDepth 100000 in
set_option maxHeartbeats 1600000 in
theorem Hash_v0 (c : CidOf) (hc : c.Ok) (h1 : c.ver = 0) (w : World) :
    Calls Tryz.prog 175 #[.agg #[.string c.str]] w fun e w' => ∃ A cap, e = .returned (.slice A c.mh.length cap) ∧ c.mh.length ≤ cap ∧ BytesAt w' A c.mh ∧ ByteBlk w' 5 A ∧ From w.heap.size A ∧ Below w.heap.size w w' := by
  have hsz := CidOf.str_size hc
  have hb : c.str.data.toList = c.mh := by rw [CidOf.str_toList]; unfold CidOf.bytes; rw [if_pos h1]
  have hL : c.str.size = c.mh.length := by rw [Go.Proofs.YtfjclhfhbclbhaaGreatDoor.str_size hb]
  have hV := fun W => Version_any c hc W
  rw [h1] at hV
  generalize c.str = s at *
  have HB := Lib.hid hb; clear hb
  have HL := Lib.hid hL; clear hL
  have H1 := Lib.hid h1; clear h1
  go_enter Tryz.func175, Tryz.ntmps175
  go_wp2_with fail
  refine (Bytes_ok s hsz.2 (by omega) _).mono ?_
  rintro e w1 ⟨g, c1, rfl, hc1, hA1, hB1, hb1, hg1⟩
  obtain ⟨hcc, hff⟩ := bcell hb1
  go_wp2_with fail
  refine (hV _).mono ?_
  rintro e w2 ⟨rfl, hb2⟩
  have hA2 := hA1.below hb2
  have hB2 := hB1.below hb2
  go_wp2_with fail
  go_ret
  rw [← HL.out, ← HB.out]
  refine ⟨_, _, rfl, hc1, hA2, hB2, ?_, by (repeat (first | (with_reducible exact Below.refl _ _) | (with_reducible exact below_boxed _ _) | (with_reducible refine below_box ?_ _) | (with_reducible refine below_drew1 ?_) | (with_reducible refine below_drewn ?_ _) | (with_reducible refine below_bytes ?_ _ _) | (with_reducible refine below_next ?_ (by assumption)) | (with_reducible refine below_set ?_ (by first | (simp; done) | (simp; omega) | omega) _)))⟩
  intro ad e; cases e; exact Nat.le_trans (Below.size (by (repeat (first | (with_reducible exact Below.refl _ _) | (with_reducible exact below_boxed _ _) | (with_reducible refine below_box ?_ _) | (with_reducible refine below_drew1 ?_) | (with_reducible refine below_drewn ?_ _) | (with_reducible refine below_bytes ?_ _ _) | (with_reducible refine below_next ?_ (by assumption)) | (with_reducible refine below_set ?_ (by first | (simp; done) | (simp; omega) | omega) _))) : Below w.heap.size w (w.alloc (Obj.cells #[Value.string s] 63)))) hg1

theorem Hash_ok (c : CidOf) (hc : c.Ok) (w : World) :
    Calls Tryz.prog 175 #[.agg #[.string c.str]] w fun e w' => ∃ A cap, e = .returned (.slice A c.mh.length cap) ∧ c.mh.length ≤ cap ∧ BytesAt w' A c.mh ∧ ByteBlk w' 5 A ∧ From w.heap.size A ∧ Below w.heap.size w w' := by
  rcases hc.ver with h | h
  · exact Hash_v0 c hc h.1 w
  · exact Hash_v1 c hc h w

/-! The multihash: code, length, digest. -/
set_option maxRecDepth 100000 in
set_option maxHeartbeats 800000 in
theorem mhUvarint_ok (n : Nat) (hn : n < 9223372036854775808) (bs rest : List UInt8) (A : Option Addr) (M c : Nat) (w : World) (h : BytesAt w A bs) (hb : bs = Lib.uvarint n ++ rest) (hM : bs.length = M) (hl : M ≤ 140737488355328) (hc : M ≤ c) :
    Calls Tryz.prog 119 #[.slice A M c] w fun e w' => ∃ A' c' m, e = .returned (.tuple #[.int .u64 n, .slice A' rest.length c', .nilIface]) ∧ rest.length ≤ c' ∧ Sub A bs A' rest ∧ w' = w.drewN m := by
  have hM2 : M = (Lib.uvarint n).length + rest.length := by rw [← hM, hb]; simp
  have hp := Lib.uvarint_pos n
  have hn0 : (((Lib.uvarint n).length : Int) == 0) = false := beq_eq_false_iff_ne.2 (by omega)
  have hn1 : decide (((Lib.uvarint n).length : Int) < 0) = false := decide_eq_false (by omega)
  obtain ⟨A2, hcut2, hcb2, hck2, hcf2⟩ := cut8 A M c (Lib.uvarint n).length rest.length ((Lib.uvarint n).length : Int) rfl hM2 hc
  have HM2 := Lib.hid hM2; clear hM2
  have HM := Lib.hid hM; clear hM
  have HBs := Lib.hid hb; clear hb
  go_enter Tryz.func119, Tryz.ntmps119
  go_wp2_with fail
  refine (FromUvarint_at n hn bs rest _ _ _ _ h HBs.out HM.out hl).mono ?_
  rintro e w3 ⟨rfl, rfl⟩
  generalize hL : (Lib.uvarint n).length = L at *
  have HL := Lib.hid hL; clear hL
  go_wp2_with fail
  go_quiet (fail)
  go_wp2_with fail
  go_ret3
  refine ⟨_, _, _, rfl, ?_, ⟨fun W hW => ?_, hck2, hcf2⟩, rfl⟩
  · have := HM2.out; have := HL.out; omega
  · have e : List.drop L bs = rest := by rw [HBs.out, ← HL.out]; exact List.drop_left
    have := hcb2 W bs HM.out hW
    rw [e] at this; exact this

theorem drewN_drewN (w : World) (a b : Nat) : (w.drewN a).drewN b = w.drewN (a + b) := by
  unfold World.drewN; simp [Nat.add_assoc]

set_option maxRecDepth 100000 in
set_option maxHeartbeats 1600000 in
theorem readMh_ok (code : Nat) (hcode : code < 9223372036854775808) (dig : List UInt8) (hdig : dig.length ≤ 2147483647) (A : Option Addr) (M c : Nat) (w : World)
    (h : BytesAt w A (Lib.uvarint code ++ (Lib.uvarint dig.length ++ dig))) (hM : (Lib.uvarint code ++ (Lib.uvarint dig.length ++ dig)).length = M) (hc : M ≤ c) :
    Calls Tryz.prog 108 #[.slice A M c] w fun e w' => ∃ A' c' m, e = .returned (.tuple #[.int .i64 M, .int .u64 code, .slice A' dig.length c', .nilIface]) ∧ dig.length ≤ c' ∧ Sub A (Lib.uvarint code ++ (Lib.uvarint dig.length ++ dig)) A' dig ∧ w' = w.drewN m := by
  have h1 := uvarint_le9 hcode
  have h2 := uvarint_le9 (n := dig.length) (by omega)
  have h3 := Lib.uvarint_pos code
  have h4 := Lib.uvarint_pos dig.length
  have hM2 : M = (Lib.uvarint code).length + ((Lib.uvarint dig.length).length + dig.length) := by rw [← hM]; simp
  have hML : M ≤ 140737488355328 := by omega
  have hMs : decide ((M : Int) < 2) = false := decide_eq_false (by omega)
  have hMs2 : decide (M < 2) = false := decide_eq_false (by omega)
  have HM := Lib.hid hM; clear hM
  have HM2 := Lib.hid hM2; clear hM2
  have hL2 : (Lib.uvarint dig.length ++ dig).length = (Lib.uvarint dig.length).length + dig.length := by simp
  go_enter Tryz.func108, Tryz.ntmps108
  go_wp2_with fail
  refine (mhUvarint_ok code hcode _ (Lib.uvarint dig.length ++ dig) _ _ _ _ h rfl HM.out hML hc).mono ?_
  rintro e w1 ⟨A1, c1, m1, rfl, hc1, hS1, rfl⟩
  have hA1 : BytesAt (w.drewN m1) A1 _ := hS1.bytes _ h
  rw [hL2]
  rw [hL2] at hc1
  have HL2 := Lib.hid hL2; clear hL2
  go_wp2_with fail
  refine (mhUvarint_ok dig.length (by omega) _ dig _ _ _ _ hA1 rfl HL2.out (by omega) hc1).mono ?_
  rintro e w2 ⟨A2, c2, m2, rfl, hc2, hS2, rfl⟩
  have hd1 : decide (2147483647 < (dig.length : Int)) = false := decide_eq_false (by omega)
  go_wp2_with fail
  go_quiet (fail)
  go_wp2_with fail
  refine bodyPost_ret (v := .tuple #[.int .i64 M, .int .u64 code, .slice A2 dig.length c2, .nilIface]) (by simp [results, Tryz.results108, go_sem]) rfl ?_
  exact ⟨_, _, _, rfl, hc2, hS1.trans hS2, drewN_drewN _ _ _⟩

theorem setCell_drewN (w : World) (n : Nat) (a : Addr) (v : Value) : (w.drewN n).setCell a v = (w.setCell a v).drewN n := rfl
theorem alloc_drewN (w : World) (n : Nat) (o : Obj) : (w.drewN n).alloc o = (w.alloc o).drewN n := rfl
attribute [local go_sem] setCell_drewN alloc_drewN

/-- A multihash's bytes. -/
abbrev mhOf (code : Nat) (dig : List UInt8) : List UInt8 := Lib.uvarint code ++ (Lib.uvarint dig.length ++ dig)

set_option maxRecDepth 100000 in
set_option maxHeartbeats 1600000 in
theorem decode_ok (code : Nat) (hcode : code < 9223372036854775808) (dig : List UInt8) (hdig : dig.length ≤ 2147483647) (A : Option Addr) (M c : Nat) (w : World)
    (h : BytesAt w A (mhOf code dig)) (hM : (mhOf code dig).length = M) (hc : M ≤ c) :
    Calls Tryz.prog 82 #[.slice A M c] w fun e w' => ∃ A' c', e = .returned (.tuple #[.agg #[.int .u64 code, .string ⟨#[]⟩, .int .i64 dig.length, .slice A' dig.length c'], .nilIface]) ∧ dig.length ≤ c' ∧ Sub A (mhOf code dig) A' dig ∧ Below w.heap.size w w' := by
  go_enter Tryz.func82, Tryz.ntmps82
  go_wp2_with fail
  refine (readMh_ok code hcode dig hdig A M c _ (h.below (below_boxed _ _)) hM hc).mono ?_
  rintro e w1 ⟨A1, c1, m1, rfl, hc1, hS1, rfl⟩
  go_wp2_with fail
  refine bodyPost_ret (v := .tuple #[.agg #[.int .u64 code, .string ⟨#[]⟩, .int .i64 dig.length, .slice A1 dig.length c1], .nilIface]) (by simp [results, Tryz.results82, go_sem]) rfl ?_
  exact ⟨_, _, rfl, hc1, hS1, by (repeat (first | (with_reducible exact Below.refl _ _) | (with_reducible exact below_boxed _ _) | (with_reducible refine below_box ?_ _) | (with_reducible refine below_drew1 ?_) | (with_reducible refine below_drewn ?_ _) | (with_reducible refine below_bytes ?_ _ _) | (with_reducible refine below_next ?_ (by assumption)) | (with_reducible refine below_set ?_ (by first | (simp; done) | (simp; omega) | omega) _)))⟩

set_option maxRecDepth 100000 in
set_option maxHeartbeats 1600000 in
theorem Decode_ok (code : Nat) (hcode : code < 9223372036854775808) (dig : List UInt8) (hdig : dig.length ≤ 2147483647) (A : Option Addr) (M c : Nat) (w : World)
    (h : BytesAt w A (mhOf code dig)) (hM : (mhOf code dig).length = M) (hc : M ≤ c) :
    Calls Tryz.prog 68 #[.slice A M c] w fun e w' => ∃ g A' c', e = .returned (.tuple #[.pointer (some ⟨g, 0, none⟩), .nilIface]) ∧ dig.length ≤ c' ∧ Sub A (mhOf code dig) A' dig ∧ Below w.heap.size w w' ∧ w.heap.size ≤ g ∧
      w'.heap[g]? = some (.cells #[.int .u64 code, .string ⟨#[]⟩, .int .i64 dig.length, .slice A' dig.length c'] 163 (0, 0)) := by
  go_enter Tryz.func68, Tryz.ntmps68
  go_wp2_with fail
  refine (decode_ok code hcode dig hdig A M c _ h hM hc).mono ?_
  rintro e w1 ⟨A1, c1, rfl, hc1, hS1, hb1⟩
  go_wp2_with fail
  go_ret2
  exact ⟨_, _, _, rfl, hc1, hS1, by (repeat (first | (with_reducible exact Below.refl _ _) | (with_reducible exact below_boxed _ _) | (with_reducible refine below_box ?_ _) | (with_reducible refine below_drew1 ?_) | (with_reducible refine below_drewn ?_ _) | (with_reducible refine below_bytes ?_ _ _) | (with_reducible refine below_next ?_ (by assumption)) | (with_reducible refine below_set ?_ (by first | (simp; done) | (simp; omega) | omega) _))), hb1.size, heap_alloc_new _ _⟩
end Go.Proofs.YtfjclhfhbclbhaaGreatDoor
