/- Identifiers: an identifier taken apart (Prefix, cidOut), and the record that an index makes of one. -/
import Derived.Test.YtifoicdnibgdaaaGreatDoorCid
import Derived.Lib.Strings
import Derived.Laws.IdiomStrings
import Derived.Lib.BufferRead
namespace Go.Proofs.YtifoicdnibgdaaaGreatDoor
open Go.RowKit
set_option linter.unusedVariables false
set_option linter.unusedSimpArgs false
attribute [local go_sem] setCell_drewN alloc_drewN

set_option maxRecDepth 100000 in
set_option maxHeartbeats 1600000 in
theorem Prefix_v0 (c : CidOf) (hc : c.Ok) (h1 : c.ver = 0) (w : World) :
    Calls Tryz.prog 31 #[.agg #[.string c.str]] w fun e w' => e = .returned (.agg #[.int .u64 0, .int .u64 112, .int .u64 18, .int .i64 32]) ∧ Below w.heap.size w w' := by
  have hV := fun W => Version_any c hc W
  rw [h1] at hV
  generalize c.str = s at *
  go_enter Tryz.func31, Tryz.ntmps31
  go_wp2_with fail
  refine (hV _).mono ?_
  rintro e w1 ⟨rfl, hb1⟩
  obtain ⟨hcc, hff⟩ := bcell hb1
  have hz : w.heap.size + 1 < w1.heap.size := by have := hb1.size; simp at this; omega
  go_wp2_with fail
  refine bodyPost_ret (v := .agg #[.int .u64 0, .int .u64 112, .int .u64 18, .int .i64 32]) (by simp [results, Tryz.results31, go_sem, hcc, hff, hz]) rfl ?_
  refine ⟨rfl, ?_⟩
  repeat (refine below_set ?_ (by simp) _)
  (repeat (first | (with_reducible exact Below.refl _ _) | (with_reducible exact below_boxed _ _) | (with_reducible refine below_box ?_ _) | (with_reducible refine below_drew1 ?_) | (with_reducible refine below_drewn ?_ _) | (with_reducible refine below_bytes ?_ _ _) | (with_reducible refine below_next ?_ (by assumption)) | (with_reducible refine below_set ?_ (by first | (simp; done) | (simp; omega) | omega) _)))

theorem extract_list (s : ByteArray) (k : Nat) : (s.extract k s.size).data.toList = s.data.toList.drop k := by
  rw [Lib.extract_data, List.take_of_length_le]
  rw [List.length_drop, Array.length_toList]
  exact Nat.le_refl _

theorem drop2 (x : UInt8) (a b c : List UInt8) : List.drop (1 + a.length) ([x] ++ (a ++ (b ++ c))) = b ++ c := by
  rw [Nat.add_comm]; exact List.drop_left
theorem drop3 (x : UInt8) (a b c : List UInt8) : List.drop (1 + a.length + b.length) ([x] ++ (a ++ (b ++ c))) = c := by
  rw [← List.drop_drop, Nat.add_comm 1]
  show List.drop b.length (List.drop a.length (a ++ (b ++ c))) = c
  rw [List.drop_left, List.drop_left]

set_option maxRecDepth 100000 in
set_option maxHeartbeats 1600000 in
theorem Prefix_v1 (c : CidOf) (hc : c.Ok) (h1 : c.ver = 1) (w : World) :
    Calls Tryz.prog 31 #[.agg #[.string c.str]] w fun e w' => e = .returned (.agg #[.int .u64 1, .int .u64 c.codec, .int .u64 c.code, .int .i64 c.dig.length]) ∧ Below w.heap.size w w' := by
  have hV := fun W => Version_any c hc W
  rw [h1] at hV
  have hsz := CidOf.str_size hc
  have hb : c.str.data.toList = Lib.uvarint 1 ++ (Lib.uvarint c.codec ++ (Lib.uvarint c.code ++ (Lib.uvarint c.dig.length ++ c.dig))) := by rw [CidOf.str_toList]; unfold CidOf.bytes; rw [if_neg (by omega)]; rfl
  have hL : c.str.size = 1 + ((Lib.uvarint c.codec).length + ((Lib.uvarint c.code).length + ((Lib.uvarint c.dig.length).length + c.dig.length))) := by rw [Go.Proofs.YtifoicdnibgdaaaGreatDoor.str_size hb]; simp [uvarint_1]; omega
  have u1 := uvarint_le9 hc.codec
  have u2 := uvarint_le9 hc.code
  have hu1 : (Lib.uvarint 1).length = 1 := by rw [uvarint_1]; rfl
  generalize c.str = s at *
  have HB := Lib.hid hb; clear hb
  have HU := Lib.hid hu1; clear hu1
  have HL := Lib.hid hL
  have hs1 : 1 ≤ s.size := by omega
  have hs2 : 1 + (Lib.uvarint c.codec).length ≤ s.size := by omega
  have hs3 : 1 + (Lib.uvarint c.codec).length + (Lib.uvarint c.code).length ≤ s.size := by omega
  clear hL
  go_enter Tryz.func31, Tryz.ntmps31
  go_wp2_with fail
  refine (hV _).mono ?_
  rintro e w1 ⟨rfl, hb1⟩
  obtain ⟨hcc, hff⟩ := bcell hb1
  have hz : w.heap.size + 1 < w1.heap.size := by have := hb1.size; simp at this; omega
  go_wp2_with fail
  refine (uvarint_ok 1 (by omega) (Lib.uvarint c.codec ++ (Lib.uvarint c.code ++ (Lib.uvarint c.dig.length ++ c.dig))) _ _ ?_ ?_).mono ?_
  · exact HB.out
  · omega
  rintro e w2 ⟨rfl, rfl⟩
  rw [HU.out]
  go_wp2_with fail
  refine (uvarint_ok c.codec hc.codec (Lib.uvarint c.code ++ (Lib.uvarint c.dig.length ++ c.dig)) _ _ ?_ ?_).mono ?_
  · rw [extract_list, HB.out, uvarint_1]; rfl
  · simp; omega
  rintro e w2 ⟨rfl, rfl⟩
  go_wp2_with fail
  refine (uvarint_ok c.code hc.code (Lib.uvarint c.dig.length ++ c.dig) _ _ ?_ ?_).mono ?_
  · rw [extract_list, HB.out, uvarint_1]; exact drop2 _ _ _ _
  · simp; omega
  rintro e w2 ⟨rfl, rfl⟩
  go_wp2_with fail
  refine (uvarint_ok c.dig.length (by have := hc.dig; omega) c.dig _ _ ?_ ?_).mono ?_
  · rw [extract_list, HB.out, uvarint_1]; exact drop3 _ _ _ _
  · simp; omega
  rintro e w2 ⟨rfl, rfl⟩
  have hd := hc.dig
  go_wp2_with fail
  refine bodyPost_ret (v := .agg #[.int .u64 1, .int .u64 c.codec, .int .u64 c.code, .int .i64 c.dig.length]) (by simp [results, Tryz.results31, go_sem, hcc, hff, hz]) rfl ?_
  refine ⟨rfl, ?_⟩
  repeat (refine below_set ?_ (by simp) _)
  (repeat (first | (with_reducible exact Below.refl _ _) | (with_reducible exact below_boxed _ _) | (with_reducible refine below_box ?_ _) | (with_reducible refine below_drew1 ?_) | (with_reducible refine below_drewn ?_ _) | (with_reducible refine below_bytes ?_ _ _) | (with_reducible refine below_next ?_ (by assumption)) | (with_reducible refine below_set ?_ (by first | (simp; done) | (simp; omega) | omega) _)))

theorem Prefix_ok (c : CidOf) (hc : c.Ok) (w : World) :
    Calls Tryz.prog 31 #[.agg #[.string c.str]] w fun e w' => e = .returned (.agg #[.int .u64 c.ver, .int .u64 c.codec, .int .u64 c.code, .int .i64 c.dig.length]) ∧ Below w.heap.size w w' := by
  rcases hc.ver with h | h
  · obtain ⟨h0, h1, h2, h3⟩ := h
    rw [h0, h1, h2, h3]
    exact Prefix_v0 c hc h0 w
  · rw [h]; exact Prefix_v1 c hc h w

set_option maxRecDepth 100000 in
set_option maxHeartbeats 1600000 in
theorem newRecord_ok (c : CidOf) (hc : c.Ok) (off : Int) (w : World) :
    Calls Tryz.prog 65 #[.agg #[.string c.str], .int .u64 off] w fun e w' => ∃ A cap, e = .returned (.agg #[.slice A c.dig.length cap, .string c.str, .int .u64 off]) ∧ c.dig.length ≤ cap ∧ BytesAt w' A c.dig ∧ ByteBlk w' 5 A ∧ From w.heap.size A ∧ Below w.heap.size w w' := by
  have hH := fun W => Hash_ok c hc W
  have hml := CidOf.mh_length hc
  go_enter Tryz.func65, Tryz.ntmps65
  go_wp2_with fail
  refine (hH _).mono ?_
  rintro e w1 ⟨A1, c1, rfl, hc1, hA1, hB1, hF1, hb1⟩
  obtain ⟨hcc, hff⟩ := bcell hb1
  have hz : w.heap.size + 1 < w1.heap.size := by have := hb1.size; simp at this; omega
  go_wp2_with fail
  refine (Decode_ok c.code hc.code c.dig (by have := hc.dig; omega) A1 _ c1 _ hA1 rfl hc1).mono ?_
  rintro e w2 ⟨g, A2, c2, rfl, hc2, hS2, hb2, hg2, hblk⟩
  clear hcc hff
  obtain ⟨hcc, hff⟩ := bcell (below_next hb1 hb2)
  have k3 : w2.cell? ⟨g, 3, none⟩ = some (.slice A2 c.dig.length c2) := by simp [World.cell?, hblk]
  have hz2 : w.heap.size + 1 < w2.heap.size := by have := hb2.size; omega
  go_wp2_with fail
  go_region
  go_wp2_with fail
  refine bodyPost_ret (v := .agg #[.slice A2 c.dig.length c2, .string c.str, .int .u64 off]) (by simp [results, Tryz.results65, go_sem, hcc, hff, hz, hz2]) rfl ?_
  have hF2 := hS2.frm _ hF1
  refine ⟨_, _, rfl, hc2, ?_, ?_, hF2.mono (by simp; omega), ?_⟩
  · (repeat (first | (with_reducible refine BytesAt.drew ?_) | (with_reducible refine BytesAt.drewN ?_ _) | (with_reducible refine ByteBlk.drew ?_) | (with_reducible refine BytesAt.set ?_ hF2 (by first | (simp; done) | (simp; omega) | omega) _) | (with_reducible refine ByteBlk.set ?_ hF2 (by first | (simp; done) | (simp; omega) | omega) _)))
    exact hS2.bytes _ (hA1.below hb2)
  · (repeat (first | (with_reducible refine BytesAt.drew ?_) | (with_reducible refine BytesAt.drewN ?_ _) | (with_reducible refine ByteBlk.drew ?_) | (with_reducible refine BytesAt.set ?_ hF2 (by first | (simp; done) | (simp; omega) | omega) _) | (with_reducible refine ByteBlk.set ?_ hF2 (by first | (simp; done) | (simp; omega) | omega) _)))
    exact hS2.blk _ _ (hB1.below hb2)
  · (repeat (first | (with_reducible exact Below.refl _ _) | (with_reducible exact below_boxed _ _) | (with_reducible refine below_box ?_ _) | (with_reducible refine below_drew1 ?_) | (with_reducible refine below_drewn ?_ _) | (with_reducible refine below_bytes ?_ _ _) | (with_reducible refine below_next ?_ (by assumption)) | (with_reducible refine below_set ?_ (by first | (simp; done) | (simp; omega) | omega) _)))

theorem bytes_string {P : Program} {src dst e : TypeId} (hs : P.underlying src = some (.slice e)) (he : P.underlying e = some (.int .u8)) (hd : P.underlying dst = some .string)
    (w : World) (A : Option Addr) (bs : List UInt8) (c : Nat) (h : BytesAt w A bs) : (convert src dst (.slice A bs.length c)).run P w = .ok (.string ⟨bs.toArray⟩) w := by
  rcases h with h | ⟨g, o, rfl, hc⟩
  · subst h
    cases A with
    | none => exact Lib.run_convert_nil_bytes w src dst e c hs he hd
    | some a => exact run_convert_bytes_back w src dst e a c [] hs he hd (by simp)
  · refine run_convert_bytes_back w src dst e ⟨g, o, none⟩ c bs hs he hd (fun j hj => ?_)
    rw [show (⟨g, o, none⟩ : Addr).add j = ⟨g, o + j, none⟩ from by unfold Addr.add; split <;> simp_all]
    exact hc j _ (List.getElem?_eq_getElem hj)

def sOf (l : List UInt8) : ByteArray := ⟨l.toArray⟩

set_option maxRecDepth 100000 in
set_option maxHeartbeats 1600000 in
theorem cidOut_ok (c : CidOf) (hc : c.Ok) (w : World) :
    Calls Tryz.prog 18 #[.agg #[.string c.str]] w fun e w' => e = .returned (.agg #[.int .u64 c.ver, .int .u64 c.codec, .int .u64 c.code, .string (sOf c.dig)]) ∧ Below w.heap.size w w' := by
  have hH := fun W => Hash_ok c hc W
  have hP := fun W => Prefix_ok c hc W
  have hml := CidOf.mh_length hc
  go_enter Tryz.func18, Tryz.ntmps18
  go_wp2_with fail
  refine (hP _).mono ?_
  rintro e w0 ⟨rfl, hb0⟩
  obtain ⟨hcc, hff⟩ := bcell hb0
  have hz0 : w.heap.size + 1 < w0.heap.size := by have := hb0.size; simp at this; omega
  have hz00 : w.heap.size < w0.heap.size := by omega
  go_wp2_with fail
  refine (hH _).mono ?_
  rintro e w1 ⟨A1, c1, rfl, hc1, hA1, hB1, hF1, hb1⟩
  clear hcc hff
  obtain ⟨hcc, hff⟩ := bcell hb1
  have hz1 : w0.heap.size < w1.heap.size := by have := hb1.size; simp at this; omega
  go_wp2_with fail
  refine (Decode_ok c.code hc.code c.dig (by have := hc.dig; omega) A1 _ c1 _ hA1 rfl hc1).mono ?_
  rintro e w2 ⟨g, A2, c2, rfl, hc2, hS2, hb2, hg2, hblk⟩
  have k0 : w2.cell? ⟨g, 0, none⟩ = some (.int .u64 c.code) := by simp [World.cell?, hblk]
  have k3 : w2.cell? ⟨g, 3, none⟩ = some (.slice A2 c.dig.length c2) := by simp [World.cell?, hblk]
  have hA2 : BytesAt w2.drew A2 c.dig := (hS2.bytes _ (hA1.below hb2) : BytesAt w2 A2 c.dig)
  have hv := bytes_string (P := Tryz.prog) Tryz.underlying76 Tryz.underlying5 Tryz.underlying9 w2.drew A2 c.dig c2 hA2
  clear hcc hff
  have hb02 := below_next (below_next hb0 (below_next (below_boxed w0 _) hb1)) hb2
  obtain ⟨hcc, hff⟩ := bcell hb02
  have hb12 := below_next hb1 hb2
  have q0 : w2.cell? ⟨w0.heap.size, 0, none⟩ = some (.int .u64 c.ver) := by rw [hb12.cell (by simp)]; simp
  have q1 : w2.cell? ⟨w0.heap.size, 1, none⟩ = some (.int .u64 c.codec) := by rw [hb12.cell (by simp)]; simp
  have hz2 : w.heap.size + 1 < w2.heap.size := by have := hb2.size; omega
  go_wp2_with fail
  go_region
  go_wp2_with fail
  refine bodyPost_ret (v := .agg #[.int .u64 c.ver, .int .u64 c.codec, .int .u64 c.code, .string (sOf c.dig)]) (by simp [results, Tryz.results18, go_sem, hcc, hff, hz2, sOf]) rfl ?_
  exact ⟨rfl, by (repeat (first | (with_reducible exact Below.refl _ _) | (with_reducible exact below_boxed _ _) | (with_reducible refine below_box ?_ _) | (with_reducible refine below_drew1 ?_) | (with_reducible refine below_drewn ?_ _) | (with_reducible refine below_bytes ?_ _ _) | (with_reducible refine below_next ?_ (by assumption)) | (with_reducible refine below_set ?_ (by first | (simp; done) | (simp; omega) | omega) _)))⟩

theorem len_bound (x : Nat) (h : x < 9223372036854775808) : (Lib.uvarint x).length ≤ 9 := uvarint_le9 h
end Go.Proofs.YtifoicdnibgdaaaGreatDoor
