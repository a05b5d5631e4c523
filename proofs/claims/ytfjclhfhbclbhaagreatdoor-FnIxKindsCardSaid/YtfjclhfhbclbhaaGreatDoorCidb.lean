/- Identifiers: an identifier taken apart (Prefix, cidOut), and the record that an index makes of one. -/
import Derived.Test.YtfjclhfhbclbhaaGreatDoorCid
import Derived.Lib.Strings
import Derived.Laws.IdiomStrings
import Derived.Lib.BufferRead
namespace Go.Proofs.YtfjclhfhbclbhaaGreatDoor
open Go.RowKit
set_option linter.unusedVariables false
set_option linter.unusedSimpArgs false
attribute [local go_sem] setCell_drewN alloc_drewN

theorem extract_list (s : ByteArray) (k : Nat) : (s.extract k s.size).data.toList = s.data.toList.drop k := by
  rw [Lib.extract_data, List.take_of_length_le]
  rw [List.length_drop, Array.length_toList]
  exact Nat.le_refl _

theorem drop2 (x : UInt8) (a b c : List UInt8) : List.drop (1 + a.length) ([x] ++ (a ++ (b ++ c))) = b ++ c := by
  rw [Nat.add_comm]; exact List.drop_left
theorem drop3 (x : UInt8) (a b c : List UInt8) : List.drop (1 + a.length + b.length) ([x] ++ (a ++ (b ++ c))) = c := by
  rw [← List.drop_drop, Nat.add_comm 1]
  show List.drop b.length (List.drop a.length (a ++ (b ++ c))) = c
  rw [List.drop_left, List.drop_left]

theorem bytes_string {P : Program} {src dst e : TypeId} (hs : P.underlying src = some (.slice e)) (he : P.underlying e = some (.int .u8)) (hd : P.underlying dst = some .string)
    (w : World) (A : Option Addr) (bs : List UInt8) (c : Nat) (h : BytesAt w A bs) : (convert src dst (.slice A bs.length c)).run P w = .ok (.string ⟨bs.toArray⟩) w := by
  rcases h with h | ⟨g, o, rfl, hc⟩
  · subst h
    cases A with
    | none => exact Lib.run_convert_nil_bytes w src dst e c hs he hd
    | some a => exact run_convert_bytes_back w src dst e a c [] hs he hd (by simp)
  · refine run_convert_bytes_back w src dst e ⟨g, o, none⟩ c bs hs he hd (fun j hj => ?_)
    rw [show (⟨g, o, none⟩ : Addr).add j = ⟨g, o + j, none⟩ from by unfold Addr.add; split <;> simp_all]
    exact hc j _ (List.getElem?_eq_getElem hj)

def sOf (l : List UInt8) : ByteArray := ⟨l.toArray⟩

theorem len_bound (x : Nat) (h : x < 9223372036854775808) : (Lib.uvarint x).length ≤ 9 := uvarint_le9 h
end Go.Proofs.YtfjclhfhbclbhaaGreatDoor
