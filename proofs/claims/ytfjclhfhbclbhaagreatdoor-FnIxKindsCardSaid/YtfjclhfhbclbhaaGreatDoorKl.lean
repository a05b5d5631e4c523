/- FnIxKinds: the law. -/
import Derived.Test.YtfjclhfhbclbhaaGreatDoorKo
import Derived.Test.YtfjclhfhbclbhaaGreatDoorRf
namespace Go.Proofs.YtfjclhfhbclbhaaGreatDoor
open Go.RowKit
set_option linter.unusedVariables false
set_option linter.unusedSimpArgs false
attribute [local go_sem] setCell_drewN alloc_drewN

set_option maxRecDepth 100000 in
set_option maxHeartbeats 3200000 in
theorem FnIxKinds_ok (n : Nat) (hn : n < 18446744073709551616) (s : ByteArray) (p : Addr) (w : World) (hg5 : 4 < w.heap.size) (he : w.cell? ⟨4, 0, none⟩ = some (.iface 117 (.pointer (some p)))) :
    Calls Tryz.prog 3 #[.int .u64 (n : Int), .string s] w fun e w' => e = .returned (.bool true) ∧ Below w.heap.size w w' := by
  go_enter Tryz.func3, Tryz.ntmps3
  by_cases hs : 2147483647 < s.size
  · go_wp2_with fail
    go_ret
    exact ⟨rfl, Below.refl _ _⟩
  have hs' : ¬ (2147483647 < (s.size : Int)) := by omega
  by_cases h0 : n = 1024
  · subst h0
    go_wp2_with fail
    go_ret
    exact ⟨rfl, Below.refl _ _⟩
  have h0' : ((n : Int) == 1024) = false := by simp; omega
  by_cases h1 : n = 1025
  · subst h1
    go_wp2_with fail
    go_ret
    exact ⟨rfl, Below.refl _ _⟩
  have h1' : ((n : Int) == 1025) = false := by simp; omega
  by_cases h2 : n = 3145728
  · subst h2
    go_wp2_with fail
    go_ret
    exact ⟨rfl, Below.refl _ _⟩
  have h2' : ((n : Int) == 3145728) = false := by simp; omega
  by_cases h3 : 9223372036854775808 ≤ n
  · have h3' : 9223372036854775808 ≤ (n : Int) := by omega
    go_wp2_with fail
    go_ret
    exact ⟨rfl, Below.refl _ _⟩
  have h3' : ¬ (9223372036854775808 ≤ (n : Int)) := by omega
  by_cases h4 : 4096 < s.size
  · go_wp2_with fail
    go_ret
    exact ⟨rfl, Below.refl _ _⟩
  have h4' : ¬ (4096 < (s.size : Int)) := by omega
  have hlv : (Lib.uvarint n).length ≤ 10 := Lib.uvarint_length 9 n (Nat.lt_of_lt_of_le hn (by decide))
  have hss : (⟨(Lib.uvarint n).toArray⟩ ++ s : ByteArray).data.toList = Lib.uvarint n ++ s.data.toList := by simp [ByteArray.data_append]
  have hsl : (⟨(Lib.uvarint n).toArray⟩ ++ s : ByteArray).size ≤ 1099511627776 := by
    have : (⟨(Lib.uvarint n).toArray⟩ ++ s : ByteArray).size = (Lib.uvarint n).length + s.size := by
      have h := congrArg List.length hss
      rw [List.length_append, Array.length_toList, Array.length_toList] at h
      exact h
    omega
  have hA := IxAgain_unknown n (by omega) h0 h1 s.data.toList (⟨(Lib.uvarint n).toArray⟩ ++ s) hss hsl
  clear hss hsl
  go_wp2_with fail
  refine (IxBytes_unknown n h0 h1 _ _).mono ?_
  rintro e w1 ⟨rfl, hb1⟩
  go_wp2_with fail
  refine (Varint_bytes n hn _).mono ?_
  rintro e w2 ⟨g, c, rfl, hby, hg, hb2⟩
  have hcv := bytes_string (P := Tryz.prog) Tryz.underlying27 Tryz.underlying5 Tryz.underlying9 w2 _ _ c hby
  have hbw2 : Below w.heap.size w w2 := below_next hb1 hb2
  have hl1 : ¬ 9223372036854775807 < (Lib.uvarint n).length + s.size := by omega
  clear hby hb1 hb2
  go_wp2_with fail
  refine (hA _).mono ?_
  rintro e w3 ⟨rfl, hb3⟩
  have hbw3 : Below w.heap.size w w3 := below_next hbw2 hb3
  have hI := ixOne_sorted p w3 (by have := hbw3.size; omega) ((hbw3.cell (p := ⟨4, 0, none⟩) hg5).trans he)
  clear hcv hA hbw2 hb3
  go_wp2_with fail
  refine hI.mono ?_
  rintro e w4 ⟨rfl, hb4⟩
  have hbw4 : Below w.heap.size w w4 := below_next hbw3 hb4
  go_wp2_with fail
  go_ret
  exact ⟨rfl, hbw4⟩
end Go.Proofs.YtfjclhfhbclbhaaGreatDoor
