/-
  FnIndexOutsideQuotesDecidedByPrefix: the walk.
-/
import Derived.Test.Qxb6603950aIndex
namespace Go.Proofs.Qxb6603950a
open Go.RowKit

set_option maxHeartbeats 1000000 in
theorem prefix_early (s t : ByteArray) (c : Int) (w : World) (hs : s.size ≤ 9223372036854775807) (ht : t.size ≤ 9223372036854775807) (h : 1048576 < s.size + t.size) :
    Calls Try.prog 5 #[.string s, .string t, .int .u8 c] w fun e w' => e = .returned (.bool true) ∧ w' = w := by
  go_enter Try.func5, Try.ntmps5
  go_wp2
  all_goals (go_ret; exact ⟨rfl, rfl⟩)

set_option maxHeartbeats 400000 in
theorem bytes12 (s t : ByteArray) (c : Int) (w : World) (h : s.size + t.size ≤ 1048576) :
    Calls Try.prog 12 #[.string s, .string t, .int .u8 c] w fun e w' => e = .returned (.bool true) ∧ w' = w := by
  go_enter Try.func12, Try.ntmps12
  go_wp2
  go_ret
  exact ⟨rfl, rfl⟩

set_option maxHeartbeats 400000 in
theorem prefix_none (s t : ByteArray) (c : Int) (w : World) (h : s.size + t.size ≤ 1048576) (hsc : scan c false false s.data.toList = none) :
    Calls Try.prog 5 #[.string s, .string t, .int .u8 c] w fun e w' => e = .returned (.bool true) ∧ w' = w := by
  have HS : Hid (scan c false false s.data.toList = none) := hsc
  clear hsc
  go_enter Try.func5, Try.ntmps5
  go_wp2_with fail
  refine (bytes12 s t c w h).mono ?_
  rintro e w0 ⟨rfl, rfl⟩
  go_wp2_with fail
  refine (zzIndex_any s c w0 (by omega)).mono ?_
  rw [HS.out]
  rintro e w1 ⟨rfl, rfl⟩
  simp only [place]
  go_wp2
  go_ret
  exact ⟨rfl, rfl⟩

set_option maxHeartbeats 400000 in
theorem prefix_some (s t : ByteArray) (c : Int) (w : World) (j : Nat) (h : s.size + t.size ≤ 1048576) (hj : j < s.size) (hc : (s[j].toNat : Int) = c) (hsc : scan c false false s.data.toList = some j)
    (hsc2 : scan c false false (s.extract 0 (j + 1) ++ t).data.toList = some j) :
    Calls Try.prog 5 #[.string s, .string t, .int .u8 c] w fun e w' => e = .returned (.bool true) ∧ w' = w := by
  have HS : Hid (scan c false false s.data.toList = some j) := hsc
  have HS2 : Hid (scan c false false (s.extract 0 (j + 1) ++ t).data.toList = some j) := hsc2
  have hc2 : ((s[j].toNat : Int) != c) = false := by simpa using hc
  clear hsc hsc2 hc
  go_enter Try.func5, Try.ntmps5
  go_wp2_with fail
  refine (bytes12 s t c w h).mono ?_
  rintro e w0 ⟨rfl, rfl⟩
  go_wp2_with fail
  refine (zzIndex_any s c w0 (by omega)).mono ?_
  rw [HS.out]
  rintro e w1 ⟨rfl, rfl⟩
  simp only [place]
  go_wp2_with fail
  refine (zzIndex_any (s.extract 0 (j + 1) ++ t) c w1 (by rw [ByteArray.size_append, ByteArray.size_extract]; omega)).mono ?_
  rw [HS2.out]
  rintro e w2 ⟨rfl, rfl⟩
  simp only [place]
  go_wp2
  go_ret
  exact ⟨by simp, rfl⟩

theorem extract_append_list (s t : ByteArray) (j : Nat) : (s.extract 0 (j + 1) ++ t).data.toList = s.data.toList.take (j + 1) ++ t.data.toList := by
  simp [ByteArray.data_append]

theorem prefix_walk (s t : ByteArray) (c : Int) (w : World) (hs : s.size ≤ 9223372036854775807) (ht : t.size ≤ 9223372036854775807) :
    Calls Try.prog 5 #[.string s, .string t, .int .u8 c] w fun e w' => e = .returned (.bool true) ∧ w' = w := by
  by_cases h : 1048576 < s.size + t.size
  · exact prefix_early s t c w hs ht h
  · cases hsc : scan c false false s.data.toList with
    | none => exact prefix_none s t c w (by omega) hsc
    | some j =>
      obtain ⟨h1, h2, h3⟩ := scan_some c _ _ _ _ hsc
      have hj : j < s.size := by simpa using h1
      exact prefix_some s t c w j (by omega) hj h2 hsc (by rw [extract_append_list]; exact h3 _)
end Go.Proofs.Qxb6603950a
