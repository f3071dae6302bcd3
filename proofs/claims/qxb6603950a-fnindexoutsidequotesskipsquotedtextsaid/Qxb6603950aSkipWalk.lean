/-
  FnIndexOutsideQuotesSkipsQuotedText: the walk.
-/
import Derived.Test.Qxb6603950aQuoteWalk
namespace Go.Proofs.Qxb6603950a
open Go.RowKit

set_option maxHeartbeats 1000000 in
theorem skip_early (s t : ByteArray) (c : Int) (w : World) (hs : s.size ≤ 9223372036854775807) (ht : t.size ≤ 9223372036854775807) (h : 1048576 < s.size + t.size) :
    Calls Try.prog 4 #[.string s, .string t, .int .u8 c] w fun e w' => e = .returned (.bool true) ∧ w' = w := by
  go_enter Try.func4, Try.ntmps4
  go_wp2
  all_goals (go_ret; exact ⟨rfl, rfl⟩)

set_option maxHeartbeats 400000 in
theorem bytes10 (s t : ByteArray) (c : Int) (w : World) (h : s.size + t.size ≤ 1048576) :
    Calls Try.prog 10 #[.string s, .string t, .int .u8 c] w fun e w' => e = .returned (.bool true) ∧ w' = w := by
  go_enter Try.func10, Try.ntmps10
  go_wp2
  go_ret
  exact ⟨rfl, rfl⟩

/-- What the law needs of the quoted string. -/
def IsQuoted (Q : ByteArray) : Prop :=
  Q.size ≤ 2097154 ∧ ∀ (c : Int) (t : ByteArray), scan c false false (Q ++ t).data.toList = (scan c false false t.data.toList).map (· + Q.size)

theorem quote_at (s : ByteArray) (w : World) (hs : s.size ≤ 1048576) :
    Calls Try.prog 11 #[.string s] w fun e w' => ∃ Q, e = .returned (.string Q) ∧ IsQuoted Q ∧ Below w.heap.size w w' := by
  refine (quote_any s w hs).mono ?_
  rintro e w' ⟨rfl, hb⟩
  refine ⟨_, rfl, ⟨?_, fun c t => ?_⟩, hb⟩
  · have h1 := esc_length s.data.toList
    have h2 : s.data.toList.length = s.size := by simp
    show (quoted s.data.toList).toArray.size ≤ 2097154
    simp only [quoted, List.size_toArray, List.length_cons, List.length_append, List.length_nil]
    omega
  · have e1 : ((⟨(quoted s.data.toList).toArray⟩ : ByteArray) ++ t).data.toList = quoted s.data.toList ++ t.data.toList := by
      simp [ByteArray.data_append]
    have e2 : (⟨(quoted s.data.toList).toArray⟩ : ByteArray).size = (quoted s.data.toList).length := by
      show (quoted s.data.toList).toArray.size = _
      simp
    rw [e1, e2]
    exact scan_quoted c s.data.toList t.data.toList

theorem place_none : place none = -1 := rfl
theorem place_some (k : Nat) : place (some k) = k := rfl

set_option maxHeartbeats 1000000 in
theorem skip_none (s t : ByteArray) (c : Int) (w : World) (h : s.size + t.size ≤ 1048576) (hsc : scan c false false t.data.toList = none) :
    Calls Try.prog 4 #[.string s, .string t, .int .u8 c] w fun e w' => e = .returned (.bool true) ∧ Below w.heap.size w w' := by
  have HS : Hid (scan c false false t.data.toList = none) := hsc
  clear hsc
  go_enter Try.func4, Try.ntmps4
  go_wp2_with fail
  refine (bytes10 s t c w h).mono ?_
  rintro e w0 ⟨rfl, rfl⟩
  go_wp2_with fail
  refine (quote_at s w0 (by omega)).mono ?_
  rintro e w1 ⟨Q, rfl, ⟨hQ, hq⟩, hb⟩
  have HQ : Hid (scan c false false (Q ++ t).data.toList = none) := by
    show scan c false false (Q ++ t).data.toList = none
    rw [hq, HS.out]; rfl
  clear hq
  go_wp2_with fail
  refine (zzIndex_any t c w1 (by omega)).mono ?_
  rw [HS.out, place_none]
  rintro e w2 ⟨rfl, rfl⟩
  go_wp2_with fail
  refine (zzIndex_any (Q ++ t) c w2 (by rw [ByteArray.size_append]; omega)).mono ?_
  rw [HQ.out, place_none]
  rintro e w3 ⟨rfl, rfl⟩
  go_wp2
  go_ret
  exact ⟨rfl, hb⟩

set_option maxHeartbeats 1000000 in
theorem skip_some (s t : ByteArray) (c : Int) (w : World) (k : Nat) (h : s.size + t.size ≤ 1048576) (hk : k < t.size) (hsc : scan c false false t.data.toList = some k) :
    Calls Try.prog 4 #[.string s, .string t, .int .u8 c] w fun e w' => e = .returned (.bool true) ∧ Below w.heap.size w w' := by
  have HS : Hid (scan c false false t.data.toList = some k) := hsc
  clear hsc
  go_enter Try.func4, Try.ntmps4
  go_wp2_with fail
  refine (bytes10 s t c w h).mono ?_
  rintro e w0 ⟨rfl, rfl⟩
  go_wp2_with fail
  refine (quote_at s w0 (by omega)).mono ?_
  rintro e w1 ⟨Q, rfl, ⟨hQ, hq⟩, hb⟩
  have HQ : Hid (scan c false false (Q ++ t).data.toList = some (k + Q.size)) := by
    show scan c false false (Q ++ t).data.toList = some (k + Q.size)
    rw [hq, HS.out]; rfl
  clear hq
  go_wp2_with fail
  refine (zzIndex_any t c w1 (by omega)).mono ?_
  rw [HS.out, place_some]
  rintro e w2 ⟨rfl, rfl⟩
  go_wp2_with fail
  refine (zzIndex_any (Q ++ t) c w2 (by rw [ByteArray.size_append]; omega)).mono ?_
  rw [HQ.out, place_some]
  rintro e w3 ⟨rfl, rfl⟩
  go_wp2
  go_ret
  exact ⟨by simp; omega, hb⟩

theorem skip_walk (s t : ByteArray) (c : Int) (w : World) (hs : s.size ≤ 9223372036854775807) (ht : t.size ≤ 9223372036854775807) :
    Calls Try.prog 4 #[.string s, .string t, .int .u8 c] w fun e w' => e = .returned (.bool true) ∧ Below w.heap.size w w' := by
  by_cases h : 1048576 < s.size + t.size
  · refine (skip_early s t c w hs ht h).mono ?_
    rintro e w' ⟨he, rfl⟩
    exact ⟨he, Below.refl _ _⟩
  · cases hsc : scan c false false t.data.toList with
    | none => exact skip_none s t c w (by omega) hsc
    | some k =>
      obtain ⟨h1, _, _⟩ := scan_some c _ _ _ _ hsc
      exact skip_some s t c w k (by omega) (by simpa using h1) hsc
end Go.Proofs.Qxb6603950a
