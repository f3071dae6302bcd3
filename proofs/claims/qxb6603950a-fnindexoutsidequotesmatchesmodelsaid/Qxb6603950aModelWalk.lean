/-
  FnIndexOutsideQuotesMatchesModel: the walk.
-/
import Derived.Test.Qxb6603950aMask
namespace Go.Proofs.Qxb6603950a
open Go.RowKit

set_option maxHeartbeats 400000 in
theorem model_early (s : ByteArray) (c : Int) (w : World) (hs : s.size ≤ 9223372036854775807) (h : 1048576 < s.size) :
    Calls Try.prog 3 #[.string s, .int .u8 c] w fun e w' => e = .returned (.bool true) ∧ w' = w := by
  go_enter Try.func3, Try.ntmps3
  go_wp2
  all_goals (go_ret; exact ⟨rfl, rfl⟩)

set_option maxHeartbeats 400000 in
theorem bytes7 (s : ByteArray) (c : Int) (w : World) (h : s.size ≤ 1048576) :
    Calls Try.prog 7 #[.string s, .int .u8 c] w fun e w' => e = .returned (.bool true) ∧ w' = w := by
  go_enter Try.func7, Try.ntmps7
  go_wp2
  go_ret
  exact ⟨rfl, rfl⟩

/-- No place below k is marked and holds c. -/
def Left (c : Int) (s : ByteArray) (k : Nat) : Prop :=
  scan c false false s.data.toList = (first c (s.data.toList.drop k) ((maskL false false s.data.toList).drop k)).map (· + k)

theorem left_start (c : Int) (s : ByteArray) : Left c s 0 := by
  unfold Left
  simp [first_mask]

theorem mask_cons (s : ByteArray) (k : Nat) (h : k < s.size) : (maskL false false s.data.toList).drop k = mk s k :: (maskL false false s.data.toList).drop (k + 1) := by
  have hl : k < (maskL false false s.data.toList).length := by rw [maskL_length]; simpa using h
  rw [List.drop_eq_getElem_cons hl]
  simp [mk, List.getD, List.getElem?_eq_getElem hl]

theorem left_next {c : Int} {s : ByteArray} {k : Nat} (hk : k < s.size) (h : Left c s k) (hm : ¬ (mk s k = true ∧ (s[k].toNat : Int) = c)) : Left c s (k + 1) := by
  unfold Left at h ⊢
  rw [drop_cons s k hk, mask_cons s k hk] at h
  simp only [first, if_neg hm] at h
  rw [h, Option.map_map]
  congr 1
  funext i
  simp; omega

theorem left_here {c : Int} {s : ByteArray} {k : Nat} (hk : k < s.size) (h : Left c s k) (hm : mk s k = true) (hc : (s[k].toNat : Int) = c) : place (scan c false false s.data.toList) = k := by
  unfold Left at h
  rw [drop_cons s k hk, mask_cons s k hk] at h
  simp only [first, if_pos (And.intro hm hc)] at h
  rw [h]
  simp [place]

theorem left_end {c : Int} {s : ByteArray} {k : Nat} (hk : s.size ≤ k) (h : Left c s k) : place (scan c false false s.data.toList) = -1 := by
  unfold Left at h
  rw [List.drop_eq_nil_of_le (by simpa using hk)] at h
  rw [h]
  simp [first, place]

set_option maxHeartbeats 1000000 in
theorem model_main (s : ByteArray) (c : Int) (w : World) (hs : s.size ≤ 1048576) :
    Calls Try.prog 3 #[.string s, .int .u8 c] w fun e w' => e = .returned (.bool true) ∧ Below w.heap.size w w' := by
  go_enter Try.func3, Try.ntmps3
  go_wp2_with fail
  refine (bytes7 s c w hs).mono ?_
  rintro e w0 ⟨rfl, rfl⟩
  go_wp2_with fail
  refine (zzIndex_any s c w0 (by omega)).mono ?_
  rintro e w1 ⟨rfl, rfl⟩
  go_wp2_with fail
  refine (mask_any s w1 hs).mono ?_
  rintro e w2 ⟨rfl, hrow, hbel⟩
  go_wp2
  go_loop [7, 8] (fun v i => ∃ k : Nat, k ≤ s.size ∧ v = .int .i64 (-1) ∧ i = .int .i64 k ∧ Left c s k) (fun _ i => s.size - (intOf i).toNat)
  case atStart => exact ⟨0, Nat.zero_le _, rfl, rfl, left_start c s⟩
  case round =>
    obtain ⟨k, hk, rfl, rfl, hleft⟩ := hrel
    have HL : Hid (Left c s k) := hleft
    clear hleft
    by_cases hlt : k < s.size
    · have e1 := hrow.cell hlt
      cases hm : mk s k with
      | false =>
        have R : Hid (Left c s (k + 1)) := left_next hlt HL.out (fun h => by rw [hm] at h; cases h.1)
        rw [hm] at e1
        clear hm HL
        go_wp2
        go_round
        case rel => exact ⟨k + 1, by omega, rfl, by go_num, R.out⟩
        case measure => simp [intOf]; omega
      | true =>
        have HMK : Hid (mk s k = true) := hm
        rw [hm] at e1
        clear hm
        by_cases hc : (s[k].toNat : Int) = c
        · have R : Hid (place (scan c false false s.data.toList) = k) := left_here hlt HL.out HMK.out hc
          have hc' : ((s[k].toNat : Int) == c) = true := by simpa using hc
          clear hc
          go_wp2
          go_ret
          exact ⟨by rw [R.out]; simp, hbel⟩
        · have R : Hid (Left c s (k + 1)) := left_next hlt HL.out (fun h => hc h.2)
          have hc' : ((s[k].toNat : Int) == c) = false := by simpa using hc
          clear hc
          go_wp2
          go_round
          case rel => exact ⟨k + 1, by omega, rfl, by go_num, R.out⟩
          case measure => simp [intOf]; omega
    · have R : Hid (place (scan c false false s.data.toList) = -1) := left_end (by omega) HL.out
      go_wp2
      go_ret
      exact ⟨by rw [R.out]; simp, hbel⟩

theorem model_walk (s : ByteArray) (c : Int) (w : World) (hs : s.size ≤ 9223372036854775807) :
    Calls Try.prog 3 #[.string s, .int .u8 c] w fun e w' => e = .returned (.bool true) ∧ Below w.heap.size w w' := by
  by_cases h : 1048576 < s.size
  · refine (model_early s c w hs h).mono ?_
    rintro e w' ⟨he, rfl⟩
    exact ⟨he, Below.refl _ _⟩
  · exact model_main s c w (by omega)
end Go.Proofs.Qxb6603950a
