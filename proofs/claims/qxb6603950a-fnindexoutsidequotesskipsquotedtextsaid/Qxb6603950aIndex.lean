/-
  indexOutsideQuotes, ZZindexOutsideQuotes: their contracts.
-/
import Derived.Test.Qxb6603950aRows
import Derived.Test.Qxb6603950aPlain
import Derived.WalkSpells
import Derived.WalkLawsBesides
namespace Go.Proofs.Qxb6603950a
open Go.RowKit

theorem ret_int {k : IntKind} {a b : Int} (h : a = b) : Ending.returned (.int k a) = .returned (.int k b) := by rw [h]

theorem drop_cons (s : ByteArray) (k : Nat) (h : k < s.size) : s.data.toList.drop k = s[k] :: s.data.toList.drop (k + 1) := by
  rw [List.drop_eq_getElem_cons (by simpa using h)]; rfl

theorem scan_next {s : ByteArray} {c : Int} {k : Nat} {bq be bq' be' : Bool} {T : Option Nat} (hlt : k < s.size) (H : T = (scan c bq be (s.data.toList.drop k)).map (· + k))
    (h : scan c bq be (s[k] :: s.data.toList.drop (k + 1)) = (scan c bq' be' (s.data.toList.drop (k + 1))).map (· + 1)) : T = (scan c bq' be' (s.data.toList.drop (k + 1))).map (· + (k + 1)) := by
  rw [H, drop_cons s k hlt, h, Option.map_map]
  congr 1
  funext i
  simp; omega

theorem scan_found {s : ByteArray} {c : Int} {k : Nat} {T : Option Nat} (hlt : k < s.size) (H : T = (scan c false false (s.data.toList.drop k)).map (· + k)) (h1 : ((s[k].toNat : Int) == 34) = false) (h2 : ((s[k].toNat : Int) == c) = true) : (k : Int) = place T := by
  rw [H, drop_cons s k hlt]
  have e1 : ¬ (s[k].toNat : Int) = 34 := by simpa using h1
  have e2 : (s[k].toNat : Int) = c := by simpa using h2
  simp only [scan, if_neg e1, if_pos e2]
  simp [place]

theorem scan_end {s : ByteArray} {c : Int} {k : Nat} {bq be : Bool} {T : Option Nat} (h : s.size ≤ k) (H : T = (scan c bq be (s.data.toList.drop k)).map (· + k)) : (-1 : Int) = place T := by
  rw [H, List.drop_eq_nil_of_le (by simpa using h)]
  cases bq <;> cases be <;> rfl

set_option maxHeartbeats 1000000 in
theorem index_any (s : ByteArray) (c : Int) (w : World) (hs : s.size ≤ 4194304) :
    Calls Try.prog 16 #[.string s, .int .u8 c] w fun e w' => e = .returned (.int .i64 (place (scan c false false s.data.toList))) ∧ w' = w := by
  go_enter Try.func16, Try.ntmps16
  go_wp2
  go_loop [5, 6, 7] (fun q e i => ∃ (k : Nat) (bq be : Bool), k ≤ s.size ∧ q = .bool bq ∧ e = .bool be ∧ i = .int .i64 k ∧ scan c false false s.data.toList = (scan c bq be (s.data.toList.drop k)).map (· + k)) (fun _ _ i => s.size - (intOf i).toNat)
  case atStart => exact ⟨0, false, false, Nat.zero_le _, rfl, rfl, rfl, by simp⟩
  case round =>
    obtain ⟨k, bq, be, hk, rfl, rfl, rfl, hrel⟩ := hrel
    have HR : Hid (scan c false false s.data.toList = (scan c bq be (s.data.toList.drop k)).map (· + k)) := hrel
    clear hrel
    by_cases hlt : k < s.size
    · cases be
      · cases bq
        · go_wp2
          · have h1 : (s[k].toNat : Int) = 34 := by simpa using (show ((s[k].toNat : Int) == 34) = true by assumption)
            have R := scan_next (bq' := true) (be' := false) hlt HR.out (by simp only [scan, if_pos h1])
            go_round
            case rel => exact ⟨k + 1, true, false, by omega, rfl, rfl, by go_num, R⟩
            case measure => simp [intOf]; omega
          · have R := scan_found hlt HR.out (by assumption) (by assumption)
            go_ret
            exact ⟨ret_int R, rfl⟩
          · have h1 : ¬ (s[k].toNat : Int) = 34 := by simpa using (show ((s[k].toNat : Int) == 34) = false by assumption)
            have h2 : ¬ (s[k].toNat : Int) = c := by simpa using (show ((s[k].toNat : Int) == c) = false by assumption)
            have R := scan_next (bq' := false) (be' := false) hlt HR.out (by simp only [scan, if_neg h1, if_neg h2])
            go_round
            case rel => exact ⟨k + 1, false, false, by omega, rfl, rfl, by go_num, R⟩
            case measure => simp [intOf]; omega
        · go_wp2
          · have h1 : (s[k].toNat : Int) = 92 := by simpa using (show ((s[k].toNat : Int) == 92) = true by assumption)
            have R := scan_next (bq' := true) (be' := true) hlt HR.out (by simp only [scan, if_pos h1])
            go_round
            case rel => exact ⟨k + 1, true, true, by omega, rfl, rfl, by go_num, R⟩
            case measure => simp [intOf]; omega
          · have h1 : ¬ (s[k].toNat : Int) = 92 := by simpa using (show ((s[k].toNat : Int) == 92) = false by assumption)
            have h2 : (s[k].toNat : Int) = 34 := by simpa using (show ((s[k].toNat : Int) == 34) = true by assumption)
            have R := scan_next (bq' := false) (be' := false) hlt HR.out (by simp only [scan, if_neg h1, if_pos h2])
            go_round
            case rel => exact ⟨k + 1, false, false, by omega, rfl, rfl, by go_num, R⟩
            case measure => simp [intOf]; omega
          · have h1 : ¬ (s[k].toNat : Int) = 92 := by simpa using (show ((s[k].toNat : Int) == 92) = false by assumption)
            have h2 : ¬ (s[k].toNat : Int) = 34 := by simpa using (show ((s[k].toNat : Int) == 34) = false by assumption)
            have R := scan_next (bq' := true) (be' := false) hlt HR.out (by simp only [scan, if_neg h1, if_neg h2])
            go_round
            case rel => exact ⟨k + 1, true, false, by omega, rfl, rfl, by go_num, R⟩
            case measure => simp [intOf]; omega
      · have R := scan_next (bq' := bq) (be' := false) hlt HR.out (by cases bq <;> simp only [scan])
        have RR : Hid (scan c false false s.data.toList = (scan c bq false (s.data.toList.drop (k + 1))).map (· + (k + 1))) := R
        clear R
        go_wp2
        go_round
        case rel => exact ⟨k + 1, bq, false, by omega, rfl, rfl, by go_num, RR.out⟩
        case measure => simp [intOf]; omega
    · have R := scan_end (by omega) HR.out
      have RR : Hid ((-1 : Int) = place (scan c false false s.data.toList)) := R
      clear R
      go_wp2
      go_ret
      exact ⟨ret_int RR.out, rfl⟩

set_option maxHeartbeats 400000 in
theorem zzIndex_any (s : ByteArray) (c : Int) (w : World) (hs : s.size ≤ 4194304) :
    Calls Try.prog 8 #[.string s, .int .u8 c] w fun e w' => e = .returned (.int .i64 (place (scan c false false s.data.toList))) ∧ w' = w := by
  go_enter Try.func8, Try.ntmps8
  go_wp2_with fail
  refine (index_any s c w hs).mono ?_
  rintro e w' ⟨rfl, rfl⟩
  go_wp2
  go_ret
  exact ⟨rfl, rfl⟩
end Go.Proofs.Qxb6603950a
