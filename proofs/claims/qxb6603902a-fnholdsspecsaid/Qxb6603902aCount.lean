/-
  zzCountEqual: her contract.
-/
import Derived.Test.Qxb6603902aRows
import Derived.Test.Qxb6603902aBase
import Derived.WalkSpells
import Derived.WalkLawsBesides
namespace Go.Proofs.Qxb6603902a
open Go.RowKit

theorem ret_int {k : IntKind} {a b : Int} (h : a = b) : Ending.returned (.int k a) = .returned (.int k b) := by rw [h]

theorem cnt_hitS {S X : Nat → Int} {s x : Int} {j m n : Nat} (h : m + cnt S X s x (j + 1) = cnt S X s x n) (h1 : S j = s) (h2 : X j = x) : m + 1 + cnt S X s x j = cnt S X s x n := by
  simp only [cnt] at h
  rw [if_pos ⟨h1, h2⟩] at h
  omega
theorem cnt_missS {S X : Nat → Int} {s x : Int} {j m n : Nat} (h : m + cnt S X s x (j + 1) = cnt S X s x n) (h1 : ¬ (S j = s ∧ X j = x)) : m + cnt S X s x j = cnt S X s x n := by
  simp only [cnt] at h
  rw [if_neg h1] at h
  omega

set_option maxHeartbeats 400000 in
theorem count_zero (a a2 : Option Addr) (cap cap2 : Nat) (s x : Int) (w : World) :
    Calls Try.prog 13 #[.slice a 0 cap, .slice a2 0 cap2, .int .u64 s, .int .i64 x] w fun e w' => e = .returned (.int .i64 0) ∧ w' = w := by
  go_enter Try.func13, Try.ntmps13
  go_wp2
  refine wp_loop_rounds 1 ?_
  rw [rounds_succ]
  go_wp2
  go_ret
  exact ⟨rfl, rfl⟩

set_option maxHeartbeats 400000 in
theorem count_some (b o b2 o2 n cap cap2 : Nat) (S X : Nat → Int) (s x : Int) (w : World) (hn : n ≤ 1048576) (hc : ∀ i, i < n → w.cell? ⟨b, o + i, none⟩ = some (.int .u64 (S i)))
    (hd : ∀ i, i < n → w.cell? ⟨b2, o2 + i, none⟩ = some (.int .i64 (X i))) :
    Calls Try.prog 13 #[.slice (some ⟨b, o, none⟩) n cap, .slice (some ⟨b2, o2, none⟩) n cap2, .int .u64 s, .int .i64 x] w fun e w' => e = .returned (.int .i64 (cnt S X s x n)) ∧ w' = w := by
  have hcn := cnt_le S X s x n
  go_enter Try.func13, Try.ntmps13
  go_wp2
  go_loop [9, 10] (fun c i => ∃ k m : Nat, k ≤ n ∧ m ≤ n ∧ i = .int .i64 ((k : Int) - 1) ∧ c = .int .i64 m ∧ m + cnt S X s x k = cnt S X s x n) (fun _ i => (intOf i + 1).toNat)
  case atStart => exact ⟨n, 0, Nat.le_refl _, Nat.zero_le _, rfl, rfl, by omega⟩
  case round =>
    obtain ⟨k, m, hk, hm, rfl, rfl, heq⟩ := hrel
    have HE : Hid (m + cnt S X s x k = cnt S X s x n) := heq
    clear heq
    by_cases hlt : 0 < k
    · obtain ⟨j, rfl⟩ : ∃ j, k = j + 1 := ⟨k - 1, by omega⟩
      have ej : ((j + 1 : Nat) : Int) - 1 = (j : Int) := by omega
      rw [ej]
      have e0 : w.cell? ⟨b, o + j, none⟩ = some (.int .u64 (S j)) := hc j (by omega)
      have e1 : w.cell? ⟨b2, o2 + j, none⟩ = some (.int .i64 (X j)) := hd j (by omega)
      clear hc hd ej
      go_wp2
      · have h1 : S j = s := by assumption
        have h2 : X j = x := by simpa using (show (X j == x) = true by assumption)
        have hh := cnt_hitS HE.out h1 h2
        go_round
        case rel => exact ⟨j, m + 1, by omega, by omega, rfl, by go_num, hh⟩
        case measure => simp [intOf]
      · have h2 : ¬ X j = x := by simpa using (show (X j == x) = false by assumption)
        have hh := cnt_missS HE.out (fun h => h2 h.2)
        go_round
        case rel => exact ⟨j, m, by omega, by omega, rfl, rfl, hh⟩
        case measure => simp [intOf]
      · have h1 : ¬ S j = s := by assumption
        have hh := cnt_missS HE.out (fun h => h1 h.1)
        go_round
        case rel => exact ⟨j, m, by omega, by omega, rfl, rfl, hh⟩
        case measure => simp [intOf]
    · obtain rfl : k = 0 := by omega
      go_wp2
      go_ret
      exact ⟨ret_int (by have := HE.out; simp only [cnt] at this; omega), rfl⟩

theorem count_at (a a2 : Option Addr) (n cap cap2 : Nat) (S X : Nat → Int) (s x : Int) (w : World) (hn : n ≤ 1048576) (h : IntsAt .u64 w a n S) (h2 : IntsAt .i64 w a2 n X) :
    Calls Try.prog 13 #[.slice a n cap, .slice a2 n cap2, .int .u64 s, .int .i64 x] w fun e w' => e = .returned (.int .i64 (cnt S X s x n)) ∧ w' = w := by
  rcases h with rfl | ⟨b, o, rfl, hc⟩
  · exact count_zero a a2 cap cap2 s x w
  · rcases h2 with rfl | ⟨b2, o2, rfl, hd⟩
    · exact count_zero _ a2 cap cap2 s x w
    · exact count_some b o b2 o2 n cap cap2 S X s x w hn hc hd
end Go.Proofs.Qxb6603902a
