/-
  FnHoldsIfMatchIfNoneMatchOpposite: the walk.
-/
import Derived.Test.Qxb6603902aHolds
import Derived.Test.Qxb6603902aVersions
namespace Go.Proofs.Qxb6603902a
open Go.RowKit

set_option maxHeartbeats 1000000 in
theorem opp_early (a0 : Bool) (a1 a2 : Option Addr) (len1 cap1 len2 cap2 : Nat) (found : Bool) (s x : Int) (w : World) (h1 : len1 ≤ 9223372036854775807) (h2 : len2 ≤ 9223372036854775807) (h : len1 < len2 ∨ len2 < len1 ∨ (65536 < len1 ∧ 65536 < len2)) :
    Calls Try.prog 6 #[.bool a0, .slice a1 len1 cap1, .slice a2 len2 cap2, .bool found, .int .u64 s, .int .i64 x] w fun e w' => e = .returned (.bool true) ∧ w' = w := by
  rcases h with h | h | ⟨h, h'⟩
  all_goals
    go_enter Try.func6, Try.ntmps6
    go_wp2
    all_goals (go_ret; exact ⟨rfl, rfl⟩)

set_option maxHeartbeats 400000 in
theorem bytes17 (a0 : Bool) (a1 a2 : Option Addr) (n cap1 cap2 : Nat) (found : Bool) (s x : Int) (w : World) (hn : n ≤ 65536) :
    Calls Try.prog 17 #[.bool a0, .slice a1 n cap1, .slice a2 n cap2, .bool found, .int .u64 s, .int .i64 x] w fun e w' => e = .returned (.bool true) ∧ w' = w := by
  go_enter Try.func17, Try.ntmps17
  go_wp2
  go_ret
  exact ⟨rfl, rfl⟩

section
variable (b : Nat) (any : Bool) (n : Nat) (S X : Nat → Int) (found : Bool) (s x : Int) (w : World)
theorem opp_im (h : MatchAt w b any n S X) :
    Calls Try.prog 16 #[.agg #[.pointer (some ⟨b, 0, none⟩), .pointer none], .bool found, .agg #[.int .u64 s, .int .i64 x]] w fun e w' => e = .returned (.bool (found && hitB any n S X s x)) ∧ Below w.heap.size w w' := by
  have := zzHolds_at _ true any n S X (.pointer none) false any n S X found s x w (.inr ⟨rfl, b, rfl, h⟩) (.inl ⟨rfl, rfl⟩)
  simpa [holdsB] using this
theorem opp_inm (h : MatchAt w b any n S X) :
    Calls Try.prog 16 #[.agg #[.pointer none, .pointer (some ⟨b, 0, none⟩)], .bool found, .agg #[.int .u64 s, .int .i64 x]] w fun e w' => e = .returned (.bool (!found || !hitB any n S X s x)) ∧ Below w.heap.size w w' := by
  have := zzHolds_at (.pointer none) false any n S X _ true any n S X found s x w (.inl ⟨rfl, rfl⟩) (.inr ⟨rfl, b, rfl, h⟩)
  simpa [holdsB] using this
theorem opp_both (h : MatchAt w b any n S X) :
    Calls Try.prog 16 #[.agg #[.pointer (some ⟨b, 0, none⟩), .pointer (some ⟨b, 0, none⟩)], .bool found, .agg #[.int .u64 s, .int .i64 x]] w fun e w' => e = .returned (.bool false) ∧ Below w.heap.size w w' := by
  have := zzHolds_at _ true any n S X _ true any n S X found s x w (.inr ⟨rfl, b, rfl, h⟩) (.inr ⟨rfl, b, rfl, h⟩)
  have e : holdsB true (hitB any n S X s x) true (hitB any n S X s x) found = false := by
    cases found <;> cases hitB any n S X s x <;> rfl
  rw [e] at this
  exact this
theorem opp_zero :
    Calls Try.prog 16 #[.agg #[.pointer none, .pointer none], .bool found, .agg #[.int .u64 s, .int .i64 x]] w fun e w' => e = .returned (.bool true) ∧ Below w.heap.size w w' := by
  have := zzHolds_at (.pointer none) false false 0 (fun _ => 0) (fun _ => 0) (.pointer none) false false 0 (fun _ => 0) (fun _ => 0) found s x w (.inl ⟨rfl, rfl⟩) (.inl ⟨rfl, rfl⟩)
  simpa [holdsB] using this
end

/-- The world ahead of the first question. -/
def ow (w3 : World) (s x : Int) (a0 : Bool) (c3 : Option Addr) (n k3 : Nat) : World :=
  (w3.alloc (.cells #[.bool a0, .slice c3 n k3] 32)).alloc (.cells #[.int .u64 s, .int .i64 x] 35)
theorem ow_below (w3 : World) (s x : Int) (a0 : Bool) (c3 : Option Addr) (n k3 : Nat) : Below w3.heap.size w3 (ow w3 s x a0 c3 n k3) :=
  ((Below.refl _ _).alloc (Nat.le_refl _) _).alloc (by simp) _
theorem ow_match {w3 : World} {s x : Int} {a0 : Bool} {c3 : Option Addr} {n k3 : Nat} {S X : Nat → Int} (hn : n ≤ 1048576) (h : VersAt w3 c3 n S X) : MatchAt (ow w3 s x a0 c3 n k3) w3.heap.size a0 n S X :=
  ⟨hn, c3, k3, by simp [ow], by simp [ow], h.keep (ow_below _ _ _ _ _ _ _)⟩
theorem ow_v (w3 : World) (s x : Int) (a0 : Bool) (c3 : Option Addr) (n k3 : Nat) : (ow w3 s x a0 c3 n k3).cell? ⟨w3.heap.size + 1, 0, none⟩ = some (.int .u64 s) ∧ (ow w3 s x a0 c3 n k3).cell? ⟨w3.heap.size + 1, 1, none⟩ = some (.int .i64 x) :=
  ⟨by simp [ow], by simp [ow]⟩

set_option maxHeartbeats 1000000 in
theorem opp_main (a0 : Bool) (a1 a2 : Option Addr) (n cap1 cap2 : Nat) (S X : Nat → Int) (found : Bool) (s x : Int) (w : World) (hn : n ≤ 65536) (ha1 : a1 = none → n = 0) (ha2 : a2 = none → n = 0) (h1 : IntsAt .u64 w a1 n S) (h2 : IntsAt .i64 w a2 n X) :
    Calls Try.prog 6 #[.bool a0, .slice a1 n cap1, .slice a2 n cap2, .bool found, .int .u64 s, .int .i64 x] w fun e w' => e = .returned (.bool true) ∧ Below w.heap.size w w' := by
  have HA1 : Hid (a1 = none → n = 0) := ha1
  have HA2 : Hid (a2 = none → n = 0) := ha2
  clear ha1 ha2
  go_enter Try.func6, Try.ntmps6
  go_wp2_with fail
  refine (bytes17 a0 a1 a2 n cap1 cap2 found s x w hn).mono ?_
  rintro e w0 ⟨rfl, rfl⟩
  go_wp2_with fail
  refine (cloneU64_at a1 n cap1 S w0 (by omega) HA1.out h1).mono ?_
  rintro e w1 ⟨c1, k1, rfl, n1, g1, B1⟩
  have HN1 : Hid (c1 = none → n = 0) := n1
  clear n1
  go_wp2_with fail
  refine (cloneInt_at a2 n cap2 X w1 (by omega) HA2.out (h2.keep B1)).mono ?_
  rintro e w2 ⟨c2, k2, rfl, n2, g2, B2⟩
  clear n2
  go_wp2_with fail
  refine (versions_at c1 c2 n k1 k2 S X w2 (by omega) HN1.out (g1.keep B2) g2).mono ?_
  rintro e w3 ⟨c3, k3, rfl, g3, B3⟩
  have Bz := belT (belT (belT B1 B2) B3) (ow_below w3 s x a0 c3 n k3)
  have m3 := ow_match (s := s) (x := x) (a0 := a0) (k3 := k3) (by omega : n ≤ 1048576) g3
  have v3 := ow_v w3 s x a0 c3 n k3
  have V3 : Hid ((ow w3 s x a0 c3 n k3).cell? ⟨w3.heap.size + 1, 0, none⟩ = some (.int .u64 s) ∧ (ow w3 s x a0 c3 n k3).cell? ⟨w3.heap.size + 1, 1, none⟩ = some (.int .i64 x)) := v3
  clear B1 B2 B3 h1 h2 g1 g2 g3 HN1 HA1 HA2 v3
  go_wp2_with fail
  refine (opp_im _ a0 n S X found s x _ m3).mono ?_
  rintro e w4 ⟨rfl, B4⟩
  have q4 := cell_keep B4 V3.out.1
  have r4 := cell_keep B4 V3.out.2
  have m4 := m3.keep B4
  have Bz4 := belT Bz B4
  clear Bz B4 m3 V3
  go_wp2_with fail
  refine (opp_inm _ a0 n S X found s x _ m4).mono ?_
  rintro e w5 ⟨rfl, B5⟩
  have q5 := cell_keep B5 q4
  have r5 := cell_keep B5 r4
  have m5 := m4.keep B5
  have Bz5 := belT Bz4 B5
  clear Bz4 B5 m4 q4 r4
  go_wp2_with fail
  refine (opp_both _ a0 n S X found s x _ m5).mono ?_
  rintro e w6 ⟨rfl, B6⟩
  have q6 := cell_keep B6 q5
  have r6 := cell_keep B6 r5
  have Bz6 := belT Bz5 B6
  clear Bz5 B6 m5 q5 r5
  go_wp2_with fail
  refine (opp_zero found s x _).mono ?_
  rintro e w7 ⟨rfl, B7⟩
  have Bz7 := belT Bz6 B7
  clear Bz6 B7 q6 r6
  generalize hitB a0 n S X s x = h
  cases found <;> cases h
  all_goals
    go_wp2
    go_ret
    exact ⟨rfl, Bz7⟩
end Go.Proofs.Qxb6603902a
