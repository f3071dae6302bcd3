/-
  FnMatchesSpec: the walk.
-/
import Derived.Test.Qxb6603902aHolds
import Derived.Test.Qxb6603902aVersions
import Derived.Test.Qxb6603902aCount
namespace Go.Proofs.Qxb6603902a
open Go.RowKit

set_option maxHeartbeats 1000000 in
theorem spec_early (a0 : Bool) (a1 a2 : Option Addr) (len1 cap1 len2 cap2 : Nat) (s x : Int) (w : World) (h1 : len1 ≤ 9223372036854775807) (h2 : len2 ≤ 9223372036854775807) (h : len1 < len2 ∨ len2 < len1 ∨ (65536 < len1 ∧ 65536 < len2)) :
    Calls Try.prog 3 #[.bool a0, .slice a1 len1 cap1, .slice a2 len2 cap2, .int .u64 s, .int .i64 x] w fun e w' => e = .returned (.bool true) ∧ w' = w := by
  rcases h with h | h | ⟨h, h'⟩
  all_goals
    go_enter Try.func3, Try.ntmps3
    go_wp2
    all_goals (go_ret; exact ⟨rfl, rfl⟩)

set_option maxHeartbeats 400000 in
theorem bytes8 (a0 : Bool) (a1 a2 : Option Addr) (n cap1 cap2 : Nat) (s x : Int) (w : World) (hn : n ≤ 65536) :
    Calls Try.prog 8 #[.bool a0, .slice a1 n cap1, .slice a2 n cap2, .int .u64 s, .int .i64 x] w fun e w' => e = .returned (.bool true) ∧ w' = w := by
  go_enter Try.func8, Try.ntmps8
  go_wp2
  go_ret
  exact ⟨rfl, rfl⟩

/-- A Match in a new block. -/
theorem box_match {w : World} {any : Bool} {av : Option Addr} {n cap : Nat} {S X : Nat → Int} (hn : n ≤ 1048576) (hv : VersAt w av n S X) : MatchAt (w.alloc (.cells #[.bool any, .slice av n cap] 32)) w.heap.size any n S X :=
  ⟨hn, av, cap, by simp, by simp, hv.keep ((Below.refl _ _).alloc (Nat.le_refl _) _)⟩

set_option maxHeartbeats 1000000 in
theorem spec_main (a0 : Bool) (a1 a2 : Option Addr) (n cap1 cap2 : Nat) (S X : Nat → Int) (s x : Int) (w : World) (hn : n ≤ 65536) (ha1 : a1 = none → n = 0) (ha2 : a2 = none → n = 0) (h1 : IntsAt .u64 w a1 n S) (h2 : IntsAt .i64 w a2 n X) :
    Calls Try.prog 3 #[.bool a0, .slice a1 n cap1, .slice a2 n cap2, .int .u64 s, .int .i64 x] w fun e w' => e = .returned (.bool true) ∧ Below w.heap.size w w' := by
  have HA1 : Hid (a1 = none → n = 0) := ha1
  have HA2 : Hid (a2 = none → n = 0) := ha2
  clear ha1 ha2
  go_enter Try.func3, Try.ntmps3
  go_wp2_with fail
  refine (bytes8 a0 a1 a2 n cap1 cap2 s x w hn).mono ?_
  rintro e w0 ⟨rfl, rfl⟩
  go_wp2_with fail
  refine (cloneU64_at a1 n cap1 S w0 (by omega) HA1.out h1).mono ?_
  rintro e w1 ⟨c1, k1, rfl, n1, g1, B1⟩
  have HN1 : Hid (c1 = none → n = 0) := n1
  clear n1
  go_wp2_with fail
  refine (cloneInt_at a2 n cap2 X w1 (by omega) HA2.out (h2.keep B1)).mono ?_
  rintro e w2 ⟨c2, k2, rfl, n2, g2, B2⟩
  clear n2
  go_wp2_with fail
  refine (versions_at c1 c2 n k1 k2 S X w2 (by omega) HN1.out (g1.keep B2) g2).mono ?_
  rintro e w3 ⟨c3, k3, rfl, g3, B3⟩
  go_wp2_with fail
  have B3' : Below w3.heap.size w3 (w3.alloc (.cells #[.bool a0, .slice c3 n k3] 32)) := (Below.refl _ _).alloc (Nat.le_refl _) _
  refine (zzMatches_at w3.heap.size a0 n S X s x _ (box_match (by omega) g3)).mono ?_
  rintro e w4 ⟨rfl, B4⟩
  have Bc := belT (belT B3 B3') B4
  have g1' := (g1.keep B2).keep Bc
  have g2' := g2.keep Bc
  have Bz := belT (belT B1 B2) Bc
  clear B1 B2 B3 B3' B4 Bc h1 h2 g1 g2 g3
  have hcn := cnt_le S X s x n
  have hh := cnt_hit S X s x n
  have HH : Hid (decide (0 < cnt S X s x n) = hit S X s x n) := hh
  clear hh
  cases a0 with
  | true =>
    go_wp2
    go_ret
    exact ⟨by simp [hitB], Bz⟩
  | false =>
    go_wp2_with fail
    refine (count_at c1 c2 n k1 k2 S X s x w4 (by omega) g1' g2').mono ?_
    rintro e w5 ⟨rfl, rfl⟩
    go_wp2
    go_ret
    exact ⟨by simp [hitB, ← HH.out], Bz⟩
end Go.Proofs.Qxb6603902a
