/-
  FnHoldsSpec: the walk where hasIfMatch is true and hasIfNoneMatch is false.
-/
import Derived.Test.Qxb6603902aCond
namespace Go.Proofs.Qxb6603902a
open Go.RowKit

set_option linter.unusedSimpArgs false in
set_option maxHeartbeats 4000000 in
theorem hs_10 (a1 : Bool) (a2 a3 : Option Addr) (n cap2 cap3 : Nat) (S X : Nat → Int) (a5 : Bool) (a6 a7 : Option Addr) (m cap6 cap7 : Nat) (S' X' : Nat → Int) (a8 : Bool) (s x : Int) (w : World) (hnm : n + m ≤ 65536)
    (ha2 : a2 = none → n = 0) (ha3 : a3 = none → n = 0) (ha6 : a6 = none → m = 0) (ha7 : a7 = none → m = 0) (h2 : IntsAt .u64 w a2 n S) (h3 : IntsAt .i64 w a3 n X) (h6 : IntsAt .u64 w a6 m S') (h7 : IntsAt .i64 w a7 m X') :
    Calls Try.prog 5 #[.bool true, .bool a1, .slice a2 n cap2, .slice a3 n cap3, .bool false, .bool a5, .slice a6 m cap6, .slice a7 m cap7, .bool a8, .int .u64 s, .int .i64 x] w fun e w' => e = .returned (.bool true) ∧ Below w.heap.size w w' := by
  have HA2 : Hid (a2 = none → n = 0) := ha2
  have HA3 : Hid (a3 = none → n = 0) := ha3
  have HA6 : Hid (a6 = none → m = 0) := ha6
  have HA7 : Hid (a7 = none → m = 0) := ha7
  clear ha2 ha3 ha6 ha7
  go_enter Try.func5, Try.ntmps5
  go_wp2_with fail
  refine (bytes15 true a1 a2 a3 n cap2 cap3 false a5 a6 a7 m cap6 cap7 a8 s x w hnm).mono ?_
  rintro e w0 ⟨rfl, rfl⟩
  go_wp2_with fail
  refine (cloneU64_at a2 n cap2 S w0 (by omega) HA2.out h2).mono ?_
  rintro e w1 ⟨c1, k1, rfl, n1, g1, B1⟩
  have HN1 : Hid (c1 = none → n = 0) := n1
  clear n1
  go_wp2_with fail
  refine (cloneInt_at a3 n cap3 X w1 (by omega) HA3.out (h3.keep B1)).mono ?_
  rintro e w2 ⟨c2, k2, rfl, n2, g2, B2⟩
  clear n2
  have Ba := belT B1 B2
  go_wp2_with fail
  refine (cloneU64_at a6 m cap6 S' w2 (by omega) HA6.out (h6.keep Ba)).mono ?_
  rintro e w3 ⟨c3, k3, rfl, n3, g3, B3⟩
  have HN3 : Hid (c3 = none → m = 0) := n3
  clear n3
  go_wp2_with fail
  refine (cloneInt_at a7 m cap7 X' w3 (by omega) HA7.out ((h7.keep Ba).keep B3)).mono ?_
  rintro e w4 ⟨c4, k4, rfl, n4, g4, B4⟩
  clear n4
  have Bz := belT (belT Ba B3) B4
  have G1 := g1.keep (belT (belT B2 B3) B4)
  have G2 := g2.keep (belT B3 B4)
  have G3 := g3.keep B4
  clear g1 g2 g3 Ba B1 B2 B3 B4 h2 h3 h6 h7 HA2 HA3 HA6 HA7
  have Z5 : Below w4.heap.size w4 (w4.alloc (.cells #[.pointer none, .pointer none] 40)) := (Below.refl _ _).alloc (Nat.le_refl _) _
  have C5 : CondAt (w4.alloc (.cells #[.pointer none, .pointer none] 40)) w4.heap.size none none := CondAt.new w4
  go_wp2_with fail
  refine (versions_at c1 c2 n k1 k2 S X _ (by omega) HN1.out (G1.keep Z5) (G2.keep Z5)).mono ?_
  rintro e w6 ⟨c6, k6, rfl, V6, B6⟩
  have C6 := C5.keep B6
  have Y6 := belT Z5 B6
  have C6' := cw0_cond a1 c6 n k6 C6
  have M6 := cw0_match (any := a1) (k := k6) C6 (by omega : n ≤ 1048576) V6
  have Z6 := cw0_below a1 c6 n k6 Y6 (Nat.le_of_lt C6.1) (Nat.le_refl _)
  obtain ⟨z6, p60, p61, f60, f61⟩ := C6
  clear Z5 C5 B6 V6 Y6
  have q60 := C6'.2.1
  have q61 := C6'.2.2.1
  unfold cw0 at q60 q61
  go_wp2_with fail
  clear p60 p61 f60 f61 q60 q61
  refine (zzHolds_at _ true a1 n S X _ false a5 m S' X' a8 s x _ (.inr ⟨rfl, _, rfl, M6⟩) (.inl ⟨rfl, rfl⟩)).mono ?_
  rintro e w8 ⟨rfl, B8⟩
  have Z8 := belT Z6 B8
  have g1 := G1.keep Z8
  have g2 := G2.keep Z8
  have g3 := G3.keep Z8
  have g5 := g4.keep Z8
  have Bf := belT Bz Z8
  have b1 := cnt_le S X s x n
  have b2 := cnt_le S' X' s x m
  clear Z8 B8 Z6 G1 G2 G3 g4 Bz HN1 HN3
  cases a1 with
  | true =>
    rw [hitB_t]
    cases a5 with
    | true =>
      rw [hitB_t]
      cases a8
      all_goals
        go_wp2
        go_ret
        exact ⟨by simp [holdsB], Bf⟩
    | false =>
      rw [hitB_f]
      go_wp2_with fail
      refine (count_at c3 c4 m k3 k4 S' X' s x _ (by omega) g3 g5).mono ?_
      rintro e w9 ⟨rfl, rfl⟩
      cases a8 <;> by_cases p2 : 0 < cnt S' X' s x m
      all_goals
        go_wp2
        go_ret
        exact ⟨by simp [holdsB, p2], Bf⟩
  | false =>
    rw [hitB_f]
    cases a5 with
    | true =>
      rw [hitB_t]
      go_wp2_with fail
      refine (count_at c1 c2 n k1 k2 S X s x _ (by omega) g1 g2).mono ?_
      rintro e w9 ⟨rfl, rfl⟩
      cases a8 <;> by_cases p1 : 0 < cnt S X s x n
      all_goals
        go_wp2
        go_ret
        exact ⟨by simp [holdsB, p1], Bf⟩
    | false =>
      rw [hitB_f]
      go_wp2_with fail
      refine (count_at c1 c2 n k1 k2 S X s x _ (by omega) g1 g2).mono ?_
      rintro e w9 ⟨rfl, rfl⟩
      go_wp2_with fail
      refine (count_at c3 c4 m k3 k4 S' X' s x _ (by omega) g3 g5).mono ?_
      rintro e w9 ⟨rfl, rfl⟩
      cases a8 <;> by_cases p1 : 0 < cnt S X s x n <;> by_cases p2 : 0 < cnt S' X' s x m
      all_goals
        go_wp2
        go_ret
        exact ⟨by simp [holdsB, p1, p2], Bf⟩
end Go.Proofs.Qxb6603902a
