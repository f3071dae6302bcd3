/-
  FnMatchesAppendAddsExactlyThatVersion: the walk.
-/
import Derived.Test.Qxb6603902aHolds
import Derived.Test.Qxb6603902aVersions
namespace Go.Proofs.Qxb6603902a
open Go.RowKit

set_option maxHeartbeats 1000000 in
theorem app_early (a0 : Bool) (a1 a2 : Option Addr) (len1 cap1 len2 cap2 : Nat) (s x s' x' : Int) (w : World) (h1 : len1 ≤ 9223372036854775807) (h2 : len2 ≤ 9223372036854775807) (h : len1 < len2 ∨ len2 < len1 ∨ (65536 < len1 ∧ 65536 < len2)) :
    Calls Try.prog 4 #[.bool a0, .slice a1 len1 cap1, .slice a2 len2 cap2, .int .u64 s, .int .i64 x, .int .u64 s', .int .i64 x'] w fun e w' => e = .returned (.bool true) ∧ w' = w := by
  rcases h with h | h | ⟨h, h'⟩
  all_goals
    go_enter Try.func4, Try.ntmps4
    go_wp2
    all_goals (go_ret; exact ⟨rfl, rfl⟩)

set_option maxHeartbeats 400000 in
theorem bytes14 (a0 : Bool) (a1 a2 : Option Addr) (n cap1 cap2 : Nat) (s x s' x' : Int) (w : World) (hn : n ≤ 65536) :
    Calls Try.prog 14 #[.bool a0, .slice a1 n cap1, .slice a2 n cap2, .int .u64 s, .int .i64 x, .int .u64 s', .int .i64 x'] w fun e w' => e = .returned (.bool true) ∧ w' = w := by
  go_enter Try.func14, Try.ntmps14
  go_wp2
  go_ret
  exact ⟨rfl, rfl⟩

/-- The grown list: the old pairs, then (s', x'). -/
def grow (n : Nat) (S : Nat → Int) (s' : Int) : Nat → Int := fun i => if i < n then S i else s'

theorem grow_hit (n : Nat) (S X : Nat → Int) (s' x' s x : Int) : hit (grow n S s') (grow n X x') s x (n + 1) = (hit S X s x n || decide (s' = s ∧ x' = x)) := by
  simp only [hit]
  rw [hit_congr (S' := S) (X' := X) (fun i hi => ⟨by simp [grow, hi], by simp [grow, hi]⟩)]
  simp [grow]

theorem grow_last (n : Nat) (S X : Nat → Int) (s' x' : Int) (i : Nat) : (if i = n * 2 + 1 then .int .i64 x' else if i = n * 2 then .int .u64 s' else versed S X n i) = versed (grow n S s') (grow n X x') (n + 1) i := by
  rw [← versed_step]
  have e1 : grow n S s' n = s' := by simp [grow]
  have e2 : grow n X x' n = x' := by simp [grow]
  rw [e1, e2]
  by_cases h : i < n * 2
  · have h1 : i / 2 < n := by omega
    simp [versed, h, grow, h1]
  · simp [versed, h]

theorem cell_alloc {w : World} {o : Obj} {a : Addr} {v : Value} (h : w.cell? a = some v) : (w.alloc o).cell? a = some v := cell_keep ((Below.refl _ _).alloc (Nat.le_refl _) _) h

/-- The world ahead of the first question. -/
def aw (w3 : World) (s x s' x' : Int) (a0 : Bool) (c3 : Option Addr) (n k3 : Nat) : World :=
  ((w3.alloc (.cells #[.int .u64 s, .int .i64 x] 35)).alloc (.cells #[.int .u64 s', .int .i64 x'] 35)).alloc (.cells #[.bool a0, .slice c3 n k3] 32)
theorem aw_below (w3 : World) (s x s' x' : Int) (a0 : Bool) (c3 : Option Addr) (n k3 : Nat) : Below w3.heap.size w3 (aw w3 s x s' x' a0 c3 n k3) :=
  (((Below.refl _ _).alloc (Nat.le_refl _) _).alloc (by simp) _).alloc (by simp; omega) _
theorem aw_match {w3 : World} {s x s' x' : Int} {a0 : Bool} {c3 : Option Addr} {n k3 : Nat} {S X : Nat → Int} (hn : n ≤ 1048576) (h : VersAt w3 c3 n S X) : MatchAt (aw w3 s x s' x' a0 c3 n k3) (w3.heap.size + 1 + 1) a0 n S X :=
  ⟨hn, c3, k3, World.cell?_alloc_at _ _ _ _ (by simp), World.cell?_alloc_at _ _ _ _ (by simp), h.keep (aw_below _ _ _ _ _ _ _ _ _)⟩
/-- The two versions lie where they were laid. -/
def Two (w : World) (u : Nat) (s x s' x' : Int) : Prop :=
  w.cell? ⟨u, 0, none⟩ = some (.int .u64 s) ∧ w.cell? ⟨u, 1, none⟩ = some (.int .i64 x) ∧ w.cell? ⟨u + 1, 0, none⟩ = some (.int .u64 s') ∧ w.cell? ⟨u + 1, 1, none⟩ = some (.int .i64 x')
theorem Two.keep {w w' : World} {u : Nat} {s x s' x' : Int} (h : Two w u s x s' x') (hb : Below w.heap.size w w') : Two w' u s x s' x' :=
  ⟨cell_keep hb h.1, cell_keep hb h.2.1, cell_keep hb h.2.2.1, cell_keep hb h.2.2.2⟩
theorem aw_two (w3 : World) (s x s' x' : Int) (a0 : Bool) (c3 : Option Addr) (n k3 : Nat) : Two (aw w3 s x s' x' a0 c3 n k3) w3.heap.size s x s' x' :=
  ⟨cell_alloc (cell_alloc (by simp)), cell_alloc (cell_alloc (by simp)), cell_alloc (World.cell?_alloc_at _ _ _ _ (by simp)), cell_alloc (World.cell?_alloc_at _ _ _ _ (by simp))⟩
theorem aw_size (w3 : World) (s x s' x' : Int) (a0 : Bool) (c3 : Option Addr) (n k3 : Nat) : w3.heap.size + 1 < (aw w3 s x s' x' a0 c3 n k3).heap.size := by simp [aw]

/-- The world ahead of the second question. -/
def bw (wr : World) (B k : Nat) (s' x' : Int) (a0 : Bool) : World :=
  ((wr.setCell ⟨B, k * 2, none⟩ (.int .u64 s')).setCell ⟨B, k * 2 + 1, none⟩ (.int .i64 x')).alloc (.cells #[.bool a0, .slice (some ⟨B, 0, none⟩) (k + 1) (k + 1)] 32)
theorem bw_below {w4 wr : World} (k : Nat) (s' x' : Int) (a0 : Bool) (h : Below w4.heap.size w4 wr) : Below w4.heap.size w4 (bw wr w4.heap.size k s' x' a0) :=
  ((h.setCell (Nat.le_refl _) _).setCell (Nat.le_refl _) _).alloc (by have := h.size; simp; omega) _
theorem bw_match {wr : World} {B n : Nat} {S X : Nat → Int} {s' x' : Int} {a0 : Bool} (hn : n ≤ 65536) (h : wr.rowIs B 35 ((n + 1) * 2) (versed S X n)) :
    MatchAt (bw wr B n s' x' a0) wr.heap.size a0 (n + 1) (grow n S s') (grow n X x') :=
  ⟨by omega, some ⟨B, 0, none⟩, n + 1, World.cell?_alloc_at _ _ _ _ (by simp), World.cell?_alloc_at _ _ _ _ (by simp),
    versAt_row ((((h.set (n * 2) (.int .u64 s')).set (n * 2 + 1) (.int .i64 x')).congr (fun i _ => grow_last n S X s' x' i)).alloc _)⟩
theorem grow_hitB (a0 : Bool) (n : Nat) (S X : Nat → Int) (s' x' s x : Int) : hitB a0 (n + 1) (grow n S s') (grow n X x') s x = (hitB a0 n S X s x || decide (s' = s ∧ x' = x)) := by
  simp only [hitB, grow_hit, Bool.or_assoc]

set_option maxHeartbeats 1000000 in
theorem app_main (a0 : Bool) (a1 a2 : Option Addr) (n cap1 cap2 : Nat) (S X : Nat → Int) (s x s' x' : Int) (w : World) (hn : n ≤ 65536) (ha1 : a1 = none → n = 0) (ha2 : a2 = none → n = 0) (h1 : IntsAt .u64 w a1 n S) (h2 : IntsAt .i64 w a2 n X) :
    Calls Try.prog 4 #[.bool a0, .slice a1 n cap1, .slice a2 n cap2, .int .u64 s, .int .i64 x, .int .u64 s', .int .i64 x'] w fun e w' => e = .returned (.bool true) ∧ Below w.heap.size w w' := by
  have HA1 : Hid (a1 = none → n = 0) := ha1
  have HA2 : Hid (a2 = none → n = 0) := ha2
  have hmk : ∀ w, (Instr.makeSlice 29 (.int .i64 ((n : Int) + 1)) (.int .i64 ((n : Int) + 1))).run Try.prog w = .ok (.slice (some ⟨w.heap.size, 0, none⟩) (n + 1) (n + 1)) (w.alloc (.cells (madeCells #[.int .u64 0, .int .i64 0] ((n + 1) * 2)) 35)) := make_vers (n + 1) (by omega)
  clear ha1 ha2
  go_enter Try.func4, Try.ntmps4
  go_wp2_with fail
  refine (bytes14 a0 a1 a2 n cap1 cap2 s x s' x' w hn).mono ?_
  rintro e w0 ⟨rfl, rfl⟩
  go_wp2_with fail
  refine (cloneU64_at a1 n cap1 S w0 (by omega) HA1.out h1).mono ?_
  rintro e w1 ⟨c1, k1, rfl, n1, g1, B1⟩
  have HN1 : Hid (c1 = none → n = 0) := n1
  clear n1
  go_wp2_with fail
  refine (cloneInt_at a2 n cap2 X w1 (by omega) HA2.out (h2.keep B1)).mono ?_
  rintro e w2 ⟨c2, k2, rfl, n2, g2, B2⟩
  clear n2
  go_wp2_with fail
  refine (versions_at c1 c2 n k1 k2 S X w2 (by omega) HN1.out (g1.keep B2) g2).mono ?_
  rintro e w3 ⟨c3, k3, rfl, g3, B3⟩
  have Bz := belT (belT B1 B2) B3
  clear B1 B2 B3 h1 h2 g1 g2 HN1 HA1 HA2
  go_wp2_with fail
  refine (zzMatches_at _ a0 n S X s x _ (aw_match (by omega) g3)).mono ?_
  rintro e w4 ⟨rfl, B4⟩
  have t4 := (aw_two w3 s x s' x' a0 c3 n k3).keep B4
  have z4 : w3.heap.size + 1 < w4.heap.size := Nat.lt_of_lt_of_le (aw_size w3 s x s' x' a0 c3 n k3) B4.size
  have B4' := belT (aw_below w3 s x s' x' a0 c3 n k3) B4
  have g4 := g3.keep B4'
  have Bz4 := belT Bz B4'
  clear Bz B4 B4' g3
  go_wp2
  clear hmk
  go_loopw [20] (fun i wr => ∃ k : Nat, k ≤ n ∧ i = .int .i64 k ∧ wr.rowIs w4.heap.size 35 ((n + 1) * 2) (versed S X k) ∧ Below w4.heap.size w4 wr) (fun i _ => n - (intOf i).toNat)
  case atStart => exact ⟨0, Nat.zero_le _, rfl, rowIs_vers w4 (n + 1) S X, (Below.refl _ _).alloc (Nat.le_refl _) _⟩
  case round =>
    obtain ⟨k, hk, rfl, hrow, hbel⟩ := hrel
    by_cases hlt : k < n
    · have g5 := g4.keep hbel
      rcases g5 with h0 | ⟨vb, rfl, hv⟩
      · omega
      have e0 := (hv k hlt).1
      have e1 := (hv k hlt).2
      have e2 : wr.cell? ⟨w4.heap.size, k * 2, none⟩ = some (.int .u64 0) := by rw [hrow.cell (by omega), versed_even0 (Nat.le_refl _)]
      have e3 : wr.cell? ⟨w4.heap.size, k * 2 + 1, none⟩ = some (.int .i64 0) := by rw [hrow.cell (by omega), versed_odd0 (Nat.le_refl _)]
      have e4 : wr.frozen? ⟨w4.heap.size, k * 2, none⟩ = false := hrow.frozen _
      have e5 : wr.frozen? ⟨w4.heap.size, k * 2 + 1, none⟩ = false := hrow.frozen _
      have hi : (k : Int) < (n : Int) + 1 := by omega
      clear hv g4 Bz4 t4 z4
      go_wp2
      go_roundw
      case rel => exact ⟨k + 1, by omega, by go_num, ((hrow.set (k * 2) (.int .u64 (S k))).set (k * 2 + 1) (.int .i64 (X k))).congr (fun i _ => versed_step S X k i), (hbel.setCell (Nat.le_refl _) _).setCell (Nat.le_refl _) _⟩
      case measure => simp [intOf]; omega
    · obtain rfl : k = n := by omega
      obtain ⟨d0, d1, d2, d3⟩ := t4.keep hbel
      have e2 : wr.cell? ⟨w4.heap.size, k * 2, none⟩ = some (.int .u64 0) := by rw [hrow.cell (by omega), versed_even0 (Nat.le_refl _)]
      have e3 : wr.cell? ⟨w4.heap.size, k * 2 + 1, none⟩ = some (.int .i64 0) := by rw [hrow.cell (by omega), versed_odd0 (Nat.le_refl _)]
      have e4 : wr.frozen? ⟨w4.heap.size, k * 2, none⟩ = false := hrow.frozen _
      have e5 : wr.frozen? ⟨w4.heap.size, k * 2 + 1, none⟩ = false := hrow.frozen _
      have Bb := bw_below k s' x' a0 hbel
      have m5 := bw_match (s' := s') (x' := x') (a0 := a0) hn hrow
      have t5 := t4.keep Bb
      have q0 := t5.1
      have q1 := t5.2.1
      unfold bw at q0 q1
      go_wp2_with fail
      refine (zzMatches_at _ a0 _ _ _ s x _ m5).mono ?_
      rw [grow_hitB]
      rintro e w5 ⟨rfl, B5⟩
      obtain ⟨p0, p1, p2, p3⟩ := t5.keep B5
      clear q0 q1 e2 e3 e4 e5 d0 d1 d2 d3
      go_wp2_with fail
      refine (zzMatches_at _ a0 _ _ _ s' x' _ (m5.keep B5)).mono ?_
      rw [show hitB a0 (k + 1) (grow k S s') (grow k X x') s' x' = true from by rw [grow_hitB]; simp]
      rintro e w6 ⟨rfl, B6⟩
      obtain ⟨r0, r1, r2, r3⟩ := (t5.keep B5).keep B6
      have Bf := belT (belT (belT Bz4 Bb) B5) B6
      clear p0 p1 p2 p3
      clear m5 t5 Bb B5 B6 hbel hrow g4 Bz4 t4 z4
      generalize hitB a0 k S X s x = bf
      cases bf with
      | true =>
        go_wp2
        go_ret
        exact ⟨by simp, Bf⟩
      | false =>
        go_wp2
        · go_ret
          refine ⟨?_, Bf⟩
          have h1 : s = s' := by assumption
          have h2 : x = x' := by assumption
          subst h1 h2
          simp
        · go_ret
          refine ⟨?_, Bf⟩
          have h2 : ¬ x' = x := fun h => (show ¬ x = x' by assumption) h.symm
          simp [h2]
        · go_ret
          refine ⟨?_, Bf⟩
          have h2 : ¬ s' = s := fun h => (show ¬ s = s' by assumption) h.symm
          simp [h2]
end Go.Proofs.Qxb6603902a
