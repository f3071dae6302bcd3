/-
  (*Match).matches, ZZMatches: their contracts.
-/
import Derived.Test.Qxb6603902aRows
import Derived.Test.Qxb6603902aBase
import Derived.WalkSpells
import Derived.WalkLawsBesides
namespace Go.Proofs.Qxb6603902a
open Go.RowKit

set_option maxHeartbeats 400000 in
theorem matches_yes (b : Nat) (s x : Int) (w : World) (h0 : w.cell? ⟨b, 0, none⟩ = some (.bool true)) :
    Calls Try.prog 18 #[.pointer (some ⟨b, 0, none⟩), .agg #[.int .u64 s, .int .i64 x]] w fun e w' => e = .returned (.bool true) ∧ Below w.heap.size w w' := by
  have hlt := cell_lt h0
  go_enter Try.func18, Try.ntmps18
  go_wp2
  go_ret
  exact ⟨rfl, (Below.refl _ _).alloc (Nat.le_refl _) _⟩

set_option maxHeartbeats 400000 in
theorem matches_none (b : Nat) (s x : Int) (av : Option Addr) (cap : Nat) (w : World) (h0 : w.cell? ⟨b, 0, none⟩ = some (.bool false)) (h1 : w.cell? ⟨b, 1, none⟩ = some (.slice av 0 cap)) :
    Calls Try.prog 18 #[.pointer (some ⟨b, 0, none⟩), .agg #[.int .u64 s, .int .i64 x]] w fun e w' => e = .returned (.bool false) ∧ Below w.heap.size w w' := by
  have hlt := cell_lt h0
  go_enter Try.func18, Try.ntmps18
  go_wp2
  refine wp_loop_rounds 1 ?_
  rw [rounds_succ]
  go_wp2
  go_ret
  exact ⟨rfl, (Below.refl _ _).alloc (Nat.le_refl _) _⟩

set_option maxHeartbeats 400000 in
theorem matches_some (b : Nat) (s x : Int) (vb n cap : Nat) (S X : Nat → Int) (w : World) (hn : n ≤ 1048576) (h0 : w.cell? ⟨b, 0, none⟩ = some (.bool false))
    (h1 : w.cell? ⟨b, 1, none⟩ = some (.slice (some ⟨vb, 0, none⟩) n cap))
    (hv : ∀ i, i < n → w.cell? ⟨vb, i * 2, none⟩ = some (.int .u64 (S i)) ∧ w.cell? ⟨vb, i * 2 + 1, none⟩ = some (.int .i64 (X i))) :
    Calls Try.prog 18 #[.pointer (some ⟨b, 0, none⟩), .agg #[.int .u64 s, .int .i64 x]] w fun e w' => e = .returned (.bool (hit S X s x n)) ∧ Below w.heap.size w w' := by
  have hlt := cell_lt h0
  go_enter Try.func18, Try.ntmps18
  go_wp2
  go_loopw [16] (fun i wr => ∃ k : Nat, k ≤ n ∧ i = .int .i64 k ∧ hit S X s x k = false ∧ Below (w.heap.size + 1) (w.alloc (.cells #[.int .u64 s, .int .i64 x] 35)) wr) (fun i _ => n - (intOf i).toNat)
  case atStart => exact ⟨0, Nat.zero_le _, rfl, rfl, Below.refl _ _⟩
  case round =>
    obtain ⟨k, hk, rfl, hmiss, hbel⟩ := hrel
    have HM : Hid (hit S X s x k = false) := hmiss
    clear hmiss
    have hsz : w.heap.size < wr.heap.size := by have := hbel.size; simp at this; omega
    have c0 : wr.cell? ⟨w.heap.size, 0, none⟩ = some (.int .u64 s) := (hbel.cell (p := ⟨w.heap.size, 0, none⟩) (by simp)).trans (by simp)
    have c1 : wr.cell? ⟨w.heap.size, 1, none⟩ = some (.int .i64 x) := (hbel.cell (p := ⟨w.heap.size, 1, none⟩) (by simp)).trans (by simp)
    have hb0 : Below w.heap.size w wr := ((Below.refl _ _).alloc (Nat.le_refl _) _).trans (hbel.mono (by omega))
    by_cases hlt : k < n
    · have e0 : wr.cell? ⟨vb, k * 2, none⟩ = some (.int .u64 (S k)) := cell_keep hb0 (hv k hlt).1
      have e1 : wr.cell? ⟨vb, k * 2 + 1, none⟩ = some (.int .i64 (X k)) := cell_keep hb0 (hv k hlt).2
      clear hv
      go_wp2
      · go_ret
        exact ⟨ret_bool (hit_here S X s x k n hlt ‹_› ‹_›).symm, hb0.alloc (by omega) _⟩
      all_goals
        go_roundw
        case rel => exact ⟨k + 1, by omega, by go_num, hit_miss S X s x k HM.out (fun h => by first | exact absurd h.1 ‹_› | exact absurd h.2 ‹_›), hbel.alloc (by omega) _⟩
        case measure => simp [intOf]; omega
    · obtain rfl : k = n := by omega
      go_wp2
      go_ret
      exact ⟨ret_bool HM.out.symm, hb0⟩

theorem matches_at (b : Nat) (any : Bool) (n : Nat) (S X : Nat → Int) (s x : Int) (w : World) (h : MatchAt w b any n S X) :
    Calls Try.prog 18 #[.pointer (some ⟨b, 0, none⟩), .agg #[.int .u64 s, .int .i64 x]] w fun e w' => e = .returned (.bool (hitB any n S X s x)) ∧ Below w.heap.size w w' := by
  obtain ⟨hn, av, cap, h0, h1, hv⟩ := h
  cases any with
  | true => exact matches_yes b s x w h0
  | false =>
    rcases hv with rfl | ⟨vb, rfl, hv⟩
    · exact matches_none b s x av cap w h0 h1
    · have := matches_some b s x vb n cap S X w hn h0 h1 hv
      simpa [hitB] using this

set_option maxHeartbeats 400000 in
theorem zzMatches_at (b : Nat) (any : Bool) (n : Nat) (S X : Nat → Int) (s x : Int) (w : World) (h : MatchAt w b any n S X) :
    Calls Try.prog 12 #[.pointer (some ⟨b, 0, none⟩), .agg #[.int .u64 s, .int .i64 x]] w fun e w' => e = .returned (.bool (hitB any n S X s x)) ∧ Below w.heap.size w w' := by
  go_enter Try.func12, Try.ntmps12
  go_wp2_with fail
  have hb : Below w.heap.size w (w.alloc (.cells #[.int .u64 s, .int .i64 x] 35)) := (Below.refl _ _).alloc (Nat.le_refl _) _
  refine (matches_at b any n S X s x _ (h.keep hb)).mono ?_
  rintro e w' ⟨rfl, hb'⟩
  go_wp2
  go_ret
  exact ⟨rfl, hb.trans (hb'.mono (by simp))⟩
end Go.Proofs.Qxb6603902a
