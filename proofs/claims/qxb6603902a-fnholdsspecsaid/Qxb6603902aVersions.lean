/-
  zzVersions: her contract.
-/
import Derived.Test.Qxb6603902aClone
import Derived.RegionTactic
namespace Go.Proofs.Qxb6603902a
open Go.RowKit

theorem info35 : (Try.prog.info? 35).map (fun i => (i.zero, i.size, i.bytes)) = some (some (.agg #[.int .u64 0, .int .i64 0]), 2, 16) := by kernel_rfl

theorem make_vers (n : Nat) (hn : n ≤ 1048577) (w : World) : (Instr.makeSlice 29 (.int .i64 (n : Int)) (.int .i64 (n : Int))).run Try.prog w =
    .ok (.slice (some ⟨w.heap.size, 0, none⟩) n n) (w.alloc (.cells (madeCells #[.int .u64 0, .int .i64 0] (n * 2)) 35)) := by
  obtain ⟨i, hi, hz, hs, hb⟩ := info_parts info35
  have := run_make (P := Try.prog) w 29 35 i _ Try.underlying29 hi hz .i64 .i64 n n (by omega) (Int.le_refl _) (by rw [hb]; omega) (by omega)
  simpa [hs, Value.cells] using this

/-- The new row when k versions are laid. -/
def versed (S X : Nat → Int) (k : Nat) : Nat → Value := fun i =>
  if i < k * 2 then (if i % 2 = 0 then .int .u64 (S (i / 2)) else .int .i64 (X (i / 2))) else (if i % 2 = 0 then .int .u64 0 else .int .i64 0)

theorem rowIs_vers (w : World) (n : Nat) (S X : Nat → Int) : (w.alloc (.cells (madeCells #[.int .u64 0, .int .i64 0] (n * 2)) 35)).rowIs w.heap.size 35 (n * 2) (versed S X 0) := by
  have h := World.rowIs_alloc w (madeCells #[.int .u64 0, .int .i64 0] (n * 2)) 35 (versed S X 0) (fun i hi => by
    rw [size_madeCells] at hi
    have h2 : i % 2 = 0 ∨ i % 2 = 1 := by omega
    rcases h2 with h2 | h2 <;> simp [madeCells, versed, hi, h2])
  rwa [size_madeCells] at h

theorem versed_even {S X : Nat → Int} {k i : Nat} (h : i < k) : versed S X k (i * 2) = .int .u64 (S i) := by
  have h1 : i * 2 < k * 2 := by omega
  simp [versed, h1]
theorem versed_odd {S X : Nat → Int} {k i : Nat} (h : i < k) : versed S X k (i * 2 + 1) = .int .i64 (X i) := by
  have h1 : i * 2 + 1 < k * 2 := by omega
  have h2 : (i * 2 + 1) % 2 = 1 := by omega
  have h3 : (i * 2 + 1) / 2 = i := by omega
  simp [versed, h1, h2, h3]
theorem versed_even0 {S X : Nat → Int} {k i : Nat} (h : k ≤ i) : versed S X k (i * 2) = .int .u64 0 := by
  have h1 : ¬ i * 2 < k * 2 := by omega
  simp [versed, h1]
theorem versed_odd0 {S X : Nat → Int} {k i : Nat} (h : k ≤ i) : versed S X k (i * 2 + 1) = .int .i64 0 := by
  have h1 : ¬ i * 2 + 1 < k * 2 := by omega
  have h2 : (i * 2 + 1) % 2 = 1 := by omega
  simp [versed, h1, h2]
theorem versed_step (S X : Nat → Int) (k i : Nat) : (if i = k * 2 + 1 then .int .i64 (X k) else if i = k * 2 then .int .u64 (S k) else versed S X k i) = versed S X (k + 1) i := by
  unfold versed
  by_cases h : i = k * 2 + 1
  · subst h
    have h2 : (k * 2 + 1) % 2 = 1 := by omega
    have h3 : (k * 2 + 1) / 2 = k := by omega
    have h4 : k * 2 + 1 < (k + 1) * 2 := by omega
    simp [h2, h3, h4]
  · rw [if_neg h]
    by_cases h' : i = k * 2
    · subst h'
      have h4 : k * 2 < (k + 1) * 2 := by omega
      simp [h4]
    · rw [if_neg h']
      by_cases h2 : i < k * 2
      · have h4 : i < (k + 1) * 2 := by omega
        simp only [if_pos h2, if_pos h4]
      · have h4 : ¬ i < (k + 1) * 2 := by omega
        simp only [if_neg h2, if_neg h4]

theorem versions_nil (v : Value) (cap : Nat) (w : World) :
    Calls Try.prog 11 #[.slice none 0 cap, v] w fun e w' => e = .returned (.slice none 0 0) ∧ w' = w := by
  have q := fun (w : World) (a : Option Addr) (n c n' c' : Nat) => Lib.run_eql_slice_nil (P := Try.prog) w _ _ a n c n' c' Try.underlying22
  go_enter Try.func11, Try.ntmps11
  go_wp2
  go_ret
  exact ⟨rfl, rfl⟩

set_option maxHeartbeats 400000 in
theorem versions_zero (x : Addr) (v : Value) (cap : Nat) (w : World) :
    Calls Try.prog 11 #[.slice (some x) 0 cap, v] w fun e w' => e = .returned (.slice (some ⟨w.heap.size, 0, none⟩) 0 0) ∧ Below w.heap.size w w' := by
  have q := fun (w : World) (a : Option Addr) (n c n' c' : Nat) => Lib.run_eql_slice_nil (P := Try.prog) w _ _ a n c n' c' Try.underlying22
  have hmk : ∀ w, (Instr.makeSlice 29 (.int .i64 0) (.int .i64 0)).run Try.prog w = .ok (.slice (some ⟨w.heap.size, 0, none⟩) 0 0) (w.alloc (.cells (madeCells #[.int .u64 0, .int .i64 0] (0 * 2)) 35)) := make_vers 0 (by omega)
  go_enter Try.func11, Try.ntmps11
  go_wp2
  refine wp_loop_rounds 1 ?_
  rw [rounds_succ]
  go_wp2
  go_ret
  exact ⟨rfl, (Below.refl _ _).alloc (Nat.le_refl _) _⟩

set_option maxHeartbeats 400000 in
theorem versions_some (b o b2 o2 n cap cap2 : Nat) (S X : Nat → Int) (w : World) (hn : n ≤ 1048576) (hc : ∀ i, i < n → w.cell? ⟨b, o + i, none⟩ = some (.int .u64 (S i)))
    (hd : ∀ i, i < n → w.cell? ⟨b2, o2 + i, none⟩ = some (.int .i64 (X i))) :
    Calls Try.prog 11 #[.slice (some ⟨b, o, none⟩) n cap, .slice (some ⟨b2, o2, none⟩) n cap2] w fun e w' => e = .returned (.slice (some ⟨w.heap.size, 0, none⟩) n n) ∧ w'.rowIs w.heap.size 35 (n * 2) (versed S X n) ∧ Below w.heap.size w w' := by
  have q := fun (w : World) (a : Option Addr) (n c n' c' : Nat) => Lib.run_eql_slice_nil (P := Try.prog) w _ _ a n c n' c' Try.underlying22
  have hmk := make_vers n (by omega)
  go_enter Try.func11, Try.ntmps11
  go_wp2
  clear q hmk
  go_loopw [6] (fun i wr => ∃ k : Nat, k ≤ n ∧ i = .int .i64 k ∧ wr.rowIs w.heap.size 35 (n * 2) (versed S X k) ∧ Below w.heap.size w wr) (fun i _ => n - (intOf i).toNat)
  case atStart => exact ⟨0, Nat.zero_le _, rfl, rowIs_vers w n S X, (Below.refl _ _).alloc (Nat.le_refl _) _⟩
  case round =>
    obtain ⟨k, hk, rfl, hrow, hbel⟩ := hrel
    by_cases hlt : k < n
    · have e0 : wr.cell? ⟨b, o + k, none⟩ = some (.int .u64 (S k)) := cell_keep hbel (hc k hlt)
      have e1 : wr.cell? ⟨b2, o2 + k, none⟩ = some (.int .i64 (X k)) := cell_keep hbel (hd k hlt)
      have e2 : wr.cell? ⟨w.heap.size, k * 2, none⟩ = some (.int .u64 0) := by rw [hrow.cell (by omega), versed_even0 (Nat.le_refl _)]
      have e3 : wr.cell? ⟨w.heap.size, k * 2 + 1, none⟩ = some (.int .i64 0) := by rw [hrow.cell (by omega), versed_odd0 (Nat.le_refl _)]
      have e4 : wr.frozen? ⟨w.heap.size, k * 2, none⟩ = false := hrow.frozen _
      have e5 : wr.frozen? ⟨w.heap.size, k * 2 + 1, none⟩ = false := hrow.frozen _
      clear hc hd
      have hi : (k : Int) < (n : Int) := by omega
      go_wp2
      go_region
      go_wp2
      go_roundw
      case rel => exact ⟨k + 1, by omega, by go_num, (((hrow.set (k * 2) (.int .u64 (S k))).set (k * 2 + 1) (.int .i64 (X k))).drew).congr (fun i _ => versed_step S X k i), ((hbel.setCell (Nat.le_refl _) _).setCell (Nat.le_refl _) _).drew⟩
      case measure => simp [intOf]; omega
    · obtain rfl : k = n := by omega
      go_wp2
      go_ret
      exact ⟨rfl, hrow, hbel⟩

theorem versAt_row {w : World} {B n : Nat} {S X : Nat → Int} (h : w.rowIs B 35 (n * 2) (versed S X n)) : VersAt w (some ⟨B, 0, none⟩) n S X :=
  .inr ⟨B, rfl, fun i hi => ⟨by rw [h.cell (by omega), versed_even hi], by rw [h.cell (by omega), versed_odd hi]⟩⟩

theorem versions_at (a a2 : Option Addr) (n cap cap2 : Nat) (S X : Nat → Int) (w : World) (hn : n ≤ 1048576) (ha : a = none → n = 0) (h : IntsAt .u64 w a n S) (h2 : IntsAt .i64 w a2 n X) :
    Calls Try.prog 11 #[.slice a n cap, .slice a2 n cap2] w fun e w' => ∃ a' cap', e = .returned (.slice a' n cap') ∧ VersAt w' a' n S X ∧ Below w.heap.size w w' := by
  cases a with
  | none =>
    obtain rfl := ha rfl
    refine (versions_nil _ cap w).mono ?_
    rintro e w' ⟨rfl, rfl⟩
    exact ⟨none, 0, rfl, .inl rfl, Below.refl _ _⟩
  | some y =>
    rcases h with rfl | ⟨b, o, hy, hc⟩
    · refine (versions_zero y _ cap w).mono ?_
      rintro e w' ⟨rfl, hb⟩
      exact ⟨_, 0, rfl, .inl rfl, hb⟩
    · obtain rfl := Option.some.inj hy
      rcases h2 with rfl | ⟨b2, o2, rfl, hd⟩
      · refine (versions_zero _ _ cap w).mono ?_
        rintro e w' ⟨rfl, hb⟩
        exact ⟨_, 0, rfl, .inl rfl, hb⟩
      · refine (versions_some b o b2 o2 n cap cap2 S X w hn hc hd).mono ?_
        rintro e w' ⟨rfl, hr, hb⟩
        exact ⟨_, n, rfl, versAt_row hr, hb⟩
end Go.Proofs.Qxb6603902a
