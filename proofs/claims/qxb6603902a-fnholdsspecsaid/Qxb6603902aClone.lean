/-
  zzCloneU64, zzCloneInt: their contracts: a fresh copy; nil stays nil.
-/
import Derived.Test.Qxb6603902aRows
import Derived.Test.Qxb6603902aBase
import Derived.WalkSpells
import Derived.WalkLawsBesides
import Derived.Lib.SliceRun
namespace Go.Proofs.Qxb6603902a
open Go.RowKit

/-- The new row when k cells are copied. -/
def cloned (kd : IntKind) (S : Nat → Int) (k : Nat) : Nat → Value := fun i => if i < k then .int kd (S i) else .int kd 0
theorem cloned_zero (kd : IntKind) (S : Nat → Int) (i : Nat) : cloned kd S 0 i = .int kd 0 := by simp [cloned]
theorem cloned_past (kd : IntKind) (S : Nat → Int) (k : Nat) : cloned kd S k k = .int kd 0 := by simp [cloned]
theorem cloned_below {kd : IntKind} {S : Nat → Int} (k i : Nat) (h : i < k) : cloned kd S k i = .int kd (S i) := by simp [cloned, h]
theorem cloned_step (kd : IntKind) (S : Nat → Int) (k i : Nat) : (if i = k then .int kd (S k) else cloned kd S k i) = cloned kd S (k + 1) i := by
  unfold cloned
  by_cases h : i = k
  · subst h; simp
  · rw [if_neg h]
    by_cases h2 : i < k
    · rw [if_pos h2, if_pos (by omega)]
    · rw [if_neg h2, if_neg (by omega)]

theorem info24 : (Try.prog.info? 24).map (fun i => (i.zero, i.size, i.bytes)) = some (some (.int .u64 0), 1, 8) := by kernel_rfl

theorem cloneU64_nil (cap : Nat) (w : World) :
    Calls Try.prog 9 #[.slice none 0 cap] w fun e w' => e = .returned (.slice none 0 0) ∧ w' = w := by
  have q := fun (w : World) (a : Option Addr) (n c n' c' : Nat) => Lib.run_eql_slice_nil (P := Try.prog) w _ _ a n c n' c' Try.underlying22
  go_enter Try.func9, Try.ntmps9
  go_wp2
  go_ret
  exact ⟨rfl, rfl⟩

set_option maxHeartbeats 400000 in
theorem cloneU64_zero (x : Addr) (cap : Nat) (w : World) :
    Calls Try.prog 9 #[.slice (some x) 0 cap] w fun e w' => e = .returned (.slice (some ⟨w.heap.size, 0, none⟩) 0 0) ∧ Below w.heap.size w w' := by
  have q := fun (w : World) (a : Option Addr) (n c n' c' : Nat) => Lib.run_eql_slice_nil (P := Try.prog) w _ _ a n c n' c' Try.underlying22
  have hmk : ∀ w, (Instr.makeSlice 22 (.int .i64 0) (.int .i64 0)).run Try.prog w = .ok (.slice (some ⟨w.heap.size, 0, none⟩) 0 0) (w.alloc (.cells (madeCells #[.int .u64 0] 0) 24)) := run_make_row' (P := Try.prog) 22 24 (.int .u64 0) 8 Try.underlying22 info24 rfl .i64 .i64 0 (by omega) (by omega)
  go_enter Try.func9, Try.ntmps9
  go_wp2
  refine wp_loop_rounds 1 ?_
  rw [rounds_succ]
  go_wp2
  go_ret
  exact ⟨rfl, (Below.refl _ _).alloc (Nat.le_refl _) _⟩

set_option maxHeartbeats 400000 in
theorem cloneU64_some (b o n cap : Nat) (S : Nat → Int) (w : World) (hn : n ≤ 1048576) (hc : ∀ i, i < n → w.cell? ⟨b, o + i, none⟩ = some (.int .u64 (S i))) :
    Calls Try.prog 9 #[.slice (some ⟨b, o, none⟩) n cap] w fun e w' => e = .returned (.slice (some ⟨w.heap.size, 0, none⟩) n n) ∧ (∀ i, i < n → w'.cell? ⟨w.heap.size, i, none⟩ = some (.int .u64 (S i))) ∧ Below w.heap.size w w' := by
  have q := fun (w : World) (a : Option Addr) (n c n' c' : Nat) => Lib.run_eql_slice_nil (P := Try.prog) w _ _ a n c n' c' Try.underlying22
  have hmk := run_make_row' (P := Try.prog) 22 24 (.int .u64 0) 8 Try.underlying22 info24 rfl .i64 .i64 n (by omega) (by omega)
  go_enter Try.func9, Try.ntmps9
  go_wp2
  clear q hmk
  go_loopw [4] (fun i wr => ∃ k : Nat, k ≤ n ∧ i = .int .i64 k ∧ wr.rowIs w.heap.size 24 n (cloned .u64 S k) ∧ Below w.heap.size w wr) (fun i _ => n - (intOf i).toNat)
  case atStart => exact ⟨0, Nat.zero_le _, rfl, (World.rowIs_made w (.int .u64 0) n 24).congr (fun i _ => (cloned_zero .u64 S i).symm), (Below.refl _ _).alloc (Nat.le_refl _) _⟩
  case round =>
    obtain ⟨k, hk, rfl, hrow, hbel⟩ := hrel
    by_cases hlt : k < n
    · have e0 : wr.cell? ⟨b, o + k, none⟩ = some (.int .u64 (S k)) := cell_keep hbel (hc k hlt)
      have e1 : wr.cell? ⟨w.heap.size, k, none⟩ = some (.int .u64 0) := by rw [hrow.cell hlt, cloned_past]
      have e2 : wr.frozen? ⟨w.heap.size, k, none⟩ = false := hrow.frozen k
      clear hc
      go_wp2
      go_roundw
      case rel => exact ⟨k + 1, by omega, by go_num, (hrow.set k (.int .u64 (S k))).congr (fun i _ => cloned_step .u64 S k i), hbel.setCell (Nat.le_refl _) _⟩
      case measure => simp [intOf]; omega
    · obtain rfl : k = n := by omega
      go_wp2
      go_ret
      exact ⟨rfl, fun i hi => by rw [hrow.cell hi, cloned_below _ _ hi], hbel⟩

theorem cloneU64_at (a : Option Addr) (n cap : Nat) (S : Nat → Int) (w : World) (hn : n ≤ 1048576) (ha : a = none → n = 0) (h : IntsAt .u64 w a n S) :
    Calls Try.prog 9 #[.slice a n cap] w fun e w' => ∃ a' cap', e = .returned (.slice a' n cap') ∧ (a' = none → n = 0) ∧ IntsAt .u64 w' a' n S ∧ Below w.heap.size w w' := by
  cases a with
  | none =>
    obtain rfl := ha rfl
    refine (cloneU64_nil cap w).mono ?_
    rintro e w' ⟨rfl, rfl⟩
    exact ⟨none, 0, rfl, fun _ => rfl, .inl rfl, Below.refl _ _⟩
  | some y =>
    rcases h with rfl | ⟨b, o, hy, hc⟩
    · refine (cloneU64_zero y cap w).mono ?_
      rintro e w' ⟨rfl, hb⟩
      exact ⟨_, 0, rfl, fun _ => rfl, .inl rfl, hb⟩
    · obtain rfl := Option.some.inj hy
      refine (cloneU64_some b o n cap S w hn hc).mono ?_
      rintro e w' ⟨rfl, hc', hb⟩
      exact ⟨_, n, rfl, (fun h => by cases h), .inr ⟨w.heap.size, 0, rfl, fun i hi => by rw [Nat.zero_add]; exact hc' i hi⟩, hb⟩

theorem info3 : (Try.prog.info? 3).map (fun i => (i.zero, i.size, i.bytes)) = some (some (.int .i64 0), 1, 8) := by kernel_rfl

theorem cloneInt_nil (cap : Nat) (w : World) :
    Calls Try.prog 10 #[.slice none 0 cap] w fun e w' => e = .returned (.slice none 0 0) ∧ w' = w := by
  have q := fun (w : World) (a : Option Addr) (n c n' c' : Nat) => Lib.run_eql_slice_nil (P := Try.prog) w _ _ a n c n' c' Try.underlying23
  go_enter Try.func10, Try.ntmps10
  go_wp2
  go_ret
  exact ⟨rfl, rfl⟩

set_option maxHeartbeats 400000 in
theorem cloneInt_zero (x : Addr) (cap : Nat) (w : World) :
    Calls Try.prog 10 #[.slice (some x) 0 cap] w fun e w' => e = .returned (.slice (some ⟨w.heap.size, 0, none⟩) 0 0) ∧ Below w.heap.size w w' := by
  have q := fun (w : World) (a : Option Addr) (n c n' c' : Nat) => Lib.run_eql_slice_nil (P := Try.prog) w _ _ a n c n' c' Try.underlying23
  have hmk : ∀ w, (Instr.makeSlice 23 (.int .i64 0) (.int .i64 0)).run Try.prog w = .ok (.slice (some ⟨w.heap.size, 0, none⟩) 0 0) (w.alloc (.cells (madeCells #[.int .i64 0] 0) 3)) := run_make_row' (P := Try.prog) 23 3 (.int .i64 0) 8 Try.underlying23 info3 rfl .i64 .i64 0 (by omega) (by omega)
  go_enter Try.func10, Try.ntmps10
  go_wp2
  refine wp_loop_rounds 1 ?_
  rw [rounds_succ]
  go_wp2
  go_ret
  exact ⟨rfl, (Below.refl _ _).alloc (Nat.le_refl _) _⟩

set_option maxHeartbeats 400000 in
theorem cloneInt_some (b o n cap : Nat) (S : Nat → Int) (w : World) (hn : n ≤ 1048576) (hc : ∀ i, i < n → w.cell? ⟨b, o + i, none⟩ = some (.int .i64 (S i))) :
    Calls Try.prog 10 #[.slice (some ⟨b, o, none⟩) n cap] w fun e w' => e = .returned (.slice (some ⟨w.heap.size, 0, none⟩) n n) ∧ (∀ i, i < n → w'.cell? ⟨w.heap.size, i, none⟩ = some (.int .i64 (S i))) ∧ Below w.heap.size w w' := by
  have q := fun (w : World) (a : Option Addr) (n c n' c' : Nat) => Lib.run_eql_slice_nil (P := Try.prog) w _ _ a n c n' c' Try.underlying23
  have hmk := run_make_row' (P := Try.prog) 23 3 (.int .i64 0) 8 Try.underlying23 info3 rfl .i64 .i64 n (by omega) (by omega)
  go_enter Try.func10, Try.ntmps10
  go_wp2
  clear q hmk
  go_loopw [4] (fun i wr => ∃ k : Nat, k ≤ n ∧ i = .int .i64 k ∧ wr.rowIs w.heap.size 3 n (cloned .i64 S k) ∧ Below w.heap.size w wr) (fun i _ => n - (intOf i).toNat)
  case atStart => exact ⟨0, Nat.zero_le _, rfl, (World.rowIs_made w (.int .i64 0) n 3).congr (fun i _ => (cloned_zero .i64 S i).symm), (Below.refl _ _).alloc (Nat.le_refl _) _⟩
  case round =>
    obtain ⟨k, hk, rfl, hrow, hbel⟩ := hrel
    by_cases hlt : k < n
    · have e0 : wr.cell? ⟨b, o + k, none⟩ = some (.int .i64 (S k)) := cell_keep hbel (hc k hlt)
      have e1 : wr.cell? ⟨w.heap.size, k, none⟩ = some (.int .i64 0) := by rw [hrow.cell hlt, cloned_past]
      have e2 : wr.frozen? ⟨w.heap.size, k, none⟩ = false := hrow.frozen k
      clear hc
      go_wp2
      go_roundw
      case rel => exact ⟨k + 1, by omega, by go_num, (hrow.set k (.int .i64 (S k))).congr (fun i _ => cloned_step .i64 S k i), hbel.setCell (Nat.le_refl _) _⟩
      case measure => simp [intOf]; omega
    · obtain rfl : k = n := by omega
      go_wp2
      go_ret
      exact ⟨rfl, fun i hi => by rw [hrow.cell hi, cloned_below _ _ hi], hbel⟩

theorem cloneInt_at (a : Option Addr) (n cap : Nat) (S : Nat → Int) (w : World) (hn : n ≤ 1048576) (ha : a = none → n = 0) (h : IntsAt .i64 w a n S) :
    Calls Try.prog 10 #[.slice a n cap] w fun e w' => ∃ a' cap', e = .returned (.slice a' n cap') ∧ (a' = none → n = 0) ∧ IntsAt .i64 w' a' n S ∧ Below w.heap.size w w' := by
  cases a with
  | none =>
    obtain rfl := ha rfl
    refine (cloneInt_nil cap w).mono ?_
    rintro e w' ⟨rfl, rfl⟩
    exact ⟨none, 0, rfl, fun _ => rfl, .inl rfl, Below.refl _ _⟩
  | some y =>
    rcases h with rfl | ⟨b, o, hy, hc⟩
    · refine (cloneInt_zero y cap w).mono ?_
      rintro e w' ⟨rfl, hb⟩
      exact ⟨_, 0, rfl, fun _ => rfl, .inl rfl, hb⟩
    · obtain rfl := Option.some.inj hy
      refine (cloneInt_some b o n cap S w hn hc).mono ?_
      rintro e w' ⟨rfl, hc', hb⟩
      exact ⟨_, n, rfl, (fun h => by cases h), .inr ⟨w.heap.size, 0, rfl, fun i hi => by rw [Nat.zero_add]; exact hc' i hi⟩, hb⟩

end Go.Proofs.Qxb6603902a
