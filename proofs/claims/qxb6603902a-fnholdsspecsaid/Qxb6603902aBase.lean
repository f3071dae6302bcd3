/-
  Plain words for the walks over seat b6603902a: what lies in memory, and the plain functions that the Go text computes. No Go text here.
-/
import Derived.WalkKit
import Derived.Deep.OwnRows
namespace Go.Proofs.Qxb6603902a
open Go.RowKit

/-- So many of the first n pairs (S i, X i) are (s, x). -/
def cnt (S X : Nat → Int) (s x : Int) : Nat → Nat
  | 0 => 0
  | n + 1 => cnt S X s x n + if S n = s ∧ X n = x then 1 else 0

/-- Is (s, x) one of the first n pairs? -/
def hit (S X : Nat → Int) (s x : Int) : Nat → Bool
  | 0 => false
  | n + 1 => hit S X s x n || decide (S n = s ∧ X n = x)

theorem cnt_le (S X : Nat → Int) (s x : Int) (n : Nat) : cnt S X s x n ≤ n := by
  induction n with
  | zero => exact Nat.le_refl _
  | succ n ih => simp only [cnt]; split <;> omega

theorem cnt_hit (S X : Nat → Int) (s x : Int) (n : Nat) : decide (0 < cnt S X s x n) = hit S X s x n := by
  induction n with
  | zero => rfl
  | succ n ih =>
    simp only [cnt, hit, ← ih]
    by_cases h : S n = s ∧ X n = x <;> simp [h]

theorem hit_mono (S X : Nat → Int) (s x : Int) (k n : Nat) (h : k ≤ n) (hk : hit S X s x k = true) : hit S X s x n = true := by
  induction n with
  | zero => obtain rfl : k = 0 := by omega
            exact hk
  | succ n ih =>
    by_cases e : k = n + 1
    · subst e; exact hk
    · simp [hit, ih (by omega)]

theorem hit_here (S X : Nat → Int) (s x : Int) (k n : Nat) (h : k < n) (h1 : S k = s) (h2 : X k = x) : hit S X s x n = true :=
  hit_mono S X s x (k + 1) n h (by simp [hit, h1, h2])

theorem hit_miss (S X : Nat → Int) (s x : Int) (k : Nat) (hk : hit S X s x k = false) (h : ¬ (S k = s ∧ X k = x)) : hit S X s x (k + 1) = false := by
  simp [hit, hk, h]

theorem hit_congr {S X S' X' : Nat → Int} {s x : Int} {n : Nat} (h : ∀ i, i < n → S i = S' i ∧ X i = X' i) : hit S X s x n = hit S' X' s x n := by
  induction n with
  | zero => rfl
  | succ n ih =>
    simp only [hit]
    rw [ih (fun i hi => h i (by omega)), (h n (by omega)).1, (h n (by omega)).2]

/-- What a Match answers. -/
def hitB (any : Bool) (n : Nat) (S X : Nat → Int) (s x : Int) : Bool := any || hit S X s x n

/-- n integers lie behind the slice's address. -/
def IntsAt (k : IntKind) (w : World) (a : Option Addr) (n : Nat) (S : Nat → Int) : Prop :=
  n = 0 ∨ ∃ b o, a = some ⟨b, o, none⟩ ∧ ∀ i, i < n → w.cell? ⟨b, o + i, none⟩ = some (.int k (S i))

/-- n versions lie at the head of a block. -/
def VersAt (w : World) (a : Option Addr) (n : Nat) (S X : Nat → Int) : Prop :=
  n = 0 ∨ ∃ b, a = some ⟨b, 0, none⟩ ∧ ∀ i, i < n → w.cell? ⟨b, i * 2, none⟩ = some (.int .u64 (S i)) ∧ w.cell? ⟨b, i * 2 + 1, none⟩ = some (.int .i64 (X i))

/-- A Match lies at block b. -/
def MatchAt (w : World) (b : Nat) (any : Bool) (n : Nat) (S X : Nat → Int) : Prop :=
  n ≤ 1048576 ∧ ∃ av cap, w.cell? ⟨b, 0, none⟩ = some (.bool any) ∧ w.cell? ⟨b, 1, none⟩ = some (.slice av n cap) ∧ VersAt w av n S X

theorem cell_lt {w : World} {a : Addr} {v : Value} (h : w.cell? a = some v) : a.block < w.heap.size := by
  by_cases hb : a.block < w.heap.size
  · exact hb
  · simp [World.cell?, hb] at h

theorem cell_keep {w w' : World} (hb : Below w.heap.size w w') {a : Addr} {v : Value} (h : w.cell? a = some v) : w'.cell? a = some v := by
  rw [hb.cell (cell_lt h)]; exact h

theorem IntsAt.keep {k : IntKind} {w w' : World} {a : Option Addr} {n : Nat} {S : Nat → Int} (h : IntsAt k w a n S) (hb : Below w.heap.size w w') : IntsAt k w' a n S := by
  rcases h with h | ⟨b, o, ha, hc⟩
  · exact .inl h
  · exact .inr ⟨b, o, ha, fun i hi => cell_keep hb (hc i hi)⟩

theorem VersAt.keep {w w' : World} {a : Option Addr} {n : Nat} {S X : Nat → Int} (h : VersAt w a n S X) (hb : Below w.heap.size w w') : VersAt w' a n S X := by
  rcases h with h | ⟨b, ha, hc⟩
  · exact .inl h
  · exact .inr ⟨b, ha, fun i hi => ⟨cell_keep hb (hc i hi).1, cell_keep hb (hc i hi).2⟩⟩

theorem MatchAt.keep {w w' : World} {b : Nat} {any : Bool} {n : Nat} {S X : Nat → Int} (h : MatchAt w b any n S X) (hb : Below w.heap.size w w') : MatchAt w' b any n S X := by
  obtain ⟨hn, av, cap, h0, h1, hv⟩ := h
  exact ⟨hn, av, cap, cell_keep hb h0, cell_keep hb h1, hv.keep hb⟩

theorem ret_bool {a b : Bool} (h : a = b) : Ending.returned (.bool a) = .returned (.bool b) := by rw [h]

end Go.Proofs.Qxb6603902a
