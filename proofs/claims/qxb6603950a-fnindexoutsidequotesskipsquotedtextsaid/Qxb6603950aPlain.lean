/-
  The plain functions that the Go text of seat b6603950a computes, and the plain laws. No Go text here.
-/
import Derived.WalkKit
namespace Go.Proofs.Qxb6603950a

/-- The first place of c outside quotes, from the state (quoted q, escaped e) on. -/
def scan (c : Int) : Bool → Bool → List UInt8 → Option Nat
  | _, _, [] => none
  | q, true, _ :: r => (scan c q false r).map (· + 1)
  | true, false, x :: r =>
    if (x.toNat : Int) = 92 then (scan c true true r).map (· + 1)
    else if (x.toNat : Int) = 34 then (scan c false false r).map (· + 1)
    else (scan c true false r).map (· + 1)
  | false, false, x :: r =>
    if (x.toNat : Int) = 34 then (scan c true false r).map (· + 1)
    else if (x.toNat : Int) = c then some 0
    else (scan c false false r).map (· + 1)

/-- As the Go text answers: -1 for none. -/
def place : Option Nat → Int
  | none => -1
  | some i => i

theorem scan_some (c : Int) : ∀ (l : List UInt8) (q e : Bool) (i : Nat), scan c q e l = some i →
    ∃ h : i < l.length, (l[i].toNat : Int) = c ∧ ∀ t, scan c q e (l.take (i + 1) ++ t) = some i
  | [], q, e, i, h => by cases q <;> cases e <;> simp [scan] at h
  | x :: r, q, true, i, h => by
    simp only [scan, Option.map_eq_some_iff] at h
    obtain ⟨j, hj, rfl⟩ := h
    obtain ⟨h1, h2, h3⟩ := scan_some c r q false j hj
    refine ⟨by simpa using h1, by simpa using h2, fun t => ?_⟩
    simp [scan, h3 t]
  | x :: r, true, false, i, h => by
    simp only [scan] at h
    by_cases k1 : (x.toNat : Int) = 92
    · rw [if_pos k1] at h
      obtain ⟨j, hj, rfl⟩ := Option.map_eq_some_iff.1 h
      obtain ⟨h1, h2, h3⟩ := scan_some c r true true j hj
      refine ⟨by simpa using h1, by simpa using h2, fun t => ?_⟩
      simp only [List.take_succ_cons, List.cons_append, scan, if_pos k1, h3 t]; rfl
    · rw [if_neg k1] at h
      by_cases k2 : (x.toNat : Int) = 34
      · rw [if_pos k2] at h
        obtain ⟨j, hj, rfl⟩ := Option.map_eq_some_iff.1 h
        obtain ⟨h1, h2, h3⟩ := scan_some c r false false j hj
        refine ⟨by simpa using h1, by simpa using h2, fun t => ?_⟩
        simp only [List.take_succ_cons, List.cons_append, scan, if_neg k1, if_pos k2, h3 t]; rfl
      · rw [if_neg k2] at h
        obtain ⟨j, hj, rfl⟩ := Option.map_eq_some_iff.1 h
        obtain ⟨h1, h2, h3⟩ := scan_some c r true false j hj
        refine ⟨by simpa using h1, by simpa using h2, fun t => ?_⟩
        simp only [List.take_succ_cons, List.cons_append, scan, if_neg k1, if_neg k2, h3 t]; rfl
  | x :: r, false, false, i, h => by
    simp only [scan] at h
    by_cases k1 : (x.toNat : Int) = 34
    · rw [if_pos k1] at h
      obtain ⟨j, hj, rfl⟩ := Option.map_eq_some_iff.1 h
      obtain ⟨h1, h2, h3⟩ := scan_some c r true false j hj
      refine ⟨by simpa using h1, by simpa using h2, fun t => ?_⟩
      simp only [List.take_succ_cons, List.cons_append, scan, if_pos k1, h3 t]; rfl
    · rw [if_neg k1] at h
      by_cases k2 : (x.toNat : Int) = c
      · rw [if_pos k2] at h
        obtain rfl := Option.some.inj h
        refine ⟨by simp, by simpa using k2, fun t => ?_⟩
        simp only [List.take_succ_cons, List.cons_append, scan, if_neg k1, if_pos k2]
      · rw [if_neg k2] at h
        obtain ⟨j, hj, rfl⟩ := Option.map_eq_some_iff.1 h
        obtain ⟨h1, h2, h3⟩ := scan_some c r false false j hj
        refine ⟨by simpa using h1, by simpa using h2, fun t => ?_⟩
        simp only [List.take_succ_cons, List.cons_append, scan, if_neg k1, if_neg k2, h3 t]; rfl

/-- Every quote mark and backslash with a backslash ahead of it. -/
def esc : List UInt8 → List UInt8
  | [] => []
  | x :: r => if (x.toNat : Int) = 34 ∨ (x.toNat : Int) = 92 then 92 :: x :: esc r else x :: esc r

theorem esc_append (a b : List UInt8) : esc (a ++ b) = esc a ++ esc b := by
  induction a with
  | nil => rfl
  | cons x r ih => simp only [List.cons_append, esc, ih]; split <;> rfl

theorem esc_length (a : List UInt8) : (esc a).length ≤ 2 * a.length := by
  induction a with
  | nil => exact Nat.le_refl _
  | cons x r ih => simp only [esc]; split <;> simp <;> omega

theorem scan_esc (c : Int) (t : List UInt8) : ∀ raw : List UInt8, scan c true false (esc raw ++ 34 :: t) = (scan c false false t).map (· + ((esc raw).length + 1))
  | [] => by simp [esc, scan]
  | x :: r => by
    have ih := scan_esc c t r
    simp only [esc]
    by_cases h : (x.toNat : Int) = 34 ∨ (x.toNat : Int) = 92
    · rw [if_pos h]
      simp only [List.cons_append, scan, ih]
      rw [if_pos (by decide)]
      cases scan c false false t <;> simp <;> omega
    · rw [if_neg h]
      have h1 : ¬ (x.toNat : Int) = 92 := fun k => h (.inr k)
      have h2 : ¬ (x.toNat : Int) = 34 := fun k => h (.inl k)
      simp only [List.cons_append, scan, ih, if_neg h1, if_neg h2]
      cases scan c false false t <;> simp <;> omega

/-- The quoted string. -/
def quoted (raw : List UInt8) : List UInt8 := 34 :: (esc raw ++ [34])

theorem scan_quoted (c : Int) (raw t : List UInt8) : scan c false false (quoted raw ++ t) = (scan c false false t).map (· + (quoted raw).length) := by
  have h := scan_esc c t raw
  simp only [quoted, List.cons_append, List.append_assoc, List.nil_append, scan]
  rw [if_pos (by decide), h]
  cases scan c false false t <;> simp <;> omega

/-- Which places stand outside quotes and are no quote mark: the state machine. -/
def maskL : Bool → Bool → List UInt8 → List Bool
  | _, _, [] => []
  | q, true, _ :: r => false :: maskL q false r
  | true, false, x :: r =>
    if (x.toNat : Int) = 92 then false :: maskL true true r
    else if (x.toNat : Int) = 34 then false :: maskL false false r
    else false :: maskL true false r
  | false, false, x :: r => if (x.toNat : Int) = 34 then false :: maskL true false r else true :: maskL false false r

theorem maskL_length : ∀ (l : List UInt8) (q e : Bool), (maskL q e l).length = l.length
  | [], q, e => by cases q <;> cases e <;> rfl
  | x :: r, q, true => by simp [maskL, maskL_length r]
  | x :: r, true, false => by simp only [maskL]; split <;> (try split) <;> simp [maskL_length r]
  | x :: r, false, false => by simp only [maskL]; split <;> simp [maskL_length r]

/-- The first place that the mask marks and that holds c. -/
def first (c : Int) : List UInt8 → List Bool → Option Nat
  | x :: r, m :: ms => if m = true ∧ (x.toNat : Int) = c then some 0 else (first c r ms).map (· + 1)
  | _, _ => none

theorem first_mask (c : Int) : ∀ (l : List UInt8) (q e : Bool), first c l (maskL q e l) = scan c q e l
  | [], q, e => by cases q <;> cases e <;> simp [first, scan]
  | x :: r, q, true => by simp [maskL, first, scan, first_mask c r]
  | x :: r, true, false => by
    simp only [maskL, scan]
    split
    · simp [first, first_mask c r]
    · split <;> simp [first, first_mask c r]
  | x :: r, false, false => by
    simp only [maskL, scan]
    split
    · simp [first, first_mask c r]
    · simp [first, first_mask c r]

end Go.Proofs.Qxb6603950a
