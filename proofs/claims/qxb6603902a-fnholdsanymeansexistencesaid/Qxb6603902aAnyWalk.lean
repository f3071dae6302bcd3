/-
  FnHoldsAnyMeansExistence: the walk.
-/
import Derived.Test.Qxb6603902aHolds
namespace Go.Proofs.Qxb6603902a
open Go.RowKit

def Z0 : Nat → Int := fun _ => 0
/-- A Match that lists nothing. -/
theorem bare_match {w : World} {b : Nat} {any : Bool} (av : Option Addr) (cap : Nat) (h0 : w.cell? ⟨b, 0, none⟩ = some (.bool any)) (h1 : w.cell? ⟨b, 1, none⟩ = some (.slice av 0 cap)) : MatchAt w b any 0 Z0 Z0 :=
  ⟨by omega, av, cap, h0, h1, .inl rfl⟩
theorem opt_im {w : World} {b : Nat} {any : Bool} {n : Nat} {S X : Nat → Int} (h : MatchAt w b any n S X) : OptAt w (.pointer (some ⟨b, 0, none⟩)) true any n S X := .inr ⟨rfl, b, rfl, h⟩
theorem opt_no (w : World) : OptAt w (.pointer none) false false 0 Z0 Z0 := .inl ⟨rfl, rfl⟩

theorem zz_im (b : Nat) (any found r : Bool) (s x : Int) (w : World) (hr : r = (found && any)) (h : MatchAt w b any 0 Z0 Z0) :
    Calls Try.prog 16 #[.agg #[.pointer (some ⟨b, 0, none⟩), .pointer none], .bool found, .agg #[.int .u64 s, .int .i64 x]] w fun e w' => e = .returned (.bool r) ∧ Below w.heap.size w w' := by
  have e : holdsB true (hitB any 0 Z0 Z0 s x) false (hitB false 0 Z0 Z0 s x) found = r := by subst hr; cases any <;> cases found <;> rfl
  have := zzHolds_at _ true any 0 Z0 Z0 _ false false 0 Z0 Z0 found s x w (opt_im h) (opt_no _)
  rw [e] at this
  exact this

theorem zz_inm (b : Nat) (any found r : Bool) (s x : Int) (w : World) (hr : r = (!found || !any)) (h : MatchAt w b any 0 Z0 Z0) :
    Calls Try.prog 16 #[.agg #[.pointer none, .pointer (some ⟨b, 0, none⟩)], .bool found, .agg #[.int .u64 s, .int .i64 x]] w fun e w' => e = .returned (.bool r) ∧ Below w.heap.size w w' := by
  have e : holdsB false (hitB false 0 Z0 Z0 s x) true (hitB any 0 Z0 Z0 s x) found = r := by subst hr; cases any <;> cases found <;> rfl
  have := zzHolds_at _ false false 0 Z0 Z0 _ true any 0 Z0 Z0 found s x w (opt_no _) (opt_im h)
  rw [e] at this
  exact this

/-- What is known of the world behind each call. -/
theorem next1 {w W w1 : World} {o : Obj} {s x : Int} (hW : Below w.heap.size w W) (hz : w.heap.size < W.heap.size) (c : W.cell? ⟨w.heap.size, 0, none⟩ = some (.int .u64 s)) (d : W.cell? ⟨w.heap.size, 1, none⟩ = some (.int .i64 x))
    (hb : Below (W.alloc o).heap.size (W.alloc o) w1) :
    Below w.heap.size w w1 ∧ w.heap.size < w1.heap.size ∧ w1.cell? ⟨w.heap.size, 0, none⟩ = some (.int .u64 s) ∧ w1.cell? ⟨w.heap.size, 1, none⟩ = some (.int .i64 x) := by
  have h1 : Below W.heap.size W (W.alloc o) := (Below.refl _ _).alloc (Nat.le_refl _) _
  have h2 := belT h1 hb
  exact ⟨belT hW h2, by have := h2.size; omega, cell_keep h2 c, cell_keep h2 d⟩

theorem next2 {w W w1 : World} {o o' : Obj} {s x : Int} (hW : Below w.heap.size w W) (hz : w.heap.size < W.heap.size) (c : W.cell? ⟨w.heap.size, 0, none⟩ = some (.int .u64 s)) (d : W.cell? ⟨w.heap.size, 1, none⟩ = some (.int .i64 x))
    (hb : Below ((W.alloc o).alloc o').heap.size ((W.alloc o).alloc o') w1) :
    Below w.heap.size w w1 ∧ w.heap.size < w1.heap.size ∧ w1.cell? ⟨w.heap.size, 0, none⟩ = some (.int .u64 s) ∧ w1.cell? ⟨w.heap.size, 1, none⟩ = some (.int .i64 x) := by
  obtain ⟨B, z, c', d'⟩ := next1 hW hz c d (Below.refl _ (W.alloc o))
  exact next1 B z c' d' hb

theorem next0 {w : World} {s x : Int} {W : World} (hW : W = w.alloc (.cells #[.int .u64 s, .int .i64 x] 35)) :
    Below w.heap.size w W ∧ w.heap.size < W.heap.size ∧ W.cell? ⟨w.heap.size, 0, none⟩ = some (.int .u64 s) ∧ W.cell? ⟨w.heap.size, 1, none⟩ = some (.int .i64 x) := by
  subst hW
  exact ⟨(Below.refl _ _).alloc (Nat.le_refl _) _, by simp, by simp, by simp⟩

set_option maxHeartbeats 1000000 in
theorem any_walk (a0 : Bool) (s x : Int) (w : World) :
    Calls Try.prog 7 #[.bool a0, .int .u64 s, .int .i64 x] w fun e w' => e = .returned (.bool true) ∧ Below w.heap.size w w' := by
  go_enter Try.func7, Try.ntmps7
  go_wp2_with fail
  obtain ⟨B0, z0, c0, d0⟩ := next0 (w := w) (s := s) (x := x) rfl
  refine (zz_im _ true a0 a0 s x _ (by simp) (bare_match none 0 (by simp) (by simp))).mono ?_
  rintro e w1 ⟨rfl, hb1⟩
  obtain ⟨B1, z1, c1, d1⟩ := next1 B0 z0 c0 d0 hb1
  clear hb1 B0 z0 c0 d0
  go_wp2_with fail
  refine (zz_inm _ true a0 (!a0) s x _ (by simp) (bare_match none 0 (by simp) (by simp))).mono ?_
  rintro e w2 ⟨rfl, hb2⟩
  obtain ⟨B2, z2, c2, d2⟩ := next1 B1 z1 c1 d1 hb2
  clear hb2 B1 z1 c1 d1
  go_wp2_with fail
  refine (zz_im _ false a0 false s x _ (by simp) (bare_match none 0 (by simp) (by simp))).mono ?_
  rintro e w3 ⟨rfl, hb3⟩
  obtain ⟨B3, z3, c3, d3⟩ := next1 B2 z2 c2 d2 hb3
  clear hb3 B2 z2 c2 d2
  go_wp2_with fail
  refine (zz_inm _ false a0 true s x _ (by simp) (bare_match none 0 (by simp) (by simp))).mono ?_
  rintro e w4 ⟨rfl, hb4⟩
  obtain ⟨B4, z4, c4, d4⟩ := next1 B3 z3 c3 d3 hb4
  clear hb4 B3 z3 c3 d3
  go_wp2_with fail
  refine (zz_im _ false a0 false s x _ (by simp) (bare_match (some ⟨w4.heap.size, 0, none⟩) 0 (by simp) (by simp))).mono ?_
  rintro e w5 ⟨rfl, hb5⟩
  obtain ⟨B5, z5, c5, d5⟩ := next2 B4 z4 c4 d4 hb5
  clear hb5 B4 z4 c4 d4
  go_wp2_with fail
  refine (zz_inm _ false a0 true s x _ (by simp) (bare_match (some ⟨w5.heap.size, 0, none⟩) 0 (by simp) (by simp))).mono ?_
  rintro e w6 ⟨rfl, hb6⟩
  obtain ⟨B6, z6, c6, d6⟩ := next2 B5 z5 c5 d5 hb6
  clear hb6 B5 z5 c5 d5
  go_wp2
  go_ret
  exact ⟨by simp, B6⟩
end Go.Proofs.Qxb6603902a
