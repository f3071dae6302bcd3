/-
  (Condition).holds, ZZHolds: their contracts.
-/
import Derived.Test.Qxb6603902aMatches
namespace Go.Proofs.Qxb6603902a
open Go.RowKit

/-- A field of a Condition: nil ('has' is false), or a pointer to a Match. -/
def OptAt (w : World) (v : Value) (has any : Bool) (n : Nat) (S X : Nat → Int) : Prop :=
  (has = false ∧ v = .pointer none) ∨ (has = true ∧ ∃ b, v = .pointer (some ⟨b, 0, none⟩) ∧ MatchAt w b any n S X)

theorem OptAt.keep {w w' : World} {v : Value} {has any : Bool} {n : Nat} {S X : Nat → Int} (h : OptAt w v has any n S X) (hb : Below w.heap.size w w') : OptAt w' v has any n S X := by
  rcases h with h | ⟨h, b, hv, hm⟩
  · exact .inl h
  · exact .inr ⟨h, b, hv, hm.keep hb⟩

/-- What a Condition answers: 'has', 'hit' of If-Match and of If-None-Match. -/
def holdsB (has1 hit1 has2 hit2 found : Bool) : Bool :=
  !(has1 && !(found && hit1)) && (!has2 || !found || !hit2)

/-- The world in which the body of holds begins. -/
def hw (w : World) (v1 v2 : Value) (s x : Int) : World := (w.alloc (.cells #[v1, v2] 40)).alloc (.cells #[.int .u64 s, .int .i64 x] 35)
theorem hw_below (w : World) (v1 v2 : Value) (s x : Int) : Below w.heap.size w (hw w v1 v2 s x) := ((Below.refl _ _).alloc (Nat.le_refl _) _).alloc (by simp) _
theorem hw_size (w : World) (v1 v2 : Value) (s x : Int) : (hw w v1 v2 s x).heap.size = w.heap.size + 2 := by simp [hw]

theorem belT {w w1 w2 : World} (h : Below w.heap.size w w1) (h' : Below w1.heap.size w1 w2) : Below w.heap.size w w2 := h.trans (h'.mono h.size)

theorem hw_cells {w : World} {v1 v2 : Value} {s x : Int} {w' : World} (hb : Below (hw w v1 v2 s x).heap.size (hw w v1 v2 s x) w') :
    w'.cell? ⟨w.heap.size, 0, none⟩ = some v1 ∧ w'.cell? ⟨w.heap.size, 1, none⟩ = some v2 ∧ w'.cell? ⟨w.heap.size + 1, 0, none⟩ = some (.int .u64 s) ∧ w'.cell? ⟨w.heap.size + 1, 1, none⟩ = some (.int .i64 x) := by
  refine ⟨cell_keep hb ?_, cell_keep hb ?_, cell_keep hb ?_, cell_keep hb ?_⟩ <;> simp [hw]

set_option maxHeartbeats 400000 in
theorem holds_00 (found : Bool) (s x : Int) (w : World) :
    Calls Try.prog 19 #[.agg #[.pointer none, .pointer none], .bool found, .agg #[.int .u64 s, .int .i64 x]] w fun e w' => e = .returned (.bool true) ∧ Below w.heap.size w w' := by
  go_enter Try.func19, Try.ntmps19
  go_wp2
  go_ret
  exact ⟨rfl, hw_below _ _ _ _ _⟩

set_option maxHeartbeats 400000 in
theorem holds_01f (b : Nat) (s x : Int) (w : World) :
    Calls Try.prog 19 #[.agg #[.pointer none, .pointer (some ⟨b, 0, none⟩)], .bool false, .agg #[.int .u64 s, .int .i64 x]] w fun e w' => e = .returned (.bool true) ∧ Below w.heap.size w w' := by
  go_enter Try.func19, Try.ntmps19
  go_wp2
  go_ret
  exact ⟨rfl, hw_below _ _ _ _ _⟩

set_option maxHeartbeats 400000 in
theorem holds_01t (b : Nat) (any : Bool) (n : Nat) (S X : Nat → Int) (s x : Int) (w : World) (h : MatchAt w b any n S X) :
    Calls Try.prog 19 #[.agg #[.pointer none, .pointer (some ⟨b, 0, none⟩)], .bool true, .agg #[.int .u64 s, .int .i64 x]] w fun e w' => e = .returned (.bool (!hitB any n S X s x)) ∧ Below w.heap.size w w' := by
  go_enter Try.func19, Try.ntmps19
  go_wp2_with fail
  have hb := hw_below w (.pointer none) (.pointer (some ⟨b, 0, none⟩)) s x
  refine (matches_at b any n S X s x _ (h.keep hb)).mono ?_
  rintro e w' ⟨rfl, hb'⟩
  go_wp2
  go_ret
  exact ⟨rfl, belT hb hb'⟩

set_option maxHeartbeats 400000 in
theorem holds_1f (b : Nat) (v2 : Value) (s x : Int) (w : World) :
    Calls Try.prog 19 #[.agg #[.pointer (some ⟨b, 0, none⟩), v2], .bool false, .agg #[.int .u64 s, .int .i64 x]] w fun e w' => e = .returned (.bool false) ∧ Below w.heap.size w w' := by
  go_enter Try.func19, Try.ntmps19
  go_wp2
  go_ret
  exact ⟨rfl, hw_below _ _ _ _ _⟩

set_option maxHeartbeats 400000 in
theorem holds_1tf (b : Nat) (v2 : Value) (any : Bool) (n : Nat) (S X : Nat → Int) (s x : Int) (w : World) (h : MatchAt w b any n S X) (hh : hitB any n S X s x = false) :
    Calls Try.prog 19 #[.agg #[.pointer (some ⟨b, 0, none⟩), v2], .bool true, .agg #[.int .u64 s, .int .i64 x]] w fun e w' => e = .returned (.bool false) ∧ Below w.heap.size w w' := by
  go_enter Try.func19, Try.ntmps19
  go_wp2_with fail
  have hb := hw_below w (.pointer (some ⟨b, 0, none⟩)) v2 s x
  refine (matches_at b any n S X s x _ (h.keep hb)).mono ?_
  rw [hh]
  rintro e w' ⟨rfl, hb'⟩
  go_wp2
  go_ret
  exact ⟨rfl, belT hb hb'⟩

set_option maxHeartbeats 400000 in
theorem holds_1tt0 (b : Nat) (any : Bool) (n : Nat) (S X : Nat → Int) (s x : Int) (w : World) (h : MatchAt w b any n S X) (hh : hitB any n S X s x = true) :
    Calls Try.prog 19 #[.agg #[.pointer (some ⟨b, 0, none⟩), .pointer none], .bool true, .agg #[.int .u64 s, .int .i64 x]] w fun e w' => e = .returned (.bool true) ∧ Below w.heap.size w w' := by
  go_enter Try.func19, Try.ntmps19
  go_wp2_with fail
  have hb := hw_below w (.pointer (some ⟨b, 0, none⟩)) (.pointer none) s x
  refine (matches_at b any n S X s x _ (h.keep hb)).mono ?_
  rw [hh]
  rintro e w' ⟨rfl, hb'⟩
  obtain ⟨c0, c1, c2, c3⟩ := hw_cells hb'
  go_wp2
  go_ret
  exact ⟨rfl, belT hb hb'⟩

set_option maxHeartbeats 400000 in
theorem holds_1tt1 (b : Nat) (any : Bool) (n : Nat) (S X : Nat → Int) (b2 : Nat) (any2 : Bool) (n2 : Nat) (S2 X2 : Nat → Int) (s x : Int) (w : World) (h : MatchAt w b any n S X) (hh : hitB any n S X s x = true) (h2 : MatchAt w b2 any2 n2 S2 X2) :
    Calls Try.prog 19 #[.agg #[.pointer (some ⟨b, 0, none⟩), .pointer (some ⟨b2, 0, none⟩)], .bool true, .agg #[.int .u64 s, .int .i64 x]] w fun e w' => e = .returned (.bool (!hitB any2 n2 S2 X2 s x)) ∧ Below w.heap.size w w' := by
  go_enter Try.func19, Try.ntmps19
  go_wp2_with fail
  have hb := hw_below w (.pointer (some ⟨b, 0, none⟩)) (.pointer (some ⟨b2, 0, none⟩)) s x
  refine (matches_at b any n S X s x _ (h.keep hb)).mono ?_
  rw [hh]
  rintro e w' ⟨rfl, hb'⟩
  obtain ⟨c0, c1, c2, c3⟩ := hw_cells hb'
  go_wp2_with fail
  refine (matches_at b2 any2 n2 S2 X2 s x _ (h2.keep (belT hb hb'))).mono ?_
  rintro e w'' ⟨rfl, hb''⟩
  go_wp2
  go_ret
  exact ⟨rfl, belT (belT hb hb') hb''⟩

theorem holds_at (v1 : Value) (has1 any1 : Bool) (n1 : Nat) (S1 X1 : Nat → Int) (v2 : Value) (has2 any2 : Bool) (n2 : Nat) (S2 X2 : Nat → Int) (found : Bool) (s x : Int) (w : World)
    (h1 : OptAt w v1 has1 any1 n1 S1 X1) (h2 : OptAt w v2 has2 any2 n2 S2 X2) :
    Calls Try.prog 19 #[.agg #[v1, v2], .bool found, .agg #[.int .u64 s, .int .i64 x]] w fun e w' => e = .returned (.bool (holdsB has1 (hitB any1 n1 S1 X1 s x) has2 (hitB any2 n2 S2 X2 s x) found)) ∧ Below w.heap.size w w' := by
  rcases h1 with ⟨rfl, rfl⟩ | ⟨rfl, b1, rfl, m1⟩
  · rcases h2 with ⟨rfl, rfl⟩ | ⟨rfl, b2, rfl, m2⟩
    · simpa [holdsB] using holds_00 found s x w
    · cases found with
      | false => simpa [holdsB] using holds_01f b2 s x w
      | true => simpa [holdsB] using holds_01t b2 any2 n2 S2 X2 s x w m2
  · cases found with
    | false => simpa [holdsB] using holds_1f b1 v2 s x w
    | true =>
      cases hh : hitB any1 n1 S1 X1 s x with
      | false => simpa [holdsB] using holds_1tf b1 v2 any1 n1 S1 X1 s x w m1 hh
      | true =>
        rcases h2 with ⟨rfl, rfl⟩ | ⟨rfl, b2, rfl, m2⟩
        · simpa [holdsB] using holds_1tt0 b1 any1 n1 S1 X1 s x w m1 hh
        · simpa [holdsB] using holds_1tt1 b1 any1 n1 S1 X1 b2 any2 n2 S2 X2 s x w m1 hh m2

set_option maxHeartbeats 400000 in
theorem zzHolds_at (v1 : Value) (has1 any1 : Bool) (n1 : Nat) (S1 X1 : Nat → Int) (v2 : Value) (has2 any2 : Bool) (n2 : Nat) (S2 X2 : Nat → Int) (found : Bool) (s x : Int) (w : World)
    (h1 : OptAt w v1 has1 any1 n1 S1 X1) (h2 : OptAt w v2 has2 any2 n2 S2 X2) :
    Calls Try.prog 16 #[.agg #[v1, v2], .bool found, .agg #[.int .u64 s, .int .i64 x]] w fun e w' => e = .returned (.bool (holdsB has1 (hitB any1 n1 S1 X1 s x) has2 (hitB any2 n2 S2 X2 s x) found)) ∧ Below w.heap.size w w' := by
  have hb := hw_below w v1 v2 s x
  have g1 := h1.keep hb
  have g2 := h2.keep hb
  have o1 : ∃ a, v1 = .pointer a := by rcases h1 with ⟨_, h⟩ | ⟨_, b, h, _⟩ <;> exact ⟨_, h⟩
  have o2 : ∃ a, v2 = .pointer a := by rcases h2 with ⟨_, h⟩ | ⟨_, b, h, _⟩ <;> exact ⟨_, h⟩
  obtain ⟨a1, rfl⟩ := o1
  obtain ⟨a2, rfl⟩ := o2
  clear h1 h2
  go_enter Try.func16, Try.ntmps16
  go_wp2_with fail
  refine (holds_at _ has1 any1 n1 S1 X1 _ has2 any2 n2 S2 X2 found s x _ g1 g2).mono ?_
  rintro e w' ⟨rfl, hb'⟩
  go_wp2
  go_ret
  exact ⟨rfl, belT hb hb'⟩

end Go.Proofs.Qxb6603902a
