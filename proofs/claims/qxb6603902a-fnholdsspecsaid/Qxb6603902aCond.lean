/-
  FnHoldsSpec: what lies in memory while the Condition is made.
-/
import Derived.Test.Qxb6603902aHolds
import Derived.Test.Qxb6603902aVersions
import Derived.Test.Qxb6603902aCount
namespace Go.Proofs.Qxb6603902a
open Go.RowKit

set_option maxHeartbeats 400000 in
theorem bytes15 (a0 a1 : Bool) (a2 a3 : Option Addr) (n cap2 cap3 : Nat) (a4 a5 : Bool) (a6 a7 : Option Addr) (m cap6 cap7 : Nat) (a8 : Bool) (s x : Int) (w : World) (hn : n + m ≤ 65536) :
    Calls Try.prog 15 #[.bool a0, .bool a1, .slice a2 n cap2, .slice a3 n cap3, .bool a4, .bool a5, .slice a6 m cap6, .slice a7 m cap7, .bool a8, .int .u64 s, .int .i64 x] w fun e w' => e = .returned (.bool true) ∧ w' = w := by
  go_enter Try.func15, Try.ntmps15
  go_wp2
  go_ret
  exact ⟨rfl, rfl⟩

theorem hitB_t (n : Nat) (S X : Nat → Int) (s x : Int) : hitB true n S X s x = true := rfl
theorem hitB_f (n : Nat) (S X : Nat → Int) (s x : Int) : hitB false n S X s x = decide (0 < cnt S X s x n) := by rw [cnt_hit]; rfl

theorem cell_set {w : World} {b c i j : Nat} {v u : Value} (h : b ≠ c) (hb : w.cell? ⟨b, i, none⟩ = some u) : (w.setCell ⟨c, j, none⟩ v).cell? ⟨b, i, none⟩ = some u := by
  rw [World.cell?_of_block (w := w)]
  · exact hb
  · exact Below.heap_setCell _ _ _ _ h

theorem VersAt.setP {w : World} {a : Option Addr} {n : Nat} {S X : Nat → Int} {c j : Nat} {p : Option Addr} {v : Value} (h : VersAt w a n S X) (hc : w.cell? ⟨c, 0, none⟩ = some (.pointer p)) : VersAt (w.setCell ⟨c, j, none⟩ v) a n S X := by
  rcases h with h | ⟨b, ha, hv⟩
  · exact .inl h
  · by_cases h0 : n = 0
    · exact .inl h0
    · have hne : b ≠ c := by
        rintro rfl
        have := (hv 0 (by omega)).1
        simp only [Nat.zero_mul] at this
        rw [hc] at this
        cases this
      exact .inr ⟨b, ha, fun i hi => ⟨cell_set hne (hv i hi).1, cell_set hne (hv i hi).2⟩⟩

theorem MatchAt.setP {w : World} {b : Nat} {any : Bool} {n : Nat} {S X : Nat → Int} {c j : Nat} {p : Option Addr} {v : Value} (h : MatchAt w b any n S X) (hc : w.cell? ⟨c, 0, none⟩ = some (.pointer p)) : MatchAt (w.setCell ⟨c, j, none⟩ v) b any n S X := by
  obtain ⟨hn, av, cap, h0, h1, hv⟩ := h
  have hne : b ≠ c := by
    rintro rfl
    rw [hc] at h0
    cases h0
  exact ⟨hn, av, cap, cell_set hne h0, cell_set hne h1, hv.setP hc⟩

/-- The Condition that is being made, at block c. -/
def CondAt (w : World) (c : Nat) (p q : Option Addr) : Prop :=
  c < w.heap.size ∧ w.cell? ⟨c, 0, none⟩ = some (.pointer p) ∧ w.cell? ⟨c, 1, none⟩ = some (.pointer q) ∧ w.frozen? ⟨c, 0, none⟩ = false ∧ w.frozen? ⟨c, 1, none⟩ = false

theorem CondAt.keep {w w' : World} {c : Nat} {p q : Option Addr} (h : CondAt w c p q) (hb : Below w.heap.size w w') : CondAt w' c p q :=
  ⟨Nat.lt_of_lt_of_le h.1 hb.size, cell_keep hb h.2.1, cell_keep hb h.2.2.1, (hb.frozen (p := ⟨c, 0, none⟩) h.1).trans h.2.2.2.1, (hb.frozen (p := ⟨c, 1, none⟩) h.1).trans h.2.2.2.2⟩

theorem CondAt.new (w : World) : CondAt (w.alloc (.cells #[.pointer none, .pointer none] 40)) w.heap.size none none :=
  ⟨by simp, by simp, by simp, by simp, by simp⟩

/-- A new Match in a new block, its address stored into field 0. -/
def cw0 (w : World) (c : Nat) (any : Bool) (av : Option Addr) (n k : Nat) : World :=
  (w.setCell ⟨c, 0, none⟩ (.pointer (some ⟨w.heap.size, 0, none⟩))).alloc (.cells #[.bool any, .slice av n k] 32)
/-- .. into field 1. -/
def cw1 (w : World) (c : Nat) (any : Bool) (av : Option Addr) (n k : Nat) : World :=
  (w.setCell ⟨c, 1, none⟩ (.pointer (some ⟨w.heap.size, 0, none⟩))).alloc (.cells #[.bool any, .slice av n k] 32)

theorem alloc_match {w : World} {any : Bool} {av : Option Addr} {n k : Nat} {S X : Nat → Int} (hn : n ≤ 1048576) (h : VersAt w av n S X) : MatchAt (w.alloc (.cells #[.bool any, .slice av n k] 32)) w.heap.size any n S X :=
  ⟨hn, av, k, by simp, by simp, h.keep ((Below.refl _ _).alloc (Nat.le_refl _) _)⟩
theorem alloc_cond {w : World} {c : Nat} {p q : Option Addr} {o : Obj} (h : CondAt w c p q) : CondAt (w.alloc o) c p q := h.keep ((Below.refl _ _).alloc (Nat.le_refl _) _)

theorem CondAt.set0 {w : World} {c : Nat} {p q r : Option Addr} (h : CondAt w c p q) : CondAt (w.setCell ⟨c, 0, none⟩ (.pointer r)) c r q :=
  ⟨by simpa using h.1, World.cell?_setCell_same _ _ _ h.2.1, by rw [World.cell?_setCell_other (w := w) (h := by simp)]; exact h.2.2.1, by rw [World.frozen?_setCell]; exact h.2.2.2.1, by rw [World.frozen?_setCell]; exact h.2.2.2.2⟩
theorem CondAt.set1 {w : World} {c : Nat} {p q r : Option Addr} (h : CondAt w c p q) : CondAt (w.setCell ⟨c, 1, none⟩ (.pointer r)) c p r :=
  ⟨by simpa using h.1, by rw [World.cell?_setCell_other (w := w) (h := by simp)]; exact h.2.1, World.cell?_setCell_same _ _ _ h.2.2.1, by rw [World.frozen?_setCell]; exact h.2.2.2.1, by rw [World.frozen?_setCell]; exact h.2.2.2.2⟩

theorem cw0_cond {w : World} {c : Nat} {p q : Option Addr} (any : Bool) (av : Option Addr) (n k : Nat) (h : CondAt w c p q) : CondAt (cw0 w c any av n k) c (some ⟨w.heap.size, 0, none⟩) q := alloc_cond h.set0
theorem cw1_cond {w : World} {c : Nat} {p q : Option Addr} (any : Bool) (av : Option Addr) (n k : Nat) (h : CondAt w c p q) : CondAt (cw1 w c any av n k) c p (some ⟨w.heap.size, 0, none⟩) := alloc_cond h.set1
theorem cw0_match {w : World} {c : Nat} {p q : Option Addr} {any : Bool} {av : Option Addr} {n k : Nat} {S X : Nat → Int} (h : CondAt w c p q) (hn : n ≤ 1048576) (hv : VersAt w av n S X) : MatchAt (cw0 w c any av n k) w.heap.size any n S X :=
  by
    have := alloc_match (any := any) (k := k) hn (hv.setP (j := 0) (v := .pointer (some ⟨w.heap.size, 0, none⟩)) h.2.1)
    rw [show (w.setCell ⟨c, 0, none⟩ (.pointer (some ⟨w.heap.size, 0, none⟩))).heap.size = w.heap.size from by simp] at this
    exact this
theorem cw1_match {w : World} {c : Nat} {p q : Option Addr} {any : Bool} {av : Option Addr} {n k : Nat} {S X : Nat → Int} (h : CondAt w c p q) (hn : n ≤ 1048576) (hv : VersAt w av n S X) : MatchAt (cw1 w c any av n k) w.heap.size any n S X :=
  by
    have := alloc_match (any := any) (k := k) hn (hv.setP (j := 1) (v := .pointer (some ⟨w.heap.size, 0, none⟩)) h.2.1)
    rw [show (w.setCell ⟨c, 1, none⟩ (.pointer (some ⟨w.heap.size, 0, none⟩))).heap.size = w.heap.size from by simp] at this
    exact this
theorem cw0_old {w : World} {c b : Nat} {p q : Option Addr} {any any' : Bool} {av : Option Addr} {n n' k : Nat} {S X : Nat → Int} (h : CondAt w c p q) (m : MatchAt w b any' n' S X) : MatchAt (cw0 w c any av n k) b any' n' S X :=
  (m.setP h.2.1).keep ((Below.refl _ _).alloc (Nat.le_refl _) _)
theorem cw1_old {w : World} {c b : Nat} {p q : Option Addr} {any any' : Bool} {av : Option Addr} {n n' k : Nat} {S X : Nat → Int} (h : CondAt w c p q) (m : MatchAt w b any' n' S X) : MatchAt (cw1 w c any av n k) b any' n' S X :=
  (m.setP h.2.1).keep ((Below.refl _ _).alloc (Nat.le_refl _) _)
theorem cw0_below {B : Nat} {w0 w : World} {c : Nat} (any : Bool) (av : Option Addr) (n k : Nat) (hb : Below B w0 w) (hB : B ≤ w.heap.size) (hc : B ≤ c) : Below B w0 (cw0 w c any av n k) := (hb.setCell hc _).alloc (by simpa using hB) _
theorem cw1_below {B : Nat} {w0 w : World} {c : Nat} (any : Bool) (av : Option Addr) (n k : Nat) (hb : Below B w0 w) (hB : B ≤ w.heap.size) (hc : B ≤ c) : Below B w0 (cw1 w c any av n k) := (hb.setCell hc _).alloc (by simpa using hB) _

end Go.Proofs.Qxb6603902a
