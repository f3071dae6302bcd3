/-
  FnHoldsSpec: the ways out ahead of the work.
-/
import Derived.Test.Qxb6603902aRows
import Derived.Test.Qxb6603902aBase
import Derived.WalkSpells
import Derived.WalkLawsBesides
namespace Go.Proofs.Qxb6603902a
open Go.RowKit

set_option maxHeartbeats 2000000 in
theorem hs_early (a0 a1 : Bool) (a2 a3 : Option Addr) (len2 cap2 len3 cap3 : Nat) (a4 a5 : Bool) (a6 a7 : Option Addr) (len6 cap6 len7 cap7 : Nat) (a8 : Bool) (s x : Int) (w : World)
    (h2 : len2 ≤ 9223372036854775807) (h3 : len3 ≤ 9223372036854775807) (h6 : len6 ≤ 9223372036854775807) (h7 : len7 ≤ 9223372036854775807)
    (h : len2 < len3 ∨ len3 < len2 ∨ len6 < len7 ∨ len7 < len6 ∨ (131072 < len2 + len3 + len6 + len7)) :
    Calls Try.prog 5 #[.bool a0, .bool a1, .slice a2 len2 cap2, .slice a3 len3 cap3, .bool a4, .bool a5, .slice a6 len6 cap6, .slice a7 len7 cap7, .bool a8, .int .u64 s, .int .i64 x] w fun e w' => e = .returned (.bool true) ∧ w' = w := by
  rcases h with h | h | h | h | h
  all_goals
    go_enter Try.func5, Try.ntmps5
    go_wp2
    all_goals (go_ret; exact ⟨rfl, rfl⟩)

end Go.Proofs.Qxb6603902a
