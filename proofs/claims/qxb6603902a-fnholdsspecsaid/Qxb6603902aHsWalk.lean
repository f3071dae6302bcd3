/-
  FnHoldsSpec: the four walks together.
-/
import Derived.Test.Qxb6603902aHsEarly
import Derived.Test.Qxb6603902aHs00
import Derived.Test.Qxb6603902aHs01
import Derived.Test.Qxb6603902aHs10
import Derived.Test.Qxb6603902aHs11
namespace Go.Proofs.Qxb6603902a
open Go.RowKit

theorem hs_main (a0 a1 : Bool) (a2 a3 : Option Addr) (n cap2 cap3 : Nat) (S X : Nat → Int) (a4 a5 : Bool) (a6 a7 : Option Addr) (m cap6 cap7 : Nat) (S' X' : Nat → Int) (a8 : Bool) (s x : Int) (w : World) (hnm : n + m ≤ 65536)
    (ha2 : a2 = none → n = 0) (ha3 : a3 = none → n = 0) (ha6 : a6 = none → m = 0) (ha7 : a7 = none → m = 0) (h2 : IntsAt .u64 w a2 n S) (h3 : IntsAt .i64 w a3 n X) (h6 : IntsAt .u64 w a6 m S') (h7 : IntsAt .i64 w a7 m X') :
    Calls Try.prog 5 #[.bool a0, .bool a1, .slice a2 n cap2, .slice a3 n cap3, .bool a4, .bool a5, .slice a6 m cap6, .slice a7 m cap7, .bool a8, .int .u64 s, .int .i64 x] w fun e w' => e = .returned (.bool true) ∧ Below w.heap.size w w' := by
  cases a0
  · cases a4
    · exact hs_00 a1 a2 a3 n cap2 cap3 S X a5 a6 a7 m cap6 cap7 S' X' a8 s x w hnm ha2 ha3 ha6 ha7 h2 h3 h6 h7
    · exact hs_01 a1 a2 a3 n cap2 cap3 S X a5 a6 a7 m cap6 cap7 S' X' a8 s x w hnm ha2 ha3 ha6 ha7 h2 h3 h6 h7
  · cases a4
    · exact hs_10 a1 a2 a3 n cap2 cap3 S X a5 a6 a7 m cap6 cap7 S' X' a8 s x w hnm ha2 ha3 ha6 ha7 h2 h3 h6 h7
    · exact hs_11 a1 a2 a3 n cap2 cap3 S X a5 a6 a7 m cap6 cap7 S' X' a8 s x w hnm ha2 ha3 ha6 ha7 h2 h3 h6 h7
end Go.Proofs.Qxb6603902a
