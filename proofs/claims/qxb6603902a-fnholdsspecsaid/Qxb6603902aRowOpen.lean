/-
  What the frame tells of a slice of integers that came in, and what the walks ask.
-/
import Derived.Test.Qxb6603902aBase
import Derived.OpenShut
namespace Go.Proofs.Qxb6603902a
open Go.RowKit

/-- WHAT THE WALK IS TOLD OF A SLICE OF INTEGERS THAT CAME IN: it is nil; or it leads to a row of 'cap' cells, the numbers 'zs' (the first 'len' are its elements, the rest its spare room), each fitting its kind. -/
def IsRow (k : IntKind) (w : World) (a : Option Addr) (len cap : Nat) (zs : List Int) : Prop :=
  (a = none ∧ len = 0 ∧ cap = 0 ∧ zs = []) ∨
  ∃ x, a = some x ∧ len ≤ cap ∧ cap ≤ maxLen ∧ zs.length = cap ∧ (∀ i, i < zs.length → w.cell? (x.add i) = some (.int k (zs.getD i 0))) ∧ ∀ n ∈ zs, (Lit.int k n).wf = true

theorem IsRow.opened {k : IntKind} {w : World} {a : Option Addr} {len cap : Nat} {zs : List Int} (h : IsRow k w a len cap zs) :
    (a = none → len = 0) ∧ len ≤ 9223372036854775807 ∧ IntsAt k w a len (fun i => zs.getD i 0) := by
  rcases h with ⟨rfl, rfl, _, _⟩ | ⟨x, rfl, hl, hm, hz, hc, _⟩
  · exact ⟨fun _ => rfl, by omega, .inl rfl⟩
  · refine ⟨(fun h => by cases h), by unfold maxLen at hm; omega, ?_⟩
    by_cases h0 : len = 0
    · exact .inl h0
    · obtain ⟨b, o, rfl, hc'⟩ := ints_at hc (by omega)
      exact .inr ⟨b, o, rfl, fun i hi => hc' i (by omega)⟩
end Go.Proofs.Qxb6603902a
