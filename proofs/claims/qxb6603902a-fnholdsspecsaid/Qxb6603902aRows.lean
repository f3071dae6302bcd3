/-
  No cell of these rows narrows 'for every input' (looked for: loops, veiled, ifaces, maps, wideKeys, modest, calm, conditions, laid).
  DERIVED. THE GIVEN ROWS OF THIS SEAT. 5 by the template 'for every input the law returns true; each argument reads behind the call as it read before'; 0 by the template 'total and deterministic' (their statements: Qxb6603902aTotals.lean).
  GIVEN WITH THE SEED: the statements are not yours to turn. If you find one false, say at which input.
  Laid BY PROGRAM, IN A SANDBOX (cutbox-rows.mjs): the forced cells as the released guide's own fill.sh prints them over the translation dc0ce55f327605e1… (all of the seat's roots in one cut). By AI agents, Wed Nov 11 2026. No macro, syntax, notation, axiom, sorry.
-/
import Derived.Test.Qxb6603902aChecked
import GoSem.Claim
import GoSem.ClaimJoined
import GoSem.ClaimMapViews
import Derived.JoinedTies
import Derived.KernelRfl
namespace Go.Proofs.Qxb6603902a
/- THE CELL 'sum', in the pinned program and in every row, IS THE sha256 OF THE DUMP (.gsa) THAT Qxb6603902aProg.lean LOADS. Nothing in Lean hashes anything: it is a label: what it is worth is what the hold of that sum in a sandbox is worth. -/
noncomputable def Try.pinned : Pinned := { name := "qxb6603902a", sum := "dc0ce55f327605e1899e4febd6f79ee2bf9bb7ce09fbbdc4cc0fc29f832acd70", checked := Try.checked }
namespace Rows
def none {H : Type} : Left H := { results := [], args := [] }

/-- 'zzlaws_kv_b1.FnMatchesSpec': WHATEVER THE INPUT: true; the input reads as it did. -/
def fnMatchesSpecSpec : ChangeSpec := { name := "fnMatchesSpec", fn := fun _ => fun
  | [d1, d2, d3, d4, d5] => { results := [.lit (.bool true)], args := [d1, d2, d3, d4, d5] }
  | _ => none }
def fnMatchesSpecRow : OpenClaim := { program := "qxb6603902a", sum := "dc0ce55f327605e1899e4febd6f79ee2bf9bb7ce09fbbdc4cc0fc29f832acd70", func := "example.com/quorumhall/quorumhall/zzlaws_kv_b1.FnMatchesSpec", spec := "fnMatchesSpec", apart := false }
def FnMatchesSpecSaid : Prop := fnMatchesSpecRow.holds Try.pinned (OpenSpec.ofChange fnMatchesSpecSpec)

/-- ITS FALSE NEIGHBOUR: 'it returns false'. Refute it at one input. -/
def fnMatchesSpecWrong : ChangeSpec := { name := "fnMatchesSpec", fn := fun _ => fun
  | [d1, d2, d3, d4, d5] => { results := [.lit (.bool false)], args := [d1, d2, d3, d4, d5] }
  | _ => none }
def FnMatchesSpecWrongFalsely : Prop := fnMatchesSpecRow.holds Try.pinned (OpenSpec.ofChange fnMatchesSpecWrong)

/-- 'zzlaws_kv_b1.FnMatchesAppendAddsExactlyThatVersion': WHATEVER THE INPUT: true; the input reads as it did. -/
def fnMatchesAppendAddsExactlyThatVersionSpec : ChangeSpec := { name := "fnMatchesAppendAddsExactlyThatVersion", fn := fun _ => fun
  | [d1, d2, d3, d4, d5, d6, d7] => { results := [.lit (.bool true)], args := [d1, d2, d3, d4, d5, d6, d7] }
  | _ => none }
def fnMatchesAppendAddsExactlyThatVersionRow : OpenClaim := { program := "qxb6603902a", sum := "dc0ce55f327605e1899e4febd6f79ee2bf9bb7ce09fbbdc4cc0fc29f832acd70", func := "example.com/quorumhall/quorumhall/zzlaws_kv_b1.FnMatchesAppendAddsExactlyThatVersion", spec := "fnMatchesAppendAddsExactlyThatVersion", apart := false }
def FnMatchesAppendAddsExactlyThatVersionSaid : Prop := fnMatchesAppendAddsExactlyThatVersionRow.holds Try.pinned (OpenSpec.ofChange fnMatchesAppendAddsExactlyThatVersionSpec)

/-- ITS FALSE NEIGHBOUR: 'it returns false'. Refute it at one input. -/
def fnMatchesAppendAddsExactlyThatVersionWrong : ChangeSpec := { name := "fnMatchesAppendAddsExactlyThatVersion", fn := fun _ => fun
  | [d1, d2, d3, d4, d5, d6, d7] => { results := [.lit (.bool false)], args := [d1, d2, d3, d4, d5, d6, d7] }
  | _ => none }
def FnMatchesAppendAddsExactlyThatVersionWrongFalsely : Prop := fnMatchesAppendAddsExactlyThatVersionRow.holds Try.pinned (OpenSpec.ofChange fnMatchesAppendAddsExactlyThatVersionWrong)

/-- 'zzlaws_kv_b1.FnHoldsSpec': WHATEVER THE INPUT: true; the input reads as it did. -/
def fnHoldsSpecSpec : ChangeSpec := { name := "fnHoldsSpec", fn := fun _ => fun
  | [d1, d2, d3, d4, d5, d6, d7, d8, d9, d10, d11] => { results := [.lit (.bool true)], args := [d1, d2, d3, d4, d5, d6, d7, d8, d9, d10, d11] }
  | _ => none }
def fnHoldsSpecRow : OpenClaim := { program := "qxb6603902a", sum := "dc0ce55f327605e1899e4febd6f79ee2bf9bb7ce09fbbdc4cc0fc29f832acd70", func := "example.com/quorumhall/quorumhall/zzlaws_kv_b1.FnHoldsSpec", spec := "fnHoldsSpec", apart := false }
def FnHoldsSpecSaid : Prop := fnHoldsSpecRow.holds Try.pinned (OpenSpec.ofChange fnHoldsSpecSpec)

/-- ITS FALSE NEIGHBOUR: 'it returns false'. Refute it at one input. -/
def fnHoldsSpecWrong : ChangeSpec := { name := "fnHoldsSpec", fn := fun _ => fun
  | [d1, d2, d3, d4, d5, d6, d7, d8, d9, d10, d11] => { results := [.lit (.bool false)], args := [d1, d2, d3, d4, d5, d6, d7, d8, d9, d10, d11] }
  | _ => none }
def FnHoldsSpecWrongFalsely : Prop := fnHoldsSpecRow.holds Try.pinned (OpenSpec.ofChange fnHoldsSpecWrong)

/-- 'zzlaws_kv_b1.FnHoldsIfMatchIfNoneMatchOpposite': WHATEVER THE INPUT: true; the input reads as it did. -/
def fnHoldsIfMatchIfNoneMatchOppositeSpec : ChangeSpec := { name := "fnHoldsIfMatchIfNoneMatchOpposite", fn := fun _ => fun
  | [d1, d2, d3, d4, d5, d6] => { results := [.lit (.bool true)], args := [d1, d2, d3, d4, d5, d6] }
  | _ => none }
def fnHoldsIfMatchIfNoneMatchOppositeRow : OpenClaim := { program := "qxb6603902a", sum := "dc0ce55f327605e1899e4febd6f79ee2bf9bb7ce09fbbdc4cc0fc29f832acd70", func := "example.com/quorumhall/quorumhall/zzlaws_kv_b1.FnHoldsIfMatchIfNoneMatchOpposite", spec := "fnHoldsIfMatchIfNoneMatchOpposite", apart := false }
def FnHoldsIfMatchIfNoneMatchOppositeSaid : Prop := fnHoldsIfMatchIfNoneMatchOppositeRow.holds Try.pinned (OpenSpec.ofChange fnHoldsIfMatchIfNoneMatchOppositeSpec)

/-- ITS FALSE NEIGHBOUR: 'it returns false'. Refute it at one input. -/
def fnHoldsIfMatchIfNoneMatchOppositeWrong : ChangeSpec := { name := "fnHoldsIfMatchIfNoneMatchOpposite", fn := fun _ => fun
  | [d1, d2, d3, d4, d5, d6] => { results := [.lit (.bool false)], args := [d1, d2, d3, d4, d5, d6] }
  | _ => none }
def FnHoldsIfMatchIfNoneMatchOppositeWrongFalsely : Prop := fnHoldsIfMatchIfNoneMatchOppositeRow.holds Try.pinned (OpenSpec.ofChange fnHoldsIfMatchIfNoneMatchOppositeWrong)

/-- 'zzlaws_kv_b1.FnHoldsAnyMeansExistence': WHATEVER THE INPUT: true; the input reads as it did. -/
def fnHoldsAnyMeansExistenceSpec : ChangeSpec := { name := "fnHoldsAnyMeansExistence", fn := fun _ => fun
  | [d1, d2, d3] => { results := [.lit (.bool true)], args := [d1, d2, d3] }
  | _ => none }
def fnHoldsAnyMeansExistenceRow : OpenClaim := { program := "qxb6603902a", sum := "dc0ce55f327605e1899e4febd6f79ee2bf9bb7ce09fbbdc4cc0fc29f832acd70", func := "example.com/quorumhall/quorumhall/zzlaws_kv_b1.FnHoldsAnyMeansExistence", spec := "fnHoldsAnyMeansExistence", apart := false }
def FnHoldsAnyMeansExistenceSaid : Prop := fnHoldsAnyMeansExistenceRow.holds Try.pinned (OpenSpec.ofChange fnHoldsAnyMeansExistenceSpec)

/-- ITS FALSE NEIGHBOUR: 'it returns false'. Refute it at one input. -/
def fnHoldsAnyMeansExistenceWrong : ChangeSpec := { name := "fnHoldsAnyMeansExistence", fn := fun _ => fun
  | [d1, d2, d3] => { results := [.lit (.bool false)], args := [d1, d2, d3] }
  | _ => none }
def FnHoldsAnyMeansExistenceWrongFalsely : Prop := fnHoldsAnyMeansExistenceRow.holds Try.pinned (OpenSpec.ofChange fnHoldsAnyMeansExistenceWrong)

end Rows
end Go.Proofs.Qxb6603902a
