/-
  No cell of these rows narrows 'for every input' (looked for: loops, veiled, ifaces, maps, wideKeys, modest, calm, conditions, laid).
  DERIVED. THE GIVEN ROWS OF THIS SEAT. 2 by the template 'for every input the law returns true; each argument reads behind the call as it read before'; 0 by the template 'total and deterministic' (their statements: Qxb6625653aTotals.lean).
  GIVEN WITH THE SEED: the statements are not yours to turn. If you find one false, say at which input.
  Laid BY PROGRAM, IN A SANDBOX (cutbox-rows.mjs): the forced cells as the released guide's own fill.sh prints them over the translation d36a300d50a1c9c2… (all of the seat's roots in one cut). By AI agents, Wed Nov 11 2026. No macro, syntax, notation, axiom, sorry.
-/
import Derived.Test.Qxb6625653aChecked
import GoSem.Claim
import GoSem.ClaimJoined
import GoSem.ClaimMapViews
import Derived.JoinedTies
import Derived.KernelRfl
namespace Go.Proofs.Qxb6625653a
/- THE CELL 'sum', in the pinned program and in every row, IS THE sha256 OF THE DUMP (.gsa) THAT Qxb6625653aProg.lean LOADS. Nothing in Lean hashes anything: it is a label: what it is worth is what the hold of that sum in a sandbox is worth. -/
noncomputable def Try.pinned : Pinned := { name := "qxb6625653a", sum := "d36a300d50a1c9c2648f3356f8a64173e25e710aca1f63815325a6ee0e7fc781", checked := Try.checked }
namespace Rows
def none {H : Type} : Left H := { results := [], args := [] }

/-- 'zzlaws_verdict_b1.FnTokenAcceptsExactlyTheConstantsAndTellsVerdictsApart': WHATEVER THE INPUT: true; the input reads as it did. -/
def fnTokenAcceptsExactlyTheConstantsAndTellsVerdictsApartSpec : ChangeSpec := { name := "fnTokenAcceptsExactlyTheConstantsAndTellsVerdictsApart", fn := fun _ => fun
  | [d1, d2, d3, d4] => { results := [.lit (.bool true)], args := [d1, d2, d3, d4] }
  | _ => none }
def fnTokenAcceptsExactlyTheConstantsAndTellsVerdictsApartRow : OpenClaim := { program := "qxb6625653a", sum := "d36a300d50a1c9c2648f3356f8a64173e25e710aca1f63815325a6ee0e7fc781", func := "example.com/isoprobe/isoprobe/zzlaws_verdict_b1.FnTokenAcceptsExactlyTheConstantsAndTellsVerdictsApart", spec := "fnTokenAcceptsExactlyTheConstantsAndTellsVerdictsApart", apart := false }
def FnTokenAcceptsExactlyTheConstantsAndTellsVerdictsApartSaid : Prop := fnTokenAcceptsExactlyTheConstantsAndTellsVerdictsApartRow.holds Try.pinned (OpenSpec.ofChange fnTokenAcceptsExactlyTheConstantsAndTellsVerdictsApartSpec)

/-- ITS FALSE NEIGHBOUR: 'it returns false'. Refute it at one input. -/
def fnTokenAcceptsExactlyTheConstantsAndTellsVerdictsApartWrong : ChangeSpec := { name := "fnTokenAcceptsExactlyTheConstantsAndTellsVerdictsApart", fn := fun _ => fun
  | [d1, d2, d3, d4] => { results := [.lit (.bool false)], args := [d1, d2, d3, d4] }
  | _ => none }
def FnTokenAcceptsExactlyTheConstantsAndTellsVerdictsApartWrongFalsely : Prop := fnTokenAcceptsExactlyTheConstantsAndTellsVerdictsApartRow.holds Try.pinned (OpenSpec.ofChange fnTokenAcceptsExactlyTheConstantsAndTellsVerdictsApartWrong)

/-- 'zzlaws_verdict_b1.FnTokenSplitsIntoOutcomeAndBehaviorParts': WHATEVER THE INPUT: true; the input reads as it did. -/
def fnTokenSplitsIntoOutcomeAndBehaviorPartsSpec : ChangeSpec := { name := "fnTokenSplitsIntoOutcomeAndBehaviorParts", fn := fun _ => fun
  | [d1, d2, d3] => { results := [.lit (.bool true)], args := [d1, d2, d3] }
  | _ => none }
def fnTokenSplitsIntoOutcomeAndBehaviorPartsRow : OpenClaim := { program := "qxb6625653a", sum := "d36a300d50a1c9c2648f3356f8a64173e25e710aca1f63815325a6ee0e7fc781", func := "example.com/isoprobe/isoprobe/zzlaws_verdict_b1.FnTokenSplitsIntoOutcomeAndBehaviorParts", spec := "fnTokenSplitsIntoOutcomeAndBehaviorParts", apart := false }
def FnTokenSplitsIntoOutcomeAndBehaviorPartsSaid : Prop := fnTokenSplitsIntoOutcomeAndBehaviorPartsRow.holds Try.pinned (OpenSpec.ofChange fnTokenSplitsIntoOutcomeAndBehaviorPartsSpec)

/-- ITS FALSE NEIGHBOUR: 'it returns false'. Refute it at one input. -/
def fnTokenSplitsIntoOutcomeAndBehaviorPartsWrong : ChangeSpec := { name := "fnTokenSplitsIntoOutcomeAndBehaviorParts", fn := fun _ => fun
  | [d1, d2, d3] => { results := [.lit (.bool false)], args := [d1, d2, d3] }
  | _ => none }
def FnTokenSplitsIntoOutcomeAndBehaviorPartsWrongFalsely : Prop := fnTokenSplitsIntoOutcomeAndBehaviorPartsRow.holds Try.pinned (OpenSpec.ofChange fnTokenSplitsIntoOutcomeAndBehaviorPartsWrong)

end Rows
end Go.Proofs.Qxb6625653a
