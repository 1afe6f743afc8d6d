/-
  No cell of these rows narrows 'for every input' (looked for: loops, veiled, ifaces, maps, wideKeys, modest, calm, conditions, laid).
  DERIVED. THE GIVEN ROWS OF THIS SEAT. 2 by the template 'for every input the law returns true; each argument reads behind the call as it read before'; 0 by the template 'total and deterministic' (their statements: Qxb6625853aTotals.lean).
  GIVEN WITH THE SEED: the statements are not yours to turn. If you find one false, say at which input.
  Laid BY PROGRAM, IN A SANDBOX (cutbox-rows.mjs): the forced cells as the released guide's own fill.sh prints them over the translation 0a5b9ded32be5d66… (all of the seat's roots in one cut). By AI agents, Wed Nov 11 2026. No macro, syntax, notation, axiom, sorry.
-/
import Derived.Test.Qxb6625853aChecked
import GoSem.Claim
import GoSem.ClaimJoined
import GoSem.ClaimMapViews
import Derived.JoinedTies
import Derived.KernelRfl
namespace Go.Proofs.Qxb6625853a
/- THE CELL 'sum', in the pinned program and in every row, IS THE sha256 OF THE DUMP (.gsa) THAT Qxb6625853aProg.lean LOADS. Nothing in Lean hashes anything: it is a label: what it is worth is what the hold of that sum in a sandbox is worth. -/
noncomputable def Try.pinned : Pinned := { name := "qxb6625853a", sum := "0a5b9ded32be5d665d6f8c454266645f4dd2f8e1a90fabb8b1b2a53c488789e2", checked := Try.checked }
namespace Rows
def none {H : Type} : Left H := { results := [], args := [] }

/-- 'zzlaws_root_b1.FnFieldTestInsideIsCyclicRangeOutsideIsComplement': WHATEVER THE INPUT: true; the input reads as it did. -/
def fnFieldTestInsideIsCyclicRangeOutsideIsComplementSpec : ChangeSpec := { name := "fnFieldTestInsideIsCyclicRangeOutsideIsComplement", fn := fun _ => fun
  | [d1, d2, d3] => { results := [.lit (.bool true)], args := [d1, d2, d3] }
  | _ => none }
def fnFieldTestInsideIsCyclicRangeOutsideIsComplementRow : OpenClaim := { program := "qxb6625853a", sum := "0a5b9ded32be5d665d6f8c454266645f4dd2f8e1a90fabb8b1b2a53c488789e2", func := "example.com/stridewise/stridewise/zzlaws_root_b1.FnFieldTestInsideIsCyclicRangeOutsideIsComplement", spec := "fnFieldTestInsideIsCyclicRangeOutsideIsComplement", apart := false }
def FnFieldTestInsideIsCyclicRangeOutsideIsComplementSaid : Prop := fnFieldTestInsideIsCyclicRangeOutsideIsComplementRow.holds Try.pinned (OpenSpec.ofChange fnFieldTestInsideIsCyclicRangeOutsideIsComplementSpec)

/-- ITS FALSE NEIGHBOUR: 'it returns false'. Refute it at one input. -/
def fnFieldTestInsideIsCyclicRangeOutsideIsComplementWrong : ChangeSpec := { name := "fnFieldTestInsideIsCyclicRangeOutsideIsComplement", fn := fun _ => fun
  | [d1, d2, d3] => { results := [.lit (.bool false)], args := [d1, d2, d3] }
  | _ => none }
def FnFieldTestInsideIsCyclicRangeOutsideIsComplementWrongFalsely : Prop := fnFieldTestInsideIsCyclicRangeOutsideIsComplementRow.holds Try.pinned (OpenSpec.ofChange fnFieldTestInsideIsCyclicRangeOutsideIsComplementWrong)

/-- 'zzlaws_root_b1.FnFieldTestSplitAtAnyPoint': WHATEVER THE INPUT: true; the input reads as it did. -/
def fnFieldTestSplitAtAnyPointSpec : ChangeSpec := { name := "fnFieldTestSplitAtAnyPoint", fn := fun _ => fun
  | [d1, d2, d3, d4] => { results := [.lit (.bool true)], args := [d1, d2, d3, d4] }
  | _ => none }
def fnFieldTestSplitAtAnyPointRow : OpenClaim := { program := "qxb6625853a", sum := "0a5b9ded32be5d665d6f8c454266645f4dd2f8e1a90fabb8b1b2a53c488789e2", func := "example.com/stridewise/stridewise/zzlaws_root_b1.FnFieldTestSplitAtAnyPoint", spec := "fnFieldTestSplitAtAnyPoint", apart := false }
def FnFieldTestSplitAtAnyPointSaid : Prop := fnFieldTestSplitAtAnyPointRow.holds Try.pinned (OpenSpec.ofChange fnFieldTestSplitAtAnyPointSpec)

/-- ITS FALSE NEIGHBOUR: 'it returns false'. Refute it at one input. -/
def fnFieldTestSplitAtAnyPointWrong : ChangeSpec := { name := "fnFieldTestSplitAtAnyPoint", fn := fun _ => fun
  | [d1, d2, d3, d4] => { results := [.lit (.bool false)], args := [d1, d2, d3, d4] }
  | _ => none }
def FnFieldTestSplitAtAnyPointWrongFalsely : Prop := fnFieldTestSplitAtAnyPointRow.holds Try.pinned (OpenSpec.ofChange fnFieldTestSplitAtAnyPointWrong)

end Rows
end Go.Proofs.Qxb6625853a
