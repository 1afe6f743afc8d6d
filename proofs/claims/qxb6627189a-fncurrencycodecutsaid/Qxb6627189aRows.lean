/-
  No cell of these rows narrows 'for every input' (looked for: loops, veiled, ifaces, maps, wideKeys, modest, calm, conditions, laid).
  DERIVED. THE GIVEN ROWS OF THIS SEAT. 2 by the template 'for every input the law returns true; each argument reads behind the call as it read before'; 0 by the template 'total and deterministic' (their statements: Qxb6627189aTotals.lean).
  GIVEN WITH THE SEED: the statements are not yours to turn. If you find one false, say at which input.
  Laid BY PROGRAM, IN A SANDBOX (cutbox-rows.mjs): the forced cells as the released guide's own fill.sh prints them over the translation 48e854255afd190c… (all of the seat's roots in one cut). By AI agents, Wed Nov 11 2026. No macro, syntax, notation, axiom, sorry.
-/
import Derived.Test.Qxb6627189aChecked
import GoSem.Claim
import GoSem.ClaimJoined
import GoSem.ClaimMapViews
import Derived.JoinedTies
import Derived.KernelRfl
namespace Go.Proofs.Qxb6627189a
/- THE CELL 'sum', in the pinned program and in every row, IS THE sha256 OF THE DUMP (.gsa) THAT Qxb6627189aProg.lean LOADS. Nothing in Lean hashes anything: it is a label: what it is worth is what the hold of that sum in a sandbox is worth. -/
noncomputable def Try.pinned : Pinned := { name := "qxb6627189a", sum := "48e854255afd190c7feb7f32c23361efeca7a50f2757c4aa103881baba98c5d7", checked := Try.checked }
namespace Rows
def none {H : Type} : Left H := { results := [], args := [] }

/-- 'zzlaws_pkg_amount_b1.FnCurrencyCodeOnePlace': WHATEVER THE INPUT: true; the input reads as it did. -/
def fnCurrencyCodeOnePlaceSpec : ChangeSpec := { name := "fnCurrencyCodeOnePlace", fn := fun _ => fun
  | [d1, d2, d3] => { results := [.lit (.bool true)], args := [d1, d2, d3] }
  | _ => none }
def fnCurrencyCodeOnePlaceRow : OpenClaim := { program := "qxb6627189a", sum := "48e854255afd190c7feb7f32c23361efeca7a50f2757c4aa103881baba98c5d7", func := "example.com/ledgerwire/ledgerwire/zzlaws_pkg_amount_b1.FnCurrencyCodeOnePlace", spec := "fnCurrencyCodeOnePlace", apart := false }
def FnCurrencyCodeOnePlaceSaid : Prop := fnCurrencyCodeOnePlaceRow.holds Try.pinned (OpenSpec.ofChange fnCurrencyCodeOnePlaceSpec)

/-- ITS FALSE NEIGHBOUR: 'it returns false'. Refute it at one input. -/
def fnCurrencyCodeOnePlaceWrong : ChangeSpec := { name := "fnCurrencyCodeOnePlace", fn := fun _ => fun
  | [d1, d2, d3] => { results := [.lit (.bool false)], args := [d1, d2, d3] }
  | _ => none }
def FnCurrencyCodeOnePlaceWrongFalsely : Prop := fnCurrencyCodeOnePlaceRow.holds Try.pinned (OpenSpec.ofChange fnCurrencyCodeOnePlaceWrong)

/-- 'zzlaws_pkg_amount_b1.FnCurrencyCodeCut': WHATEVER THE INPUT: true; the input reads as it did. -/
def fnCurrencyCodeCutSpec : ChangeSpec := { name := "fnCurrencyCodeCut", fn := fun _ => fun
  | [d1, d2] => { results := [.lit (.bool true)], args := [d1, d2] }
  | _ => none }
def fnCurrencyCodeCutRow : OpenClaim := { program := "qxb6627189a", sum := "48e854255afd190c7feb7f32c23361efeca7a50f2757c4aa103881baba98c5d7", func := "example.com/ledgerwire/ledgerwire/zzlaws_pkg_amount_b1.FnCurrencyCodeCut", spec := "fnCurrencyCodeCut", apart := false }
def FnCurrencyCodeCutSaid : Prop := fnCurrencyCodeCutRow.holds Try.pinned (OpenSpec.ofChange fnCurrencyCodeCutSpec)

/-- ITS FALSE NEIGHBOUR: 'it returns false'. Refute it at one input. -/
def fnCurrencyCodeCutWrong : ChangeSpec := { name := "fnCurrencyCodeCut", fn := fun _ => fun
  | [d1, d2] => { results := [.lit (.bool false)], args := [d1, d2] }
  | _ => none }
def FnCurrencyCodeCutWrongFalsely : Prop := fnCurrencyCodeCutRow.holds Try.pinned (OpenSpec.ofChange fnCurrencyCodeCutWrong)

end Rows
end Go.Proofs.Qxb6627189a
