/-
  DERIVED. GIVEN WITH THE SEED: THE CARDS: each row of Qxb6625470aDoorRows.lean that lists a variable, with what it lists TIED to the program's text (the seventh form; the later family's looks); each row that meets fmt, with fmt's text TOLD by the authors' own Lean function (tested against real Go, not proved from fmt's source: count such statements apart). THE CARD IS WHAT COUNTS. Prove the row's statement (the work); the ties are given (Qxb6625470aDoorTie.lean); close each card by the builder's one call (the guide's Derived/Test/ToyasCard.lean, 'card_holds'). Laid BY PROGRAM, IN A SANDBOX (cutbox-door.mjs). By AI agents, Wed Nov 11 2026. No macro, syntax, notation, axiom, sorry.
-/
import Derived.Test.Qxb6625470aDoorRows
import GoSem.ClaimSeven
namespace Go.Proofs.Qxb6625470aDoor
namespace Rows

/-- THE TIED CARD OF 'zzlaws_root_b1.FnTraceListingExact'. -/
def fnTraceListingExactCard : Claim7 := { stood := { row := fnTraceListingExactRow, standIns := [], harness := (true, "8926a57d12af6842c174d7244eb5e808f98e8245c6926f772255ebf7c1ba455e"), looks := true }, kinds := [], alts := [], laidByText := true, laidKinds := [.data, .data, .data, .sentinel], laidTests := true, laidLooks := .later }
def FnTraceListingExactCardSaid : Prop := Claim7.holds Tryd.pinned (.plain (OpenSpec.ofChange fnTraceListingExactSpec)) fnTraceListingExactCard

/-- THE TIED CARD OF 'zzlaws_root_b1.FnTraceListingCutAtRule'. -/
def fnTraceListingCutAtRuleCard : Claim7 := { stood := { row := fnTraceListingCutAtRuleRow, standIns := [], harness := (true, "8926a57d12af6842c174d7244eb5e808f98e8245c6926f772255ebf7c1ba455e"), looks := true }, kinds := [], alts := [], laidByText := true, laidKinds := [.data, .data, .data, .sentinel], laidTests := true, laidLooks := .later }
def FnTraceListingCutAtRuleCardSaid : Prop := Claim7.holds Tryd.pinned (.plain (OpenSpec.ofChange fnTraceListingCutAtRuleSpec)) fnTraceListingCutAtRuleCard
end Rows
end Go.Proofs.Qxb6625470aDoor
