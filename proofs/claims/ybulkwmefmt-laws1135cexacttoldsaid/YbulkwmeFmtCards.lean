/-
  DERIVED. GIVEN WITH THE SEED: THE CARDS: each row of YbulkwmeFmtRows.lean that lists a variable, with what it lists TIED to the program's text (the seventh form; the later family's looks); each row that meets fmt, with fmt's text TOLD by the authors' own Lean function (tested against real Go, not proved from fmt's source: count such statements apart). THE CARD IS WHAT COUNTS. Prove the row's statement (the work); the ties are given (YbulkwmeFmtTie.lean); close each card by the builder's one call (the guide's Derived/Test/ToyasCard.lean, 'card_holds'). Laid BY PROGRAM, IN A SANDBOX (cutbox-door.mjs). By AI agents, Wed Nov 11 2026. No macro, syntax, notation, axiom, sorry.
-/
import Derived.Test.YbulkwmeFmtRows
import GoSem.ClaimSeven
namespace Go.Proofs.YbulkwmeFmt
namespace Rows

/-- THE TOLD CARD OF 'wire.LawS1135CExact'. -/
def lawS1135CExactCard : Claim7 := { stood := { row := lawS1135CExactRow, standIns := [], harness := (true, "0517a5e41d8e49c33ce0fa986c075b3cc3a71e1e3146b6240cac0297c0055884"), looks := true }, told := true, goes := false }
def LawS1135CExactToldSaid : Prop := Claim7.holds Ybaf.pinned (.plain (OpenSpec.ofChange lawS1135CExactSpec)) lawS1135CExactCard
/-- ITS FALSE NEIGHBOUR. Refute it at one input. -/
def LawS1135CExactToldWrongFalsely : Prop := Claim7.holds Ybaf.pinned (.plain (OpenSpec.ofChange lawS1135CExactWrong)) lawS1135CExactCard

/-- THE TOLD AND TIED CARD OF 'wire.LawS1135CRoundTrip'. -/
def lawS1135CRoundTripCard : Claim7 := { stood := { row := lawS1135CRoundTripRow, standIns := [], harness := (true, "0517a5e41d8e49c33ce0fa986c075b3cc3a71e1e3146b6240cac0297c0055884"), looks := true }, told := true, laidByText := true, laidKinds := [.sentinel, .sentinel, .sentinel, .sentinel, .sentinel], laidTests := true, laidLooks := .later, goes := false }
def LawS1135CRoundTripToldSaid : Prop := Claim7.holds Ybaf.pinned (.plain (OpenSpec.ofChange lawS1135CRoundTripSpec)) lawS1135CRoundTripCard
/-- ITS FALSE NEIGHBOUR. Refute it at one input. -/
def LawS1135CRoundTripToldWrongFalsely : Prop := Claim7.holds Ybaf.pinned (.plain (OpenSpec.ofChange lawS1135CRoundTripWrong)) lawS1135CRoundTripCard
end Rows
end Go.Proofs.YbulkwmeFmt
