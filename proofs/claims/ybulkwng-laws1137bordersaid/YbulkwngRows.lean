/-
  No cell of these rows narrows 'for every input' (looked for: loops, veiled, ifaces, maps, wideKeys, modest, calm, conditions, laid).
  DERIVED. THE GIVEN ROWS OF THIS SEAT. 1 by the template 'for every input the law returns true; each argument reads behind the call as it read before'; 0 by the template 'total and deterministic' (their statements: YbulkwngTotals.lean).
  GIVEN WITH THE SEED: the statements are not yours to turn. If you find one false, say at which input.
  Laid BY PROGRAM, IN A SANDBOX (cutbox-rows.mjs): the forced cells as the released guide's own fill.sh prints them over the translation a94d4005ed67c56f… (all of the seat's roots in one cut). By AI agents, Wed Nov 11 2026. No macro, syntax, notation, axiom, sorry.
-/
import Derived.Test.YbulkwngChecked
import GoSem.Claim
import GoSem.ClaimJoined
import GoSem.ClaimMapViews
import Derived.JoinedTies
import Derived.KernelRfl
namespace Go.Proofs.Ybulkwng
/- THE CELL 'sum', in the pinned program and in every row, IS THE sha256 OF THE DUMP (.gsa) THAT YbulkwngProg.lean LOADS. Nothing in Lean hashes anything: it is a label: what it is worth is what the hold of that sum in a sandbox is worth. -/
noncomputable def Yba.pinned : Pinned := { name := "ybulkwng", sum := "a94d4005ed67c56f754b7273cf850ce0ae20a11f7670844434844fe47ec01ff2", checked := Yba.checked }
namespace Rows
def none {H : Type} : Left H := { results := [], args := [] }

/-- 'verdict.LawS1137BOrder': WHATEVER THE INPUT: true; the input reads as it did. -/
def lawS1137BOrderSpec : ChangeSpec := { name := "lawS1137BOrder", fn := fun _ => fun
  | [d] => { results := [.lit (.bool true)], args := [d] }
  | _ => none }
def lawS1137BOrderRow : OpenClaim := { program := "ybulkwng", sum := "a94d4005ed67c56f754b7273cf850ce0ae20a11f7670844434844fe47ec01ff2", func := "example.com/testsieve/testsieve/internal/verdict.LawS1137BOrder", spec := "lawS1137BOrder", apart := false }
def LawS1137BOrderSaid : Prop := lawS1137BOrderRow.holds Yba.pinned (OpenSpec.ofChange lawS1137BOrderSpec)

/-- ITS FALSE NEIGHBOUR: 'it returns false'. Refute it at one input. -/
def lawS1137BOrderWrong : ChangeSpec := { name := "lawS1137BOrder", fn := fun _ => fun
  | [d] => { results := [.lit (.bool false)], args := [d] }
  | _ => none }
def LawS1137BOrderWrongFalsely : Prop := lawS1137BOrderRow.holds Yba.pinned (OpenSpec.ofChange lawS1137BOrderWrong)

end Rows
end Go.Proofs.Ybulkwng
