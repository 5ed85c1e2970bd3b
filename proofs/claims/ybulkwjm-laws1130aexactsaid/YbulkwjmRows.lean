/-
  No cell of these rows narrows 'for every input' (looked for: loops, veiled, ifaces, maps, wideKeys, modest, calm, conditions, laid).
  DERIVED. THE GIVEN ROWS OF THIS SEAT. 7 by the template 'for every input the law returns true; each argument reads behind the call as it read before'; 0 by the template 'total and deterministic' (their statements: YbulkwjmTotals.lean).
  GIVEN WITH THE SEED: the statements are not yours to turn. If you find one false, say at which input.
  Laid BY PROGRAM, IN A SANDBOX (cutbox-rows.mjs): the forced cells as the released guide's own fill.sh prints them over the translation e5195c9748e5d3e4… (all of the seat's roots in one cut). By AI agents, Wed Nov 11 2026. No macro, syntax, notation, axiom, sorry.
-/
import Derived.Test.YbulkwjmChecked
import GoSem.Claim
import GoSem.ClaimJoined
import GoSem.ClaimMapViews
import Derived.JoinedTies
import Derived.KernelRfl
namespace Go.Proofs.Ybulkwjm
/- THE CELL 'sum', in the pinned program and in every row, IS THE sha256 OF THE DUMP (.gsa) THAT YbulkwjmProg.lean LOADS. Nothing in Lean hashes anything: it is a label: what it is worth is what the hold of that sum in a sandbox is worth. -/
noncomputable def Yba.pinned : Pinned := { name := "ybulkwjm", sum := "e5195c9748e5d3e4be7a64cab29b681e7a055ebd9a631d214dcd73643dbea670", checked := Yba.checked }
namespace Rows
def none {H : Type} : Left H := { results := [], args := [] }

/-- 'plan.LawS1130AExact': WHATEVER THE INPUT: true; the input reads as it did. -/
def lawS1130AExactSpec : ChangeSpec := { name := "lawS1130AExact", fn := fun _ => fun
  | [d] => { results := [.lit (.bool true)], args := [d] }
  | _ => none }
def lawS1130AExactRow : OpenClaim := { program := "ybulkwjm", sum := "e5195c9748e5d3e4be7a64cab29b681e7a055ebd9a631d214dcd73643dbea670", func := "example.com/zonekeeper/zonekeeper/internal/plan.LawS1130AExact", spec := "lawS1130AExact", plainKeys := false, apart := false }
def LawS1130AExactSaid : Prop := lawS1130AExactRow.holds Yba.pinned (OpenSpec.ofChange lawS1130AExactSpec)

/-- ITS FALSE NEIGHBOUR: 'it returns false'. Refute it at one input. -/
def lawS1130AExactWrong : ChangeSpec := { name := "lawS1130AExact", fn := fun _ => fun
  | [d] => { results := [.lit (.bool false)], args := [d] }
  | _ => none }
def LawS1130AExactWrongFalsely : Prop := lawS1130AExactRow.holds Yba.pinned (OpenSpec.ofChange lawS1130AExactWrong)

/-- 'plan.LawS1130ALabels': WHATEVER THE INPUT: true; the input reads as it did. -/
def lawS1130ALabelsSpec : ChangeSpec := { name := "lawS1130ALabels", fn := fun _ => fun
  | [d1, d2] => { results := [.lit (.bool true)], args := [d1, d2] }
  | _ => none }
def lawS1130ALabelsRow : OpenClaim := { program := "ybulkwjm", sum := "e5195c9748e5d3e4be7a64cab29b681e7a055ebd9a631d214dcd73643dbea670", func := "example.com/zonekeeper/zonekeeper/internal/plan.LawS1130ALabels", spec := "lawS1130ALabels", plainKeys := false, apart := false }
def LawS1130ALabelsSaid : Prop := lawS1130ALabelsRow.holds Yba.pinned (OpenSpec.ofChange lawS1130ALabelsSpec)

/-- ITS FALSE NEIGHBOUR: 'it returns false'. Refute it at one input. -/
def lawS1130ALabelsWrong : ChangeSpec := { name := "lawS1130ALabels", fn := fun _ => fun
  | [d1, d2] => { results := [.lit (.bool false)], args := [d1, d2] }
  | _ => none }
def LawS1130ALabelsWrongFalsely : Prop := lawS1130ALabelsRow.holds Yba.pinned (OpenSpec.ofChange lawS1130ALabelsWrong)

/-- 'plan.LawS1130BSum': WHATEVER THE INPUT: true; the input reads as it did. -/
def lawS1130BSumSpec : ChangeSpec := { name := "lawS1130BSum", fn := fun _ => fun
  | [d] => { results := [.lit (.bool true)], args := [d] }
  | _ => none }
def lawS1130BSumRow : OpenClaim := { program := "ybulkwjm", sum := "e5195c9748e5d3e4be7a64cab29b681e7a055ebd9a631d214dcd73643dbea670", func := "example.com/zonekeeper/zonekeeper/internal/plan.LawS1130BSum", spec := "lawS1130BSum", plainKeys := false, apart := false }
def LawS1130BSumSaid : Prop := lawS1130BSumRow.holds Yba.pinned (OpenSpec.ofChange lawS1130BSumSpec)

/-- ITS FALSE NEIGHBOUR: 'it returns false'. Refute it at one input. -/
def lawS1130BSumWrong : ChangeSpec := { name := "lawS1130BSum", fn := fun _ => fun
  | [d] => { results := [.lit (.bool false)], args := [d] }
  | _ => none }
def LawS1130BSumWrongFalsely : Prop := lawS1130BSumRow.holds Yba.pinned (OpenSpec.ofChange lawS1130BSumWrong)

/-- 'plan.LawS1130BFree': WHATEVER THE INPUT: true; the input reads as it did. -/
def lawS1130BFreeSpec : ChangeSpec := { name := "lawS1130BFree", fn := fun _ => fun
  | [d1, d2] => { results := [.lit (.bool true)], args := [d1, d2] }
  | _ => none }
def lawS1130BFreeRow : OpenClaim := { program := "ybulkwjm", sum := "e5195c9748e5d3e4be7a64cab29b681e7a055ebd9a631d214dcd73643dbea670", func := "example.com/zonekeeper/zonekeeper/internal/plan.LawS1130BFree", spec := "lawS1130BFree", plainKeys := false, apart := false }
def LawS1130BFreeSaid : Prop := lawS1130BFreeRow.holds Yba.pinned (OpenSpec.ofChange lawS1130BFreeSpec)

/-- ITS FALSE NEIGHBOUR: 'it returns false'. Refute it at one input. -/
def lawS1130BFreeWrong : ChangeSpec := { name := "lawS1130BFree", fn := fun _ => fun
  | [d1, d2] => { results := [.lit (.bool false)], args := [d1, d2] }
  | _ => none }
def LawS1130BFreeWrongFalsely : Prop := lawS1130BFreeRow.holds Yba.pinned (OpenSpec.ofChange lawS1130BFreeWrong)

/-- 'plan.LawS1130BReset': WHATEVER THE INPUT: true; the input reads as it did. -/
def lawS1130BResetSpec : ChangeSpec := { name := "lawS1130BReset", fn := fun _ => fun
  | [d1, d2] => { results := [.lit (.bool true)], args := [d1, d2] }
  | _ => none }
def lawS1130BResetRow : OpenClaim := { program := "ybulkwjm", sum := "e5195c9748e5d3e4be7a64cab29b681e7a055ebd9a631d214dcd73643dbea670", func := "example.com/zonekeeper/zonekeeper/internal/plan.LawS1130BReset", spec := "lawS1130BReset", plainKeys := false, apart := false }
def LawS1130BResetSaid : Prop := lawS1130BResetRow.holds Yba.pinned (OpenSpec.ofChange lawS1130BResetSpec)

/-- ITS FALSE NEIGHBOUR: 'it returns false'. Refute it at one input. -/
def lawS1130BResetWrong : ChangeSpec := { name := "lawS1130BReset", fn := fun _ => fun
  | [d1, d2] => { results := [.lit (.bool false)], args := [d1, d2] }
  | _ => none }
def LawS1130BResetWrongFalsely : Prop := lawS1130BResetRow.holds Yba.pinned (OpenSpec.ofChange lawS1130BResetWrong)

/-- 'scaledown.LawS1130CSum': WHATEVER THE INPUT: true; the input reads as it did. -/
def lawS1130CSumSpec : ChangeSpec := { name := "lawS1130CSum", fn := fun _ => fun
  | [d1, d2, d3, d4] => { results := [.lit (.bool true)], args := [d1, d2, d3, d4] }
  | _ => none }
def lawS1130CSumRow : OpenClaim := { program := "ybulkwjm", sum := "e5195c9748e5d3e4be7a64cab29b681e7a055ebd9a631d214dcd73643dbea670", func := "example.com/zonekeeper/zonekeeper/internal/scaledown.LawS1130CSum", spec := "lawS1130CSum", inPlace := ["math/bits.Add64"], plainKeys := false, apart := false }
def LawS1130CSumSaid : Prop := lawS1130CSumRow.holds Yba.pinned (OpenSpec.ofChange lawS1130CSumSpec)

/-- ITS FALSE NEIGHBOUR: 'it returns false'. Refute it at one input. -/
def lawS1130CSumWrong : ChangeSpec := { name := "lawS1130CSum", fn := fun _ => fun
  | [d1, d2, d3, d4] => { results := [.lit (.bool false)], args := [d1, d2, d3, d4] }
  | _ => none }
def LawS1130CSumWrongFalsely : Prop := lawS1130CSumRow.holds Yba.pinned (OpenSpec.ofChange lawS1130CSumWrong)

/-- 'scaledown.LawS1130CKept': WHATEVER THE INPUT: true; the input reads as it did. -/
def lawS1130CKeptSpec : ChangeSpec := { name := "lawS1130CKept", fn := fun _ => fun
  | [d1, d2, d3, d4] => { results := [.lit (.bool true)], args := [d1, d2, d3, d4] }
  | _ => none }
def lawS1130CKeptRow : OpenClaim := { program := "ybulkwjm", sum := "e5195c9748e5d3e4be7a64cab29b681e7a055ebd9a631d214dcd73643dbea670", func := "example.com/zonekeeper/zonekeeper/internal/scaledown.LawS1130CKept", spec := "lawS1130CKept", inPlace := ["math/bits.Add64"], plainKeys := false, apart := false }
def LawS1130CKeptSaid : Prop := lawS1130CKeptRow.holds Yba.pinned (OpenSpec.ofChange lawS1130CKeptSpec)

/-- ITS FALSE NEIGHBOUR: 'it returns false'. Refute it at one input. -/
def lawS1130CKeptWrong : ChangeSpec := { name := "lawS1130CKept", fn := fun _ => fun
  | [d1, d2, d3, d4] => { results := [.lit (.bool false)], args := [d1, d2, d3, d4] }
  | _ => none }
def LawS1130CKeptWrongFalsely : Prop := lawS1130CKeptRow.holds Yba.pinned (OpenSpec.ofChange lawS1130CKeptWrong)

end Rows
end Go.Proofs.Ybulkwjm
