/-
  No cell of these rows narrows 'for every input' (looked for: loops, veiled, ifaces, maps, wideKeys, modest, calm, conditions, laid).
  DERIVED. THE GIVEN ROWS OF THIS SEAT. 1 by the template 'for every input the law returns true; each argument reads behind the call as it read before'; 0 by the template 'total and deterministic' (their statements: YbulkwlqTotals.lean).
  GIVEN WITH THE SEED: the statements are not yours to turn. If you find one false, say at which input.
  Laid BY PROGRAM, IN A SANDBOX (cutbox-rows.mjs): the forced cells as the released guide's own fill.sh prints them over the translation fdf30aac11c79ad4… (all of the seat's roots in one cut). By AI agents, Wed Nov 11 2026. No macro, syntax, notation, axiom, sorry.
-/
import Derived.Test.YbulkwlqChecked
import GoSem.Claim
import GoSem.ClaimJoined
import GoSem.ClaimMapViews
import Derived.JoinedTies
import Derived.KernelRfl
namespace Go.Proofs.Ybulkwlq
/- THE CELL 'sum', in the pinned program and in every row, IS THE sha256 OF THE DUMP (.gsa) THAT YbulkwlqProg.lean LOADS. Nothing in Lean hashes anything: it is a label: what it is worth is what the hold of that sum in a sandbox is worth. -/
noncomputable def Yba.pinned : Pinned := { name := "ybulkwlq", sum := "fdf30aac11c79ad4db22a0b31828142fd9a2031dbd0b46dbd41d7d18dd9d08cc", checked := Yba.checked }
namespace Rows
def none {H : Type} : Left H := { results := [], args := [] }

/-- 'rankweave.LawS1134AIds': WHATEVER THE INPUT: true; the input reads as it did. -/
def lawS1134AIdsSpec : ChangeSpec := { name := "lawS1134AIds", fn := fun _ => fun
  | [d1, d2, d3] => { results := [.lit (.bool true)], args := [d1, d2, d3] }
  | _ => none }
def lawS1134AIdsRow : OpenClaim := { program := "ybulkwlq", sum := "fdf30aac11c79ad4db22a0b31828142fd9a2031dbd0b46dbd41d7d18dd9d08cc", func := "example.com/rankweave/rankweave.LawS1134AIds", spec := "lawS1134AIds", inPlace := ["math.Float64bits"], apart := false }
def LawS1134AIdsSaid : Prop := lawS1134AIdsRow.holds Yba.pinned (OpenSpec.ofChange lawS1134AIdsSpec)

/-- ITS FALSE NEIGHBOUR: 'it returns false'. Refute it at one input. -/
def lawS1134AIdsWrong : ChangeSpec := { name := "lawS1134AIds", fn := fun _ => fun
  | [d1, d2, d3] => { results := [.lit (.bool false)], args := [d1, d2, d3] }
  | _ => none }
def LawS1134AIdsWrongFalsely : Prop := lawS1134AIdsRow.holds Yba.pinned (OpenSpec.ofChange lawS1134AIdsWrong)

end Rows
end Go.Proofs.Ybulkwlq
