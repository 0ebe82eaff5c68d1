/-
  No cell of these rows narrows 'for every input' (looked for: loops, veiled, ifaces, maps, wideKeys, modest, calm, conditions, laid).
  DERIVED. THE GIVEN ROWS OF THIS SEAT. 1 by the template 'for every input the law returns true; each argument reads behind the call as it read before'; 0 by the template 'total and deterministic' (their statements: YbulkacccTotals.lean).
  GIVEN WITH THE SEED: the statements are not yours to turn. If you find one false, say at which input.
  Laid BY PROGRAM, IN A SANDBOX (cutbox-rows.mjs): the forced cells as the released guide's own fill.sh prints them over the translation e9a59ccd1a4a61ae… (all of the seat's roots in one cut). By AI agents, Wed Nov 11 2026. No macro, syntax, notation, axiom, sorry.
-/
import Derived.Test.YbulkacccChecked
import GoSem.Claim
import GoSem.ClaimJoined
import GoSem.ClaimMapViews
import Derived.JoinedTies
import Derived.KernelRfl
namespace Go.Proofs.Ybulkaccc
/- THE CELL 'sum', in the pinned program and in every row, IS THE sha256 OF THE DUMP (.gsa) THAT YbulkacccProg.lean LOADS. Nothing in Lean hashes anything: it is a label: what it is worth is what the hold of that sum in a sandbox is worth. -/
noncomputable def Yba.pinned : Pinned := { name := "ybulkaccc", sum := "e9a59ccd1a4a61ae598cd3f6067d36f1eb6846c7a579e379e24c8b6cefe81dc0", checked := Yba.checked }
namespace Rows
def none {H : Type} : Left H := { results := [], args := [] }

/-- 'cache.LawS1406ADropsOldestFirst': WHATEVER THE INPUT: true; the input reads as it did. -/
def lawS1406ADropsOldestFirstSpec : ChangeSpec := { name := "lawS1406ADropsOldestFirst", fn := fun _ => fun
  | [d1, d2, d3] => { results := [.lit (.bool true)], args := [d1, d2, d3] }
  | _ => none }
def lawS1406ADropsOldestFirstRow : OpenClaim := { program := "ybulkaccc", sum := "e9a59ccd1a4a61ae598cd3f6067d36f1eb6846c7a579e379e24c8b6cefe81dc0", func := "example.com/packferry/packferry/pkg/cache.LawS1406ADropsOldestFirst", spec := "lawS1406ADropsOldestFirst", unfollowed := true, recurses := true, plainKeys := false, apart := false }
def LawS1406ADropsOldestFirstSaid : Prop := lawS1406ADropsOldestFirstRow.holds Yba.pinned (OpenSpec.ofChange lawS1406ADropsOldestFirstSpec)

/-- ITS FALSE NEIGHBOUR: 'it returns false'. Refute it at one input. -/
def lawS1406ADropsOldestFirstWrong : ChangeSpec := { name := "lawS1406ADropsOldestFirst", fn := fun _ => fun
  | [d1, d2, d3] => { results := [.lit (.bool false)], args := [d1, d2, d3] }
  | _ => none }
def LawS1406ADropsOldestFirstWrongFalsely : Prop := lawS1406ADropsOldestFirstRow.holds Yba.pinned (OpenSpec.ofChange lawS1406ADropsOldestFirstWrong)

end Rows
end Go.Proofs.Ybulkaccc
