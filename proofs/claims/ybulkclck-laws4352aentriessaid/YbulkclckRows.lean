/-
  No cell of these rows narrows 'for every input' (looked for: loops, veiled, ifaces, maps, wideKeys, modest, calm, conditions, laid).
  DERIVED. THE GIVEN ROWS OF THIS SEAT. 1 by the template 'for every input the law returns true; each argument reads behind the call as it read before'; 0 by the template 'total and deterministic' (their statements: YbulkclckTotals.lean).
  GIVEN WITH THE SEED: the statements are not yours to turn. If you find one false, say at which input.
  Laid BY PROGRAM, IN A SANDBOX (cutbox-rows.mjs): the forced cells as the released guide's own fill.sh prints them over the translation f1692c6d95a90c75… (all of the seat's roots in one cut). By AI agents, Wed Nov 11 2026. No macro, syntax, notation, axiom, sorry.
-/
import Derived.Test.YbulkclckChecked
import GoSem.Claim
import GoSem.ClaimJoined
import GoSem.ClaimMapViews
import Derived.JoinedTies
import Derived.KernelRfl
namespace Go.Proofs.Ybulkclck
/- THE CELL 'sum', in the pinned program and in every row, IS THE sha256 OF THE DUMP (.gsa) THAT YbulkclckProg.lean LOADS. Nothing in Lean hashes anything: it is a label: what it is worth is what the hold of that sum in a sandbox is worth. -/
noncomputable def Yba.pinned : Pinned := { name := "ybulkclck", sum := "f1692c6d95a90c75f8f517c742f2b03af6a9ceb839c80c0468258a4567ca8526", checked := Yba.checked }
namespace Rows
def none {H : Type} : Left H := { results := [], args := [] }

/-- 'chainward.LawS4352AEntries': WHATEVER THE INPUT: true; the input reads as it did. -/
def lawS4352AEntriesSpec : ChangeSpec := { name := "lawS4352AEntries", fn := fun _ => fun
  | [d] => { results := [.lit (.bool true)], args := [d] }
  | _ => none }
def lawS4352AEntriesRow : OpenClaim := { program := "ybulkclck", sum := "f1692c6d95a90c75f8f517c742f2b03af6a9ceb839c80c0468258a4567ca8526", func := "example.com/chainward/chainward.LawS4352AEntries", spec := "lawS4352AEntries", apart := false }
def LawS4352AEntriesSaid : Prop := lawS4352AEntriesRow.holds Yba.pinned (OpenSpec.ofChange lawS4352AEntriesSpec)

/-- ITS FALSE NEIGHBOUR: 'it returns false'. Refute it at one input. -/
def lawS4352AEntriesWrong : ChangeSpec := { name := "lawS4352AEntries", fn := fun _ => fun
  | [d] => { results := [.lit (.bool false)], args := [d] }
  | _ => none }
def LawS4352AEntriesWrongFalsely : Prop := lawS4352AEntriesRow.holds Yba.pinned (OpenSpec.ofChange lawS4352AEntriesWrong)

end Rows
end Go.Proofs.Ybulkclck
