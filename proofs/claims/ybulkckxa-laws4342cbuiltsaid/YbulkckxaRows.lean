/-
  No cell of these rows narrows 'for every input' (looked for: loops, veiled, ifaces, maps, wideKeys, modest, calm, conditions, laid).
  DERIVED. THE GIVEN ROWS OF THIS SEAT. 3 by the template 'for every input the law returns true; each argument reads behind the call as it read before'; 0 by the template 'total and deterministic' (their statements: YbulkckxaTotals.lean).
  GIVEN WITH THE SEED: the statements are not yours to turn. If you find one false, say at which input.
  Laid BY PROGRAM, IN A SANDBOX (cutbox-rows.mjs): the forced cells as the released guide's own fill.sh prints them over the translation 08fb1b5b5f340640… (all of the seat's roots in one cut). By AI agents, Wed Nov 11 2026. No macro, syntax, notation, axiom, sorry.
-/
import Derived.Test.YbulkckxaChecked
import GoSem.Claim
import GoSem.ClaimJoined
import GoSem.ClaimMapViews
import Derived.JoinedTies
import Derived.KernelRfl
namespace Go.Proofs.Ybulkckxa
/- THE CELL 'sum', in the pinned program and in every row, IS THE sha256 OF THE DUMP (.gsa) THAT YbulkckxaProg.lean LOADS. Nothing in Lean hashes anything: it is a label: what it is worth is what the hold of that sum in a sandbox is worth. -/
noncomputable def Yba.pinned : Pinned := { name := "ybulkckxa", sum := "08fb1b5b5f3406408f80400957db4adfe6664133bb2b1bcf1e386c852dbf79a9", checked := Yba.checked }
namespace Rows
def none {H : Type} : Left H := { results := [], args := [] }

/-- 'compare.LawS4342BClass': WHATEVER THE INPUT: true; the input reads as it did. -/
def lawS4342BClassSpec : ChangeSpec := { name := "lawS4342BClass", fn := fun _ => fun
  | [d1, d2, d3] => { results := [.lit (.bool true)], args := [d1, d2, d3] }
  | _ => none }
def lawS4342BClassRow : OpenClaim := { program := "ybulkckxa", sum := "08fb1b5b5f3406408f80400957db4adfe6664133bb2b1bcf1e386c852dbf79a9", func := "example.com/vetted-routes/vetted-routes/pkg/compare.LawS4342BClass", spec := "lawS4342BClass", apart := false }
def LawS4342BClassSaid : Prop := lawS4342BClassRow.holds Yba.pinned (OpenSpec.ofChange lawS4342BClassSpec)

/-- ITS FALSE NEIGHBOUR: 'it returns false'. Refute it at one input. -/
def lawS4342BClassWrong : ChangeSpec := { name := "lawS4342BClass", fn := fun _ => fun
  | [d1, d2, d3] => { results := [.lit (.bool false)], args := [d1, d2, d3] }
  | _ => none }
def LawS4342BClassWrongFalsely : Prop := lawS4342BClassRow.holds Yba.pinned (OpenSpec.ofChange lawS4342BClassWrong)

/-- 'dialect.LawS4342CFirstMatch': WHATEVER THE INPUT: true; the input reads as it did. -/
def lawS4342CFirstMatchSpec : ChangeSpec := { name := "lawS4342CFirstMatch", fn := fun _ => fun
  | [d1, d2] => { results := [.lit (.bool true)], args := [d1, d2] }
  | _ => none }
def lawS4342CFirstMatchRow : OpenClaim := { program := "ybulkckxa", sum := "08fb1b5b5f3406408f80400957db4adfe6664133bb2b1bcf1e386c852dbf79a9", func := "example.com/vetted-routes/vetted-routes/pkg/dialect.LawS4342CFirstMatch", spec := "lawS4342CFirstMatch", unfollowed := true, recurses := true, apart := false }
def LawS4342CFirstMatchSaid : Prop := lawS4342CFirstMatchRow.holds Yba.pinned (OpenSpec.ofChange lawS4342CFirstMatchSpec)

/-- ITS FALSE NEIGHBOUR: 'it returns false'. Refute it at one input. -/
def lawS4342CFirstMatchWrong : ChangeSpec := { name := "lawS4342CFirstMatch", fn := fun _ => fun
  | [d1, d2] => { results := [.lit (.bool false)], args := [d1, d2] }
  | _ => none }
def LawS4342CFirstMatchWrongFalsely : Prop := lawS4342CFirstMatchRow.holds Yba.pinned (OpenSpec.ofChange lawS4342CFirstMatchWrong)

/-- 'dialect.LawS4342CBuilt': WHATEVER THE INPUT: true; the input reads as it did. -/
def lawS4342CBuiltSpec : ChangeSpec := { name := "lawS4342CBuilt", fn := fun _ => fun
  | [d1, d2] => { results := [.lit (.bool true)], args := [d1, d2] }
  | _ => none }
def lawS4342CBuiltRow : OpenClaim := { program := "ybulkckxa", sum := "08fb1b5b5f3406408f80400957db4adfe6664133bb2b1bcf1e386c852dbf79a9", func := "example.com/vetted-routes/vetted-routes/pkg/dialect.LawS4342CBuilt", spec := "lawS4342CBuilt", unfollowed := true, recurses := true, apart := false }
def LawS4342CBuiltSaid : Prop := lawS4342CBuiltRow.holds Yba.pinned (OpenSpec.ofChange lawS4342CBuiltSpec)

/-- ITS FALSE NEIGHBOUR: 'it returns false'. Refute it at one input. -/
def lawS4342CBuiltWrong : ChangeSpec := { name := "lawS4342CBuilt", fn := fun _ => fun
  | [d1, d2] => { results := [.lit (.bool false)], args := [d1, d2] }
  | _ => none }
def LawS4342CBuiltWrongFalsely : Prop := lawS4342CBuiltRow.holds Yba.pinned (OpenSpec.ofChange lawS4342CBuiltWrong)

end Rows
end Go.Proofs.Ybulkckxa
