/-
  No cell of these rows narrows 'for every input' (looked for: loops, veiled, ifaces, maps, wideKeys, modest, calm, conditions, laid).
  DERIVED. THE GIVEN ROWS OF THIS SEAT. 2 by the template 'for every input the law returns true; each argument reads behind the call as it read before'; 0 by the template 'total and deterministic' (their statements: YbulkckwmTotals.lean).
  GIVEN WITH THE SEED: the statements are not yours to turn. If you find one false, say at which input.
  Laid BY PROGRAM, IN A SANDBOX (cutbox-rows.mjs): the forced cells as the released guide's own fill.sh prints them over the translation 56b4f99490380906… (all of the seat's roots in one cut). By AI agents, Wed Nov 11 2026. No macro, syntax, notation, axiom, sorry.
-/
import Derived.Test.YbulkckwmChecked
import GoSem.Claim
import GoSem.ClaimJoined
import GoSem.ClaimMapViews
import Derived.JoinedTies
import Derived.KernelRfl
namespace Go.Proofs.Ybulkckwm
/- THE CELL 'sum', in the pinned program and in every row, IS THE sha256 OF THE DUMP (.gsa) THAT YbulkckwmProg.lean LOADS. Nothing in Lean hashes anything: it is a label: what it is worth is what the hold of that sum in a sandbox is worth. -/
noncomputable def Yba.pinned : Pinned := { name := "ybulkckwm", sum := "56b4f9949038090636ca2a20fc9976a694c70f670ece98db5bff2bc154600baa", checked := Yba.checked }
namespace Rows
def none {H : Type} : Left H := { results := [], args := [] }

/-- 'kingsround.LawS4341BModel': WHATEVER THE INPUT: true; the input reads as it did. -/
def lawS4341BModelSpec : ChangeSpec := { name := "lawS4341BModel", fn := fun _ => fun
  | [d] => { results := [.lit (.bool true)], args := [d] }
  | _ => none }
def lawS4341BModelRow : OpenClaim := { program := "ybulkckwm", sum := "56b4f9949038090636ca2a20fc9976a694c70f670ece98db5bff2bc154600baa", func := "example.com/kingsround/kingsround.LawS4341BModel", spec := "lawS4341BModel", apart := false }
def LawS4341BModelSaid : Prop := lawS4341BModelRow.holds Yba.pinned (OpenSpec.ofChange lawS4341BModelSpec)

/-- ITS FALSE NEIGHBOUR: 'it returns false'. Refute it at one input. -/
def lawS4341BModelWrong : ChangeSpec := { name := "lawS4341BModel", fn := fun _ => fun
  | [d] => { results := [.lit (.bool false)], args := [d] }
  | _ => none }
def LawS4341BModelWrongFalsely : Prop := lawS4341BModelRow.holds Yba.pinned (OpenSpec.ofChange lawS4341BModelWrong)

/-- 'kingsround.LawS4341BRefill': WHATEVER THE INPUT: true; the input reads as it did. -/
def lawS4341BRefillSpec : ChangeSpec := { name := "lawS4341BRefill", fn := fun _ => fun
  | [d1, d2] => { results := [.lit (.bool true)], args := [d1, d2] }
  | _ => none }
def lawS4341BRefillRow : OpenClaim := { program := "ybulkckwm", sum := "56b4f9949038090636ca2a20fc9976a694c70f670ece98db5bff2bc154600baa", func := "example.com/kingsround/kingsround.LawS4341BRefill", spec := "lawS4341BRefill", apart := false }
def LawS4341BRefillSaid : Prop := lawS4341BRefillRow.holds Yba.pinned (OpenSpec.ofChange lawS4341BRefillSpec)

/-- ITS FALSE NEIGHBOUR: 'it returns false'. Refute it at one input. -/
def lawS4341BRefillWrong : ChangeSpec := { name := "lawS4341BRefill", fn := fun _ => fun
  | [d1, d2] => { results := [.lit (.bool false)], args := [d1, d2] }
  | _ => none }
def LawS4341BRefillWrongFalsely : Prop := lawS4341BRefillRow.holds Yba.pinned (OpenSpec.ofChange lawS4341BRefillWrong)

end Rows
end Go.Proofs.Ybulkckwm
