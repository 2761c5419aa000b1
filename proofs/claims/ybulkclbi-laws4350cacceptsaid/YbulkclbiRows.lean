/-
  No cell of these rows narrows 'for every input' (looked for: loops, veiled, ifaces, maps, wideKeys, modest, calm, conditions, laid).
  DERIVED. THE GIVEN ROWS OF THIS SEAT. 5 by the template 'for every input the law returns true; each argument reads behind the call as it read before'; 0 by the template 'total and deterministic' (their statements: YbulkclbiTotals.lean).
  GIVEN WITH THE SEED: the statements are not yours to turn. If you find one false, say at which input.
  Laid BY PROGRAM, IN A SANDBOX (cutbox-rows.mjs): the forced cells as the released guide's own fill.sh prints them over the translation b5bebc01b46f7f52… (all of the seat's roots in one cut). By AI agents, Wed Nov 11 2026. No macro, syntax, notation, axiom, sorry.
-/
import Derived.Test.YbulkclbiChecked
import GoSem.Claim
import GoSem.ClaimJoined
import GoSem.ClaimMapViews
import Derived.JoinedTies
import Derived.KernelRfl
namespace Go.Proofs.Ybulkclbi
/- THE CELL 'sum', in the pinned program and in every row, IS THE sha256 OF THE DUMP (.gsa) THAT YbulkclbiProg.lean LOADS. Nothing in Lean hashes anything: it is a label: what it is worth is what the hold of that sum in a sandbox is worth. -/
noncomputable def Yba.pinned : Pinned := { name := "ybulkclbi", sum := "b5bebc01b46f7f523e0b70bfdc6f8393416490295e49df52e80ed4caa338743f", checked := Yba.checked }
namespace Rows
def none {H : Type} : Left H := { results := [], args := [] }

/-- 'urlsign.LawS4350AFirstMatch': WHATEVER THE INPUT: true; the input reads as it did. -/
def lawS4350AFirstMatchSpec : ChangeSpec := { name := "lawS4350AFirstMatch", fn := fun _ => fun
  | [d1, d2, d3, d4] => { results := [.lit (.bool true)], args := [d1, d2, d3, d4] }
  | _ => none }
def lawS4350AFirstMatchRow : OpenClaim := { program := "ybulkclbi", sum := "b5bebc01b46f7f523e0b70bfdc6f8393416490295e49df52e80ed4caa338743f", func := "example.com/tollgate/tollgate/urlsign.LawS4350AFirstMatch", spec := "lawS4350AFirstMatch", inPlace := ["crypto/internal/constanttime.boolToUint8"], unfollowed := true, recurses := true, apart := false }
def LawS4350AFirstMatchSaid : Prop := lawS4350AFirstMatchRow.holds Yba.pinned (OpenSpec.ofChange lawS4350AFirstMatchSpec)

/-- ITS FALSE NEIGHBOUR: 'it returns false'. Refute it at one input. -/
def lawS4350AFirstMatchWrong : ChangeSpec := { name := "lawS4350AFirstMatch", fn := fun _ => fun
  | [d1, d2, d3, d4] => { results := [.lit (.bool false)], args := [d1, d2, d3, d4] }
  | _ => none }
def LawS4350AFirstMatchWrongFalsely : Prop := lawS4350AFirstMatchRow.holds Yba.pinned (OpenSpec.ofChange lawS4350AFirstMatchWrong)

/-- 'urlsign.LawS4350AEmptySum': WHATEVER THE INPUT: true; the input reads as it did. -/
def lawS4350AEmptySumSpec : ChangeSpec := { name := "lawS4350AEmptySum", fn := fun _ => fun
  | [d1, d2] => { results := [.lit (.bool true)], args := [d1, d2] }
  | _ => none }
def lawS4350AEmptySumRow : OpenClaim := { program := "ybulkclbi", sum := "b5bebc01b46f7f523e0b70bfdc6f8393416490295e49df52e80ed4caa338743f", func := "example.com/tollgate/tollgate/urlsign.LawS4350AEmptySum", spec := "lawS4350AEmptySum", inPlace := ["crypto/internal/constanttime.boolToUint8"], unfollowed := true, recurses := true, apart := false }
def LawS4350AEmptySumSaid : Prop := lawS4350AEmptySumRow.holds Yba.pinned (OpenSpec.ofChange lawS4350AEmptySumSpec)

/-- ITS FALSE NEIGHBOUR: 'it returns false'. Refute it at one input. -/
def lawS4350AEmptySumWrong : ChangeSpec := { name := "lawS4350AEmptySum", fn := fun _ => fun
  | [d1, d2] => { results := [.lit (.bool false)], args := [d1, d2] }
  | _ => none }
def LawS4350AEmptySumWrongFalsely : Prop := lawS4350AEmptySumRow.holds Yba.pinned (OpenSpec.ofChange lawS4350AEmptySumWrong)

/-- 'gate.LawS4350BForwards': WHATEVER THE INPUT: true; the input reads as it did. -/
def lawS4350BForwardsSpec : ChangeSpec := { name := "lawS4350BForwards", fn := fun _ => fun
  | [d1, d2] => { results := [.lit (.bool true)], args := [d1, d2] }
  | _ => none }
def lawS4350BForwardsRow : OpenClaim := { program := "ybulkclbi", sum := "b5bebc01b46f7f523e0b70bfdc6f8393416490295e49df52e80ed4caa338743f", func := "example.com/tollgate/tollgate/gate.LawS4350BForwards", spec := "lawS4350BForwards", unfollowed := true, recurses := true, apart := false }
def LawS4350BForwardsSaid : Prop := lawS4350BForwardsRow.holds Yba.pinned (OpenSpec.ofChange lawS4350BForwardsSpec)

/-- ITS FALSE NEIGHBOUR: 'it returns false'. Refute it at one input. -/
def lawS4350BForwardsWrong : ChangeSpec := { name := "lawS4350BForwards", fn := fun _ => fun
  | [d1, d2] => { results := [.lit (.bool false)], args := [d1, d2] }
  | _ => none }
def LawS4350BForwardsWrongFalsely : Prop := lawS4350BForwardsRow.holds Yba.pinned (OpenSpec.ofChange lawS4350BForwardsWrong)

/-- 'gate.LawS4350BNoCloser': WHATEVER THE INPUT: true; the input reads as it did. -/
def lawS4350BNoCloserSpec : ChangeSpec := { name := "lawS4350BNoCloser", fn := fun _ => fun
  | [d1, d2, d3] => { results := [.lit (.bool true)], args := [d1, d2, d3] }
  | _ => none }
def lawS4350BNoCloserRow : OpenClaim := { program := "ybulkclbi", sum := "b5bebc01b46f7f523e0b70bfdc6f8393416490295e49df52e80ed4caa338743f", func := "example.com/tollgate/tollgate/gate.LawS4350BNoCloser", spec := "lawS4350BNoCloser", unfollowed := true, recurses := true, apart := false }
def LawS4350BNoCloserSaid : Prop := lawS4350BNoCloserRow.holds Yba.pinned (OpenSpec.ofChange lawS4350BNoCloserSpec)

/-- ITS FALSE NEIGHBOUR: 'it returns false'. Refute it at one input. -/
def lawS4350BNoCloserWrong : ChangeSpec := { name := "lawS4350BNoCloser", fn := fun _ => fun
  | [d1, d2, d3] => { results := [.lit (.bool false)], args := [d1, d2, d3] }
  | _ => none }
def LawS4350BNoCloserWrongFalsely : Prop := lawS4350BNoCloserRow.holds Yba.pinned (OpenSpec.ofChange lawS4350BNoCloserWrong)

/-- 'gate.LawS4350CAccept': WHATEVER THE INPUT: true; the input reads as it did. -/
def lawS4350CAcceptSpec : ChangeSpec := { name := "lawS4350CAccept", fn := fun _ => fun
  | [d] => { results := [.lit (.bool true)], args := [d] }
  | _ => none }
def lawS4350CAcceptRow : OpenClaim := { program := "ybulkclbi", sum := "b5bebc01b46f7f523e0b70bfdc6f8393416490295e49df52e80ed4caa338743f", func := "example.com/tollgate/tollgate/gate.LawS4350CAccept", spec := "lawS4350CAccept", unfollowed := true, recurses := true, apart := false }
def LawS4350CAcceptSaid : Prop := lawS4350CAcceptRow.holds Yba.pinned (OpenSpec.ofChange lawS4350CAcceptSpec)

/-- ITS FALSE NEIGHBOUR: 'it returns false'. Refute it at one input. -/
def lawS4350CAcceptWrong : ChangeSpec := { name := "lawS4350CAccept", fn := fun _ => fun
  | [d] => { results := [.lit (.bool false)], args := [d] }
  | _ => none }
def LawS4350CAcceptWrongFalsely : Prop := lawS4350CAcceptRow.holds Yba.pinned (OpenSpec.ofChange lawS4350CAcceptWrong)

end Rows
end Go.Proofs.Ybulkclbi
