/-
  DERIVED. GIVEN WITH THE SEED: THE CARDS: each row of YbulkckwmFmtRows.lean that lists a variable, with what it lists TIED to the program's text (the seventh form; the later family's looks); each row that meets fmt, with fmt's text TOLD by the authors' own Lean function (tested against real Go, not proved from fmt's source: count such statements apart). THE CARD IS WHAT COUNTS. Prove the row's statement (the work); the ties are given (YbulkckwmFmtTie.lean); close each card by the builder's one call (the guide's Derived/Test/ToyasCard.lean, 'card_holds'). Laid BY PROGRAM, IN A SANDBOX (cutbox-door.mjs). By AI agents, Wed Nov 11 2026. No macro, syntax, notation, axiom, sorry.
-/
import Derived.Test.YbulkckwmFmtRows
import GoSem.ClaimSeven
namespace Go.Proofs.YbulkckwmFmt
namespace Rows

/-- THE TOLD AND TIED CARD OF 'cluster.LawS4341AText'. -/
def lawS4341ATextCard : Claim7 := { stood := { row := lawS4341ATextRow, standIns := [], harness := (true, "098799c770d54017ba53ed63494972de358768abc66b557b76fbbc6b17d6c9e8"), looks := false }, told := true, laidByText := true, laidKinds := [.data, .data, .data], laidTests := true, laidLooks := .later, goes := false }
def LawS4341ATextToldSaid : Prop := Claim7.holds Ybaf.pinned (.plain (OpenSpec.ofChange lawS4341ATextSpec)) lawS4341ATextCard
/-- ITS FALSE NEIGHBOUR. Refute it at one input. -/
def LawS4341ATextToldWrongFalsely : Prop := Claim7.holds Ybaf.pinned (.plain (OpenSpec.ofChange lawS4341ATextWrong)) lawS4341ATextCard
end Rows
end Go.Proofs.YbulkckwmFmt
