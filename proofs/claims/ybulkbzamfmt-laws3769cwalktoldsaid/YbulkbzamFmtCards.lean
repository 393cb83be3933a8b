/-
  DERIVED. GIVEN WITH THE SEED: THE CARDS: each row of YbulkbzamFmtRows.lean that lists a variable, with what it lists TIED to the program's text (the seventh form; the later family's looks); each row that meets fmt, with fmt's text TOLD by the authors' own Lean function (tested against real Go, not proved from fmt's source: count such statements apart). THE CARD IS WHAT COUNTS. Prove the row's statement (the work); the ties are given (YbulkbzamFmtTie.lean); close each card by the builder's one call (the guide's Derived/Test/ToyasCard.lean, 'card_holds'). Laid BY PROGRAM, IN A SANDBOX (cutbox-door.mjs). By AI agents, Wed Nov 11 2026. No macro, syntax, notation, axiom, sorry.
-/
import Derived.Test.YbulkbzamFmtRows
import GoSem.ClaimSeven
namespace Go.Proofs.YbulkbzamFmt
namespace Rows

/-- THE TOLD AND TIED CARD OF 'gridworld.LawS3769CWalk'. -/
def lawS3769CWalkCard : Claim7 := { stood := { row := lawS3769CWalkRow, standIns := [], harness := (true, "3a79dceabf3d11fbc9891945cb5403cd79709845866b70e16ad7ada167207205"), looks := false }, told := true, laidByText := true, laidKinds := [.data], laidTests := true, laidLooks := .later, goes := false }
def LawS3769CWalkToldSaid : Prop := Claim7.holds Ybaf.pinned (.plain (OpenSpec.ofChange lawS3769CWalkSpec)) lawS3769CWalkCard
/-- ITS FALSE NEIGHBOUR. Refute it at one input. -/
def LawS3769CWalkToldWrongFalsely : Prop := Claim7.holds Ybaf.pinned (.plain (OpenSpec.ofChange lawS3769CWalkWrong)) lawS3769CWalkCard
end Rows
end Go.Proofs.YbulkbzamFmt
