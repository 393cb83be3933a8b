/-
  DERIVED. GIVEN WITH THE SEED: THE CARDS: each row of YbulkbzbaFmtRows.lean that lists a variable, with what it lists TIED to the program's text (the seventh form; the later family's looks); each row that meets fmt, with fmt's text TOLD by the authors' own Lean function (tested against real Go, not proved from fmt's source: count such statements apart). THE CARD IS WHAT COUNTS. Prove the row's statement (the work); the ties are given (YbulkbzbaFmtTie.lean); close each card by the builder's one call (the guide's Derived/Test/ToyasCard.lean, 'card_holds'). Laid BY PROGRAM, IN A SANDBOX (cutbox-door.mjs). By AI agents, Wed Nov 11 2026. No macro, syntax, notation, axiom, sorry.
-/
import Derived.Test.YbulkbzbaFmtRows
import GoSem.ClaimSeven
namespace Go.Proofs.YbulkbzbaFmt
namespace Rows

/-- THE TOLD AND TIED CARD OF 'fat.LawS3770BWalk'. -/
def lawS3770BWalkCard : Claim7 := { stood := { row := lawS3770BWalkRow, standIns := [], harness := (true, "fd3a7c2746898b0112a397cbea25015cf1e0f4a950e7b94cf9eba996b11ef7ae"), looks := true }, told := true, laidByText := true, laidKinds := [.sentinel], laidTests := true, laidLooks := .later, goes := false }
def LawS3770BWalkToldSaid : Prop := Claim7.holds Ybaf.pinned (.plain (OpenSpec.ofChange lawS3770BWalkSpec)) lawS3770BWalkCard
/-- ITS FALSE NEIGHBOUR. Refute it at one input. -/
def LawS3770BWalkToldWrongFalsely : Prop := Claim7.holds Ybaf.pinned (.plain (OpenSpec.ofChange lawS3770BWalkWrong)) lawS3770BWalkCard

/-- THE TOLD AND TIED CARD OF 'fat.LawS3770CDirect'. -/
def lawS3770CDirectCard : Claim7 := { stood := { row := lawS3770CDirectRow, standIns := [], harness := (true, "fd3a7c2746898b0112a397cbea25015cf1e0f4a950e7b94cf9eba996b11ef7ae"), looks := true }, told := true, laidByText := true, laidKinds := [.sentinel], laidTests := true, laidLooks := .later, goes := false }
def LawS3770CDirectToldSaid : Prop := Claim7.holds Ybaf.pinned (.plain (OpenSpec.ofChange lawS3770CDirectSpec)) lawS3770CDirectCard
/-- ITS FALSE NEIGHBOUR. Refute it at one input. -/
def LawS3770CDirectToldWrongFalsely : Prop := Claim7.holds Ybaf.pinned (.plain (OpenSpec.ofChange lawS3770CDirectWrong)) lawS3770CDirectCard

/-- THE TOLD AND TIED CARD OF 'fat.LawS3770CPartition'. -/
def lawS3770CPartitionCard : Claim7 := { stood := { row := lawS3770CPartitionRow, standIns := [], harness := (true, "fd3a7c2746898b0112a397cbea25015cf1e0f4a950e7b94cf9eba996b11ef7ae"), looks := true }, told := true, laidByText := true, laidKinds := [.sentinel], laidTests := true, laidLooks := .later, goes := false }
def LawS3770CPartitionToldSaid : Prop := Claim7.holds Ybaf.pinned (.plain (OpenSpec.ofChange lawS3770CPartitionSpec)) lawS3770CPartitionCard
/-- ITS FALSE NEIGHBOUR. Refute it at one input. -/
def LawS3770CPartitionToldWrongFalsely : Prop := Claim7.holds Ybaf.pinned (.plain (OpenSpec.ofChange lawS3770CPartitionWrong)) lawS3770CPartitionCard
end Rows
end Go.Proofs.YbulkbzbaFmt
