/-
  NARROWER THAN 'FOR EVERY INPUT', by the rows' own cells (each row's printed sentence says how): LawS3769CWalk: laid.
  DERIVED. THE GIVEN ROWS OF THIS SEAT. 1 by the template 'for every input the law returns true; each argument reads behind the call as it read before'; 0 by the template 'total and deterministic' (their statements: YbulkbzamFmtTotals.lean).
  GIVEN WITH THE SEED: the statements are not yours to turn. If you find one false, say at which input.
  Laid BY PROGRAM, IN A SANDBOX (cutbox-rows.mjs): the forced cells as the released guide's own fill.sh prints them over the translation 233b17c77b607707… (all of the seat's roots in one cut). By AI agents, Wed Nov 11 2026. No macro, syntax, notation, axiom, sorry.
-/
import Derived.Test.YbulkbzamFmtChecked
import GoSem.Claim
import GoSem.ClaimJoined
import GoSem.ClaimMapViews
import Derived.JoinedTies
import Derived.KernelRfl
namespace Go.Proofs.YbulkbzamFmt
/- THE CELL 'sum', in the pinned program and in every row, IS THE sha256 OF THE DUMP (.gsa) THAT YbulkbzamFmtProg.lean LOADS. Nothing in Lean hashes anything: it is a label: what it is worth is what the hold of that sum in a sandbox is worth. -/
noncomputable def Ybaf.pinned : Pinned := { name := "ybulkbzamfmt", sum := "233b17c77b607707fd9c17b92d6f756af030ac009d2a3b9bf5dc135ffbb7aedd", checked := Ybaf.checked }
namespace Rows
def none {H : Type} : Left H := { results := [], args := [] }

/- WHAT THE LISTED PACKAGE-LEVEL VARIABLES READ AS WHEN THE CALL BEGINS. Each datum BY PROGRAM (the guide's laid-datum.mjs) off the statement by which the dump's own 'gosem.cut.vars' lays the variable. In a bare row this is a premise. The card (YbulkbzamFmtCards.lean) ties it to the program's text. -/
def laid_example_com_episode_episode_gridworld_moves {H : Type} : DataW H := .agg [.agg [.lit (.int .i64 (-1)), .lit (.int .i64 0)], .agg [.lit (.int .i64 0), .lit (.int .i64 1)], .agg [.lit (.int .i64 1), .lit (.int .i64 0)], .agg [.lit (.int .i64 0), .lit (.int .i64 (-1))]]

/-- 'gridworld.LawS3769CWalk': WHATEVER THE INPUT: true; the input reads as it did. -/
def lawS3769CWalkSpec : ChangeSpec := { name := "lawS3769CWalk", vars := ["example.com/episode/episode/gridworld.moves"], fn := fun _ => fun
  | [d1, d2, d3, d4, d5, g1] => { results := [.lit (.bool true)], args := [d1, d2, d3, d4, d5], vars := [g1] }
  | _ => none }
def lawS3769CWalkRow : OpenClaim := { program := "ybulkbzamfmt", sum := "233b17c77b607707fd9c17b92d6f756af030ac009d2a3b9bf5dc135ffbb7aedd", func := "example.com/episode/episode/gridworld.LawS3769CWalk", spec := "lawS3769CWalk", stops := ["fmt.Sprintf"], inPlace := ["fmt.Sprintf"], named := ["example.com/episode/episode/gridworld.moves"], apart := false, laid := [("example.com/episode/episode/gridworld.moves", laid_example_com_episode_episode_gridworld_moves)] }
/-- NO THEOREM (fmt's text is open here; it may be false): for the released tool's asking of the row's closed facts alone. THE STATEMENT IS 'LawS3769CWalkToldSaid' (YbulkbzamFmtCards.lean). -/
def LawS3769CWalkFormAsk : Prop := lawS3769CWalkRow.holds Ybaf.pinned (OpenSpec.ofChange lawS3769CWalkSpec)

/-- ITS FALSE NEIGHBOUR: 'it returns false'. Refute it at one input. -/
def lawS3769CWalkWrong : ChangeSpec := { name := "lawS3769CWalk", vars := ["example.com/episode/episode/gridworld.moves"], fn := fun _ => fun
  | [d1, d2, d3, d4, d5, g1] => { results := [.lit (.bool false)], args := [d1, d2, d3, d4, d5], vars := [g1] }
  | _ => none }
def LawS3769CWalkWrongFormAsk : Prop := lawS3769CWalkRow.holds Ybaf.pinned (OpenSpec.ofChange lawS3769CWalkWrong)

end Rows
end Go.Proofs.YbulkbzamFmt
