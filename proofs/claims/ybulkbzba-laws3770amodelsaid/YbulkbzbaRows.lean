/-
  No cell of these rows narrows 'for every input' (looked for: loops, veiled, ifaces, maps, wideKeys, modest, calm, conditions, laid).
  DERIVED. THE GIVEN ROWS OF THIS SEAT. 1 by the template 'for every input the law returns true; each argument reads behind the call as it read before'; 0 by the template 'total and deterministic' (their statements: YbulkbzbaTotals.lean).
  GIVEN WITH THE SEED: the statements are not yours to turn. If you find one false, say at which input.
  Laid BY PROGRAM, IN A SANDBOX (cutbox-rows.mjs): the forced cells as the released guide's own fill.sh prints them over the translation 2aab756e1fd155e5… (all of the seat's roots in one cut). By AI agents, Wed Nov 11 2026. No macro, syntax, notation, axiom, sorry.
-/
import Derived.Test.YbulkbzbaChecked
import GoSem.Claim
import GoSem.ClaimJoined
import GoSem.ClaimMapViews
import Derived.JoinedTies
import Derived.KernelRfl
namespace Go.Proofs.Ybulkbzba
/- THE CELL 'sum', in the pinned program and in every row, IS THE sha256 OF THE DUMP (.gsa) THAT YbulkbzbaProg.lean LOADS. Nothing in Lean hashes anything: it is a label: what it is worth is what the hold of that sum in a sandbox is worth. -/
noncomputable def Yba.pinned : Pinned := { name := "ybulkbzba", sum := "2aab756e1fd155e5b4e599d25d8fc0b7c7132bbc4bad10ddda8574e4c0296fe0", checked := Yba.checked }
namespace Rows
def none {H : Type} : Left H := { results := [], args := [] }

/-- 'fat.LawS3770AModel': WHATEVER THE INPUT: true; the input reads as it did. -/
def lawS3770AModelSpec : ChangeSpec := { name := "lawS3770AModel", fn := fun _ => fun
  | [d1, d2] => { results := [.lit (.bool true)], args := [d1, d2] }
  | _ => none }
def lawS3770AModelRow : OpenClaim := { program := "ybulkbzba", sum := "2aab756e1fd155e5b4e599d25d8fc0b7c7132bbc4bad10ddda8574e4c0296fe0", func := "example.com/bareroutine/bareroutine/fat.LawS3770AModel", spec := "lawS3770AModel", apart := false }
def LawS3770AModelSaid : Prop := lawS3770AModelRow.holds Yba.pinned (OpenSpec.ofChange lawS3770AModelSpec)

/-- ITS FALSE NEIGHBOUR: 'it returns false'. Refute it at one input. -/
def lawS3770AModelWrong : ChangeSpec := { name := "lawS3770AModel", fn := fun _ => fun
  | [d1, d2] => { results := [.lit (.bool false)], args := [d1, d2] }
  | _ => none }
def LawS3770AModelWrongFalsely : Prop := lawS3770AModelRow.holds Yba.pinned (OpenSpec.ofChange lawS3770AModelWrong)

end Rows
end Go.Proofs.Ybulkbzba
