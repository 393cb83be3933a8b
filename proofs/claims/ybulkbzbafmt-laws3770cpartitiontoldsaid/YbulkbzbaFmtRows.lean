/-
  NARROWER THAN 'FOR EVERY INPUT', by the rows' own cells (each row's printed sentence says how): LawS3770BWalk: laid · LawS3770CDirect: laid · LawS3770CPartition: laid.
  DERIVED. THE GIVEN ROWS OF THIS SEAT. 3 by the template 'for every input the law returns true; each argument reads behind the call as it read before'; 0 by the template 'total and deterministic' (their statements: YbulkbzbaFmtTotals.lean).
  GIVEN WITH THE SEED: the statements are not yours to turn. If you find one false, say at which input.
  Laid BY PROGRAM, IN A SANDBOX (cutbox-rows.mjs): the forced cells as the released guide's own fill.sh prints them over the translation 69624fc09b62e656… (all of the seat's roots in one cut). By AI agents, Wed Nov 11 2026. No macro, syntax, notation, axiom, sorry.
-/
import Derived.Test.YbulkbzbaFmtChecked
import GoSem.Claim
import GoSem.ClaimJoined
import GoSem.ClaimMapViews
import Derived.JoinedTies
import Derived.KernelRfl
namespace Go.Proofs.YbulkbzbaFmt
/- THE CELL 'sum', in the pinned program and in every row, IS THE sha256 OF THE DUMP (.gsa) THAT YbulkbzbaFmtProg.lean LOADS. Nothing in Lean hashes anything: it is a label: what it is worth is what the hold of that sum in a sandbox is worth. -/
noncomputable def Ybaf.pinned : Pinned := { name := "ybulkbzbafmt", sum := "69624fc09b62e65647da148860ab4a3fbcfd10159c15cb289a6e9a994ad93e08", checked := Ybaf.checked }
namespace Rows
def none {H : Type} : Left H := { results := [], args := [] }

/- WHAT THE LISTED PACKAGE-LEVEL VARIABLES READ AS WHEN THE CALL BEGINS. Each datum BY PROGRAM (the guide's laid-datum.mjs) off the statement by which the dump's own 'gosem.cut.vars' lays the variable. In a bare row this is a premise. The card (YbulkbzbaFmtCards.lean) ties it to the program's text. -/
def laid_io_EOF {H : Type} : DataW H := .iface "*errors.errorString" (.ptr (.agg [.lit (.string [69, 79, 70])]))

/-- 'fat.LawS3770BWalk': WHATEVER THE INPUT: true; the input reads as it did. -/
def lawS3770BWalkSpec : ChangeSpec := { name := "lawS3770BWalk", fn := fun _ => fun
  | [d1, d2, d3, d4, d5] => { results := [.lit (.bool true)], args := [d1, d2, d3, d4, d5] }
  | _ => none }
def lawS3770BWalkRow : OpenClaim := { program := "ybulkbzbafmt", sum := "69624fc09b62e65647da148860ab4a3fbcfd10159c15cb289a6e9a994ad93e08", func := "example.com/bareroutine/bareroutine/fat.LawS3770BWalk", spec := "lawS3770BWalk", stops := ["fmt.errorf, its operands' methods called"], inPlace := ["(*internal/sync.Mutex).Lock", "internal/race.Disable", "sync/atomic.CompareAndSwapInt32", "internal/race.Enable", "internal/race.Acquire", "(*internal/sync.Mutex).lockSlow", "internal/sync.runtime_canSpin", "internal/sync.runtime_doSpin", "internal/sync.throw", "internal/sync.runtime_nanotime", "internal/sync.runtime_SemacquireMutex", "sync/atomic.AddInt32", "(*internal/sync.Mutex).Unlock", "internal/race.ReleaseMerge", "(*internal/sync.Mutex).unlockSlow", "internal/sync.fatal", "internal/sync.runtime_Semrelease", "fmt.errorf"], unfollowed := true, recurses := true, named := ["encoding/binary.LittleEndian", "io.EOF"], apart := false, laid := [("io.EOF", laid_io_EOF)] }
/-- NO THEOREM (fmt's text is open here; it may be false): for the released tool's asking of the row's closed facts alone. THE STATEMENT IS 'LawS3770BWalkToldSaid' (YbulkbzbaFmtCards.lean). -/
def LawS3770BWalkFormAsk : Prop := lawS3770BWalkRow.holds Ybaf.pinned (OpenSpec.ofChange lawS3770BWalkSpec)

/-- ITS FALSE NEIGHBOUR: 'it returns false'. Refute it at one input. -/
def lawS3770BWalkWrong : ChangeSpec := { name := "lawS3770BWalk", fn := fun _ => fun
  | [d1, d2, d3, d4, d5] => { results := [.lit (.bool false)], args := [d1, d2, d3, d4, d5] }
  | _ => none }
def LawS3770BWalkWrongFormAsk : Prop := lawS3770BWalkRow.holds Ybaf.pinned (OpenSpec.ofChange lawS3770BWalkWrong)

/-- 'fat.LawS3770CDirect': WHATEVER THE INPUT: true; the input reads as it did. -/
def lawS3770CDirectSpec : ChangeSpec := { name := "lawS3770CDirect", fn := fun _ => fun
  | [d1, d2, d3, d4, d5, d6, d7, d8] => { results := [.lit (.bool true)], args := [d1, d2, d3, d4, d5, d6, d7, d8] }
  | _ => none }
def lawS3770CDirectRow : OpenClaim := { program := "ybulkbzbafmt", sum := "69624fc09b62e65647da148860ab4a3fbcfd10159c15cb289a6e9a994ad93e08", func := "example.com/bareroutine/bareroutine/fat.LawS3770CDirect", spec := "lawS3770CDirect", stops := ["fmt.errorf, its operands' methods called"], inPlace := ["fmt.errorf"], unfollowed := true, recurses := true, named := ["encoding/binary.LittleEndian", "io.EOF"], apart := false, laid := [("io.EOF", laid_io_EOF)] }
/-- NO THEOREM (fmt's text is open here; it may be false): for the released tool's asking of the row's closed facts alone. THE STATEMENT IS 'LawS3770CDirectToldSaid' (YbulkbzbaFmtCards.lean). -/
def LawS3770CDirectFormAsk : Prop := lawS3770CDirectRow.holds Ybaf.pinned (OpenSpec.ofChange lawS3770CDirectSpec)

/-- ITS FALSE NEIGHBOUR: 'it returns false'. Refute it at one input. -/
def lawS3770CDirectWrong : ChangeSpec := { name := "lawS3770CDirect", fn := fun _ => fun
  | [d1, d2, d3, d4, d5, d6, d7, d8] => { results := [.lit (.bool false)], args := [d1, d2, d3, d4, d5, d6, d7, d8] }
  | _ => none }
def LawS3770CDirectWrongFormAsk : Prop := lawS3770CDirectRow.holds Ybaf.pinned (OpenSpec.ofChange lawS3770CDirectWrong)

/-- 'fat.LawS3770CPartition': WHATEVER THE INPUT: true; the input reads as it did. -/
def lawS3770CPartitionSpec : ChangeSpec := { name := "lawS3770CPartition", fn := fun _ => fun
  | [d1, d2, d3, d4, d5, d6, d7, d8, d9, d10] => { results := [.lit (.bool true)], args := [d1, d2, d3, d4, d5, d6, d7, d8, d9, d10] }
  | _ => none }
def lawS3770CPartitionRow : OpenClaim := { program := "ybulkbzbafmt", sum := "69624fc09b62e65647da148860ab4a3fbcfd10159c15cb289a6e9a994ad93e08", func := "example.com/bareroutine/bareroutine/fat.LawS3770CPartition", spec := "lawS3770CPartition", stops := ["fmt.errorf, its operands' methods called"], inPlace := ["fmt.errorf"], unfollowed := true, recurses := true, named := ["encoding/binary.LittleEndian", "io.EOF"], apart := false, laid := [("io.EOF", laid_io_EOF)] }
/-- NO THEOREM (fmt's text is open here; it may be false): for the released tool's asking of the row's closed facts alone. THE STATEMENT IS 'LawS3770CPartitionToldSaid' (YbulkbzbaFmtCards.lean). -/
def LawS3770CPartitionFormAsk : Prop := lawS3770CPartitionRow.holds Ybaf.pinned (OpenSpec.ofChange lawS3770CPartitionSpec)

/-- ITS FALSE NEIGHBOUR: 'it returns false'. Refute it at one input. -/
def lawS3770CPartitionWrong : ChangeSpec := { name := "lawS3770CPartition", fn := fun _ => fun
  | [d1, d2, d3, d4, d5, d6, d7, d8, d9, d10] => { results := [.lit (.bool false)], args := [d1, d2, d3, d4, d5, d6, d7, d8, d9, d10] }
  | _ => none }
def LawS3770CPartitionWrongFormAsk : Prop := lawS3770CPartitionRow.holds Ybaf.pinned (OpenSpec.ofChange lawS3770CPartitionWrong)

end Rows
end Go.Proofs.YbulkbzbaFmt
