/-
  NARROWER THAN 'FOR EVERY INPUT', by the rows' own cells (each row's printed sentence says how): LawS2327BStatus: ifaces, laid.
  DERIVED. THE GIVEN ROWS OF THIS SEAT. 1 by the template 'for every input the law returns true; each argument reads behind the call as it read before'; 0 by the template 'total and deterministic' (their statements: YbulkaveaDoorTotals.lean).
  GIVEN WITH THE SEED: the statements are not yours to turn. If you find one false, say at which input.
  Laid BY PROGRAM, IN A SANDBOX (cutbox-rows.mjs): the forced cells as the released guide's own fill.sh prints them over the translation 5bd79a8b3470cfd7… (all of the seat's roots in one cut). By AI agents, Wed Nov 11 2026. No macro, syntax, notation, axiom, sorry.
-/
import Derived.Test.YbulkaveaDoorChecked
import GoSem.Claim
import GoSem.ClaimJoined
import GoSem.ClaimMapViews
import Derived.JoinedTies
import Derived.KernelRfl
namespace Go.Proofs.YbulkaveaDoor
/- THE CELL 'sum', in the pinned program and in every row, IS THE sha256 OF THE DUMP (.gsa) THAT YbulkaveaDoorProg.lean LOADS. Nothing in Lean hashes anything: it is a label: what it is worth is what the hold of that sum in a sandbox is worth. -/
noncomputable def Ybad.pinned : Pinned := { name := "ybulkaveadoor", sum := "5bd79a8b3470cfd767af761e02c144a3542bc17368c7f7657134040df93cbe4b", checked := Ybad.checked }
namespace Rows
def none {H : Type} : Left H := { results := [], args := [] }

/- WHAT THE LISTED PACKAGE-LEVEL VARIABLES READ AS WHEN THE CALL BEGINS. Each datum BY PROGRAM (the guide's laid-datum.mjs) off the statement by which the dump's own 'gosem.cut.vars' lays the variable. In a bare row this is a premise. The card (YbulkaveaDoorCards.lean) ties it to the program's text. -/
def laid_example_com_seqwell_seqwell_sequence_errClosed {H : Type} : DataW H := .iface "*errors.errorString" (.ptr (.agg [.lit (.string [115, 101, 113, 117, 101, 110, 99, 101, 58, 32, 116, 104, 101, 32, 115, 116, 111, 114, 101, 32, 105, 115, 32, 99, 108, 111, 115, 101, 100])]))

/-- 'sequence.LawS2327BStatus': WHATEVER THE INPUT: true; the input reads as it did. -/
def lawS2327BStatusSpec : ChangeSpec := { name := "lawS2327BStatus", vars := ["example.com/seqwell/seqwell/sequence.errClosed"], fn := fun _ => fun
  | [d, g1] => { results := [.lit (.bool true)], args := [d], vars := [g1] }
  | _ => none }
def lawS2327BStatusRow : OpenClaim := { program := "ybulkaveadoor", sum := "5bd79a8b3470cfd767af761e02c144a3542bc17368c7f7657134040df93cbe4b", func := "example.com/seqwell/seqwell/sequence.LawS2327BStatus", spec := "lawS2327BStatus", inPlace := ["(*sync.RWMutex).RLock", "internal/race.Read", "internal/race.Disable", "sync/atomic.AddInt32", "sync.runtime_SemacquireRWMutexR", "internal/race.Enable", "internal/race.Acquire", "(*sync.RWMutex).RUnlock", "internal/race.ReleaseMerge", "(*sync.RWMutex).rUnlockSlow", "sync.fatal", "sync.runtime_Semrelease", "(*internal/sync.Mutex).Lock", "sync/atomic.CompareAndSwapInt32", "(*internal/sync.Mutex).lockSlow", "internal/sync.runtime_canSpin", "internal/sync.runtime_doSpin", "internal/sync.throw", "internal/sync.runtime_nanotime", "internal/sync.runtime_SemacquireMutex", "(*internal/sync.Mutex).Unlock", "(*internal/sync.Mutex).unlockSlow", "internal/sync.fatal", "internal/sync.runtime_Semrelease", "math/big.addVV", "math/bits.Add64", "math/big.subVV", "math/bits.Sub64"], unfollowed := true, recurses := true, named := ["example.com/seqwell/seqwell/sequence.errClosed"], ifaces := true, apart := false, laid := [("example.com/seqwell/seqwell/sequence.errClosed", laid_example_com_seqwell_seqwell_sequence_errClosed)] }
def LawS2327BStatusSaid : Prop := lawS2327BStatusRow.holds Ybad.pinned (OpenSpec.ofChange lawS2327BStatusSpec)

/-- ITS FALSE NEIGHBOUR: 'it returns false'. Refute it at one input. -/
def lawS2327BStatusWrong : ChangeSpec := { name := "lawS2327BStatus", vars := ["example.com/seqwell/seqwell/sequence.errClosed"], fn := fun _ => fun
  | [d, g1] => { results := [.lit (.bool false)], args := [d], vars := [g1] }
  | _ => none }
def LawS2327BStatusWrongFalsely : Prop := lawS2327BStatusRow.holds Ybad.pinned (OpenSpec.ofChange lawS2327BStatusWrong)

end Rows
end Go.Proofs.YbulkaveaDoor
