/-
  No cell of these rows narrows 'for every input' (looked for: loops, veiled, ifaces, maps, wideKeys, modest, calm, conditions, laid).
  DERIVED. THE GIVEN ROWS OF THIS SEAT. 1 by the template 'for every input the law returns true; each argument reads behind the call as it read before'; 0 by the template 'total and deterministic' (their statements: YbulkfyhgFmtTotals.lean).
  GIVEN WITH THE SEED: the statements are not yours to turn. If you find one false, say at which input.
  Laid BY PROGRAM, IN A SANDBOX (cutbox-rows.mjs): the forced cells as the released guide's own fill.sh prints them over the translation a74b0cf8432fea60… (all of the seat's roots in one cut). By AI agents, Wed Nov 11 2026. No macro, syntax, notation, axiom, sorry.
-/
import Derived.Test.YbulkfyhgFmtChecked
import GoSem.Claim
import GoSem.ClaimJoined
import GoSem.ClaimMapViews
import Derived.JoinedTies
import Derived.KernelRfl
namespace Go.Proofs.YbulkfyhgFmt
/- THE CELL 'sum', in the pinned program and in every row, IS THE sha256 OF THE DUMP (.gsa) THAT YbulkfyhgFmtProg.lean LOADS. Nothing in Lean hashes anything: it is a label: what it is worth is what the hold of that sum in a sandbox is worth. -/
noncomputable def Ybaf.pinned : Pinned := { name := "ybulkfyhgfmt", sum := "a74b0cf8432fea606f27e7a9b920530763654e89bff444274af64ee10b32da2d", checked := Ybaf.checked }
namespace Rows
def none {H : Type} : Left H := { results := [], args := [] }

/-- 'relay.LawS8755CWhole': WHATEVER THE INPUT: true; the input reads as it did. -/
def lawS8755CWholeSpec : ChangeSpec := { name := "lawS8755CWhole", fn := fun _ => fun
  | [d1, d2, d3] => { results := [.lit (.bool true)], args := [d1, d2, d3] }
  | _ => none }
def lawS8755CWholeRow : OpenClaim := { program := "ybulkfyhgfmt", sum := "a74b0cf8432fea606f27e7a9b920530763654e89bff444274af64ee10b32da2d", func := "example.com/tethercast/tethercast/internal/relay.LawS8755CWhole", spec := "lawS8755CWhole", stops := ["fmt.Sprintf", "fmt.errorf"], inPlace := ["(*internal/sync.Mutex).Lock", "internal/race.Disable", "sync/atomic.CompareAndSwapInt32", "internal/race.Enable", "internal/race.Acquire", "(*internal/sync.Mutex).lockSlow", "internal/sync.runtime_canSpin", "internal/sync.runtime_doSpin", "internal/sync.throw", "internal/sync.runtime_nanotime", "internal/sync.runtime_SemacquireMutex", "sync/atomic.AddInt32", "fmt.Sprintf", "fmt.errorf", "(*internal/sync.Mutex).Unlock", "internal/race.ReleaseMerge", "(*internal/sync.Mutex).unlockSlow", "internal/sync.fatal", "internal/sync.runtime_Semrelease"], apart := false }
/-- NO THEOREM (fmt's text is open here; it may be false): for the released tool's asking of the row's closed facts alone. THE STATEMENT IS 'LawS8755CWholeToldSaid' (YbulkfyhgFmtCards.lean). -/
def LawS8755CWholeFormAsk : Prop := lawS8755CWholeRow.holds Ybaf.pinned (OpenSpec.ofChange lawS8755CWholeSpec)

/-- ITS FALSE NEIGHBOUR: 'it returns false'. Refute it at one input. -/
def lawS8755CWholeWrong : ChangeSpec := { name := "lawS8755CWhole", fn := fun _ => fun
  | [d1, d2, d3] => { results := [.lit (.bool false)], args := [d1, d2, d3] }
  | _ => none }
def LawS8755CWholeWrongFormAsk : Prop := lawS8755CWholeRow.holds Ybaf.pinned (OpenSpec.ofChange lawS8755CWholeWrong)

end Rows
end Go.Proofs.YbulkfyhgFmt
