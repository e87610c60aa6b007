/-
  No cell of these rows narrows 'for every input' (looked for: loops, veiled, ifaces, maps, wideKeys, modest, calm, conditions, laid).
  DERIVED. THE GIVEN ROWS OF THIS SEAT. 2 by the template 'for every input the law returns true; each argument reads behind the call as it read before'; 0 by the template 'total and deterministic' (their statements: YbulkgaboTotals.lean).
  GIVEN WITH THE SEED: the statements are not yours to turn. If you find one false, say at which input.
  Laid BY PROGRAM, IN A SANDBOX (cutbox-rows.mjs): the forced cells as the released guide's own fill.sh prints them over the translation f772dc4f491f2064… (all of the seat's roots in one cut). By AI agents, Wed Nov 11 2026. No macro, syntax, notation, axiom, sorry.
-/
import Derived.Test.YbulkgaboChecked
import GoSem.Claim
import GoSem.ClaimJoined
import GoSem.ClaimMapViews
import Derived.JoinedTies
import Derived.KernelRfl
namespace Go.Proofs.Ybulkgabo
/- THE CELL 'sum', in the pinned program and in every row, IS THE sha256 OF THE DUMP (.gsa) THAT YbulkgaboProg.lean LOADS. Nothing in Lean hashes anything: it is a label: what it is worth is what the hold of that sum in a sandbox is worth. -/
noncomputable def Yba.pinned : Pinned := { name := "ybulkgabo", sum := "f772dc4f491f206480bbc8997599a3fcb867a43b9d49a0d1884b173f00bf4585", checked := Yba.checked }
namespace Rows
def none {H : Type} : Left H := { results := [], args := [] }

/-- 'pump.LawS8841BWhole': WHATEVER THE INPUT: true; the input reads as it did. -/
def lawS8841BWholeSpec : ChangeSpec := { name := "lawS8841BWhole", fn := fun _ => fun
  | [d1, d2, d3, d4, d5] => { results := [.lit (.bool true)], args := [d1, d2, d3, d4, d5] }
  | _ => none }
def lawS8841BWholeRow : OpenClaim := { program := "ybulkgabo", sum := "f772dc4f491f206480bbc8997599a3fcb867a43b9d49a0d1884b173f00bf4585", func := "example.com/logsieve/logsieve/internal/pump.LawS8841BWhole", spec := "lawS8841BWhole", apart := false }
def LawS8841BWholeSaid : Prop := lawS8841BWholeRow.holds Yba.pinned (OpenSpec.ofChange lawS8841BWholeSpec)

/-- ITS FALSE NEIGHBOUR: 'it returns false'. Refute it at one input. -/
def lawS8841BWholeWrong : ChangeSpec := { name := "lawS8841BWhole", fn := fun _ => fun
  | [d1, d2, d3, d4, d5] => { results := [.lit (.bool false)], args := [d1, d2, d3, d4, d5] }
  | _ => none }
def LawS8841BWholeWrongFalsely : Prop := lawS8841BWholeRow.holds Yba.pinned (OpenSpec.ofChange lawS8841BWholeWrong)

/-- 'pika.LawS8841CWhole': WHATEVER THE INPUT: true; the input reads as it did. -/
def lawS8841CWholeSpec : ChangeSpec := { name := "lawS8841CWhole", fn := fun _ => fun
  | [d1, d2, d3] => { results := [.lit (.bool true)], args := [d1, d2, d3] }
  | _ => none }
def lawS8841CWholeRow : OpenClaim := { program := "ybulkgabo", sum := "f772dc4f491f206480bbc8997599a3fcb867a43b9d49a0d1884b173f00bf4585", func := "example.com/logsieve/logsieve/internal/pika.LawS8841CWhole", spec := "lawS8841CWhole", apart := false }
def LawS8841CWholeSaid : Prop := lawS8841CWholeRow.holds Yba.pinned (OpenSpec.ofChange lawS8841CWholeSpec)

/-- ITS FALSE NEIGHBOUR: 'it returns false'. Refute it at one input. -/
def lawS8841CWholeWrong : ChangeSpec := { name := "lawS8841CWhole", fn := fun _ => fun
  | [d1, d2, d3] => { results := [.lit (.bool false)], args := [d1, d2, d3] }
  | _ => none }
def LawS8841CWholeWrongFalsely : Prop := lawS8841CWholeRow.holds Yba.pinned (OpenSpec.ofChange lawS8841CWholeWrong)

end Rows
end Go.Proofs.Ybulkgabo
