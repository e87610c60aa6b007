/-
  No cell of these rows narrows 'for every input' (looked for: loops, veiled, ifaces, maps, wideKeys, modest, calm, conditions, laid).
  DERIVED. THE GIVEN ROWS OF THIS SEAT. 1 by the template 'for every input the law returns true; each argument reads behind the call as it read before'; 0 by the template 'total and deterministic' (their statements: YbulkfwhaTotals.lean).
  GIVEN WITH THE SEED: the statements are not yours to turn. If you find one false, say at which input.
  Laid BY PROGRAM, IN A SANDBOX (cutbox-rows.mjs): the forced cells as the released guide's own fill.sh prints them over the translation e98aa8c61303220e… (all of the seat's roots in one cut). By AI agents, Wed Nov 11 2026. No macro, syntax, notation, axiom, sorry.
-/
import Derived.Test.YbulkfwhaChecked
import GoSem.Claim
import GoSem.ClaimJoined
import GoSem.ClaimMapViews
import Derived.JoinedTies
import Derived.KernelRfl
namespace Go.Proofs.Ybulkfwha
/- THE CELL 'sum', in the pinned program and in every row, IS THE sha256 OF THE DUMP (.gsa) THAT YbulkfwhaProg.lean LOADS. Nothing in Lean hashes anything: it is a label: what it is worth is what the hold of that sum in a sandbox is worth. -/
noncomputable def Yba.pinned : Pinned := { name := "ybulkfwha", sum := "e98aa8c61303220ea0efd96c1778ac686010a6f0fac20367da12f54188b91305", checked := Yba.checked }
namespace Rows
def none {H : Type} : Left H := { results := [], args := [] }

/-- 'policy.LawS8658CWhole': WHATEVER THE INPUT: true; the input reads as it did. -/
def lawS8658CWholeSpec : ChangeSpec := { name := "lawS8658CWhole", fn := fun _ => fun
  | [d1, d2] => { results := [.lit (.bool true)], args := [d1, d2] }
  | _ => none }
def lawS8658CWholeRow : OpenClaim := { program := "ybulkfwha", sum := "e98aa8c61303220ea0efd96c1778ac686010a6f0fac20367da12f54188b91305", func := "example.com/dvarapala/dvarapala/policy.LawS8658CWhole", spec := "lawS8658CWhole", apart := false }
def LawS8658CWholeSaid : Prop := lawS8658CWholeRow.holds Yba.pinned (OpenSpec.ofChange lawS8658CWholeSpec)

/-- ITS FALSE NEIGHBOUR: 'it returns false'. Refute it at one input. -/
def lawS8658CWholeWrong : ChangeSpec := { name := "lawS8658CWhole", fn := fun _ => fun
  | [d1, d2] => { results := [.lit (.bool false)], args := [d1, d2] }
  | _ => none }
def LawS8658CWholeWrongFalsely : Prop := lawS8658CWholeRow.holds Yba.pinned (OpenSpec.ofChange lawS8658CWholeWrong)

end Rows
end Go.Proofs.Ybulkfwha
