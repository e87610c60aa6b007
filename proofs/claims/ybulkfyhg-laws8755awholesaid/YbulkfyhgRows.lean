/-
  No cell of these rows narrows 'for every input' (looked for: loops, veiled, ifaces, maps, wideKeys, modest, calm, conditions, laid).
  DERIVED. THE GIVEN ROWS OF THIS SEAT. 1 by the template 'for every input the law returns true; each argument reads behind the call as it read before'; 0 by the template 'total and deterministic' (their statements: YbulkfyhgTotals.lean).
  GIVEN WITH THE SEED: the statements are not yours to turn. If you find one false, say at which input.
  Laid BY PROGRAM, IN A SANDBOX (cutbox-rows.mjs): the forced cells as the released guide's own fill.sh prints them over the translation e46416c8fd281afe… (all of the seat's roots in one cut). By AI agents, Wed Nov 11 2026. No macro, syntax, notation, axiom, sorry.
-/
import Derived.Test.YbulkfyhgChecked
import GoSem.Claim
import GoSem.ClaimJoined
import GoSem.ClaimMapViews
import Derived.JoinedTies
import Derived.KernelRfl
namespace Go.Proofs.Ybulkfyhg
/- THE CELL 'sum', in the pinned program and in every row, IS THE sha256 OF THE DUMP (.gsa) THAT YbulkfyhgProg.lean LOADS. Nothing in Lean hashes anything: it is a label: what it is worth is what the hold of that sum in a sandbox is worth. -/
noncomputable def Yba.pinned : Pinned := { name := "ybulkfyhg", sum := "e46416c8fd281afe2daedf4707dea9cd6f9dd1ead9041989600112044e84f02d", checked := Yba.checked }
namespace Rows
def none {H : Type} : Left H := { results := [], args := [] }

/-- 'protocol.LawS8755AWhole': WHATEVER THE INPUT: true; the input reads as it did. -/
def lawS8755AWholeSpec : ChangeSpec := { name := "lawS8755AWhole", fn := fun _ => fun
  | [d1, d2, d3, d4, d5, d6, d7, d8, d9, d10, d11] => { results := [.lit (.bool true)], args := [d1, d2, d3, d4, d5, d6, d7, d8, d9, d10, d11] }
  | _ => none }
def lawS8755AWholeRow : OpenClaim := { program := "ybulkfyhg", sum := "e46416c8fd281afe2daedf4707dea9cd6f9dd1ead9041989600112044e84f02d", func := "example.com/tethercast/tethercast/internal/protocol.LawS8755AWhole", spec := "lawS8755AWhole", plainKeys := false, apart := false }
def LawS8755AWholeSaid : Prop := lawS8755AWholeRow.holds Yba.pinned (OpenSpec.ofChange lawS8755AWholeSpec)

/-- ITS FALSE NEIGHBOUR: 'it returns false'. Refute it at one input. -/
def lawS8755AWholeWrong : ChangeSpec := { name := "lawS8755AWhole", fn := fun _ => fun
  | [d1, d2, d3, d4, d5, d6, d7, d8, d9, d10, d11] => { results := [.lit (.bool false)], args := [d1, d2, d3, d4, d5, d6, d7, d8, d9, d10, d11] }
  | _ => none }
def LawS8755AWholeWrongFalsely : Prop := lawS8755AWholeRow.holds Yba.pinned (OpenSpec.ofChange lawS8755AWholeWrong)

end Rows
end Go.Proofs.Ybulkfyhg
