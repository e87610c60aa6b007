/-
  No cell of these rows narrows 'for every input' (looked for: loops, veiled, ifaces, maps, wideKeys, modest, calm, conditions, laid).
  DERIVED. THE GIVEN ROWS OF THIS SEAT. 3 by the template 'for every input the law returns true; each argument reads behind the call as it read before'; 0 by the template 'total and deterministic' (their statements: YbulkfwfyTotals.lean).
  GIVEN WITH THE SEED: the statements are not yours to turn. If you find one false, say at which input.
  Laid BY PROGRAM, IN A SANDBOX (cutbox-rows.mjs): the forced cells as the released guide's own fill.sh prints them over the translation 9a9e6205dcef9486… (all of the seat's roots in one cut). By AI agents, Wed Nov 11 2026. No macro, syntax, notation, axiom, sorry.
-/
import Derived.Test.YbulkfwfyChecked
import GoSem.Claim
import GoSem.ClaimJoined
import GoSem.ClaimMapViews
import Derived.JoinedTies
import Derived.KernelRfl
namespace Go.Proofs.Ybulkfwfy
/- THE CELL 'sum', in the pinned program and in every row, IS THE sha256 OF THE DUMP (.gsa) THAT YbulkfwfyProg.lean LOADS. Nothing in Lean hashes anything: it is a label: what it is worth is what the hold of that sum in a sandbox is worth. -/
noncomputable def Yba.pinned : Pinned := { name := "ybulkfwfy", sum := "9a9e6205dcef9486135d5dd7f0105ab1eeae65adeb3af5de5c0c89eb13b79f0e", checked := Yba.checked }
namespace Rows
def none {H : Type} : Left H := { results := [], args := [] }

/-- 'vm.LawS8656BWhole': WHATEVER THE INPUT: true; the input reads as it did. -/
def lawS8656BWholeSpec : ChangeSpec := { name := "lawS8656BWhole", fn := fun _ => fun
  | [d1, d2, d3, d4] => { results := [.lit (.bool true)], args := [d1, d2, d3, d4] }
  | _ => none }
def lawS8656BWholeRow : OpenClaim := { program := "ybulkfwfy", sum := "9a9e6205dcef9486135d5dd7f0105ab1eeae65adeb3af5de5c0c89eb13b79f0e", func := "example.com/stackline/stackline/internal/vm.LawS8656BWhole", spec := "lawS8656BWhole", apart := false }
def LawS8656BWholeSaid : Prop := lawS8656BWholeRow.holds Yba.pinned (OpenSpec.ofChange lawS8656BWholeSpec)

/-- ITS FALSE NEIGHBOUR: 'it returns false'. Refute it at one input. -/
def lawS8656BWholeWrong : ChangeSpec := { name := "lawS8656BWhole", fn := fun _ => fun
  | [d1, d2, d3, d4] => { results := [.lit (.bool false)], args := [d1, d2, d3, d4] }
  | _ => none }
def LawS8656BWholeWrongFalsely : Prop := lawS8656BWholeRow.holds Yba.pinned (OpenSpec.ofChange lawS8656BWholeWrong)

/-- 'vm.LawS8656CWhole': WHATEVER THE INPUT: true; the input reads as it did. -/
def lawS8656CWholeSpec : ChangeSpec := { name := "lawS8656CWhole", fn := fun _ => fun
  | [d] => { results := [.lit (.bool true)], args := [d] }
  | _ => none }
def lawS8656CWholeRow : OpenClaim := { program := "ybulkfwfy", sum := "9a9e6205dcef9486135d5dd7f0105ab1eeae65adeb3af5de5c0c89eb13b79f0e", func := "example.com/stackline/stackline/internal/vm.LawS8656CWhole", spec := "lawS8656CWhole", apart := false }
def LawS8656CWholeSaid : Prop := lawS8656CWholeRow.holds Yba.pinned (OpenSpec.ofChange lawS8656CWholeSpec)

/-- ITS FALSE NEIGHBOUR: 'it returns false'. Refute it at one input. -/
def lawS8656CWholeWrong : ChangeSpec := { name := "lawS8656CWhole", fn := fun _ => fun
  | [d] => { results := [.lit (.bool false)], args := [d] }
  | _ => none }
def LawS8656CWholeWrongFalsely : Prop := lawS8656CWholeRow.holds Yba.pinned (OpenSpec.ofChange lawS8656CWholeWrong)

/-- 'vm.LawS8656CTruthy': WHATEVER THE INPUT: true; the input reads as it did. -/
def lawS8656CTruthySpec : ChangeSpec := { name := "lawS8656CTruthy", fn := fun _ => fun
  | [d] => { results := [.lit (.bool true)], args := [d] }
  | _ => none }
def lawS8656CTruthyRow : OpenClaim := { program := "ybulkfwfy", sum := "9a9e6205dcef9486135d5dd7f0105ab1eeae65adeb3af5de5c0c89eb13b79f0e", func := "example.com/stackline/stackline/internal/vm.LawS8656CTruthy", spec := "lawS8656CTruthy", apart := false }
def LawS8656CTruthySaid : Prop := lawS8656CTruthyRow.holds Yba.pinned (OpenSpec.ofChange lawS8656CTruthySpec)

/-- ITS FALSE NEIGHBOUR: 'it returns false'. Refute it at one input. -/
def lawS8656CTruthyWrong : ChangeSpec := { name := "lawS8656CTruthy", fn := fun _ => fun
  | [d] => { results := [.lit (.bool false)], args := [d] }
  | _ => none }
def LawS8656CTruthyWrongFalsely : Prop := lawS8656CTruthyRow.holds Yba.pinned (OpenSpec.ofChange lawS8656CTruthyWrong)

end Rows
end Go.Proofs.Ybulkfwfy
