/-
  The contracts of (pika.format).Member.
-/
import Derived.Test.YbulkgaboRows
import Derived.WalkKit
import Derived.ProofKit
namespace Go.Proofs.Ybulkgabo.Member
open Go.ChangeShapes Go.WideShapes Go.ChangeAt Go.RowKit

theorem member_manifest (n : Int) (s : ByteArray) (h : (s.toList == [109, 97, 110, 105, 102, 101, 115, 116]) = true) (w : World) :
    Calls Yba.prog 6 #[.agg #[.int .i64 n], .string s] w fun e w' => e = .returned (.iface 34 (.agg #[.int .i64 n])) ∧ w' = w.alloc (.cells #[.int .i64 n] 30) := by
  go_enter Yba.func6, Yba.ntmps6
  go_wp2
  go_ret
  exact ⟨rfl, rfl⟩
theorem member_other (n : Int) (s : ByteArray) (h : (s.toList == [109, 97, 110, 105, 102, 101, 115, 116]) = false) (w : World) :
    Calls Yba.prog 6 #[.agg #[.int .i64 n], .string s] w fun e w' => e = .returned (.iface 30 (.agg #[.int .i64 n])) ∧ w' = w.alloc (.cells #[.int .i64 n] 30) := by
  go_enter Yba.func6, Yba.ntmps6
  go_wp2
  go_ret
  exact ⟨rfl, rfl⟩
end Go.Proofs.Ybulkgabo.Member
