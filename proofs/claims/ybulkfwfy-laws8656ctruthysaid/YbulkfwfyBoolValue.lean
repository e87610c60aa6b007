/-
  The contracts of vm.boolValue, shared by the two laws over it.
-/
import Derived.Test.YbulkfwfyRows
import Derived.WalkKit
import Derived.ProofKit
namespace Go.Proofs.Ybulkfwfy.BoolValue
open Go.ChangeShapes Go.WideShapes Go.ChangeAt Go.RowKit

theorem bool_true (w : World) :
    Calls Yba.prog 17 #[.bool true] w fun e w' => e = .returned (.agg #[.int .u8 1, .int .i64 1, .string ⟨#[]⟩]) ∧ w' = w.alloc (.cells #[.int .u8 1, .int .i64 1, .string ⟨#[]⟩] 46) := by
  go_enter Yba.func17, Yba.ntmps17
  go_wp2
  exact bodyPost_ret (v := .agg #[.int .u8 1, .int .i64 1, .string ⟨#[]⟩]) (by simp [results, Yba.results17, go_sem]) rfl ⟨rfl, rfl⟩
theorem bool_false (w : World) :
    Calls Yba.prog 17 #[.bool false] w fun e w' => e = .returned (.agg #[.int .u8 1, .int .i64 0, .string ⟨#[]⟩]) ∧ w' = w.alloc (.cells #[.int .u8 1, .int .i64 0, .string ⟨#[]⟩] 46) := by
  go_enter Yba.func17, Yba.ntmps17
  go_wp2
  exact bodyPost_ret (v := .agg #[.int .u8 1, .int .i64 0, .string ⟨#[]⟩]) (by simp [results, Yba.results17, go_sem]) rfl ⟨rfl, rfl⟩
end Go.Proofs.Ybulkfwfy.BoolValue
