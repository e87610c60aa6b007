/-
  The contracts of (vm.value).truthy at the two values that boolValue makes.
-/
import Derived.Test.YbulkfwfyBoolValue
import Derived.Deep.RegionWith
namespace Go.Proofs.Ybulkfwfy.Truthy
open Go.ChangeShapes Go.WideShapes Go.ChangeAt Go.RowKit

theorem truthy_true (w : World) :
    Calls Yba.prog 18 #[.agg #[.int .u8 1, .int .i64 1, .string ⟨#[]⟩]] w fun e w' => e = .returned (.bool true) ∧ Grown w w' := by
  go_enter Yba.func18, Yba.ntmps18
  go_wp2_with fail
  go_region_with (go_at_call 17; refine (BoolValue.bool_false _).mono ?_; rintro e w' ⟨rfl, rfl⟩)
  all_goals
    go_wp2
    go_ret
    exact ⟨rfl, by repeat (first | exact Grown.refl _ | apply Grown.drew | apply Grown.alloc)⟩
theorem truthy_false (w : World) :
    Calls Yba.prog 18 #[.agg #[.int .u8 1, .int .i64 0, .string ⟨#[]⟩]] w fun e w' => e = .returned (.bool false) ∧ Grown w w' := by
  go_enter Yba.func18, Yba.ntmps18
  go_wp2_with fail
  go_region_with (go_at_call 17; refine (BoolValue.bool_false _).mono ?_; rintro e w' ⟨rfl, rfl⟩)
  all_goals
    go_wp2
    go_ret
    exact ⟨rfl, by repeat (first | exact Grown.refl _ | apply Grown.drew | apply Grown.alloc)⟩
end Go.Proofs.Ybulkfwfy.Truthy
