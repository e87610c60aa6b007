/-
  The contracts of policy.changed.
-/
import Derived.Test.YbulkfwhaRows
import Derived.WalkKit
import Derived.ProofKit
namespace Go.Proofs.Ybulkfwha.Changed
open Go.ChangeShapes Go.WideShapes Go.ChangeAt Go.RowKit

theorem changed_made (s : ByteArray) (w : World) :
    Calls Yba.prog 4 #[.string s, .string ⟨#[]⟩] w fun e w' => e = .returned (.agg #[.string s, .string ⟨#[]⟩, .string ⟨#[]⟩, .string ⟨#[]⟩]) ∧ w' = w.alloc (.cells #[.string s, .string ⟨#[]⟩, .string ⟨#[]⟩, .string ⟨#[]⟩] 24) := by
  go_enter Yba.func4, Yba.ntmps4
  go_wp2
  exact bodyPost_ret (v := .agg #[.string s, .string ⟨#[]⟩, .string ⟨#[]⟩, .string ⟨#[]⟩]) (by simp [results, Yba.results4, go_sem]) rfl ⟨rfl, rfl⟩
theorem changed_refused (s r : ByteArray) (h : r.toList.isEmpty = false) (w : World) :
    Calls Yba.prog 4 #[.string s, .string r] w fun e w' => e = .returned (.agg #[.string ⟨#[114, 101, 102, 117, 115, 101, 100]⟩, .string ⟨#[]⟩, .string r, .string ⟨#[]⟩]) ∧ w' = w.alloc (.cells #[.string ⟨#[114, 101, 102, 117, 115, 101, 100]⟩, .string ⟨#[]⟩, .string r, .string ⟨#[]⟩] 24) := by
  go_enter Yba.func4, Yba.ntmps4
  go_wp2
  exact bodyPost_ret (v := .agg #[.string ⟨#[114, 101, 102, 117, 115, 101, 100]⟩, .string ⟨#[]⟩, .string r, .string ⟨#[]⟩]) (by simp [results, Yba.results4, go_sem]) rfl ⟨rfl, rfl⟩
end Go.Proofs.Ybulkfwha.Changed
