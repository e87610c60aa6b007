/-
  The walk of LawS8755AWhole, emptyCopies = True, giveNil = True.
-/
import Derived.Test.YbulkfyhgRows
import Derived.WalkKit
import Derived.ProofKit
import Derived.OpenShut
import Derived.WalkSpells
import Derived.Lib.Builder
import Derived.Test.YbulkfyhgBase
namespace Go.Proofs.Ybulkfyhg.SetLoad
open Go.ChangeShapes Go.WideShapes Go.ChangeAt Go.RowKit

set_option maxRecDepth 100000 in
set_option maxHeartbeats 1600000 in
theorem walk1p (a0 : Int) (a1 : Int) (a2 : Int) (a5 : Int) (a6 : Int) (a7 : Int) (a8 : Int) (a9 : Int) (a10 : Int) (h : 0 < a1) (hb : -9223372036854775808 ≤ a1 ∧ a1 ≤ 9223372036854775807) (w : World) :
    Calls Yba.prog 3 #[.int .u64 a0, .int .i64 a1, .int .i64 a2, .bool true, .bool true, .int .i64 a5, .int .i64 a6, .int .i64 a7, .int .i64 a8, .int .i64 a9, .int .i64 a10] w fun e w' => e = .returned (.bool true) ∧ Grown w w' := by
  have hmm := @run_makeMap Yba.prog
  have sp := same_ptr
  have q23 : ∀ (w : World) (r : Option Nat), (binOp .eql 23 (.map r) (.map none)).run Yba.prog w = .ok (.bool r.isNone) w := fun w r => run_eql_map_nil w _ _ _ r Yba.underlying23
  have q26 : ∀ (w : World) (r : Option Nat), (binOp .eql 26 (.map r) (.map none)).run Yba.prog w = .ok (.bool r.isNone) w := fun w r => run_eql_map_nil w _ _ _ r Yba.underlying26
  have c0 : ∀ (o1 o2 o3 o4 : Obj), (Builtin.len_ #[23] 3 #[.map (some (w.heap.size))]).run Yba.prog (((((w.alloc (.map #[] 0)).alloc o1).alloc o2).alloc o3).alloc o4) = .ok (.int .i64 0) (((((w.alloc (.map #[] 0)).alloc o1).alloc o2).alloc o3).alloc o4) := fun _ _ _ _ => len_new Yba.underlying23 (new_old (new_old (new_old (new_old (new_same (by simp))))))
  have c1 : ∀ (o0 o2 o3 o4 : Obj), (Builtin.len_ #[26] 3 #[.map (some (w.heap.size + 1))]).run Yba.prog (((((w.alloc o0).alloc (.map #[] 0)).alloc o2).alloc o3).alloc o4) = .ok (.int .i64 0) (((((w.alloc o0).alloc (.map #[] 0)).alloc o2).alloc o3).alloc o4) := fun _ _ _ _ => len_new Yba.underlying26 (new_old (new_old (new_old (new_same (by simp)))))
  have c2 : ∀ (o0 o1 o3 o4 : Obj), (Builtin.len_ #[26] 3 #[.map (some (w.heap.size + 1 + 1))]).run Yba.prog (((((w.alloc o0).alloc o1).alloc (.map #[] 0)).alloc o3).alloc o4) = .ok (.int .i64 0) (((((w.alloc o0).alloc o1).alloc (.map #[] 0)).alloc o3).alloc o4) := fun _ _ _ _ => len_new Yba.underlying26 (new_old (new_old (new_same (by simp))))
  go_enter Yba.func3, Yba.ntmps3
  go_wp2_with fail
  go_in
  go_wp2
  go_end0
  go_wp2
  go_ret
  exact ⟨rfl, by repeat (first | exact Grown.refl _ | apply Grown.drew | apply Grown.alloc | apply grown_map)⟩

set_option maxRecDepth 100000 in
set_option maxHeartbeats 1600000 in
theorem walk1n (a0 : Int) (a1 : Int) (a2 : Int) (a5 : Int) (a6 : Int) (a7 : Int) (a8 : Int) (a9 : Int) (a10 : Int) (h : a1 ≤ 0) (hb : -9223372036854775808 ≤ a1 ∧ a1 ≤ 9223372036854775807) (w : World) :
    Calls Yba.prog 3 #[.int .u64 a0, .int .i64 a1, .int .i64 a2, .bool true, .bool true, .int .i64 a5, .int .i64 a6, .int .i64 a7, .int .i64 a8, .int .i64 a9, .int .i64 a10] w fun e w' => e = .returned (.bool true) ∧ Grown w w' := by
  have hmm := @run_makeMap Yba.prog
  have sp := same_ptr
  have q23 : ∀ (w : World) (r : Option Nat), (binOp .eql 23 (.map r) (.map none)).run Yba.prog w = .ok (.bool r.isNone) w := fun w r => run_eql_map_nil w _ _ _ r Yba.underlying23
  have q26 : ∀ (w : World) (r : Option Nat), (binOp .eql 26 (.map r) (.map none)).run Yba.prog w = .ok (.bool r.isNone) w := fun w r => run_eql_map_nil w _ _ _ r Yba.underlying26
  have c0 : ∀ (o1 o2 o3 o4 : Obj), (Builtin.len_ #[23] 3 #[.map (some (w.heap.size))]).run Yba.prog (((((w.alloc (.map #[] 0)).alloc o1).alloc o2).alloc o3).alloc o4) = .ok (.int .i64 0) (((((w.alloc (.map #[] 0)).alloc o1).alloc o2).alloc o3).alloc o4) := fun _ _ _ _ => len_new Yba.underlying23 (new_old (new_old (new_old (new_old (new_same (by simp))))))
  have c1 : ∀ (o0 o2 o3 o4 : Obj), (Builtin.len_ #[26] 3 #[.map (some (w.heap.size + 1))]).run Yba.prog (((((w.alloc o0).alloc (.map #[] 0)).alloc o2).alloc o3).alloc o4) = .ok (.int .i64 0) (((((w.alloc o0).alloc (.map #[] 0)).alloc o2).alloc o3).alloc o4) := fun _ _ _ _ => len_new Yba.underlying26 (new_old (new_old (new_old (new_same (by simp)))))
  have c2 : ∀ (o0 o1 o3 o4 : Obj), (Builtin.len_ #[26] 3 #[.map (some (w.heap.size + 1 + 1))]).run Yba.prog (((((w.alloc o0).alloc o1).alloc (.map #[] 0)).alloc o3).alloc o4) = .ok (.int .i64 0) (((((w.alloc o0).alloc o1).alloc (.map #[] 0)).alloc o3).alloc o4) := fun _ _ _ _ => len_new Yba.underlying26 (new_old (new_old (new_same (by simp))))
  go_enter Yba.func3, Yba.ntmps3
  go_wp2_with fail
  go_in
  go_wp2
  go_end0
  go_wp2
  go_ret
  exact ⟨rfl, by repeat (first | exact Grown.refl _ | apply Grown.drew | apply Grown.alloc | apply grown_map)⟩
end Go.Proofs.Ybulkfyhg.SetLoad
