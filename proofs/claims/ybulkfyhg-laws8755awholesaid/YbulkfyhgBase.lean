/-
  Small facts: maps that the call itself has made.
-/
import Derived.Test.YbulkfyhgRows
import Derived.WalkKit
import Derived.ProofKit
import Derived.OpenShut
import Derived.WalkSpells
import Derived.Lib.Builder
namespace Go.Proofs.Ybulkfyhg.SetLoad
open Go.ChangeShapes Go.WideShapes Go.ChangeAt Go.RowKit

theorem new_same {W : World} {o : Obj} {r : Nat} (h : r = W.heap.size) : (W.alloc o).heap[r]? = some o := by
  subst h; exact (MapKept.heap_alloc W o).1
theorem new_old {W : World} {o x : Obj} {r : Nat} (h : W.heap[r]? = some x) : (W.alloc o).heap[r]? = some x := by
  have hr : r < W.heap.size := by
    rcases Nat.lt_or_ge r W.heap.size with k | k
    · exact k
    · rw [Array.getElem?_eq_none k] at h; cases h
  show (W.heap.push o)[r]? = some x
  rw [Array.getElem?_push, if_neg (by omega)]
  exact h
theorem len_new {t k e : TypeId} (hu : Yba.prog.underlying t = some (.map k e)) {W : World} {r : Nat} (h : W.heap[r]? = some (.map #[] 0)) :
    (Builtin.len_ #[t] 3 #[.map (some r)]).run Yba.prog W = .ok (.int .i64 0) W := by
  exact run_len_map (w := W) t 3 r #[] 0 (by simp [Program.mapKeyOf, Program.mapElemOf, hu]) h
theorem frozen_map (w : World) (a : Addr) : (w.alloc (.map #[] 0)).frozen? a = w.frozen? a := by
  by_cases h : a.block = w.heap.size
  · have e1 : (w.alloc (.map #[] 0)).heap[a.block]? = some (.map #[] 0) := new_same h
    have e2 : w.heap[a.block]? = none := by rw [h]; simp
    simp [World.frozen?, e1, e2]
  · have e : (w.alloc (.map #[] 0)).heap[a.block]? = w.heap[a.block]? := by
      show (w.heap.push _)[a.block]? = _
      rw [Array.getElem?_push, if_neg h]
    simp [World.frozen?, e]
theorem grown_map {W w' : World} (h : Grown W w') : Grown W (w'.alloc (.map #[] 0)) :=
  ⟨World.keptBut_trans h.1 (World.keptBut_alloc _ _ _), fun a => (frozen_map _ a).trans (h.2.1 a), Nat.le_trans h.2.2 (by show w'.heap.size ≤ (w'.heap.push _).size; simp)⟩
theorem same_ptr (a : Addr) (w : World) : (binOp .neq 24 (.pointer (some a)) (.pointer (some a))).run Yba.prog w = .ok (.bool false) w := by
  obtain ⟨j, hj⟩ := Option.isSome_iff_exists.mp (show (Yba.prog.info? 28).isSome = true by kernel_rfl)
  exact Lib.run_neq_ptr_same w a Yba.underlying24 hj
end Go.Proofs.Ybulkfyhg.SetLoad
