/-
  LawS8656BWhole: what the two rows of the globals hold, round by round. No walk here.
-/
import Derived.Test.YbulkfwfyMem
namespace Go.Proofs.Ybulkfwfy.LawB
open Go.RowKit

/-- The stack's zero cells. -/
def stk0 (c : Nat) : Value := (#[.int .u8 0, .int .i64 0, .string ⟨#[]⟩] : Array Value)[c % 3]!
/-- The row of the globals' states when k of them are filled. -/
def glb (gD gK : Nat → Bool) (k c : Nat) : Value := if c / 2 < k then (if c % 2 = 0 then .bool (gD (c / 2)) else .bool (gK (c / 2))) else .bool false
/-- The row of the stack when k values are filled. -/
def stk (gq gi : Nat → Int) (gs : Nat → ByteArray) (k c : Nat) : Value :=
  if c / 3 < k then (if c % 3 = 0 then .int .u8 (gq (c / 3)) else if c % 3 = 1 then .int .i64 (gi (c / 3)) else .string (gs (c / 3))) else stk0 c

variable {w wr : World} {N ng : Nat} {nmd : Value} {fn fg fs fi : Nat → Value} {gD gK : Nat → Bool} {gq gi : Nat → Int} {gs : Nat → ByteArray}

theorem Mem.glb_step {k : Nat} (h : Mem w N ng nmd fn (glb gD gK k) fs fi wr) :
    Mem w N ng nmd fn (glb gD gK (k + 1)) fs fi ((wr.setCell ⟨N + 2, k * 2, none⟩ (.bool (gD k))).setCell ⟨N + 2, k * 2 + 1, none⟩ (.bool (gK k))).drew := by
  refine (((h.setGlob (k * 2) _).setGlob (k * 2 + 1) _).drew).congr (fun _ _ => rfl) (fun c _ => ?_) (fun _ _ => rfl) (fun _ _ => rfl)
  simp only [glb]
  by_cases e1 : c = k * 2 + 1
  · subst e1
    have d1 : (k * 2 + 1) / 2 = k := by omega
    have d2 : (k * 2 + 1) % 2 = 1 := by omega
    simp [d1, d2]
  · rw [if_neg e1]
    by_cases e2 : c = k * 2
    · subst e2
      have d1 : (k * 2) / 2 = k := by omega
      have d2 : (k * 2) % 2 = 0 := by omega
      simp [d1, d2]
    · rw [if_neg e2]
      by_cases e3 : c / 2 < k
      · rw [if_pos e3, if_pos (show c / 2 < k + 1 by omega)]
      · rw [if_neg e3, if_neg (show ¬ c / 2 < k + 1 by omega)]

theorem Mem.stk_step {k : Nat} (h : Mem w N ng nmd fn fg (stk gq gi gs k) fi wr) :
    Mem w N ng nmd fn fg (stk gq gi gs (k + 1)) fi (((wr.setCell ⟨N + 3, k * 3, none⟩ (.int .u8 (gq k))).setCell ⟨N + 3, k * 3 + 1, none⟩ (.int .i64 (gi k))).setCell ⟨N + 3, k * 3 + 2, none⟩ (.string (gs k))).drew := by
  refine ((((h.setStack (k * 3) _).setStack (k * 3 + 1) _).setStack (k * 3 + 2) _).drew).congr (fun _ _ => rfl) (fun _ _ => rfl) (fun c _ => ?_) (fun _ _ => rfl)
  simp only [stk]
  by_cases e0 : c = k * 3 + 2
  · subst e0
    have d1 : (k * 3 + 2) / 3 = k := by omega
    have d2 : (k * 3 + 2) % 3 = 2 := by omega
    simp [d1, d2]
  · rw [if_neg e0]
    by_cases e1 : c = k * 3 + 1
    · subst e1
      have d1 : (k * 3 + 1) / 3 = k := by omega
      have d2 : (k * 3 + 1) % 3 = 1 := by omega
      simp [d1, d2]
    · rw [if_neg e1]
      by_cases e2 : c = k * 3
      · subst e2
        have d1 : (k * 3) / 3 = k := by omega
        have d2 : (k * 3) % 3 = 0 := by omega
        simp [d1, d2]
      · rw [if_neg e2]
        by_cases e3 : c / 3 < k
        · rw [if_pos e3, if_pos (show c / 3 < k + 1 by omega)]
        · rw [if_neg e3, if_neg (show ¬ c / 3 < k + 1 by omega)]

theorem Mem.rows0 (h : Mem w N ng nmd fn (fun _ => .bool false) stk0 fi wr) : Mem w N ng nmd fn (glb gD gK 0) (stk gq gi gs 0) fi wr :=
  h.congr (fun _ _ => rfl) (fun c _ => by simp [glb]) (fun c _ => by simp [stk]) (fun _ _ => rfl)

/-- A block that the round has made, read in a later world. -/
theorem block_alloc (W : World) (o : Obj) : (W.alloc o).heap[W.heap.size]? = some o := (MapKept.heap_alloc W o).1
theorem cell_block {W : World} {g : Nat} {c : Array Value} {t : TypeId} (h : W.heap[g]? = some (.cells c t (0, 0))) (i : Nat) : W.cell? ⟨g, i, none⟩ = c[i]? := by simp [World.cell?, h]
theorem block_set {W : World} {g : Nat} {o : Obj} (h : W.heap[g]? = some o) {a : Addr} (ha : a.block ≠ g) (v : Value) : (W.setCell a v).heap[g]? = some o := (Below.heap_setCell W a v g (Ne.symm ha)).trans h
theorem glb_cell (k i : Nat) : (∃ b, glb gD gK k i = .bool b) := by
  unfold glb
  split
  · split <;> exact ⟨_, rfl⟩
  · exact ⟨_, rfl⟩
theorem stk_zero (k : Nat) : stk gq gi gs k (k * 3) = .int .u8 0 ∧ stk gq gi gs k (k * 3 + 1) = .int .i64 0 ∧ stk gq gi gs k (k * 3 + 2) = .string ⟨#[]⟩ := by
  have d0 : (k * 3) / 3 = k := by omega
  have d1 : (k * 3 + 1) / 3 = k := by omega
  have d2 : (k * 3 + 2) / 3 = k := by omega
  have m0 : (k * 3) % 3 = 0 := by omega
  have m1 : (k * 3 + 1) % 3 = 1 := by omega
  have m2 : (k * 3 + 2) % 3 = 2 := by omega
  simp [stk, stk0, d0, d1, d2, m0, m1, m2]
theorem glb_zero (k : Nat) : glb gD gK k (k * 2) = .bool false ∧ glb gD gK k (k * 2 + 1) = .bool false := by
  have d0 : (k * 2) / 2 = k := by omega
  have d1 : (k * 2 + 1) / 2 = k := by omega
  simp [glb, d0, d1]
end Go.Proofs.Ybulkfwfy.LawB
