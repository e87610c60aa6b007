/-
  LawS8656BWhole: the memory that the law itself makes: the machine and its four rows. No walk here.
-/
import Derived.Test.YbulkfwfyMake
namespace Go.Proofs.Ybulkfwfy.LawB
open Go.RowKit

/-- The machine's cells, its slice of bindings being 'nmd'. -/
def machCells (N ng : Nat) (nmd : Value) : Array Value :=
  #[.nilIface, .pointer none, .slice none 0 0, .slice (some ⟨N + 1, 0, none⟩) (ng + 1) (ng + 1), .slice (some ⟨N + 2, 0, none⟩) (ng + 1) (ng + 1), .slice none 0 0, .slice none 0 0,
    .slice (some ⟨N + 3, 0, none⟩) (ng + 1) (ng + 1), nmd, .slice (some ⟨N + 4, 0, none⟩) (ng + 1) (ng + 1), .slice none 0 0, .int .i64 0, .int .i64 0, .slice none 0 0]

structure Mem (w : World) (N ng : Nat) (nmd : Value) (fn fg fs fi : Nat → Value) (wr : World) : Prop where
  below : Below N w wr
  mach : wr.heap[N]? = some (.cells (machCells N ng nmd) 39 (0, 0))
  names : wr.rowIs (N + 1) 9 (ng + 1) fn
  globs : wr.rowIs (N + 2) 43 ((ng + 1) * 2) fg
  stack : wr.rowIs (N + 3) 46 ((ng + 1) * 3) fs
  inner : wr.rowIs (N + 4) 21 (ng + 1) fi

namespace Mem
variable {w wr : World} {N ng : Nat} {nmd : Value} {fn fg fs fi : Nat → Value}

theorem mcell (h : Mem w N ng nmd fn fg fs fi wr) (i : Nat) : wr.cell? ⟨N, i, none⟩ = (machCells N ng nmd)[i]? := by
  simp [World.cell?, h.mach]
theorem mfrozen (h : Mem w N ng nmd fn fg fs fi wr) (i : Nat) : wr.frozen? ⟨N, i, none⟩ = false := by
  simp [World.frozen?, h.mach]
theorem c3 (h : Mem w N ng nmd fn fg fs fi wr) : wr.cell? ⟨N, 3, none⟩ = some (.slice (some ⟨N + 1, 0, none⟩) (ng + 1) (ng + 1)) := by rw [h.mcell]; rfl
theorem c4 (h : Mem w N ng nmd fn fg fs fi wr) : wr.cell? ⟨N, 4, none⟩ = some (.slice (some ⟨N + 2, 0, none⟩) (ng + 1) (ng + 1)) := by rw [h.mcell]; rfl
theorem c7 (h : Mem w N ng nmd fn fg fs fi wr) : wr.cell? ⟨N, 7, none⟩ = some (.slice (some ⟨N + 3, 0, none⟩) (ng + 1) (ng + 1)) := by rw [h.mcell]; rfl
theorem c8 (h : Mem w N ng nmd fn fg fs fi wr) : wr.cell? ⟨N, 8, none⟩ = some nmd := by rw [h.mcell]; rfl
theorem c9 (h : Mem w N ng nmd fn fg fs fi wr) : wr.cell? ⟨N, 9, none⟩ = some (.slice (some ⟨N + 4, 0, none⟩) (ng + 1) (ng + 1)) := by rw [h.mcell]; rfl
theorem size (h : Mem w N ng nmd fn fg fs fi wr) : N + 5 ≤ wr.heap.size := by have := h.inner.lt; omega

/-- Nothing that it speaks of has turned. -/
theorem kept (h : Mem w N ng nmd fn fg fs fi wr) {w' : World} (hb : Below (N + 5) wr w') : Mem w N ng nmd fn fg fs fi w' :=
  ⟨h.below.trans (hb.mono (by omega)), (hb.block N (by omega)).trans h.mach, h.names.of_block (hb.block _ (by omega)), h.globs.of_block (hb.block _ (by omega)),
    h.stack.of_block (hb.block _ (by omega)), h.inner.of_block (hb.block _ (by omega))⟩
theorem drew (h : Mem w N ng nmd fn fg fs fi wr) : Mem w N ng nmd fn fg fs fi wr.drew := ⟨h.below.drew, h.mach, h.names, h.globs, h.stack, h.inner⟩
theorem alloc (h : Mem w N ng nmd fn fg fs fi wr) (o : Obj) : Mem w N ng nmd fn fg fs fi (wr.alloc o) := h.kept ((Below.refl _ _).alloc h.size o)
theorem setFar (h : Mem w N ng nmd fn fg fs fi wr) {a : Addr} (ha : N + 5 ≤ a.block) (v : Value) : Mem w N ng nmd fn fg fs fi (wr.setCell a v) := h.kept ((Below.refl _ _).setCell ha v)

theorem mach_other (h : Mem w N ng nmd fn fg fs fi wr) {a : Addr} (ha : a.block ≠ N) (v : Value) : (wr.setCell a v).heap[N]? = some (.cells (machCells N ng nmd) 39 (0, 0)) :=
  (Below.heap_setCell wr a v N (Ne.symm ha)).trans h.mach

theorem setName (h : Mem w N ng nmd fn fg fs fi wr) (i : Nat) (v : Value) : Mem w N ng nmd (fun j => if j = i then v else fn j) fg fs fi (wr.setCell ⟨N + 1, i, none⟩ v) :=
  ⟨h.below.setCell (by show N ≤ N + 1; omega) _, h.mach_other (by show N + 1 ≠ N; omega) _, h.names.set i v, h.globs.setOther (by show N + 2 ≠ N + 1; omega) _, h.stack.setOther (by show N + 3 ≠ N + 1; omega) _, h.inner.setOther (by show N + 4 ≠ N + 1; omega) _⟩
theorem setGlob (h : Mem w N ng nmd fn fg fs fi wr) (i : Nat) (v : Value) : Mem w N ng nmd fn (fun j => if j = i then v else fg j) fs fi (wr.setCell ⟨N + 2, i, none⟩ v) :=
  ⟨h.below.setCell (by show N ≤ N + 2; omega) _, h.mach_other (by show N + 2 ≠ N; omega) _, h.names.setOther (by show N + 1 ≠ N + 2; omega) _, h.globs.set i v, h.stack.setOther (by show N + 3 ≠ N + 2; omega) _, h.inner.setOther (by show N + 4 ≠ N + 2; omega) _⟩
theorem setStack (h : Mem w N ng nmd fn fg fs fi wr) (i : Nat) (v : Value) : Mem w N ng nmd fn fg (fun j => if j = i then v else fs j) fi (wr.setCell ⟨N + 3, i, none⟩ v) :=
  ⟨h.below.setCell (by show N ≤ N + 3; omega) _, h.mach_other (by show N + 3 ≠ N; omega) _, h.names.setOther (by show N + 1 ≠ N + 3; omega) _, h.globs.setOther (by show N + 2 ≠ N + 3; omega) _, h.stack.set i v, h.inner.setOther (by show N + 4 ≠ N + 3; omega) _⟩
theorem setInner (h : Mem w N ng nmd fn fg fs fi wr) (i : Nat) (v : Value) : Mem w N ng nmd fn fg fs (fun j => if j = i then v else fi j) (wr.setCell ⟨N + 4, i, none⟩ v) :=
  ⟨h.below.setCell (by show N ≤ N + 4; omega) _, h.mach_other (by show N + 4 ≠ N; omega) _, h.names.setOther (by show N + 1 ≠ N + 4; omega) _, h.globs.setOther (by show N + 2 ≠ N + 4; omega) _, h.stack.setOther (by show N + 3 ≠ N + 4; omega) _, h.inner.set i v⟩
theorem setNamed (h : Mem w N ng nmd fn fg fs fi wr) (v : Value) : Mem w N ng v fn fg fs fi (wr.setCell ⟨N, 8, none⟩ v) := by
  refine ⟨h.below.setCell (Nat.le_refl _) _, ?_, h.names.setOther (by show N + 1 ≠ N; omega) _, h.globs.setOther (by show N + 2 ≠ N; omega) _, h.stack.setOther (by show N + 3 ≠ N; omega) _, h.inner.setOther (by show N + 4 ≠ N; omega) _⟩
  simp [World.setCell, Array.getElem?_modify, h.mach, machCells]
/-- The contents said otherwise. -/
theorem congr {fn' fg' fs' fi' : Nat → Value} (h : Mem w N ng nmd fn fg fs fi wr) (e1 : ∀ i, i < ng + 1 → fn i = fn' i) (e2 : ∀ i, i < (ng + 1) * 2 → fg i = fg' i) (e3 : ∀ i, i < (ng + 1) * 3 → fs i = fs' i) (e4 : ∀ i, i < ng + 1 → fi i = fi' i) :
    Mem w N ng nmd fn' fg' fs' fi' wr :=
  ⟨h.below, h.mach, h.names.congr e1, h.globs.congr e2, h.stack.congr e3, h.inner.congr e4⟩
end Mem

theorem made_at (z : Array Value) (n i : Nat) (hi : i < n) : (madeCells z n)[i]? = some (z[i % z.size]!) := by simp [madeCells, hi]

/-- The world behind the four 'make's. -/
theorem mem_start (w : World) (ng : Nat) :
    Mem w w.heap.size ng (.slice none 0 0) (fun _ => .string ⟨#[]⟩) (fun _ => .bool false) (fun c => (#[.int .u8 0, .int .i64 0, .string ⟨#[]⟩] : Array Value)[c % 3]!) (fun _ => .int .i32 0)
      (((((w.alloc (.cells (machCells w.heap.size ng (.slice none 0 0)) 39)).alloc (.cells (madeCells #[.string ⟨#[]⟩] (ng + 1)) 9)).alloc (.cells (madeCells #[.bool false, .bool false] ((ng + 1) * 2)) 43)).alloc
        (.cells (madeCells #[.int .u8 0, .int .i64 0, .string ⟨#[]⟩] ((ng + 1) * 3)) 46)).alloc (.cells (madeCells #[.int .i32 0] (ng + 1)) 21)) := by
  have blk : ∀ (W : World) (o : Obj) (k : Nat), k = W.heap.size → (W.alloc o).heap[k]? = some o := fun W o k h => by subst h; exact (MapKept.heap_alloc W o).1
  have old : ∀ (W : World) (o : Obj) (k : Nat), k < W.heap.size → (W.alloc o).heap[k]? = W.heap[k]? := fun W o k h => Below.heap_alloc W o k h
  refine ⟨((((((Below.refl _ _).alloc (Nat.le_refl _) _).alloc (by simp) _).alloc (by simp <;> omega) _).alloc (by simp <;> omega) _).alloc (by simp <;> omega) _), ?_,
    ⟨madeCells #[.string ⟨#[]⟩] (ng + 1), ?_, size_madeCells _ _, fun i hi => (made_at _ _ _ hi).trans ?_⟩,
    ⟨madeCells #[.bool false, .bool false] ((ng + 1) * 2), ?_, size_madeCells _ _, fun i hi => (made_at _ _ _ hi).trans ?_⟩,
    ⟨madeCells #[.int .u8 0, .int .i64 0, .string ⟨#[]⟩] ((ng + 1) * 3), ?_, size_madeCells _ _, fun i hi => made_at _ _ _ hi⟩,
    ⟨madeCells #[.int .i32 0] (ng + 1), ?_, size_madeCells _ _, fun i hi => (made_at _ _ _ hi).trans ?_⟩⟩
  · rw [old _ _ _ (by simp <;> omega), old _ _ _ (by simp <;> omega), old _ _ _ (by simp <;> omega), old _ _ _ (by simp), blk _ _ _ rfl]
  · rw [old _ _ _ (by simp <;> omega), old _ _ _ (by simp <;> omega), old _ _ _ (by simp), blk _ _ _ (by simp)]
  · simp [Nat.mod_one]
  · rw [old _ _ _ (by simp <;> omega), old _ _ _ (by simp), blk _ _ _ (by simp)]
  · have : i % 2 = 0 ∨ i % 2 = 1 := by omega
    rcases this with e | e <;> simp [e]
  · rw [old _ _ _ (by simp), blk _ _ _ (by simp)]
  · rw [blk _ _ _ (by simp)]
  · simp [Nat.mod_one]
end Go.Proofs.Ybulkfwfy.LawB
