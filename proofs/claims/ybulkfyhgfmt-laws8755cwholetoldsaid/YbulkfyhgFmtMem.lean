/-
  LawS8755CWhole: the memory: blocks, what a call leaves alone ('Kept'), the stream's cells.
-/
import Derived.Test.YbulkfyhgFmtRows
import Derived.Conc.LoneCalls
import Derived.WalkKit
import Derived.WalkSpells
namespace Go.Proofs.YbulkfyhgFmt
open Go.RowKit Go.Conc

section blocks
variable {w W : World} {g k i : Nat} {c : Array Value} {t : TypeId} {o : Obj} {v : Value}
theorem block_lt (h : w.heap[g]? = some o) : g < w.heap.size := by
  rcases Nat.lt_or_ge g w.heap.size with hl | hl
  · exact hl
  · rw [Array.getElem?_eq_none hl] at h; cases h
theorem block_new (W : World) (o : Obj) : (W.alloc o).heap[W.heap.size]? = some o := (MapKept.heap_alloc W o).1
theorem block_alloc (h : w.heap[g]? = some o) (o' : Obj) : (w.alloc o').heap[g]? = some o := by
  rw [Below.heap_alloc _ _ _ (block_lt h)]; exact h
theorem block_cell (h : w.heap[g]? = some (.cells c t (0, 0))) (i : Nat) : w.cell? ⟨g, i, none⟩ = c[i]? := by simp [World.cell?, h]
theorem block_free (h : w.heap[g]? = some (.cells c t (0, 0))) (i : Nat) : w.frozen? ⟨g, i, none⟩ = false := by simp [World.frozen?, h]
theorem block_self (h : w.heap[g]? = some (.cells c t (0, 0))) (i : Nat) (v : Value) : (w.setCell ⟨g, i, none⟩ v).heap[g]? = some (.cells (c.setIfInBounds i v) t (0, 0)) := by
  simp [World.setCell, Array.getElem?_modify, h]
theorem block_other (h : w.heap[g]? = some o) {a : Addr} (ha : a.block ≠ g) (v : Value) : (w.setCell a v).heap[g]? = some o := (Below.heap_setCell w a v g (Ne.symm ha)).trans h
theorem block_drew (h : w.heap[g]? = some o) : w.drew.heap[g]? = some o := h
theorem block_setChan (h : w.heap[g]? = some o) {ch : Nat} (hc : ch ≠ g) (cap : Nat) (buf : Array Value) (cl : Bool) (s r : Nat) (tm : Bool) : (w.setChan ch cap buf cl s r tm).heap[g]? = some o := by
  simp only [World.setChan]; rw [Array.getElem?_setIfInBounds_ne hc]; exact h
theorem chan_self (h : w.heap[g]? = some o) (cap : Nat) (buf : Array Value) (cl : Bool) (s r : Nat) (tm : Bool) : (w.setChan g cap buf cl s r tm).heap[g]? = some (.chan cap buf cl s r tm) :=
  heap_setChan w g cap buf cl s r tm (block_lt h)
end blocks

/-- What a call leaves alone: every block that was there, but for those listed. -/
structure Kept (T : List Nat) (w w' : World) : Prop where
  os : w'.os = w.os
  tape : w'.tape = w.tape
  output : w'.output = w.output
  size : w.heap.size ≤ w'.heap.size
  block : ∀ k, k < w.heap.size → k ∉ T → w'.heap[k]? = w.heap[k]?

namespace Kept
variable {T T' : List Nat} {w w' w'' : World}
theorem refl (T : List Nat) (w : World) : Kept T w w := ⟨rfl, rfl, rfl, Nat.le_refl _, fun _ _ _ => rfl⟩
theorem trans (h : Kept T w w') (k : Kept T w' w'') : Kept T w w'' :=
  ⟨k.os.trans h.os, k.tape.trans h.tape, k.output.trans h.output, Nat.le_trans h.size k.size, fun i hi hT => (k.block i (Nat.lt_of_lt_of_le hi h.size) hT).trans (h.block i hi hT)⟩
theorem mono (h : Kept T w w') (hs : ∀ k, k ∈ T → k ∈ T' ∨ w.heap.size ≤ k) : Kept T' w w' :=
  ⟨h.os, h.tape, h.output, h.size, fun i hi hT => h.block i hi (fun hm => (hs i hm).elim hT (fun hk => by omega))⟩
theorem of_below (h : Below w.heap.size w w') : Kept T w w' := ⟨h.os, h.tape, h.output, h.size, fun k hk _ => h.block k hk⟩
theorem setCell (h : Kept T w w') {a : Addr} (ha : a.block ∈ T ∨ w.heap.size ≤ a.block) (v : Value) : Kept T w (w'.setCell a v) :=
  ⟨h.os, h.tape, h.output, by simpa using h.size, fun k hk hT => (Below.heap_setCell w' a v k (fun e => ha.elim (fun hm => hT (e ▸ hm)) (fun hl => by omega))).trans (h.block k hk hT)⟩
theorem alloc (h : Kept T w w') (o : Obj) : Kept T w (w'.alloc o) :=
  ⟨h.os, h.tape, h.output, by have := h.size; simp; omega, fun k hk hT => (Below.heap_alloc _ _ _ (Nat.lt_of_lt_of_le hk h.size)).trans (h.block k hk hT)⟩
theorem drew (h : Kept T w w') : Kept T w w'.drew := ⟨h.os, h.tape, h.output, h.size, h.block⟩
theorem setChan (h : Kept T w w') {c : Nat} (hc : c ∈ T ∨ w.heap.size ≤ c) (cap : Nat) (buf : Array Value) (cl : Bool) (s r : Nat) (tm : Bool) : Kept T w (w'.setChan c cap buf cl s r tm) :=
  ⟨h.os, h.tape, h.output, by rw [size_setChan]; exact h.size, fun k hk hT => by
    simp only [World.setChan]
    have hne : c ≠ k := by rintro rfl; exact hc.elim hT (fun hl => by omega)
    rw [Array.getElem?_setIfInBounds_ne hne]
    exact h.block k hk hT⟩
theorem keep (h : Kept T w w') {g : Nat} {o : Obj} (hg : w.heap[g]? = some o) (hT : g ∉ T) : w'.heap[g]? = some o := (h.block g (block_lt hg) hT).trans hg
end Kept

/-- The stream's cells. -/
def strm (mu mx mb pe fi : Int) (it : Value) (bb cu ge : Int) (en : Value) (ov rd : Nat) (pa : Int) : Array Value :=
  #[.int .i32 mu, .int .u32 0, .int .u64 mx, .int .u64 mb, .int .u64 pe, .int .u64 fi, it, .int .u64 bb, .int .u64 cu, .int .u64 ge, en, .chan (some ov), .chan (some rd), .int .u64 pa]
end Go.Proofs.YbulkfyhgFmt
