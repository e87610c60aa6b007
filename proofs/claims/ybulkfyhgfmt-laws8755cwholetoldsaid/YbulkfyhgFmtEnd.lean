/-
  'end', 'add', 'signal', 'backlog': what each does to the stream's cells.
-/
import Derived.Test.YbulkfyhgFmtMem
import Derived.Test.YbulkfyhgFmtExcess
import Derived.Test.YbulkfyhgFmtLocks
import Derived.Deep.DeepCutAuto
import Derived.Deep.CutBlock
import Derived.Deep.Light
namespace Go.Proofs.YbulkfyhgFmt
open Go.RowKit Go.Conc Go.MuLone

set_option maxRecDepth 10000 in
set_option maxHeartbeats 400000 in
theorem end_ (b : Nat) (mu mx mb pe fi : Int) (it : Value) (bb cu ge : Int) (en wv : Value) (ov rd : Nat) (pa : Int) (s r : Nat) (w : World)
    (hb : w.heap[b]? = some (.cells (strm mu mx mb pe fi it bb cu ge en ov rd pa) 49 (0, 0))) (ho : w.heap[ov]? = some (.chan 0 #[] false s r false)) :
    Calls Ybaf.prog 12 #[.pointer (some ⟨b, 0, none⟩), .iface 59 wv] w fun e w' => e = .returned (.tuple #[]) ∧ ∃ ov', w.heap.size ≤ ov' ∧ w'.heap[ov']? = some (.chan 0 #[] false 0 0 false) ∧
      w'.heap[b]? = some (.cells (strm mu mx mb pe fi it bb cu (IntKind.u64.wrap (ge + 1)) (.iface 59 wv) ov' rd pa) 49 (0, 0)) ∧ Kept [b, ov] w w' := by
  have hmk := mk0
  have c9 : w.cell? ⟨b, 9, none⟩ = some (.int .u64 ge) := block_cell hb 9
  have c10 : w.cell? ⟨b, 10, none⟩ = some en := block_cell hb 10
  have c11 : w.cell? ⟨b, 11, none⟩ = some (.chan (some ov)) := block_cell hb 11
  have f9 := block_free hb 9
  have f10 := block_free hb 10
  have f11 := block_free hb 11
  go_enter Ybaf.func12, Ybaf.ntmps12
  go_upto_region 2 with fail
  obtain ⟨W, hW⟩ : ∃ W, W = (w.setCell ⟨b, 9, none⟩ (.int .u64 (IntKind.u64.wrap (ge + 1)))).setCell ⟨b, 10, none⟩ (.iface 59 wv) := ⟨_, rfl⟩
  rw [← hW]
  have hne : b ≠ ov := by rintro rfl; rw [hb] at ho; cases ho
  have hbW : W.heap[b]? = some (.cells (strm mu mx mb pe fi it bb cu (IntKind.u64.wrap (ge + 1)) (.iface 59 wv) ov rd pa) 49 (0, 0)) := by
    rw [hW]; exact block_self (block_self hb 9 _) 10 _
  have hoW : W.heap[ov]? = some (.chan 0 #[] false s r false) := by rw [hW]; exact block_other (block_other ho hne _) hne _
  have hkW : Kept [b, ov] w W := by rw [hW]; exact ((Kept.refl _ w).setCell (by simp) _).setCell (by simp) _
  clear hW c9 c10 c11 f9 f10 f11
  have c11 : W.cell? ⟨b, 11, none⟩ = some (.chan (some ov)) := block_cell hbW 11
  have hcl := fun ats ty => run_close_open (P := Ybaf.prog) (w := W) ats ty hoW
  go_upto_region 3 with fail
  clear hcl
  change Code.wp _ _ _ _ (W.setChan ov 0 #[] true s r false)
  obtain ⟨V, hV⟩ : ∃ V, V = W.setChan ov 0 #[] true s r false := ⟨_, rfl⟩
  rw [← hV]
  have hbV : V.heap[b]? = some (.cells (strm mu mx mb pe fi it bb cu (IntKind.u64.wrap (ge + 1)) (.iface 59 wv) ov rd pa) 49 (0, 0)) := by
    rw [hV]; exact block_setChan hbW (Ne.symm hne) _ _ _ _ _ _
  have hkV : Kept [b, ov] w V := by rw [hV]; exact hkW.setChan (by simp) _ _ _ _ _ _
  clear hV c11 hbW hoW hkW
  have hbA := block_alloc hbV (.chan 0 #[] false 0 0 false)
  have c11 : (V.alloc (.chan 0 #[] false 0 0 false)).cell? ⟨b, 11, none⟩ = some (.chan (some ov)) := block_cell hbA 11
  have f11 := block_free hbA 11
  go_wp2
  go_end0
  have hlt := block_lt hbV
  refine ⟨rfl, V.heap.size, hkV.size, block_other (block_new _ _) (by show b ≠ V.heap.size; omega) _, block_self hbA 11 _, (hkV.alloc _).setCell (by simp) _⟩
end Go.Proofs.YbulkfyhgFmt
