/-
  Channels of the stream in one goroutine: 'make', and the contract of 'signal' (a select of one send with a default): room, or full. Turned after the worked Nudge.
-/
import Derived.Test.YbulkfyhgFmtRows
import Derived.Conc.LoneSelect
import Derived.KernelRfl
import Derived.Laws.Rows
import Derived.Laws.Runes
import Derived.Laws.Tables
namespace Go.Proofs.YbulkfyhgFmt
open Go.Conc Go.RowKit

theorem bytes40 : ∃ i, Ybaf.prog.info? 40 = some i ∧ i.bytes = 0 := by
  have h : (Ybaf.prog.info? 40).map (·.bytes) = some 0 := by kernel_rfl
  obtain ⟨i, hi, hb⟩ := Option.map_eq_some_iff.1 h
  exact ⟨i, hi, hb⟩
theorem mk1 (w : World) : (Instr.makeChan 47 (.int .i64 1)).run Ybaf.prog w = .ok (.chan (some w.heap.size)) (w.alloc (.chan 1 #[] false 0 0 false)) := by
  obtain ⟨i, hi, hb⟩ := bytes40
  simpa using run_makeChan (P := Ybaf.prog) (w := w) Ybaf.underlying47 hi .i64 1 (by omega) (by rw [hb]; omega)
theorem mk0 (w : World) : (Instr.makeChan 47 (.int .i64 0)).run Ybaf.prog w = .ok (.chan (some w.heap.size)) (w.alloc (.chan 0 #[] false 0 0 false)) := by
  obtain ⟨i, hi, hb⟩ := bytes40
  simpa using run_makeChan (P := Ybaf.prog) (w := w) Ybaf.underlying47 hi .i64 0 (by omega) (by rw [hb]; omega)
theorem bd40 (w : World) : (Instr.build 40 #[]).run Ybaf.prog w = .ok (.agg #[]) w := run_build w 40 #[] #[] (by kernel_rfl)

set_option maxRecDepth 100000 in
/-- 'signal', the channel's buffer with room: the token is laid. -/
theorem signal_room (b c : Nat) (w : World) (hr : w.cell? ⟨b, 12, none⟩ = some (.chan (some c))) (buf : Array Value) (s r : Nat) (tm : Bool) (hc : w.heap[c]? = some (.chan 1 buf false s r tm)) (hz : buf.size < 1) :
    Calls Ybaf.prog 16 #[.pointer (some ⟨b, 0, none⟩)] w fun e w' => e = .returned (.tuple #[]) ∧ w' = w.setChan c 1 (buf.push (.agg #[])) false (s + 1) r tm := by
  refine calls_of_loneTo fun cs => ?_
  have e : Frame.enter Ybaf.prog 16 #[.pointer (some ⟨b, 0, none⟩)] .normal = (base 16).at ⟨#[.pointer (some ⟨b, 0, none⟩), undef, undef, undef, undef, undef, undef, undef, undef, undef], []⟩ [.code (Ybaf.f16.body.getD .skip)] := by
    simp [Frame.enter, Frame.at, Ybaf.func16, base, Ybaf.f16]
  rw [e]
  have hbd := bd40
  refine LoneTo.goes (n := 30) ?_
  simp only [Ybaf.f16, Option.getD_some]
  s_c stepG_seq
  s_c stepG_seq
  s_reg
  s_op
  s_op
  s_op
  s_op
  s_c stepG_region_end
  s_reg
  s_op
  s_c stepG_region_end
  s_c stepG_seq
  s_reg
  s_stop
  refine LoneTo.step (step_lone_select_send_room (c := c) (cap := 1) (buf := buf) (s := s) (r := r) (tm := tm) (stepG_comm (cases := #[scase c (.agg #[]) (.agg #[])]) (blocking := false) (shape := .select) (w' := w) rfl rfl (by decide) (by simp [go_sem, execOp, scase, Act.eval])) hc hz) ?_
  rw [Frame.finish_at]
  walk_nrm
  refine LoneTo.goes (n := 20) ?_
  s_op
  s_op
  s_c stepG_region_end
  s_c stepG_block
  s_cond true
  s_c stepG_skip
  s_c stepG_inBlock
  s_c stepG_end
  s_stop
  exact LoneTo.done ⟨.returned (.tuple #[]), _, rfl, ⟨rfl, rfl⟩, rfl, rfl, rfl, rfl, _, Ybaf.func16, by simp [results, Ybaf.f16, Frame.at]⟩

set_option maxRecDepth 100000 in
/-- 'signal', the buffer full: nothing turns. -/
theorem signal_full (b c : Nat) (w : World) (hr : w.cell? ⟨b, 12, none⟩ = some (.chan (some c))) (buf : Array Value) (s r : Nat) (tm : Bool) (hc : w.heap[c]? = some (.chan 1 buf false s r tm)) (hz : 1 ≤ buf.size) :
    Calls Ybaf.prog 16 #[.pointer (some ⟨b, 0, none⟩)] w fun e w' => e = .returned (.tuple #[]) ∧ w' = w := by
  refine calls_of_loneTo fun cs => ?_
  have e : Frame.enter Ybaf.prog 16 #[.pointer (some ⟨b, 0, none⟩)] .normal = (base 16).at ⟨#[.pointer (some ⟨b, 0, none⟩), undef, undef, undef, undef, undef, undef, undef, undef, undef], []⟩ [.code (Ybaf.f16.body.getD .skip)] := by
    simp [Frame.enter, Frame.at, Ybaf.func16, base, Ybaf.f16]
  rw [e]
  have hbd := bd40
  refine LoneTo.goes (n := 30) ?_
  simp only [Ybaf.f16, Option.getD_some]
  s_c stepG_seq
  s_c stepG_seq
  s_reg
  s_op
  s_op
  s_op
  s_op
  s_c stepG_region_end
  s_reg
  s_op
  s_c stepG_region_end
  s_c stepG_seq
  s_reg
  s_stop
  refine LoneTo.step (step_lone_select_send_full (c := c) (cap := 1) (buf := buf) (s := s) (r := r) (tm := tm) (stepG_comm (cases := #[scase c (.agg #[]) (.agg #[])]) (blocking := false) (shape := .select) (w' := w) rfl rfl (by decide) (by simp [go_sem, execOp, scase, Act.eval])) hc hz) ?_
  rw [Frame.finish_at]
  walk_nrm
  refine LoneTo.goes (n := 20) ?_
  s_op
  s_op
  s_c stepG_region_end
  s_c stepG_block
  s_cond false
  s_c stepG_skip
  s_c stepG_inBlock
  s_c stepG_end
  s_stop
  exact LoneTo.done ⟨.returned (.tuple #[]), _, rfl, ⟨rfl, rfl⟩, rfl, rfl, rfl, rfl, _, Ybaf.func16, by simp [results, Ybaf.f16, Frame.at]⟩
end Go.Proofs.YbulkfyhgFmt
