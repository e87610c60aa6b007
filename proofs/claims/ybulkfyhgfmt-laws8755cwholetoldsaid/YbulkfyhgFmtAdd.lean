/-
  'add': one item more at the end of the stream's items.
-/
import Derived.Test.YbulkfyhgFmtEnd
import Derived.Test.YbulkfyhgFmtRow
namespace Go.Proofs.YbulkfyhgFmt
open Go.RowKit Go.Conc Go.MuLone

theorem info29 : (Ybaf.prog.info? 29).map (fun i => (i.zero, i.size, i.bytes)) = some (some (.slice none 0 0), 1, 24) := by kernel_rfl
theorem info9 : (Ybaf.prog.info? 9).map (fun i => (i.zero, i.size, i.bytes)) = some (some (.string ⟨#[]⟩), 1, 16) := by kernel_rfl

theorem append_items {w : World} {N : Nat} {v : Value} {xs : List Value} (h : Row w N 29 v xs) (ad : Addr) (c : Nat) (x : Value) (hx : w.cell? ad = some x) (h1 : x.oneCell' = true) (hN : N ≤ w.heap.size) (hl : xs.length + 1 ≤ 1099511627776) :
    ∃ v' w', (Builtin.append_ #[36, 36] 36 #[v, .slice (some ad) 1 c]).run Ybaf.prog w = .ok v' w' ∧ Row w' N 29 v' (xs ++ [x]) ∧ Kept (blkOf v) w w' := by
  obtain ⟨i, hi, hzz⟩ := Option.map_eq_some_iff.1 info29
  simp only [Prod.mk.injEq] at hzz
  obtain ⟨hz, hs, hb'⟩ := hzz
  obtain ⟨v', w', h2, h3, h4⟩ := append_row Ybaf.underlying36 hi hz hs hb' (by rfl) h ad c x hx h1 hN (by omega) (by omega) 36
  exact ⟨v', w', h2, h3, h4 _ (in_blkOf v)⟩
theorem append_strs {w : World} {N : Nat} {v : Value} {xs : List Value} (h : Row w N 9 v xs) (ad : Addr) (c : Nat) (x : Value) (hx : w.cell? ad = some x) (h1 : x.oneCell' = true) (hN : N ≤ w.heap.size) (hl : xs.length + 1 ≤ 1099511627776) :
    ∃ v' w', (Builtin.append_ #[28, 28] 28 #[v, .slice (some ad) 1 c]).run Ybaf.prog w = .ok v' w' ∧ Row w' N 9 v' (xs ++ [x]) ∧ Kept (blkOf v) w w' := by
  obtain ⟨i, hi, hzz⟩ := Option.map_eq_some_iff.1 info9
  simp only [Prod.mk.injEq] at hzz
  obtain ⟨hz, hs, hb'⟩ := hzz
  obtain ⟨v', w', h2, h3, h4⟩ := append_row Ybaf.underlying28 hi hz hs hb' (by rfl) h ad c x hx h1 hN (by omega) (by omega) 28
  exact ⟨v', w', h2, h3, h4 _ (in_blkOf v)⟩

set_option maxRecDepth 10000 in
set_option maxHeartbeats 400000 in
theorem add_ (N b : Nat) (mu mx mb pe fi : Int) (it : Value) (bb cu ge : Int) (en : Value) (ov rd : Nat) (pa : Int) (xs : List Value) (ip : Option Addr) (l c : Nat) (w : World)
    (hb : w.heap[b]? = some (.cells (strm mu mx mb pe fi it bb cu ge en ov rd pa) 49 (0, 0))) (hr : Row w N 29 it xs) (hN : N ≤ w.heap.size) (hx : xs.length < 1099511627776) (hl : l < 4611686018427387904) :
    Calls Ybaf.prog 14 #[.pointer (some ⟨b, 0, none⟩), .slice ip l c] w fun e w' => e = .returned (.tuple #[]) ∧ ∃ it', Row w' N 29 it' (xs ++ [.slice ip l c]) ∧
      w'.heap[b]? = some (.cells (strm mu mx mb pe fi it' (IntKind.u64.wrap (bb + l)) cu ge en ov rd pa) 49 (0, 0)) ∧ Kept (b :: blkOf it) w w' := by
  have c6 : w.cell? ⟨b, 6, none⟩ = some it := block_cell hb 6
  obtain ⟨p, cp, rfl⟩ := hr.len
  obtain ⟨v', w', hrun, hrow, hk⟩ := append_items (hr.alloc (.cells #[.slice ip l c] 29)) ⟨w.heap.size, 0, none⟩ 1 (.slice ip l c) (block_cell (block_new _ _) 0) rfl (by simp; omega) (by omega)
  have hbn : b ∉ blkOf (.slice p xs.length cp) := hr.notin hb (fun A f e => by cases e)
  have hb' := hk.keep (block_alloc hb _) hbn
  have d6 : w'.cell? ⟨b, 6, none⟩ = some (.slice p xs.length cp) := block_cell hb' 6
  have f6 := block_free hb' 6
  have hbn' : b ∉ blkOf v' := hrow.notin hb' (fun A f e => by cases e)
  obtain ⟨n', hn'⟩ : ∃ n', n' = (xs ++ [Value.slice ip l c]).length := ⟨_, rfl⟩
  obtain ⟨p', cp', hv'⟩ := hrow.len
  rw [← hn'] at hv'
  subst hv'
  clear hn'
  go_enter Ybaf.func14, Ybaf.ntmps14
  go_upto_region 1 with (at_builtin; refine wpList_append_run rfl _ _ 36 rfl rfl rfl hrun ?_)
  obtain ⟨W, hW⟩ : ∃ W, W = w'.setCell ⟨b, 6, none⟩ (.slice p' n' cp') := ⟨_, rfl⟩
  rw [← hW]
  have hbW : W.heap[b]? = some (.cells (strm mu mx mb pe fi (.slice p' n' cp') bb cu ge en ov rd pa) 49 (0, 0)) := by rw [hW]; exact block_self hb' 6 _
  have hrW : Row W N 29 (.slice p' n' cp') (xs ++ [.slice ip l c]) := by rw [hW]; exact hrow.setCell hbn' _
  have hkW : Kept (b :: blkOf (.slice p xs.length cp)) w W := by
    rw [hW]
    exact (((Kept.refl (b :: _) _).alloc _).trans (hk.mono (fun k h => .inl (List.mem_cons_of_mem _ h)))).setCell (by simp) _
  clear hW d6 f6 c6 hrun hk hb' hrow
  have c7 : W.cell? ⟨b, 7, none⟩ = some (.int .u64 bb) := block_cell hbW 7
  have f7 := block_free hbW 7
  go_wp2
  go_end0
  exact ⟨rfl, _, hrW.setCell hbn' _, block_self hbW 7 _, hkW.setCell (by simp) _⟩

/-- 'signal': the token is laid, or lies already. -/
theorem signal (b : Nat) (mu mx mb pe fi : Int) (it : Value) (bb cu ge : Int) (en : Value) (ov rd : Nat) (pa : Int) (buf : Array Value) (s r : Nat) (w : World)
    (hb : w.heap[b]? = some (.cells (strm mu mx mb pe fi it bb cu ge en ov rd pa) 49 (0, 0))) (hr : w.heap[rd]? = some (.chan 1 buf false s r false)) :
    Calls Ybaf.prog 16 #[.pointer (some ⟨b, 0, none⟩)] w fun e w' => e = .returned (.tuple #[]) ∧ (∃ buf s, w'.heap[rd]? = some (.chan 1 buf false s r false)) ∧ Kept [rd] w w' := by
  have c12 : w.cell? ⟨b, 12, none⟩ = some (.chan (some rd)) := block_cell hb 12
  by_cases h : buf.size < 1
  · refine (signal_room b rd w c12 buf s r false hr h).mono ?_
    rintro e w' ⟨rfl, rfl⟩
    exact ⟨rfl, ⟨_, _, chan_self hr _ _ _ _ _ _⟩, (Kept.refl _ _).setChan (by simp) _ _ _ _ _ _⟩
  · refine (signal_full b rd w c12 buf s r false hr (by omega)).mono ?_
    rintro e w' ⟨rfl, rfl⟩
    exact ⟨rfl, ⟨_, _, hr⟩, Kept.refl _ _⟩

section lock
variable {b : Nat} {mx mb pe fi : Int} {it : Value} {bb cu ge : Int} {en : Value} {ov rd : Nat} {pa : Int} {w : World}
theorem lock_ (hb : w.heap[b]? = some (.cells (strm 0 mx mb pe fi it bb cu ge en ov rd pa) 49 (0, 0))) :
    Calls Ybaf.prog 10 #[.pointer (some ⟨b, 0, none⟩)] w fun e w' => e = .returned (.tuple #[]) ∧ w'.heap[b]? = some (.cells (strm 1 mx mb pe fi it bb cu ge en ov rd pa) 49 (0, 0)) ∧ Kept [b] w w' := by
  refine (lock_free muLib ⟨b, 0, none⟩ w (block_cell hb 0) (block_free hb 0)).mono ?_
  rintro e w' ⟨rfl, rfl⟩
  exact ⟨rfl, block_self hb 0 _, (Kept.refl _ _).setCell (by simp) _⟩
theorem unlock_ (hb : w.heap[b]? = some (.cells (strm 1 mx mb pe fi it bb cu ge en ov rd pa) 49 (0, 0))) :
    Calls Ybaf.prog 15 #[.pointer (some ⟨b, 0, none⟩)] w fun e w' => e = .returned (.tuple #[]) ∧ w'.heap[b]? = some (.cells (strm 0 mx mb pe fi it bb cu ge en ov rd pa) 49 (0, 0)) ∧ Kept [b] w w' := by
  refine (unlock_held muLib ⟨b, 0, none⟩ w (block_cell hb 0) (block_free hb 0)).mono ?_
  rintro e w' ⟨rfl, rfl⟩
  exact ⟨rfl, block_self hb 0 _, (Kept.refl _ _).setCell (by simp) _⟩
theorem unlockD_ (u : FrameMode) (hb : w.heap[b]? = some (.cells (strm 1 mx mb pe fi it bb cu ge en ov rd pa) 49 (0, 0))) :
    CallsD Ybaf.prog 15 #[.pointer (some ⟨b, 0, none⟩)] u w fun e u' w' => u' = u ∧ (e = .returned (.tuple #[]) ∧ w'.heap[b]? = some (.cells (strm 0 mx mb pe fi it bb cu ge en ov rd pa) 49 (0, 0)) ∧ Kept [b] w w') := by
  refine (unlock_deferred muLib ⟨b, 0, none⟩ u w (block_cell hb 0) (block_free hb 0)).mono ?_
  rintro e u' w' ⟨rfl, rfl, rfl⟩
  exact ⟨rfl, rfl, block_self hb 0 _, (Kept.refl _ _).setCell (by simp) _⟩
end lock

set_option maxRecDepth 10000 in
set_option maxHeartbeats 400000 in
theorem backlog (b : Nat) (mx mb pe fi : Int) (p : Option Addr) (n cap : Nat) (bb cu ge : Int) (en : Value) (ov rd : Nat) (pa : Int) (w : World)
    (hb : w.heap[b]? = some (.cells (strm 0 mx mb pe fi (.slice p n cap) bb cu ge en ov rd pa) 49 (0, 0))) (hn : n < 4611686018427387904) :
    Calls Ybaf.prog 9 #[.pointer (some ⟨b, 0, none⟩)] w fun e w' => e = .returned (.tuple #[.int .u64 n, .int .u64 bb]) ∧
      w'.heap[b]? = some (.cells (strm 0 mx mb pe fi (.slice p n cap) bb cu ge en ov rd pa) 49 (0, 0)) ∧ Kept [b] w w' := by
  go_enter_defers Ybaf.func9, Ybaf.ntmps9
  go_wp2_with (go_at_call 10; refine (lock_ hb).mono ?_; rintro e w1 ⟨rfl, hb1, hk1⟩)
  have c6 : w1.cell? ⟨b, 6, none⟩ = some (.slice p n cap) := block_cell hb1 6
  have c7 : w1.cell? ⟨b, 7, none⟩ = some (.int .u64 bb) := block_cell hb1 7
  go_region
  go_wp2
  refine leaves_cons (f := 15) (args := #[.pointer (some ⟨b, 0, none⟩)]) (by simp) (by simp [go_sem]) ?_
  refine (unlockD_ .returning (block_drew hb1)).mono ?_
  rintro e u' w'' ⟨rfl, rfl, hb2, hk2⟩
  exact ⟨_, results_tmp2 rfl _ _ _, rfl, hb2, hk1.drew.trans hk2⟩
end Go.Proofs.YbulkfyhgFmt
