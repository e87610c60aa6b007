/-
  'ack': an old generation or an item taken already; an item that was never given; else the first items are let go.
-/
import Derived.Test.YbulkfyhgFmtRestart
import Derived.Deep.LoopGhost
import Derived.Lib.SliceRun
import Derived.Deep.RegionWith
namespace Go.Proofs.YbulkfyhgFmt
open Go.RowKit Go.Conc Go.MuLone Go.Extern.Stop Go.Stop Go.Extern

set_option maxRecDepth 10000 in
set_option maxHeartbeats 800000 in
theorem ack_old (N b : Nat) (mx mb pe fi : Int) (it : Value) (bb cu ge : Int) (xs : List Value) (g nx : Int) (w : World) (I : Inv N b mx mb pe fi it bb cu ge xs w) (h : g ≠ ge ∨ nx ≤ fi) :
    Calls Ybaf.prog 7 #[.pointer (some ⟨b, 0, none⟩), .int .u64 g, .int .u64 nx] w fun e w' => e = .returned .nilIface ∧ Turn N w w' ∧ Inv N b mx mb pe fi it bb cu ge xs w' := by
  obtain ⟨hNb, ⟨en, ov, rd, pa, hb, hNo, hNr, ⟨s, r, ho⟩, ⟨buf, s', r', hrd⟩⟩, hrow⟩ := I
  go_enter_defers Ybaf.func7, Ybaf.ntmps7
  go_upto_region 2 with (go_at_call 10; refine (lock_ hb).mono ?_; rintro e w1 ⟨rfl, hb1, hk1⟩)
  have c5 : w1.cell? ⟨b, 5, none⟩ = some (.int .u64 fi) := block_cell hb1 5
  have c9 : w1.cell? ⟨b, 9, none⟩ = some (.int .u64 ge) := block_cell hb1 9
  by_cases hg : g = ge
  · have hle : nx ≤ fi := h.resolve_left (by simpa using hg)
    subst hg
    clear h
    go_wp2_with fail
    refine leaves_cons (f := 15) (args := #[.pointer (some ⟨b, 0, none⟩)]) (by simp) (by simp [go_sem]) ?_
    refine (unlockD_ .returning hb1).mono ?_
    rintro e u' w2 ⟨rfl, rfl, hb2, hk2⟩
    have K2 := hk1.trans hk2
    exact ⟨_, results_tmp rfl _ _ _, rfl, Turn.of_kept K2 (by have := block_lt hb; omega) (by simpa using kind_b hb hNb), hNb, ⟨en, ov, rd, pa, hb2, hNo, hNr, ⟨s, r, K2.keep ho (by simpa using b_ne_chan hb ho)⟩, ⟨buf, s', r', K2.keep hrd (by simpa using b_ne_chan hb hrd)⟩⟩, hrow.keep K2 (by simpa using b_ne_row hrow hb)⟩
  · clear h
    go_wp2_with fail
    refine leaves_cons (f := 15) (args := #[.pointer (some ⟨b, 0, none⟩)]) (by simp) (by simp [go_sem]) ?_
    refine (unlockD_ .returning hb1).mono ?_
    rintro e u' w2 ⟨rfl, rfl, hb2, hk2⟩
    have K2 := hk1.trans hk2
    exact ⟨_, results_tmp rfl _ _ _, rfl, Turn.of_kept K2 (by have := block_lt hb; omega) (by simpa using kind_b hb hNb), hNb, ⟨en, ov, rd, pa, hb2, hNo, hNr, ⟨s, r, K2.keep ho (by simpa using b_ne_chan hb ho)⟩, ⟨buf, s', r', K2.keep hrd (by simpa using b_ne_chan hb hrd)⟩⟩, hrow.keep K2 (by simpa using b_ne_row hrow hb)⟩

/-- The same post, no panic being let through: a drawn region's operations may then be taken first, whatever is deferred. -/
def calm (Q : Exit → Act → World → Prop) : Exit → Act → World → Prop
  | .panic _, _, _ => False
  | e, a, w => Q e a w
theorem wp_calm {P : Program} {c : Code} {Q : Exit → Act → World → Prop} {a : Act} {w : World} (h : c.wp P (calm Q) a w) : c.wp P Q a w :=
  Code.wp_mono (fun e a w h => by cases e <;> first | exact h | exact h.elim) h

theorem errorf_acks_at (F : Interp) (x y : Int) (W : World) (hF : F.answers W.tape) :
    Calls Ybaf.prog 13 #[.string ⟨#[105, 116, 32, 97, 99, 107, 110, 111, 119, 108, 101, 100, 103, 101, 115, 32, 105, 116, 101, 109, 32, 37, 100, 44, 32, 97, 110, 100, 32, 116, 104, 101, 32, 115, 116, 114, 101, 97, 109, 32, 104, 97, 115, 32, 37, 100]⟩, .slice (some ⟨W.heap.size, 0, none⟩) 2 2] (W.alloc (.cells #[.iface 22 (.int .u64 x), .iface 22 (.int .u64 y)] 20)).drew fun e w' => ∃ v, e = .returned (.iface 59 v) ∧ Kept [] W w' := by
  refine (errorf_acks F x y W.heap.size (W.alloc (.cells #[.iface 22 (.int .u64 x), .iface 22 (.int .u64 y)] 20)).drew hF (block_cell (block_drew (block_new _ _)) 0) (block_cell (block_drew (block_new _ _)) 1)).mono ?_
  rintro e w' ⟨v, rfl, hk⟩
  exact ⟨v, rfl, (((Kept.refl [] W).alloc _).drew).trans (Kept.of_below hk)⟩

set_option maxRecDepth 10000 in
set_option maxHeartbeats 800000 in
theorem ack_far (F : Interp) (N b : Nat) (mx mb pe fi : Int) (it : Value) (bb cu ge : Int) (xs : List Value) (nx : Int) (w : World) (hF : F.answers w.tape) (I : Inv N b mx mb pe fi it bb cu ge xs w) (h1 : fi < nx) (h0 : 0 ≤ fi) (h64 : nx ≤ 18446744073709551615)
    (hx : xs.length < 1099511627776) (hfar : (xs.length : Int) < nx - fi) :
    Calls Ybaf.prog 7 #[.pointer (some ⟨b, 0, none⟩), .int .u64 ge, .int .u64 nx] w fun e w' => (∃ v, e = .returned (.iface 59 v)) ∧ Turn N w w' ∧ Inv N b mx mb pe fi it bb cu ge xs w' := by
  obtain ⟨hNb, ⟨en, ov, rd, pa, hb, hNo, hNr, ⟨s, r, ho⟩, ⟨buf, s', r', hrd⟩⟩, hrow⟩ := I
  obtain ⟨p, cap, rfl⟩ := hrow.len
  obtain ⟨n, hn⟩ : ∃ n, n = xs.length := ⟨_, rfl⟩
  rw [← hn] at hb hrow hfar hx ⊢
  clear hn
  have hw : IntKind.u64.wrap (nx - fi) = nx - fi := by simp [IntKind.wrap, IntKind.bits, IntKind.signed]; omega
  go_enter_defers Ybaf.func7, Ybaf.ntmps7
  go_upto_region 2 with (go_at_call 10; refine (lock_ hb).mono ?_; rintro e w1 ⟨rfl, hb1, hk1⟩)
  have c5 : w1.cell? ⟨b, 5, none⟩ = some (.int .u64 fi) := block_cell hb1 5
  have c6 : w1.cell? ⟨b, 6, none⟩ = some (.slice p n cap) := block_cell hb1 6
  have c9 : w1.cell? ⟨b, 9, none⟩ = some (.int .u64 ge) := block_cell hb1 9
  have hle : ¬ nx ≤ fi := by omega
  go_wp2_with fail
  have hF1 : F.answers w1.tape := by rw [hk1.tape]; exact hF
  refine wp_calm ?_
  go_region_with (first | (go_at_call 13; refine (errorf_acks_at F _ _ w1 hF1).mono ?_; rintro e w2 ⟨v, rfl, hk2⟩))
  all_goals
    dsimp only [calm]
    go_wp2_with fail
    refine leaves_cons (f := 15) (args := #[.pointer (some ⟨b, 0, none⟩)]) (by simp) (by simp [go_sem]) ?_
    refine (unlockD_ .returning (hk2.keep hb1 (by simp))).mono ?_
    rintro e u' w3 ⟨rfl, rfl, hb3, hk3⟩
    have K3 : Kept [b] w w3 := (hk1.trans (hk2.mono (by simp))).trans hk3
    exact ⟨_, results_tmp rfl _ _ _, ⟨_, rfl⟩, Turn.of_kept K3 (by have := block_lt hb; omega) (by simpa using kind_b hb hNb), hNb, ⟨en, ov, rd, pa, hb3, hNo, hNr, ⟨s, r, K3.keep ho (by simpa using b_ne_chan hb ho)⟩, ⟨buf, s', r', K3.keep hrd (by simpa using b_ne_chan hb hrd)⟩⟩, hrow.keep K3 (by simpa using b_ne_row hrow hb)⟩
end Go.Proofs.YbulkfyhgFmt
