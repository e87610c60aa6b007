/-
  'restart' and 'newStream'.
-/
import Derived.Test.YbulkfyhgFmtPush
namespace Go.Proofs.YbulkfyhgFmt
open Go.RowKit Go.Conc Go.MuLone Go.Extern.Stop Go.Stop Go.Extern

set_option maxRecDepth 10000 in
set_option maxHeartbeats 800000 in
theorem restart (N b : Nat) (mx mb pe fi : Int) (it : Value) (bb cu ge : Int) (xs : List Value) (pe' : Int) (it' : Value) (xs' : List Value) (w : World) (I : Inv N b mx mb pe fi it bb cu ge xs w) (hrow' : Row w N 29 it' xs') (hx : xs'.length < 1099511627776) :
    Calls Ybaf.prog 8 #[.pointer (some ⟨b, 0, none⟩), .int .u64 pe', it'] w fun e w' => e = .returned (.tuple #[]) ∧ Turn N w w' ∧ Inv N b mx mb pe' 1 it' 0 (1 + xs'.length) (IntKind.u64.wrap (ge + 1)) xs' w' := by
  obtain ⟨hNb, ⟨en, ov, rd, pa, hb, hNo, hNr, ⟨s, r, ho⟩, ⟨buf, s', r', hrd⟩⟩, -⟩ := I
  have hbr : b ∉ blkOf it' := hrow'.notin hb (fun A f e => by cases e)
  obtain ⟨p, cap, rfl⟩ := hrow'.len
  obtain ⟨n, hn⟩ : ∃ n, n = xs'.length := ⟨_, rfl⟩
  rw [← hn] at hrow' hbr hx ⊢
  clear hn
  go_enter Ybaf.func8, Ybaf.ntmps8
  go_upto_region 1 with (go_at_call 10; refine (lock_ hb).mono ?_; rintro e w1 ⟨rfl, hb1, hk1⟩)
  have c4 : w1.cell? ⟨b, 4, none⟩ = some (.int .u64 pe) := block_cell hb1 4
  have f4 := block_free hb1 4
  have c5 : w1.cell? ⟨b, 5, none⟩ = some (.int .u64 fi) := block_cell hb1 5
  have f5 := block_free hb1 5
  have c6 : w1.cell? ⟨b, 6, none⟩ = some it := block_cell hb1 6
  have f6 := block_free hb1 6
  have c7 : w1.cell? ⟨b, 7, none⟩ = some (.int .u64 bb) := block_cell hb1 7
  have f7 := block_free hb1 7
  have c8 : w1.cell? ⟨b, 8, none⟩ = some (.int .u64 cu) := block_cell hb1 8
  have f8 := block_free hb1 8
  have c13 : w1.cell? ⟨b, 13, none⟩ = some (.int .u64 pa) := block_cell hb1 13
  have f13 := block_free hb1 13
  go_wp2_with fail
  have hb2 : _ = some (Obj.cells (strm 1 mx mb pe' 1 (.slice p n cap) 0 (1 + n) ge en ov rd 0) 49 (0, 0)) := block_self (block_self (block_self (block_self (block_self (block_self hb1 4 (.int .u64 pe')) 5 (.int .u64 1)) 6 (.slice p n cap)) 13 (.int .u64 0)) 7 (.int .u64 0)) 8 (.int .u64 (1 + n))
  have hk2 : Kept [b] w _ := (((((hk1.setCell (a := ⟨b, 4, none⟩) (by simp) (.int .u64 pe')).setCell (a := ⟨b, 5, none⟩) (by simp) (.int .u64 1)).setCell (a := ⟨b, 6, none⟩) (by simp) (.slice p n cap)).setCell (a := ⟨b, 13, none⟩) (by simp) (.int .u64 0)).setCell (a := ⟨b, 7, none⟩) (by simp) (.int .u64 0)).setCell (a := ⟨b, 8, none⟩) (by simp) (.int .u64 (1 + n))
  refine (errors_new _ _).mono ?_
  rintro e w3 ⟨v, rfl, hk3⟩
  have K3 : Kept [b] w w3 := hk2.trans (Kept.of_below hk3)
  have hb3 := (Kept.of_below (T := []) hk3).keep hb2 (by simp)
  have ho3 := K3.keep ho (by simpa using b_ne_chan hb ho)
  clear hk2 hb2 hk3
  go_wp2_with fail
  refine (end_ b 1 mx mb pe' 1 _ 0 _ ge en v ov rd 0 s r w3 hb3 ho3).mono ?_
  rintro e w4 ⟨rfl, ov', hov, ho4, hb4, hk4⟩
  go_wp2_with fail
  refine (unlock_ hb4).mono ?_
  rintro e w6 ⟨rfl, hb6, hk6⟩
  have K6 : Kept [b, ov] w w6 := ((K3.mono (by simp)).trans hk4).trans (hk6.mono (by simp))
  have hrd6 := K6.keep hrd (by simpa using ⟨b_ne_chan hb hrd, by rintro rfl; rw [ho] at hrd; cases hrd⟩)
  have ho6 := hk6.keep ho4 (by simpa using b_ne_chan hb4 ho4)
  go_wp2_with fail
  refine (signal b 0 mx mb pe' _ _ 0 _ _ _ ov' rd 0 buf s' r' w6 hb6 hrd6).mono ?_
  rintro e w7 ⟨rfl, ⟨buf7, s7, hrd7⟩, hk7⟩
  go_wp2_with fail
  go_end0
  have hor : ov' ≠ rd := by rintro rfl; rw [ho6] at hrd6; cases hrd6
  have hwN : N ≤ w.heap.size := by have := block_lt hb; omega
  have hw6 := K6.size
  have hrow6 := hrow'.keep K6 (by simpa using ⟨hbr, chan_ne_row hrow' ho⟩)
  refine ⟨rfl, ?_, hNb, ⟨_, ov', rd, 0, hk7.keep hb6 (by simpa using (b_ne_chan hb6 hrd6).symm), by have := K3.size; omega, hNr, ⟨0, 0, hk7.keep ho6 (by simpa using hor)⟩, ⟨buf7, s7, r', hrd7⟩⟩, hrow6.keep hk7 (by simpa using chan_ne_row hrow6 hrd6)⟩
  refine (Turn.of_kept K6 hwN ?_).trans (Turn.of_kept hk7 (by omega) (by simpa using kind_chan hrd6 hNr))
  intro k hk
  rcases List.mem_cons.1 hk with rfl | hk
  · exact kind_b hb hNb
  · obtain rfl := List.mem_singleton.1 hk
    exact kind_chan ho hNo

theorem three (w W : World) (o : Obj) (Q : Nat → World → Prop) (o0 o1 : Obj) (hW : W = (((w.alloc o0).alloc o1).alloc o).drew)
    (hQ : W.heap[w.heap.size]? = some o0 → W.heap[w.heap.size + 1]? = some o1 → W.heap[w.heap.size + 1 + 1]? = some o → True → Q (w.heap.size + 1 + 1) W) :
    ∃ b, (Ending.returned (Value.pointer (some ⟨w.heap.size + 1 + 1, 0, none⟩)) = Ending.returned (Value.pointer (some ⟨b, 0, none⟩))) ∧ Turn w.heap.size w W ∧ Q b W := by
  refine ⟨_, rfl, ?_, hQ ?_ ?_ ?_ trivial⟩
  · rw [hW]
    exact Turn.of_below (((((Below.refl _ _).alloc (Nat.le_refl _) _).alloc (by simp) _).alloc (by simp; omega) _).drew) (Nat.le_refl _)
  · rw [hW]
    exact block_drew (block_alloc (block_alloc (block_new w o0) o1) o)
  · rw [hW]
    have := block_new (w.alloc o0) o1
    simp only [World.size_alloc] at this
    exact block_drew (block_alloc this o)
  · rw [hW]
    have := block_new ((w.alloc o0).alloc o1) o
    simp only [World.size_alloc] at this
    exact block_drew this

set_option maxRecDepth 10000 in
set_option maxHeartbeats 800000 in
theorem newStream (mx mb : Int) (w : World) :
    Calls Ybaf.prog 4 #[.int .u64 mx, .int .u64 mb] w fun e w' => ∃ b, e = .returned (.pointer (some ⟨b, 0, none⟩)) ∧ Turn w.heap.size w w' ∧ Inv w.heap.size b mx mb 0 1 (.slice none 0 0) 0 1 0 [] w' := by
  have h0 := mk0
  have h1 := mk1
  go_enter Ybaf.func4, Ybaf.ntmps4
  go_wp2
  go_region
  · go_wp2
    go_ret
    exact three w _ _ _ (Obj.chan 0 #[] false 0 0 false) (Obj.chan 1 #[] false 0 0 false) rfl (fun h0 h1 h2 hk => ⟨by omega, ⟨.nilIface, w.heap.size, w.heap.size + 1, 0, h2, Nat.le_refl _, by omega, ⟨_, _, h0⟩, ⟨_, _, _, h1⟩⟩, .inl ⟨rfl, rfl⟩⟩)
  · go_wp2
    go_ret
    exact three w _ _ _ (Obj.chan 1 #[] false 0 0 false) (Obj.chan 0 #[] false 0 0 false) rfl (fun h0 h1 h2 hk => ⟨by omega, ⟨.nilIface, w.heap.size + 1, w.heap.size, 0, h2, by omega, Nat.le_refl _, ⟨_, _, h1⟩, ⟨_, _, _, h0⟩⟩, .inl ⟨rfl, rfl⟩⟩)
end Go.Proofs.YbulkfyhgFmt
