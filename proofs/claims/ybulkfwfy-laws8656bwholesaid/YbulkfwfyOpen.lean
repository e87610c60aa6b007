/-
  LawS8656BWhole: the two arguments, slices of structs, opened: the cells of each element.
-/
import Derived.Test.YbulkfwfyRows
import Derived.WalkKit
import Derived.ProofKit
import Derived.Deep.Slices
namespace Go.Proofs.Ybulkfwfy.LawB
open Go.ChangeShapes Go.WideShapes Go.ChangeAt Go.RowKit

theorem at_add (a : Addr) (h : a.spot = none) {i j : Nat} : (a.add i).add j = ⟨a.block, a.off + i + j, none⟩ := by
  obtain ⟨b, o, sp⟩ := a
  simp only at h
  subst h
  unfold Addr.add
  split <;> split <;> simp_all
theorem block_of_cell {w : World} {a : Addr} {v : Value} (h : w.cell? a = some v) : a.block < w.heap.size := by
  rcases Nat.lt_or_ge a.block w.heap.size with k | k
  · exact k
  · unfold World.cell? at h
    simp [Array.getElem?_eq_none k] at h

theorem open_globals_elem {H : Type} {enc : TypeId × Value → H} {w : World} {base : Nat} {spare : Nat → Bool} {held : Bool} {n : Nat} {ad : Addr} {cs : List Value} {x : DataW H × List MemPlace}
    (h1 : w.cells? base ad 5 = some cs) (h2 : DataW.trod enc Yba.prog w base spare held n 41 cs = some x) :
    ∃ (x0 : Bool) (x1 : Bool) (x2 : Int) (x3 : Int) (x4 : ByteArray), w.cell? (ad.add 0) = some (.bool x0) ∧ w.cell? (ad.add 1) = some (.bool x1) ∧ w.cell? (ad.add 2) = some (.int .u8 x2) ∧ w.cell? (ad.add 3) = some (.int .i64 x3) ∧ w.cell? (ad.add 4) = some (.string x4) ∧ (Lit.int .u8 x2).wf = true ∧ (Lit.int .i64 x3).wf = true := by
  obtain ⟨_, hlen, hc⟩ := World.cells?_some h1
  obtain ⟨c0, c1, c2, c3, c4, rfl⟩ : ∃ c0 c1 c2 c3 c4, cs = [c0, c1, c2, c3, c4] := by
    match cs, hlen with
    | [c0, c1, c2, c3, c4], _ => exact ⟨c0, c1, c2, c3, c4, rfl⟩
  obtain ⟨xs, m, _, _, _, hxs, hf⟩ := DataW.trod_struct Yba.underlying41 h2
  obtain ⟨z0, z1, z2, z3, z4, rfl⟩ : ∃ z0 z1 z2 z3 z4, xs = [z0, z1, z2, z3, z4] := by
    match xs, hxs with
    | [z0, z1, z2, z3, z4], _ => exact ⟨z0, z1, z2, z3, z4, rfl⟩
  have f0 : DataW.trod enc Yba.prog w base spare held m 4 [c0] = some z0 := by
    have h : DataW.trod enc Yba.prog w base spare held m 4 (([c0, c1, c2, c3, c4].drop 0).take (Yba.prog.cellsOf 4)) = [z0, z1, z2, z3, z4][0]? := hf 0 _ rfl
    rw [show Yba.prog.cellsOf 4 = 1 from by kernel_rfl] at h
    exact h
  have f1 : DataW.trod enc Yba.prog w base spare held m 4 [c1] = some z1 := by
    have h : DataW.trod enc Yba.prog w base spare held m 4 (([c0, c1, c2, c3, c4].drop 1).take (Yba.prog.cellsOf 4)) = [z0, z1, z2, z3, z4][1]? := hf 1 _ rfl
    rw [show Yba.prog.cellsOf 4 = 1 from by kernel_rfl] at h
    exact h
  have f2 : DataW.trod enc Yba.prog w base spare held m 5 [c2] = some z2 := by
    have h : DataW.trod enc Yba.prog w base spare held m 5 (([c0, c1, c2, c3, c4].drop 2).take (Yba.prog.cellsOf 5)) = [z0, z1, z2, z3, z4][2]? := hf 2 _ rfl
    rw [show Yba.prog.cellsOf 5 = 1 from by kernel_rfl] at h
    exact h
  have f3 : DataW.trod enc Yba.prog w base spare held m 2 [c3] = some z3 := by
    have h : DataW.trod enc Yba.prog w base spare held m 2 (([c0, c1, c2, c3, c4].drop 3).take (Yba.prog.cellsOf 2)) = [z0, z1, z2, z3, z4][3]? := hf 3 _ rfl
    rw [show Yba.prog.cellsOf 2 = 1 from by kernel_rfl] at h
    exact h
  have f4 : DataW.trod enc Yba.prog w base spare held m 9 [c4] = some z4 := by
    have h : DataW.trod enc Yba.prog w base spare held m 9 (([c0, c1, c2, c3, c4].drop 4).take (Yba.prog.cellsOf 9)) = [z0, z1, z2, z3, z4][4]? := hf 4 _ rfl
    rw [show Yba.prog.cellsOf 9 = 1 from by kernel_rfl] at h
    exact h
  obtain ⟨x0, e0, _⟩ := DataW.trod_bool Yba.underlying4 f0
  simp only [List.cons.injEq, and_true] at e0
  subst e0
  obtain ⟨x1, e1, _⟩ := DataW.trod_bool Yba.underlying4 f1
  simp only [List.cons.injEq, and_true] at e1
  subst e1
  obtain ⟨x2, e2, _, w2⟩ := DataW.trod_int Yba.underlying5 f2
  simp only [List.cons.injEq, and_true] at e2
  subst e2
  obtain ⟨x3, e3, _, w3⟩ := DataW.trod_int Yba.underlying2 f3
  simp only [List.cons.injEq, and_true] at e3
  subst e3
  obtain ⟨x4, e4, _, _⟩ := DataW.trod_string Yba.underlying9 f4
  simp only [List.cons.injEq, and_true] at e4
  subst e4
  exact ⟨x0, x1, x2, x3, x4, hc 0 (by omega), hc 1 (by omega), hc 2 (by omega), hc 3 (by omega), hc 4 (by omega), w2, w3⟩

theorem open_globals {H : Type} {enc : TypeId × Value → H} {w : World} {spare : Nat → Bool} {held : Bool} {a : Option Addr} {len cap : Nat} {d : DataW H} {p : List MemPlace}
    (h : DataW.Trod enc Yba.prog w 0 spare held 22 (.slice a len cap) d p) :
    ∃ (b o : Nat) (gD : Nat → Bool) (gK : Nat → Bool) (gq : Nat → Int) (gi : Nat → Int) (gs : Nat → ByteArray), (0 < len → a = some ⟨b, o, none⟩) ∧ (0 < len → b < w.heap.size) ∧ ∀ i, i < len → (w.cell? ⟨b, o + i * 5, none⟩ = some (.bool (gD i)) ∧ w.cell? ⟨b, o + i * 5 + 1, none⟩ = some (.bool (gK i)) ∧ w.cell? ⟨b, o + i * 5 + 2, none⟩ = some (.int .u8 (gq i)) ∧ w.cell? ⟨b, o + i * 5 + 3, none⟩ = some (.int .i64 (gi i)) ∧ w.cell? ⟨b, o + i * 5 + 4, none⟩ = some (.string (gs i))) ∧ (Lit.int .u8 (gq i)).wf = true ∧ (Lit.int .i64 (gi i)).wf = true := by
  obtain ⟨fuel, hf⟩ := h
  rcases Deep.open_slice Yba.underlying22 hf with ⟨hcs, _⟩ | ⟨ad, l, c, m, n, D, Pl, hcs, _, hl, _, hm, _, hx⟩
  · simp [Value.cells] at hcs
    obtain ⟨rfl, rfl, rfl⟩ := hcs
    exact ⟨0, 0, fun _ => false, fun _ => false, fun _ => 0, fun _ => 0, fun _ => ByteArray.empty, fun h => absurd h (by omega), fun h => absurd h (by omega), fun i h => absurd h (by omega)⟩
  · simp [Value.cells] at hcs
    obtain ⟨rfl, rfl, rfl⟩ := hcs
    have hlm : len ≤ m := by rw [hm]; split <;> omega
    have hall : ∀ i, i < len → ∃ y : Bool × Bool × Int × Int × ByteArray, (w.cell? ((ad.add (i * 5)).add 0) = some (.bool y.1) ∧ w.cell? ((ad.add (i * 5)).add 1) = some (.bool y.2.1) ∧ w.cell? ((ad.add (i * 5)).add 2) = some (.int .u8 y.2.2.1) ∧ w.cell? ((ad.add (i * 5)).add 3) = some (.int .i64 y.2.2.2.1) ∧ w.cell? ((ad.add (i * 5)).add 4) = some (.string y.2.2.2.2)) ∧ (Lit.int .u8 y.2.2.1).wf = true ∧ (Lit.int .i64 y.2.2.2.1).wf = true := fun i hi => by
      obtain ⟨cs', h1, h2⟩ := hx i (by omega)
      rw [show Yba.prog.cellsOf 41 = 5 from by kernel_rfl] at h1
      obtain ⟨x0, x1, x2, x3, x4, k0, k1, k2, k3, k4, hw⟩ := open_globals_elem h1 h2
      exact ⟨(x0, x1, x2, x3, x4), ⟨k0, k1, k2, k3, k4⟩, hw⟩
    obtain ⟨Y, hY⟩ := Deep.choose_lt hall
    refine ⟨ad.block, ad.off, fun i => (Y i).1, fun i => (Y i).2.1, fun i => (Y i).2.2.1, fun i => (Y i).2.2.2.1, fun i => (Y i).2.2.2.2, fun hp => ?_, fun hp => ?_, fun i hi => ?_⟩
    · have h0 := World.cell?_spot (hY 0 hp).1.1
      simp only [Nat.zero_mul, Addr.add, if_true] at h0
      rw [show ad = ⟨ad.block, ad.off, none⟩ from by rw [← h0]]
    · have h0 := (hY 0 hp).1.1
      simp only [Nat.zero_mul, Addr.add, if_true] at h0
      exact block_of_cell h0
    · obtain ⟨⟨k0, k1, k2, k3, k4⟩, hw⟩ := hY i hi
      have h0 := World.cell?_spot (hY 0 (by omega)).1.1
      simp only [Nat.zero_mul, Addr.add, if_true] at h0
      refine ⟨⟨?_, ?_, ?_, ?_, ?_⟩, hw⟩
      · rw [at_add ad h0] at k0; exact k0
      · rw [at_add ad h0] at k1; exact k1
      · rw [at_add ad h0] at k2; exact k2
      · rw [at_add ad h0] at k3; exact k3
      · rw [at_add ad h0] at k4; exact k4

theorem open_binds_elem {H : Type} {enc : TypeId × Value → H} {w : World} {base : Nat} {spare : Nat → Bool} {held : Bool} {n : Nat} {ad : Addr} {cs : List Value} {x : DataW H × List MemPlace}
    (h1 : w.cells? base ad 6 = some cs) (h2 : DataW.trod enc Yba.prog w base spare held n 48 cs = some x) :
    ∃ (x0 : Int) (x1 : Int) (x2 : Bool) (x3 : Int) (x4 : Int) (x5 : ByteArray), w.cell? (ad.add 0) = some (.int .u32 x0) ∧ w.cell? (ad.add 1) = some (.int .i32 x1) ∧ w.cell? (ad.add 2) = some (.bool x2) ∧ w.cell? (ad.add 3) = some (.int .u8 x3) ∧ w.cell? (ad.add 4) = some (.int .i64 x4) ∧ w.cell? (ad.add 5) = some (.string x5) ∧ (Lit.int .u32 x0).wf = true ∧ (Lit.int .i32 x1).wf = true ∧ (Lit.int .u8 x3).wf = true ∧ (Lit.int .i64 x4).wf = true := by
  obtain ⟨_, hlen, hc⟩ := World.cells?_some h1
  obtain ⟨c0, c1, c2, c3, c4, c5, rfl⟩ : ∃ c0 c1 c2 c3 c4 c5, cs = [c0, c1, c2, c3, c4, c5] := by
    match cs, hlen with
    | [c0, c1, c2, c3, c4, c5], _ => exact ⟨c0, c1, c2, c3, c4, c5, rfl⟩
  obtain ⟨xs, m, _, _, _, hxs, hf⟩ := DataW.trod_struct Yba.underlying48 h2
  obtain ⟨z0, z1, z2, z3, z4, z5, rfl⟩ : ∃ z0 z1 z2 z3 z4 z5, xs = [z0, z1, z2, z3, z4, z5] := by
    match xs, hxs with
    | [z0, z1, z2, z3, z4, z5], _ => exact ⟨z0, z1, z2, z3, z4, z5, rfl⟩
  have f0 : DataW.trod enc Yba.prog w base spare held m 24 [c0] = some z0 := by
    have h : DataW.trod enc Yba.prog w base spare held m 24 (([c0, c1, c2, c3, c4, c5].drop 0).take (Yba.prog.cellsOf 24)) = [z0, z1, z2, z3, z4, z5][0]? := hf 0 _ rfl
    rw [show Yba.prog.cellsOf 24 = 1 from by kernel_rfl] at h
    exact h
  have f1 : DataW.trod enc Yba.prog w base spare held m 21 [c1] = some z1 := by
    have h : DataW.trod enc Yba.prog w base spare held m 21 (([c0, c1, c2, c3, c4, c5].drop 1).take (Yba.prog.cellsOf 21)) = [z0, z1, z2, z3, z4, z5][1]? := hf 1 _ rfl
    rw [show Yba.prog.cellsOf 21 = 1 from by kernel_rfl] at h
    exact h
  have f2 : DataW.trod enc Yba.prog w base spare held m 4 [c2] = some z2 := by
    have h : DataW.trod enc Yba.prog w base spare held m 4 (([c0, c1, c2, c3, c4, c5].drop 2).take (Yba.prog.cellsOf 4)) = [z0, z1, z2, z3, z4, z5][2]? := hf 2 _ rfl
    rw [show Yba.prog.cellsOf 4 = 1 from by kernel_rfl] at h
    exact h
  have f3 : DataW.trod enc Yba.prog w base spare held m 5 [c3] = some z3 := by
    have h : DataW.trod enc Yba.prog w base spare held m 5 (([c0, c1, c2, c3, c4, c5].drop 3).take (Yba.prog.cellsOf 5)) = [z0, z1, z2, z3, z4, z5][3]? := hf 3 _ rfl
    rw [show Yba.prog.cellsOf 5 = 1 from by kernel_rfl] at h
    exact h
  have f4 : DataW.trod enc Yba.prog w base spare held m 2 [c4] = some z4 := by
    have h : DataW.trod enc Yba.prog w base spare held m 2 (([c0, c1, c2, c3, c4, c5].drop 4).take (Yba.prog.cellsOf 2)) = [z0, z1, z2, z3, z4, z5][4]? := hf 4 _ rfl
    rw [show Yba.prog.cellsOf 2 = 1 from by kernel_rfl] at h
    exact h
  have f5 : DataW.trod enc Yba.prog w base spare held m 9 [c5] = some z5 := by
    have h : DataW.trod enc Yba.prog w base spare held m 9 (([c0, c1, c2, c3, c4, c5].drop 5).take (Yba.prog.cellsOf 9)) = [z0, z1, z2, z3, z4, z5][5]? := hf 5 _ rfl
    rw [show Yba.prog.cellsOf 9 = 1 from by kernel_rfl] at h
    exact h
  obtain ⟨x0, e0, _, w0⟩ := DataW.trod_int Yba.underlying24 f0
  simp only [List.cons.injEq, and_true] at e0
  subst e0
  obtain ⟨x1, e1, _, w1⟩ := DataW.trod_int Yba.underlying21 f1
  simp only [List.cons.injEq, and_true] at e1
  subst e1
  obtain ⟨x2, e2, _⟩ := DataW.trod_bool Yba.underlying4 f2
  simp only [List.cons.injEq, and_true] at e2
  subst e2
  obtain ⟨x3, e3, _, w3⟩ := DataW.trod_int Yba.underlying5 f3
  simp only [List.cons.injEq, and_true] at e3
  subst e3
  obtain ⟨x4, e4, _, w4⟩ := DataW.trod_int Yba.underlying2 f4
  simp only [List.cons.injEq, and_true] at e4
  subst e4
  obtain ⟨x5, e5, _, _⟩ := DataW.trod_string Yba.underlying9 f5
  simp only [List.cons.injEq, and_true] at e5
  subst e5
  exact ⟨x0, x1, x2, x3, x4, x5, hc 0 (by omega), hc 1 (by omega), hc 2 (by omega), hc 3 (by omega), hc 4 (by omega), hc 5 (by omega), w0, w1, w3, w4⟩

theorem open_binds {H : Type} {enc : TypeId × Value → H} {w : World} {spare : Nat → Bool} {held : Bool} {a : Option Addr} {len cap : Nat} {d : DataW H} {p : List MemPlace}
    (h : DataW.Trod enc Yba.prog w 0 spare held 23 (.slice a len cap) d p) :
    ∃ (b o : Nat) (bN : Nat → Int) (bS : Nat → Int) (bK : Nat → Bool) (bq : Nat → Int) (bi : Nat → Int) (bs : Nat → ByteArray), (0 < len → a = some ⟨b, o, none⟩) ∧ (0 < len → b < w.heap.size) ∧ ∀ i, i < len → (w.cell? ⟨b, o + i * 6, none⟩ = some (.int .u32 (bN i)) ∧ w.cell? ⟨b, o + i * 6 + 1, none⟩ = some (.int .i32 (bS i)) ∧ w.cell? ⟨b, o + i * 6 + 2, none⟩ = some (.bool (bK i)) ∧ w.cell? ⟨b, o + i * 6 + 3, none⟩ = some (.int .u8 (bq i)) ∧ w.cell? ⟨b, o + i * 6 + 4, none⟩ = some (.int .i64 (bi i)) ∧ w.cell? ⟨b, o + i * 6 + 5, none⟩ = some (.string (bs i))) ∧ (Lit.int .u32 (bN i)).wf = true ∧ (Lit.int .i32 (bS i)).wf = true ∧ (Lit.int .u8 (bq i)).wf = true ∧ (Lit.int .i64 (bi i)).wf = true := by
  obtain ⟨fuel, hf⟩ := h
  rcases Deep.open_slice Yba.underlying23 hf with ⟨hcs, _⟩ | ⟨ad, l, c, m, n, D, Pl, hcs, _, hl, _, hm, _, hx⟩
  · simp [Value.cells] at hcs
    obtain ⟨rfl, rfl, rfl⟩ := hcs
    exact ⟨0, 0, fun _ => 0, fun _ => 0, fun _ => false, fun _ => 0, fun _ => 0, fun _ => ByteArray.empty, fun h => absurd h (by omega), fun h => absurd h (by omega), fun i h => absurd h (by omega)⟩
  · simp [Value.cells] at hcs
    obtain ⟨rfl, rfl, rfl⟩ := hcs
    have hlm : len ≤ m := by rw [hm]; split <;> omega
    have hall : ∀ i, i < len → ∃ y : Int × Int × Bool × Int × Int × ByteArray, (w.cell? ((ad.add (i * 6)).add 0) = some (.int .u32 y.1) ∧ w.cell? ((ad.add (i * 6)).add 1) = some (.int .i32 y.2.1) ∧ w.cell? ((ad.add (i * 6)).add 2) = some (.bool y.2.2.1) ∧ w.cell? ((ad.add (i * 6)).add 3) = some (.int .u8 y.2.2.2.1) ∧ w.cell? ((ad.add (i * 6)).add 4) = some (.int .i64 y.2.2.2.2.1) ∧ w.cell? ((ad.add (i * 6)).add 5) = some (.string y.2.2.2.2.2)) ∧ (Lit.int .u32 y.1).wf = true ∧ (Lit.int .i32 y.2.1).wf = true ∧ (Lit.int .u8 y.2.2.2.1).wf = true ∧ (Lit.int .i64 y.2.2.2.2.1).wf = true := fun i hi => by
      obtain ⟨cs', h1, h2⟩ := hx i (by omega)
      rw [show Yba.prog.cellsOf 48 = 6 from by kernel_rfl] at h1
      obtain ⟨x0, x1, x2, x3, x4, x5, k0, k1, k2, k3, k4, k5, hw⟩ := open_binds_elem h1 h2
      exact ⟨(x0, x1, x2, x3, x4, x5), ⟨k0, k1, k2, k3, k4, k5⟩, hw⟩
    obtain ⟨Y, hY⟩ := Deep.choose_lt hall
    refine ⟨ad.block, ad.off, fun i => (Y i).1, fun i => (Y i).2.1, fun i => (Y i).2.2.1, fun i => (Y i).2.2.2.1, fun i => (Y i).2.2.2.2.1, fun i => (Y i).2.2.2.2.2, fun hp => ?_, fun hp => ?_, fun i hi => ?_⟩
    · have h0 := World.cell?_spot (hY 0 hp).1.1
      simp only [Nat.zero_mul, Addr.add, if_true] at h0
      rw [show ad = ⟨ad.block, ad.off, none⟩ from by rw [← h0]]
    · have h0 := (hY 0 hp).1.1
      simp only [Nat.zero_mul, Addr.add, if_true] at h0
      exact block_of_cell h0
    · obtain ⟨⟨k0, k1, k2, k3, k4, k5⟩, hw⟩ := hY i hi
      have h0 := World.cell?_spot (hY 0 (by omega)).1.1
      simp only [Nat.zero_mul, Addr.add, if_true] at h0
      refine ⟨⟨?_, ?_, ?_, ?_, ?_, ?_⟩, hw⟩
      · rw [at_add ad h0] at k0; exact k0
      · rw [at_add ad h0] at k1; exact k1
      · rw [at_add ad h0] at k2; exact k2
      · rw [at_add ad h0] at k3; exact k3
      · rw [at_add ad h0] at k4; exact k4
      · rw [at_add ad h0] at k5; exact k5
end Go.Proofs.Ybulkfwfy.LawB
