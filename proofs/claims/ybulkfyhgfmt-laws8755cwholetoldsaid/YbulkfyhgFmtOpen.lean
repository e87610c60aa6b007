/-
  LawS8755CWhole: the script, a slice of structs, opened: the cells of each element.
-/
import Derived.Test.YbulkfyhgFmtRows
import Derived.WalkKit
import Derived.ProofKit
import Derived.Deep.Slices
namespace Go.Proofs.YbulkfyhgFmt
open Go.ChangeShapes Go.WideShapes Go.ChangeAt Go.RowKit

theorem at_add (a : Addr) (h : a.spot = none) {i j : Nat} : (a.add i).add j = ⟨a.block, a.off + i + j, none⟩ := by
  obtain ⟨b, o, sp⟩ := a
  simp only at h
  subst h
  unfold Addr.add
  split <;> split <;> simp_all
theorem block_of_cell {w : World} {a : Addr} {v : Value} (h : w.cell? a = some v) : a.block < w.heap.size := by
  rcases Nat.lt_or_ge a.block w.heap.size with k | k
  · exact k
  · unfold World.cell? at h
    simp [Array.getElem?_eq_none k] at h

theorem open_ops_elem {H : Type} {enc : TypeId × Value → H} {w : World} {base : Nat} {spare : Nat → Bool} {held : Bool} {n : Nat} {ad : Addr} {cs : List Value} {x : DataW H × List MemPlace}
    (h1 : w.cells? base ad 4 = some cs) (h2 : DataW.trod enc Ybaf.prog w base spare held n 25 cs = some x) :
    ∃ (x0 : Int) (x1 : Int) (x2 : Int) (x3 : ByteArray), w.cell? (ad.add 0) = some (.int .u8 x0) ∧ w.cell? (ad.add 1) = some (.int .i64 x1) ∧ w.cell? (ad.add 2) = some (.int .i64 x2) ∧ w.cell? (ad.add 3) = some (.string x3) ∧ (Lit.int .u8 x0).wf = true ∧ (Lit.int .i64 x1).wf = true ∧ (Lit.int .i64 x2).wf = true ∧ x3.size ≤ maxLen := by
  obtain ⟨_, hlen, hc⟩ := World.cells?_some h1
  obtain ⟨c0, c1, c2, c3, rfl⟩ : ∃ c0 c1 c2 c3, cs = [c0, c1, c2, c3] := by
    match cs, hlen with
    | [c0, c1, c2, c3], _ => exact ⟨c0, c1, c2, c3, rfl⟩
  obtain ⟨xs, m, _, _, _, hxs, hf⟩ := DataW.trod_struct Ybaf.underlying25 h2
  obtain ⟨z0, z1, z2, z3, rfl⟩ : ∃ z0 z1 z2 z3, xs = [z0, z1, z2, z3] := by
    match xs, hxs with
    | [z0, z1, z2, z3], _ => exact ⟨z0, z1, z2, z3, rfl⟩
  have f0 : DataW.trod enc Ybaf.prog w base spare held m 5 [c0] = some z0 := by
    have h : DataW.trod enc Ybaf.prog w base spare held m 5 (([c0, c1, c2, c3].drop 0).take (Ybaf.prog.cellsOf 5)) = [z0, z1, z2, z3][0]? := hf 0 _ rfl
    rw [show Ybaf.prog.cellsOf 5 = 1 from by kernel_rfl] at h
    exact h
  have f1 : DataW.trod enc Ybaf.prog w base spare held m 3 [c1] = some z1 := by
    have h : DataW.trod enc Ybaf.prog w base spare held m 3 (([c0, c1, c2, c3].drop 1).take (Ybaf.prog.cellsOf 3)) = [z0, z1, z2, z3][1]? := hf 1 _ rfl
    rw [show Ybaf.prog.cellsOf 3 = 1 from by kernel_rfl] at h
    exact h
  have f2 : DataW.trod enc Ybaf.prog w base spare held m 3 [c2] = some z2 := by
    have h : DataW.trod enc Ybaf.prog w base spare held m 3 (([c0, c1, c2, c3].drop 2).take (Ybaf.prog.cellsOf 3)) = [z0, z1, z2, z3][2]? := hf 2 _ rfl
    rw [show Ybaf.prog.cellsOf 3 = 1 from by kernel_rfl] at h
    exact h
  have f3 : DataW.trod enc Ybaf.prog w base spare held m 9 [c3] = some z3 := by
    have h : DataW.trod enc Ybaf.prog w base spare held m 9 (([c0, c1, c2, c3].drop 3).take (Ybaf.prog.cellsOf 9)) = [z0, z1, z2, z3][3]? := hf 3 _ rfl
    rw [show Ybaf.prog.cellsOf 9 = 1 from by kernel_rfl] at h
    exact h
  obtain ⟨x0, e0, _, w0⟩ := DataW.trod_int Ybaf.underlying5 f0
  simp only [List.cons.injEq, and_true] at e0
  subst e0
  obtain ⟨x1, e1, _, w1⟩ := DataW.trod_int Ybaf.underlying3 f1
  simp only [List.cons.injEq, and_true] at e1
  subst e1
  obtain ⟨x2, e2, _, w2⟩ := DataW.trod_int Ybaf.underlying3 f2
  simp only [List.cons.injEq, and_true] at e2
  subst e2
  obtain ⟨x3, e3, _, w3⟩ := DataW.trod_string Ybaf.underlying9 f3
  simp only [List.cons.injEq, and_true] at e3
  subst e3
  exact ⟨x0, x1, x2, x3, hc 0 (by omega), hc 1 (by omega), hc 2 (by omega), hc 3 (by omega), w0, w1, w2, w3⟩

theorem open_ops {H : Type} {enc : TypeId × Value → H} {w : World} {spare : Nat → Bool} {held : Bool} {a : Option Addr} {len cap : Nat} {d : DataW H} {p : List MemPlace}
    (h : DataW.Trod enc Ybaf.prog w 0 spare held 23 (.slice a len cap) d p) :
    ∃ (b o : Nat) (oq : Nat → Int) (oA : Nat → Int) (oB : Nat → Int) (oS : Nat → ByteArray), (0 < len → a = some ⟨b, o, none⟩) ∧ (0 < len → b < w.heap.size) ∧ ∀ i, i < len → (w.cell? ⟨b, o + i * 4, none⟩ = some (.int .u8 (oq i)) ∧ w.cell? ⟨b, o + i * 4 + 1, none⟩ = some (.int .i64 (oA i)) ∧ w.cell? ⟨b, o + i * 4 + 2, none⟩ = some (.int .i64 (oB i)) ∧ w.cell? ⟨b, o + i * 4 + 3, none⟩ = some (.string (oS i))) ∧ (Lit.int .u8 (oq i)).wf = true ∧ (Lit.int .i64 (oA i)).wf = true ∧ (Lit.int .i64 (oB i)).wf = true ∧ (oS i).size ≤ maxLen := by
  obtain ⟨fuel, hf⟩ := h
  rcases Deep.open_slice Ybaf.underlying23 hf with ⟨hcs, _⟩ | ⟨ad, l, c, m, n, D, Pl, hcs, _, hl, _, hm, _, hx⟩
  · simp [Value.cells] at hcs
    obtain ⟨rfl, rfl, rfl⟩ := hcs
    exact ⟨0, 0, fun _ => 0, fun _ => 0, fun _ => 0, fun _ => ByteArray.empty, fun h => absurd h (by omega), fun h => absurd h (by omega), fun i h => absurd h (by omega)⟩
  · simp [Value.cells] at hcs
    obtain ⟨rfl, rfl, rfl⟩ := hcs
    have hlm : len ≤ m := by rw [hm]; split <;> omega
    have hall : ∀ i, i < len → ∃ y : Int × Int × Int × ByteArray, (w.cell? ((ad.add (i * 4)).add 0) = some (.int .u8 y.1) ∧ w.cell? ((ad.add (i * 4)).add 1) = some (.int .i64 y.2.1) ∧ w.cell? ((ad.add (i * 4)).add 2) = some (.int .i64 y.2.2.1) ∧ w.cell? ((ad.add (i * 4)).add 3) = some (.string y.2.2.2)) ∧ (Lit.int .u8 y.1).wf = true ∧ (Lit.int .i64 y.2.1).wf = true ∧ (Lit.int .i64 y.2.2.1).wf = true ∧ y.2.2.2.size ≤ maxLen := fun i hi => by
      obtain ⟨cs', h1, h2⟩ := hx i (by omega)
      rw [show Ybaf.prog.cellsOf 25 = 4 from by kernel_rfl] at h1
      obtain ⟨x0, x1, x2, x3, k0, k1, k2, k3, hw⟩ := open_ops_elem h1 h2
      exact ⟨(x0, x1, x2, x3), ⟨k0, k1, k2, k3⟩, hw⟩
    obtain ⟨Y, hY⟩ := Deep.choose_lt hall
    refine ⟨ad.block, ad.off, fun i => (Y i).1, fun i => (Y i).2.1, fun i => (Y i).2.2.1, fun i => (Y i).2.2.2, fun hp => ?_, fun hp => ?_, fun i hi => ?_⟩
    · have h0 := World.cell?_spot (hY 0 hp).1.1
      simp only [Nat.zero_mul, Addr.add, if_true] at h0
      rw [show ad = ⟨ad.block, ad.off, none⟩ from by rw [← h0]]
    · have h0 := (hY 0 hp).1.1
      simp only [Nat.zero_mul, Addr.add, if_true] at h0
      exact block_of_cell h0
    · obtain ⟨⟨k0, k1, k2, k3⟩, hw⟩ := hY i hi
      have h0 := World.cell?_spot (hY 0 (by omega)).1.1
      simp only [Nat.zero_mul, Addr.add, if_true] at h0
      refine ⟨⟨?_, ?_, ?_, ?_⟩, hw⟩
      · rw [at_add ad h0] at k0; exact k0
      · rw [at_add ad h0] at k1; exact k1
      · rw [at_add ad h0] at k2; exact k2
      · rw [at_add ad h0] at k3; exact k3
end Go.Proofs.YbulkfyhgFmt
