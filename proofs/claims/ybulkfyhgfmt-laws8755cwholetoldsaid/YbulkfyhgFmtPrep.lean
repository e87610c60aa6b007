/-
  LawS8755CWhole: the script's state; what the walk of the law asks of lists and rows. No walk here.
-/
import Derived.Test.YbulkfyhgFmtItem
import Derived.Deep.OwnRows
import Derived.WalkSpells
namespace Go.Proofs.YbulkfyhgFmt
open Go.RowKit Go.Conc

/-- The script's state at the head of round k. -/
def Good (N M b k : Nat) (mx mb : Int) (w0 : World) (v11 v12 v13 v14 v15 v16 : Value) (wx : World) : Prop :=
  ∃ (ss : List ByteArray) (xs : List Value) (it mv : Value) (pe fi bb cu ge : Int), v11 = mv ∧ v12 = .int .u64 fi ∧ v13 = .int .u64 cu ∧ v14 = .int .u64 bb ∧ v15 = .int .u64 ge ∧ v16 = .int .u64 pe ∧ St M b mx mb pe fi it mv bb cu ge ss xs wx ∧
    Below N w0 wx ∧ N ≤ M ∧ ss.length ≤ k + 3 ∧ (0 ≤ fi ∧ fi ≤ 1 + 8192 * k) ∧ (0 ≤ ge ∧ ge ≤ k) ∧ ∀ s ∈ ss, s.size ≤ 65536

theorem below_of {N M : Nat} {w w1 w2 : World} {v : Value} {xs : List Value} (hal : Below w.heap.size w w1) (hk : Kept (blkOf v) w1 w2) (hr : Row w1 M 9 v xs) (hM : M ≤ w.heap.size) (hN : N ≤ M) : Below N w w2 := by
  refine (hal.mono (by omega)).trans ⟨hk.os, hk.tape, hk.output, hk.size, fun k hkN => hk.block k (by have := hal.size; omega) (fun hm => ?_)⟩
  rcases hr with ⟨rfl, -⟩ | ⟨q, o, cap, A, rfl, h2, -⟩
  · simp [blkOf] at hm
  · simp [blkOf] at hm; omega

/-- The lengths of the model's strings. -/
def lensOf (ss : List ByteArray) (i : Nat) : Nat := (ss.getD i ⟨#[]⟩).size

theorem tmod_two (x : Int) : ∃ a : Int, (IntKind.u64.wrap x).tmod 2 = a ∧ (a = 0 ∨ a = 1) := by
  have h := wrap_u64_nonneg x
  refine ⟨_, rfl, ?_⟩
  rw [Int.tmod_eq_emod_of_nonneg h]
  omega
theorem tmod_eight (x : Int) : ∃ d : Nat, (IntKind.u64.wrap x).tmod 8 = (d : Int) ∧ d < 8 := by
  have h := wrap_u64_nonneg x
  refine ⟨((IntKind.u64.wrap x).tmod 8).toNat, ?_, ?_⟩ <;> rw [Int.tmod_eq_emod_of_nonneg h] <;> omega
theorem tmod_four (x : Int) : ∃ d : Nat, (IntKind.u64.wrap x).tmod 4 = (d : Int) ∧ d < 4 := by
  have h := wrap_u64_nonneg x
  refine ⟨((IntKind.u64.wrap x).tmod 4).toNat, ?_, ?_⟩ <;> rw [Int.tmod_eq_emod_of_nonneg h] <;> omega

section
variable {M b : Nat} {mx mb pe fi : Int} {it mv : Value} {bb cu ge : Int} {ss : List ByteArray} {xs : List Value} {w w' : World}
theorem St.lens (h : St M b mx mb pe fi it mv bb cu ge ss xs w) : ∀ (i : Nat) (x : Value), xs[i]? = some x → ∃ p c, x = .slice p (lensOf ss i) c := by
  intro i x hx
  have hi : i < ss.length := by
    rw [← h.len]
    rcases Nat.lt_or_ge i xs.length with h | h
    · exact h
    · rw [List.getElem?_eq_none h] at hx; cases hx
  obtain ⟨p, c, B, f, rfl, -, -⟩ := h.item i x ss[i] hx (by simp [hi])
  exact ⟨some ⟨p, 0, none⟩, c, by simp [lensOf, List.getD, hi]⟩
theorem lens_small (h : ∀ s ∈ ss, s.size ≤ 65536) : ∀ i, lensOf ss i < 4611686018427387904 := by
  intro i
  unfold lensOf
  rcases Nat.lt_or_ge i ss.length with hi | hi
  · have := h ss[i] (List.getElem_mem hi)
    simp [List.getD, hi]; omega
  · have : (⟨#[]⟩ : ByteArray).size = 0 := rfl
    simp [List.getD, hi, this]
/-- The model's slice, not empty: where it lies, and its cells. -/
theorem row_cells {L cm : Nat} {pm : Option Addr} (h : Row w M 9 (.slice pm L cm) (ss.map Value.string)) (h0 : 0 < (ss.map Value.string).length) (hL : L = ss.length) :
    ∃ q o, pm = some ⟨q, o, none⟩ ∧ L ≤ cm ∧ ∀ j, j < L → w.cell? ⟨q, o + j, none⟩ = some (.string (ss.getD j ⟨#[]⟩)) := by
  rcases h with ⟨-, h⟩ | ⟨q, o, cap, A, hv, -, hA, hc, -, hcells⟩
  · rw [h] at h0; simp at h0
  · simp only [Value.slice.injEq, List.length_map] at hv
    obtain ⟨rfl, -, rfl⟩ := hv
    simp only [List.length_map] at hc
    refine ⟨q, o, rfl, by omega, fun j hj => ?_⟩
    rw [block_cell hA]
    refine hcells j _ ?_
    have hj' : j < ss.length := by omega
    simp [List.getD, hj']
/-- The first dn items let go on either side. -/
theorem St.dropped {L cm q o dn o2 cap2 : Nat} {bb' fi' : Int} {it' : Value} (h : St M b mx mb pe fi it (.slice (some ⟨q, o, none⟩) L cm) bb cu ge ss xs w) (ht : Turn M w w') (I : Inv M b mx mb pe fi' it' bb' cu ge (xs.drop dn) w') (hL : L = ss.length) (hd : dn ≤ ss.length)
    (ho : o2 = o + dn ∧ cap2 = cm - dn ∨ o2 = o ∧ cm = dn ∧ cap2 = 0) : St M b mx mb pe fi' it' (.slice (some ⟨q, o2, none⟩) (L - dn) cap2) bb' cu ge (ss.drop dn) (xs.drop dn) w' := by
  refine ⟨I, ?_, by simp [h.len], fun i x s h1 h2 => ?_⟩
  · rcases h.row.turn ht with ⟨h, -⟩ | ⟨q', o', cap, A, hv, hM, hA, hc, hs, hcells⟩
    · cases h
    · simp only [Value.slice.injEq, List.length_map, Option.some.injEq, Addr.mk.injEq] at hv
      obtain ⟨⟨rfl, rfl, -⟩, -, rfl⟩ := hv
      simp only [List.length_map] at hc
      refine .inr ⟨q, o2, cap2, A, by simp [hL], hM, hA, by simp; omega, by omega, fun j x hx => ?_⟩
      have hj : j < ss.length - dn := by
        rcases Nat.lt_or_ge j (ss.length - dn) with h | h
        · exact h
        · rw [List.getElem?_eq_none (by simp; omega)] at hx; cases hx
      obtain rfl : o2 = o + dn := by omega
      rw [Nat.add_assoc]
      refine hcells (dn + j) x ?_
      rw [List.map_drop, List.getElem?_drop] at hx
      exact hx
  · rw [List.getElem?_drop] at h1 h2
    exact (h.item _ x s h1 h2).turn ht
end

/-- A method that leaves the stream's cells as they were. -/
theorem St.same {M b : Nat} {mx mb pe fi : Int} {it mv : Value} {bb cu ge : Int} {en : Value} {ov rd : Nat} {pa : Int} {ss : List ByteArray} {xs : List Value} {w w' : World} (h : St M b mx mb pe fi it mv bb cu ge ss xs w)
    (hb : w.heap[b]? = some (.cells (strm 0 mx mb pe fi it bb cu ge en ov rd pa) 49 (0, 0))) (hb' : w'.heap[b]? = some (.cells (strm 0 mx mb pe fi it bb cu ge en ov rd pa) 49 (0, 0))) (hk : Kept [b] w w') : St M b mx mb pe fi it mv bb cu ge ss xs w' := by
  obtain ⟨⟨hNb, ⟨en', ov', rd', pa', hb0, hNo, hNr, ⟨s, r, ho⟩, ⟨buf, s', r', hrd⟩⟩, hrow⟩, hr9, hl, hi⟩ := h
  have hT := Turn.of_kept (N := M) hk (by have := block_lt hb; omega) (by simpa using kind_b hb hNb)
  refine ⟨⟨hNb, ⟨en', ov', rd', pa', ?_, hNo, hNr, ⟨s, r, hk.keep ho (by simpa using b_ne_chan hb ho)⟩, ⟨buf, s', r', hk.keep hrd (by simpa using b_ne_chan hb hrd)⟩⟩, hrow.keep hk (by simpa using b_ne_row hrow hb)⟩, hr9.turn hT, hl, fun i x s h1 h2 => (hi i x s h1 h2).turn hT⟩
  rw [hb', ← hb0, hb]

theorem items_cells {M n c : Nat} {p : Option Addr} {xs : List Value} {w : World} (h : Row w M 29 (.slice p n c) xs) (h0 : 0 < xs.length) :
    ∃ q o, p = some ⟨q, o, none⟩ ∧ ∀ j x, xs[j]? = some x → w.cell? ⟨q, o + j, none⟩ = some x := by
  rcases h with ⟨-, h⟩ | ⟨q, o, cap, A, hv, -, hA, hc, -, hcells⟩
  · rw [h] at h0; simp at h0
  · simp only [Value.slice.injEq] at hv
    obtain ⟨rfl, -, rfl⟩ := hv
    exact ⟨q, o, rfl, fun j x hx => by rw [block_cell hA]; exact hcells j x hx⟩

theorem make_at {t e : TypeId} {z : Value} {bytes : Nat} (ht : Ybaf.prog.underlying t = some (.slice e)) (hinfo : (Ybaf.prog.info? e).map (fun i => (i.zero, i.size, i.bytes)) = some (some z, 1, bytes))
    (c : Nat) (hb : bytes * c ≤ 281474976710656) (h63 : c ≤ 9223372036854775807) (w : World) :
    ∃ A : Array Value, A.size = c ∧ (Instr.makeSlice t (.int .i64 (c : Int)) (.int .i64 (c : Int))).run Ybaf.prog w = .ok (.slice (some ⟨w.heap.size, 0, none⟩) c c) (w.alloc (.cells A e)) := by
  obtain ⟨i, hi, hzz⟩ := Option.map_eq_some_iff.1 hinfo
  simp only [Prod.mk.injEq] at hzz
  obtain ⟨hz, hs, hb'⟩ := hzz
  have h1 : (i.bytes : Int) * (c : Int) ≤ 281474976710656 := by
    have h : ((i.bytes * c : Nat) : Int) ≤ 281474976710656 := by rw [hb']; omega
    rwa [Int.natCast_mul] at h
  have hr := run_make (P := Ybaf.prog) w t e i z ht hi hz .i64 .i64 c c (by omega) (by omega) h1 (by omega)
  simp only [Int.toNat_natCast, hs] at hr
  exact ⟨_, size_madeCells _ _, by simpa using hr⟩

/-- What the script takes of an operation's string for the catch-up's item i. -/
def cutS (S : ByteArray) (i : Nat) : ByteArray := S.extract 0 (S.size / (i + 1))
theorem extract_size (S : ByteArray) (D : Nat) (h : D ≤ S.size) : (S.extract 0 D).size = D := by
  rw [ByteArray.size_extract]
  omega
theorem cutS_size (S : ByteArray) (i : Nat) : (cutS S i).size ≤ S.size := by
  unfold cutS
  rw [ByteArray.size_extract]
  omega

/-- The catch-up's two rows, the first j of dn laid. -/
def Half (q dn j : Nat) (S : ByteArray) (W wx : World) : Prop :=
  ∃ B1 B2 : Array Value, wx.heap[q]? = some (.cells B1 29 (0, 0)) ∧ wx.heap[q + 1]? = some (.cells B2 9 (0, 0)) ∧ B1.size = dn ∧ B2.size = dn ∧ Below q W wx ∧
    ∀ i, i < j → ∃ x, B1[i]? = some x ∧ Item wx x (cutS S i) ∧ B2[i]? = some (.string (cutS S i))

theorem Half.next {q dn j c : Nat} {S : ByteArray} {W wx V : World} (h : Half q dn j S W wx) (hj : j < dn) (hV : Below wx.heap.size wx V) (hit : Item V (.slice (some ⟨wx.heap.size, 0, none⟩) (cutS S j).size c) (cutS S j)) :
    Half q dn (j + 1) S W ((V.setCell ⟨q, j, none⟩ (.slice (some ⟨wx.heap.size, 0, none⟩) (cutS S j).size c)).setCell ⟨q + 1, j, none⟩ (.string (cutS S j))) := by
  obtain ⟨B1, B2, h1, h2, s1, s2, hb, hh⟩ := h
  have hkV : Kept [] wx V := Kept.of_below hV
  have g1 := hkV.keep h1 (by simp)
  have g2 := hkV.keep h2 (by simp)
  have l2 := block_lt h2
  have K : Kept [q, q + 1] V ((V.setCell ⟨q, j, none⟩ (.slice (some ⟨wx.heap.size, 0, none⟩) (cutS S j).size c)).setCell ⟨q + 1, j, none⟩ (.string (cutS S j))) := ((Kept.refl _ _).setCell (by simp) _).setCell (by simp) _
  have h5 : ∀ k ∈ [q, q + 1], ∀ A f, V.heap[k]? ≠ some (.cells A 5 f) := by
    intro k hk A f e
    rcases List.mem_cons.1 hk with rfl | hk
    · rw [g1] at e; cases e
    · obtain rfl := List.mem_singleton.1 hk
      rw [g2] at e; cases e
  refine ⟨B1.setIfInBounds j (.slice (some ⟨wx.heap.size, 0, none⟩) (cutS S j).size c), B2.setIfInBounds j (.string (cutS S j)), ?_, ?_, by simpa using s1, by simpa using s2, ?_, fun i hi => ?_⟩
  · exact block_other (block_self g1 j _) (by show q + 1 ≠ q; omega) _
  · exact block_self (block_other g2 (by show q ≠ q + 1; omega) _) j _
  · exact ((hb.trans (hV.mono (by omega))).setCell (by show q ≤ q; omega) _).setCell (by show q ≤ q + 1; omega) _
  · rcases Nat.lt_or_ge i j with h | h
    · obtain ⟨x, e1, e2, e3⟩ := hh i h
      refine ⟨x, by rw [Array.getElem?_setIfInBounds_ne (by omega)]; exact e1, ((e2.kept hkV (by simp)).kept K h5), by rw [Array.getElem?_setIfInBounds_ne (by omega)]; exact e3⟩
    · obtain rfl : i = j := by omega
      exact ⟨_, Array.getElem?_setIfInBounds_self_of_lt (by omega), hit.kept K h5, Array.getElem?_setIfInBounds_self_of_lt (by omega)⟩

theorem Half.rows {q dn M : Nat} {S : ByteArray} {W wx : World} (h : Half q dn dn S W wx) (hM : M ≤ q) :
    ∃ xs : List Value, xs.length = dn ∧ Row wx M 29 (.slice (some ⟨q, 0, none⟩) dn dn) xs ∧ Row wx M 9 (.slice (some ⟨q + 1, 0, none⟩) dn dn) (((List.range dn).map (cutS S)).map Value.string) ∧
      ∀ (i : Nat) (x : Value) (s : ByteArray), xs[i]? = some x → ((List.range dn).map (cutS S))[i]? = some s → Item wx x s := by
  obtain ⟨B1, B2, h1, h2, s1, s2, hb, hh⟩ := h
  refine ⟨B1.toList, by simpa using s1, .inr ⟨q, 0, dn, B1, by simp [s1], hM, h1, by simp [s1], by omega, fun j x hx => by simpa using hx⟩, .inr ⟨q + 1, 0, dn, B2, by simp, by omega, h2, by simp, by omega, fun j x hx => ?_⟩, fun i x s hx hs => ?_⟩
  · have hj : j < dn := by
      rcases Nat.lt_or_ge j dn with h | h
      · exact h
      · rw [List.getElem?_eq_none (by simp; omega)] at hx; cases hx
    obtain ⟨y, -, -, e3⟩ := hh j hj
    simp [hj] at hx
    subst hx
    simpa using e3
  · have hi : i < dn := by
      rcases Nat.lt_or_ge i dn with h | h
      · exact h
      · rw [List.getElem?_eq_none (by simp; omega)] at hs; cases hs
    obtain ⟨y, e1, e2, -⟩ := hh i hi
    simp [hi] at hs
    subst hs
    have : x = y := by
      have hx' : B1[i]? = some x := by simpa using hx
      rw [e1] at hx'
      exact (Option.some.inj hx').symm
    subst this
    exact e2

end Go.Proofs.YbulkfyhgFmt
