/-
  LawS8755CWhole: a slice of one-cell elements in memory of the call's own, at whatever offset ('Row'), and 'append' of one element onto it.
-/
import Derived.Test.YbulkfyhgFmtMem
import Derived.ArgAppend
import Derived.Maps.AppendAt
namespace Go.Proofs.YbulkfyhgFmt
open Go.RowKit Go.Conc

/-- The slice v reads as xs, in a block of the call's own, the spare room too. -/
def Row (w : World) (N : Nat) (e : TypeId) (v : Value) (xs : List Value) : Prop :=
  (v = .slice none 0 0 ∧ xs = []) ∨ ∃ q o cap A, v = .slice (some ⟨q, o, none⟩) xs.length cap ∧ N ≤ q ∧ w.heap[q]? = some (.cells A e (0, 0)) ∧ xs.length ≤ cap ∧ o + cap ≤ A.size ∧ ∀ j x, xs[j]? = some x → A[o + j]? = some x
/-- The slice's block is among T. -/
def In (v : Value) (T : List Nat) : Prop := ∀ a n c, v = .slice (some a) n c → a.block ∈ T
/-- The slice's block. -/
def blkOf : Value → List Nat
  | .slice (some a) _ _ => [a.block]
  | _ => []
theorem in_blkOf (v : Value) : In v (blkOf v) := by
  rintro a n c rfl
  simp [blkOf]
theorem Row.notin {w : World} {N : Nat} {e : TypeId} {v : Value} {xs : List Value} (h : Row w N e v xs) {g : Nat} {o : Obj} (hg : w.heap[g]? = some o) (ho : ∀ A f, o ≠ .cells A e f) : g ∉ blkOf v := by
  rcases h with ⟨rfl, -⟩ | ⟨q, o', cap, A, rfl, -, h3, -⟩
  · simp [blkOf]
  · simp only [blkOf, List.mem_singleton]
    rintro rfl
    rw [h3] at hg
    cases hg
    exact ho _ _ rfl
theorem Row.alloc {w : World} {N : Nat} {e : TypeId} {v : Value} {xs : List Value} (h : Row w N e v xs) (o : Obj) : Row (w.alloc o) N e v xs := by
  rcases h with h | ⟨q, o', cap, A, h1, h2, h3, h4⟩
  · exact .inl h
  · exact .inr ⟨q, o', cap, A, h1, h2, block_alloc h3 o, h4⟩
theorem Row.setCell {w : World} {N : Nat} {e : TypeId} {v : Value} {xs : List Value} (h : Row w N e v xs) {a : Addr} (ha : a.block ∉ blkOf v) (x : Value) : Row (w.setCell a x) N e v xs := by
  rcases h with h | ⟨q, o', cap, A, rfl, h2, h3, h4⟩
  · exact .inl h
  · exact .inr ⟨q, o', cap, A, rfl, h2, block_other h3 (by simpa [blkOf] using ha) x, h4⟩
theorem Row.len {w : World} {N : Nat} {e : TypeId} {v : Value} {xs : List Value} (h : Row w N e v xs) : ∃ p c, v = .slice p xs.length c := by
  rcases h with ⟨rfl, rfl⟩ | ⟨q, o', cap, A, rfl, -⟩
  · exact ⟨_, _, rfl⟩
  · exact ⟨_, _, rfl⟩

theorem Row.kept {w w' : World} {N : Nat} {e : TypeId} {v : Value} {xs : List Value} {T : List Nat} (h : Row w N e v xs) (hk : Kept T w w') (hT : ∀ q ∈ T, ∀ A f, w.heap[q]? ≠ some (.cells A e f)) : Row w' N e v xs := by
  rcases h with h | ⟨q, o, cap, A, h1, h2, h3, h4⟩
  · exact .inl h
  · exact .inr ⟨q, o, cap, A, h1, h2, hk.keep h3 (fun hm => hT q hm A _ h3), h4⟩

theorem Kept.of_grown {T : List Nat} {w w' : World} {r : Option Nat} (h : w.grownBy w' r) (hr : ∀ k, r = some k → k ∈ T) : Kept T w w' :=
  ⟨h.os, h.tape, h.output, h.size, fun k hk hT => h.block k hk (fun e => hT (hr k e.symm))⟩

theorem Row.of_owns {w : World} {N e n : Nat} {v : Value} {xs : List Value} (h : w.ownsRow N e 1 v n xs) : Row w N e v xs := by
  obtain ⟨hl, h | ⟨g, cap, cur, rfl, hg, hb, hn, _, hc, ht⟩⟩ := h
  · obtain ⟨rfl, rfl⟩ := h
    exact .inl ⟨rfl, List.eq_nil_of_length_eq_zero (by simpa using hl)⟩
  · have hl' : xs.length = n := by simpa using hl
    refine .inr ⟨g, 0, cap, cur, by rw [hl'], hg, hb, by omega, by omega, fun j x hx => ?_⟩
    have hj : j < xs.length := by
      rcases Nat.lt_or_ge j xs.length with h | h
      · exact h
      · rw [List.getElem?_eq_none h] at hx; cases hx
    rw [← ht, List.getElem?_take_of_lt (by omega)] at hx
    simpa using hx

theorem append_row {w : World} {N : Nat} {t e : TypeId} {i : TypeInfo} {z v : Value} {bytes : Nat} {xs : List Value} (ht : Ybaf.prog.underlying t = some (.slice e)) (hi : Ybaf.prog.info? e = some i) (hz : i.zero = some z) (hsize : i.size = 1) (hby : i.bytes = bytes) (hzs : z.cells.size = 1)
    (h : Row w N e v xs) (ad : Addr) (c : Nat) (x : Value) (hx : w.cell? ad = some x) (h1 : x.oneCell' = true) (hN : N ≤ w.heap.size) (hb : (xs.length + 1) * bytes ≤ 140737488355328) (hl : xs.length + 1 ≤ 140737488355328) (ty : TypeId) :
    ∃ v' w', (Builtin.append_ #[t, t] ty #[v, .slice (some ad) 1 c]).run Ybaf.prog w = .ok v' w' ∧ Row w' N e v' (xs ++ [x]) ∧ ∀ T, In v T → Kept T w w' := by
  have hnews : ∀ j u, [x][j]? = some u → w.cell? (ad.add j) = some u := by
    rintro (_ | j) u hu
    · simp at hu; subst hu; simpa [Addr.add] using hx
    · simp at hu
  rcases h with ⟨rfl, rfl⟩ | ⟨q, o, cap, A, rfl, hq, hA, hc, hoc, hxs⟩
  · obtain ⟨v', w', hr, ho, hg, -, -⟩ := run_append_own_at (P := Ybaf.prog) w N t ty e i z 1 bytes ht hi hz hsize hby hzs (by omega) (.slice none 0 0) 0 [] ⟨rfl, .inl ⟨rfl, rfl⟩⟩ ad 1 c [x] rfl hnews (by simpa using h1) (by simp [maxLen]) (by simpa using hb) hN
    exact ⟨v', w', hr, Row.of_owns (by simpa using ho), fun T _ => Kept.of_grown hg (fun k hk => by cases hk)⟩
  · by_cases hroom : xs.length + 1 ≤ cap
    · refine ⟨_, _, run_append_room_cells (P := Ybaf.prog) w t ty e i ht hi q o xs.length cap ad 1 c [x] (by simp [hsize]) hnews (by simpa using h1) hroom ?_ ?_, ?_, ?_⟩
      · intro j hj
        simp at hj; subst hj
        rw [hsize, block_cell hA]
        simp; omega
      · intro j hj
        exact block_free hA _
      · refine .inr ⟨q, o, cap, A.setIfInBounds (o + xs.length) x, by simp, hq, ?_, by simpa using hroom, by simpa using hoc, ?_⟩
        · simp only [World.setCells, hsize, Nat.mul_one]
          exact block_self hA _ _
        · intro j y hy
          rcases Nat.lt_trichotomy j xs.length with hj | rfl | hj
          · rw [List.getElem?_append_left hj] at hy
            rw [Array.getElem?_setIfInBounds_ne (by omega)]
            exact hxs j y hy
          · rw [List.getElem?_append_right (Nat.le_refl _)] at hy
            simp at hy; subst hy
            rw [Array.getElem?_setIfInBounds_self_of_lt (by omega)]
          · rw [List.getElem?_eq_none (by simp; omega)] at hy; cases hy
      · intro T hT
        simp only [World.setCells]
        exact (Kept.refl _ _).setCell (.inl (by simpa using hT _ _ _ rfl)) _
    · obtain ⟨v', w', hr, ho, hg⟩ := run_append_arg_grows (P := Ybaf.prog) w t ty e i z 1 bytes ht hi hz hsize hby hzs (by omega) ⟨q, o, none⟩ xs.length cap xs (by simp) (fun j u hu => by rw [Addr.add_lit, block_cell hA]; exact hxs j u hu) ad 1 c [x] rfl hnews (by omega) (by simp only [maxLen]; omega) hb
      refine ⟨v', w', hr, ?_, fun T _ => Kept.of_grown hg (fun k hk => by cases hk)⟩
      rcases Row.of_owns ho with h | ⟨g, o', cap', A', h1, h2, h3⟩
      · exact .inl h
      · exact .inr ⟨g, o', cap', A', h1, by omega, h3⟩

/-- 'append', what it runs to being known. -/
theorem wpList_append_run {P : Program} {w : World} {ops : Array Oper} {rest : List Oper} {o : Oper} {a : Act} {Q : Exit → Act → World → Prop} (hg : o.guard = none) (s x : Operand) (t : TypeId)
    (hop : o.op = Op.call { callee := Callee.builtin Builtin.append, args := #[s, x], argTypes := #[t, t] }) {v y v' : Value} {w' : World} (hs : a.eval s = v) (hx : a.eval x = y)
    (hrun : (Builtin.append_ #[t, t] o.type #[v, y]).run P w = .ok v' w') (hK : wpList P ops Q rest (a.put o.dst v') w') : wpList P ops Q (o :: rest) a w := by
  refine wpList_plain hg fun K hK' => ?_
  unfold Oper.wp execOp
  simp only [hop, resolve, invoke, builtin, Sem.run_bind, Sem.run_pure, Result.andThen_ok, List.map_toArray, List.map_cons, List.map_nil, hs, hx, hrun]
  exact hK' _ _ hK
end Go.Proofs.YbulkfyhgFmt
