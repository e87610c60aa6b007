/-
  LawS8755CWhole: the items as bytes in memory, the model's strings beside them ('St'), and what leaves them alone.
-/
import Derived.Test.YbulkfyhgFmtAck2
import Derived.Laws.IdiomStrings
namespace Go.Proofs.YbulkfyhgFmt
open Go.RowKit Go.Conc

/-- The slice of bytes x reads as s. -/
def Item (w : World) (x : Value) (s : ByteArray) : Prop :=
  ∃ p c B f, x = .slice (some ⟨p, 0, none⟩) s.size c ∧ w.heap[p]? = some (.cells B 5 f) ∧ ∀ j (hj : j < s.data.toList.length), B[j]? = some (.int .u8 (s.data.toList[j].toNat : Int))

theorem bytes_of (s : ByteArray) (w : World) : ∃ c w', (convert 9 29 (.string s)).run Ybaf.prog w = .ok (.slice (some ⟨w.heap.size, 0, none⟩) s.size c) w' ∧ Item w' (.slice (some ⟨w.heap.size, 0, none⟩) s.size c) s ∧ Below w.heap.size w w' := by
  refine ⟨_, _, run_bytes_of_string w 9 29 5 s Ybaf.underlying9 Ybaf.underlying29 Ybaf.underlying5, ⟨_, _, _, _, rfl, block_new w.drew _, fun j hj => ?_⟩, ((Below.refl _ _).drew).alloc (Nat.le_refl _) _⟩
  have hj' : j < s.data.size := by simpa using hj
  simp only [bytesRow]
  rw [Array.getElem?_append_left (by simpa using hj')]
  simp
  exact ⟨_, Array.getElem?_eq_getElem hj', rfl⟩

theorem back_of {w : World} {x : Value} {s : ByteArray} (h : Item w x s) : (convert 29 9 x).run Ybaf.prog w = .ok (.string s) w := by
  obtain ⟨p, c, B, f, rfl, hB, hs⟩ := h
  have := run_convert_bytes_back (P := Ybaf.prog) w 29 9 5 ⟨p, 0, none⟩ c s.data.toList Ybaf.underlying29 Ybaf.underlying5 Ybaf.underlying9 (fun j hj => by
    rw [Addr.add_lit]
    simp only [World.cell?, hB, Nat.zero_add]
    simpa using hs j hj)
  simpa using this

theorem Item.kept {w w' : World} {x : Value} {s : ByteArray} {T : List Nat} (h : Item w x s) (hk : Kept T w w') (hT : ∀ k ∈ T, ∀ A f, w.heap[k]? ≠ some (.cells A 5 f)) : Item w' x s := by
  obtain ⟨p, c, B, f, rfl, hB, hs⟩ := h
  exact ⟨p, c, B, f, rfl, hk.keep hB (fun hm => hT p hm _ _ hB), hs⟩
theorem Item.turn {N : Nat} {w w' : World} {x : Value} {s : ByteArray} (h : Item w x s) (ht : Turn N w w') : Item w' x s := by
  obtain ⟨p, c, B, f, rfl, hB, hs⟩ := h
  exact ⟨p, c, B, f, rfl, ht.plain p B 5 f (by decide) (by decide) hB, hs⟩
theorem Row.turn {N M : Nat} {w w' : World} {v : Value} {xs : List Value} (h : Row w M 9 v xs) (ht : Turn N w w') : Row w' M 9 v xs := by
  rcases h with h | ⟨q, o, cap, A, h1, h2, h3, h4⟩
  · exact .inl h
  · exact .inr ⟨q, o, cap, A, h1, h2, ht.plain q A 9 _ (by decide) (by decide) h3, h4⟩

theorem Inv.kept {N b : Nat} {mx mb pe fi : Int} {it : Value} {bb cu ge : Int} {xs : List Value} {w w' : World} {T : List Nat} (I : Inv N b mx mb pe fi it bb cu ge xs w) (hk : Kept T w w')
    (hT : ∀ k ∈ T, ∃ A f, w.heap[k]? = some (.cells A 9 f)) : Inv N b mx mb pe fi it bb cu ge xs w' := by
  obtain ⟨hNb, ⟨en, ov, rd, pa, hb, hNo, hNr, ⟨s, r, ho⟩, ⟨buf, s', r', hrd⟩⟩, hrow⟩ := I
  have no : ∀ {k : Nat} {o : Obj}, w.heap[k]? = some o → (∀ A f, o ≠ .cells A 9 f) → k ∉ T := fun h ho hm => by
    obtain ⟨A, f, hA⟩ := hT _ hm
    rw [h] at hA
    exact ho A f (Option.some.inj hA)
  refine ⟨hNb, ⟨en, ov, rd, pa, hk.keep hb (no hb (fun _ _ e => by cases e)), hNo, hNr, ⟨s, r, hk.keep ho (no ho (fun _ _ e => by cases e))⟩, ⟨buf, s', r', hk.keep hrd (no hrd (fun _ _ e => by cases e))⟩⟩, ?_⟩
  rcases hrow with h | ⟨q, o, cap, A, h1, h2, h3, h4⟩
  · exact .inl h
  · exact .inr ⟨q, o, cap, A, h1, h2, hk.keep h3 (no h3 (fun _ _ e => by cases e)), h4⟩

/-- The stream beside its model. -/
structure St (M b : Nat) (mx mb pe fi : Int) (it mv : Value) (bb cu ge : Int) (ss : List ByteArray) (xs : List Value) (w : World) : Prop where
  inv : Inv M b mx mb pe fi it bb cu ge xs w
  row : Row w M 9 mv (ss.map Value.string)
  len : xs.length = ss.length
  item : ∀ (i : Nat) (x : Value) (s : ByteArray), xs[i]? = some x → ss[i]? = some s → Item w x s

namespace St
variable {M b : Nat} {mx mb pe fi : Int} {it mv : Value} {bb cu ge : Int} {ss : List ByteArray} {xs : List Value} {w w' : World}
theorem below (h : St M b mx mb pe fi it mv bb cu ge ss xs w) (hb : Below w.heap.size w w') : St M b mx mb pe fi it mv bb cu ge ss xs w' := by
  have hk : Kept [] w w' := Kept.of_below hb
  exact ⟨h.inv.kept hk (fun _ h => by cases h), h.row.keep hk (fun _ h => by cases h), h.len, fun i x s h1 h2 => (h.item i x s h1 h2).kept hk (fun _ h => by cases h)⟩
theorem lt (h : St M b mx mb pe fi it mv bb cu ge ss xs w) : M ≤ w.heap.size := by
  obtain ⟨hNb, ⟨en, ov, rd, pa, hb, -⟩, -⟩ := h.inv
  have := block_lt hb; omega
/-- What a stream's method does, carried over to the model's side. -/
theorem turned {pe' fi' bb' cu' ge' : Int} {it' : Value} (h : St M b mx mb pe fi it mv bb cu ge ss xs w) (ht : Turn M w w') (I : Inv M b mx mb pe' fi' it' bb' cu' ge' xs w') : St M b mx mb pe' fi' it' mv bb' cu' ge' ss xs w' :=
  ⟨I, h.row.turn ht, h.len, fun i x s h1 h2 => (h.item i x s h1 h2).turn ht⟩
/-- The model's slice at its end. -/
theorem appended {bb' : Int} {it' mv' : Value} {x : Value} {s : ByteArray} {w'' : World} (h : St M b mx mb pe fi it mv bb cu ge ss xs w) (hx : Item w x s) (ht : Turn M w w') (I : Inv M b mx mb pe fi it' bb' cu ge (xs ++ [x]) w')
    (hr : Row w'' M 9 mv' (ss.map Value.string ++ [.string s])) (hk : Kept (blkOf mv) w' w'') : St M b mx mb pe fi it' mv' bb' cu ge (ss ++ [s]) (xs ++ [x]) w'' := by
  have hrow := h.row.turn ht
  have hT : ∀ k ∈ blkOf mv, ∃ A f, w'.heap[k]? = some (.cells A 9 f) := by
    rcases hrow with ⟨rfl, -⟩ | ⟨q, o, cap, A, rfl, h2, h3, h4⟩
    · simp [blkOf]
    · simp only [blkOf, List.mem_singleton]
      rintro k rfl
      exact ⟨A, _, h3⟩
  have h5 : ∀ k ∈ blkOf mv, ∀ A f, w'.heap[k]? ≠ some (.cells A 5 f) := fun k hk A f e => by
    obtain ⟨A', f', h9⟩ := hT k hk
    rw [h9] at e; cases e
  refine ⟨I.kept hk hT, by simpa using hr, by simp [h.len], fun i y s' h1 h2 => ?_⟩
  rcases Nat.lt_trichotomy i xs.length with hi | hi | hi
  · rw [List.getElem?_append_left hi] at h1
    rw [List.getElem?_append_left (by rw [← h.len]; exact hi)] at h2
    exact ((h.item i y s' h1 h2).turn ht).kept hk h5
  · subst hi
    rw [List.getElem?_append_right (Nat.le_refl _)] at h1
    rw [h.len, List.getElem?_append_right (Nat.le_refl _)] at h2
    simp at h1 h2
    subst h1; subst h2
    exact (hx.turn ht).kept hk h5
  · rw [List.getElem?_eq_none (by simp; omega)] at h1; cases h1
end St
end Go.Proofs.YbulkfyhgFmt
