/-
  The stream as a whole ('Inv'), what its methods leave alone ('Turn'); 'push' and 'offer'.
-/
import Derived.Test.YbulkfyhgFmtAdd
import Derived.Lib.Strings
namespace Go.Proofs.YbulkfyhgFmt
open Go.RowKit Go.Conc Go.MuLone Go.Extern.Stop Go.Stop Go.Extern

/-- The stream at b, unlocked, over the call's own memory. -/
structure Inv (N b : Nat) (mx mb pe fi : Int) (it : Value) (bb cu ge : Int) (xs : List Value) (w : World) : Prop where
  nb : N ≤ b
  ex : ∃ en ov rd pa, w.heap[b]? = some (.cells (strm 0 mx mb pe fi it bb cu ge en ov rd pa) 49 (0, 0)) ∧ N ≤ ov ∧ N ≤ rd ∧ (∃ s r, w.heap[ov]? = some (.chan 0 #[] false s r false)) ∧ (∃ buf s r, w.heap[rd]? = some (.chan 1 buf false s r false))
  row : Row w N 29 it xs

/-- What the stream's methods leave alone: whatever lies below N; every block that holds neither streams nor items. -/
structure Turn (N : Nat) (w w' : World) : Prop where
  below : Below N w w'
  plain : ∀ (k : Nat) (A : Array Value) (e : TypeId) (f : Nat × Nat), e ≠ 29 → e ≠ 49 → w.heap[k]? = some (.cells A e f) → w'.heap[k]? = some (.cells A e f)

namespace Turn
variable {N : Nat} {w w' w'' : World}
theorem refl (N : Nat) (w : World) : Turn N w w := ⟨Below.refl _ _, fun _ _ _ _ _ _ h => h⟩
theorem trans (h : Turn N w w') (k : Turn N w' w'') : Turn N w w'' := ⟨h.below.trans k.below, fun i A e f h1 h2 h3 => k.plain i A e f h1 h2 (h.plain i A e f h1 h2 h3)⟩
theorem of_kept {T : List Nat} (h : Kept T w w') (hN : N ≤ w.heap.size) (hT : ∀ k ∈ T, N ≤ k ∧ ∀ A e f, w.heap[k]? = some (.cells A e f) → e = 29 ∨ e = 49) : Turn N w w' :=
  ⟨⟨h.os, h.tape, h.output, h.size, fun k hk => h.block k (by omega) (fun hm => by have := (hT k hm).1; omega)⟩,
    fun k A e f h1 h2 h3 => h.keep h3 (fun hm => by rcases (hT k hm).2 A e f h3 with h | h <;> contradiction)⟩
theorem of_below (h : Below w.heap.size w w') (hN : N ≤ w.heap.size) : Turn N w w' := of_kept (T := []) (Kept.of_below h) hN (fun k hk => by cases hk)
end Turn

section
variable {N b : Nat} {mu mx mb pe fi : Int} {it : Value} {bb cu ge : Int} {en : Value} {ov rd : Nat} {pa : Int} {xs : List Value} {w w' : World}
theorem kind_b (hb : w.heap[b]? = some (.cells (strm mu mx mb pe fi it bb cu ge en ov rd pa) 49 (0, 0))) (hN : N ≤ b) : N ≤ b ∧ ∀ A e f, w.heap[b]? = some (.cells A e f) → e = 29 ∨ e = 49 :=
  ⟨hN, fun A e f h => by rw [hb] at h; cases h; exact .inr rfl⟩
theorem kind_chan {c cap : Nat} {buf : Array Value} {cl : Bool} {s r : Nat} {tm : Bool} (hc : w.heap[c]? = some (.chan cap buf cl s r tm)) (hN : N ≤ c) : N ≤ c ∧ ∀ A e f, w.heap[c]? = some (.cells A e f) → e = 29 ∨ e = 49 :=
  ⟨hN, fun A e f h => by rw [hc] at h; cases h⟩
theorem kind_row (h : Row w N 29 it xs) : ∀ k ∈ blkOf it, N ≤ k ∧ ∀ A e f, w.heap[k]? = some (.cells A e f) → e = 29 ∨ e = 49 := by
  rcases h with ⟨rfl, -⟩ | ⟨q, o', cap, A, rfl, h2, h3, -⟩
  · simp [blkOf]
  · simp only [blkOf, List.mem_singleton]
    rintro k rfl
    exact ⟨h2, fun A e f h => by rw [h3] at h; cases h; exact .inl rfl⟩
theorem Row.keep {T : List Nat} {e : TypeId} {v : Value} (h : Row w N e v xs) (hk : Kept T w w') (hT : ∀ k ∈ T, k ∉ blkOf v) : Row w' N e v xs := by
  rcases h with h | ⟨q, o, cap, A, rfl, h2, h3, h4⟩
  · exact .inl h
  · exact .inr ⟨q, o, cap, A, rfl, h2, hk.keep h3 (fun hm => hT q hm (by simp [blkOf])), h4⟩
theorem b_ne_row (h : Row w N 29 it xs) (hb : w.heap[b]? = some (.cells (strm mu mx mb pe fi it bb cu ge en ov rd pa) 49 (0, 0))) : b ∉ blkOf it := h.notin hb (fun A f e => by cases e)
theorem b_ne_chan {it' : Value} {c cap : Nat} {buf : Array Value} {cl : Bool} {s r : Nat} {tm : Bool} (hb : w.heap[b]? = some (.cells (strm mu mx mb pe fi it' bb cu ge en ov rd pa) 49 (0, 0))) (hc : w.heap[c]? = some (.chan cap buf cl s r tm)) : c ≠ b := by
  rintro rfl; rw [hb] at hc; cases hc
theorem chan_ne_row {c cap : Nat} {buf : Array Value} {cl : Bool} {s r : Nat} {tm : Bool} (h : Row w N 29 it xs) (hc : w.heap[c]? = some (.chan cap buf cl s r tm)) : c ∉ blkOf it := h.notin hc (fun A f e => by cases e)
end

set_option maxRecDepth 10000 in
set_option maxHeartbeats 800000 in
theorem push_fits (F : Interp) (hT : Full F) (N b : Nat) (mx mb pe fi : Int) (it : Value) (bb cu ge : Int) (xs : List Value) (ip : Option Addr) (l c : Nat) (w : World) (hF : F.answers w.tape) (I : Inv N b mx mb pe fi it bb cu ge xs w)
    (hx : xs.length < 1099511627776) (hl : l < 4611686018427387904) (hmx : 0 ≤ mx ∧ mx ≤ 18446744073709551615) (hmb : 0 ≤ mb ∧ mb ≤ 18446744073709551615) (hf : Fits xs.length l mx mb bb) :
    Calls Ybaf.prog 5 #[.pointer (some ⟨b, 0, none⟩), .slice ip l c] w fun e w' => e = .returned (.tuple #[]) ∧ Turn N w w' ∧ ∃ it', Inv N b mx mb pe fi it' (IntKind.u64.wrap (bb + l)) cu ge (xs ++ [.slice ip l c]) w' := by
  obtain ⟨hNb, ⟨en, ov, rd, pa, hb, hNo, hNr, ⟨s, r, ho⟩, ⟨buf, s', r', hrd⟩⟩, hrow⟩ := I
  obtain ⟨p, cap, rfl⟩ := hrow.len
  go_enter Ybaf.func5, Ybaf.ntmps5
  go_wp2_with (go_at_call 10; refine (lock_ hb).mono ?_; rintro e w1 ⟨rfl, hb1, hk1⟩)
  refine (excess F hT b p ip xs.length cap l c mx mb bb w1 (by rw [hk1.tape]; exact hF) (block_cell hb1 2) (block_cell hb1 3) (block_cell hb1 6) (block_cell hb1 7) (by omega) hl hmx hmb).mono ?_
  rintro e w2 ⟨t, rfl, t1, -, hk2⟩
  obtain rfl := t1 hf
  clear t1
  have hkw2 : Kept [b] w w2 := hk1.trans (Kept.of_below hk2)
  have hrow2 := hrow.keep hkw2 (by simpa using b_ne_row hrow hb)
  have hb2 := (Kept.of_below (T := []) hk2).keep hb1 (by simp)
  go_wp2_with fail
  refine (add_ N b 1 mx mb pe fi _ bb cu ge en ov rd pa xs ip l c w2 hb2 hrow2 (by have := block_lt hb2; omega) hx hl).mono ?_
  rintro e w3 ⟨rfl, it', hrow3, hb3, hk3⟩
  go_wp2_with fail
  refine (unlock_ hb3).mono ?_
  rintro e w4 ⟨rfl, hb4, hk4⟩
  have K4 : Kept (b :: blkOf (.slice p xs.length cap)) w w4 := ((hkw2.mono (by simp)).trans hk3).trans (hk4.mono (by simp))
  have hrow4 := hrow3.keep hk4 (by simpa using hrow3.notin hb3 (fun A f e => by cases e))
  have hrd4 := K4.keep hrd (by simpa using ⟨b_ne_chan hb hrd, chan_ne_row hrow hrd⟩)
  have ho4 := K4.keep ho (by simpa using ⟨b_ne_chan hb ho, chan_ne_row hrow ho⟩)
  go_wp2_with fail
  refine (signal b 0 mx mb pe fi it' _ cu ge en ov rd pa buf s' r' w4 hb4 hrd4).mono ?_
  rintro e w5 ⟨rfl, ⟨buf5, s5, hrd5⟩, hk5⟩
  go_wp2_with fail
  go_end0
  have hor : ov ≠ rd := by rintro rfl; rw [ho] at hrd; cases hrd
  refine ⟨rfl, ?_, it', hNb, ⟨en, ov, rd, pa, hk5.keep hb4 (by simpa using (b_ne_chan hb4 hrd4).symm), hNo, hNr, ⟨s, r, hk5.keep ho4 (by simpa using hor)⟩, ⟨buf5, s5, r', hrd5⟩⟩, hrow4.keep hk5 (by simpa using chan_ne_row hrow4 hrd4)⟩
  have hwN : N ≤ w.heap.size := by have := block_lt hb; omega
  exact (Turn.of_kept K4 hwN (by
    intro k hk
    rcases List.mem_cons.1 hk with rfl | hk
    · exact kind_b hb hNb
    · exact kind_row hrow k hk)).trans (Turn.of_kept hk5 (by have := K4.size; omega) (by simpa using kind_chan hrd4 hNr))

theorem not_empty {t : ByteArray} (h : t ≠ ⟨#[]⟩) : t.toList.isEmpty = false := by
  rw [Lib.toList_data]
  cases hd : t.data.toList with
  | nil => exact absurd (WideShapes.bytes_inj (by rw [hd])) h
  | cons => rfl

set_option maxRecDepth 10000 in
set_option maxHeartbeats 800000 in
theorem push_over (F : Interp) (hT : Full F) (N b : Nat) (mx mb pe fi : Int) (it : Value) (bb cu ge : Int) (xs : List Value) (ip : Option Addr) (l c : Nat) (w : World) (hF : F.answers w.tape) (I : Inv N b mx mb pe fi it bb cu ge xs w)
    (hx : xs.length < 1099511627776) (hl : l < 4611686018427387904) (hmx : 0 ≤ mx ∧ mx ≤ 18446744073709551615) (hmb : 0 ≤ mb ∧ mb ≤ 18446744073709551615) (hf : ¬ Fits xs.length l mx mb bb) :
    Calls Ybaf.prog 5 #[.pointer (some ⟨b, 0, none⟩), .slice ip l c] w fun e w' => e = .returned (.tuple #[]) ∧ Turn N w w' ∧ Inv N b mx mb pe (IntKind.u64.wrap (fi + (xs.length + 1))) (.slice none 0 0) 0 cu (IntKind.u64.wrap (ge + 1)) [] w' := by
  obtain ⟨hNb, ⟨en, ov, rd, pa, hb, hNo, hNr, ⟨s, r, ho⟩, ⟨buf, s', r', hrd⟩⟩, hrow⟩ := I
  obtain ⟨p, cap, rfl⟩ := hrow.len
  obtain ⟨n, hn⟩ : ∃ n, n = xs.length := ⟨_, rfl⟩
  rw [← hn] at hb hrow hf hx ⊢
  clear hn
  go_enter Ybaf.func5, Ybaf.ntmps5
  go_wp2_with (go_at_call 10; refine (lock_ hb).mono ?_; rintro e w1 ⟨rfl, hb1, hk1⟩)
  refine (excess F hT b p ip n cap l c mx mb bb w1 (by rw [hk1.tape]; exact hF) (block_cell hb1 2) (block_cell hb1 3) (block_cell hb1 6) (block_cell hb1 7) (by omega) hl hmx hmb).mono ?_
  rintro e w2 ⟨t, rfl, -, t2, hk2⟩
  have ht : t.toList.isEmpty = false := not_empty (t2 hf)
  clear t2
  have hkw2 : Kept [b] w w2 := hk1.trans (Kept.of_below hk2)
  have hb2 := (Kept.of_below (T := []) hk2).keep hb1 (by simp)
  have c6 : w2.cell? ⟨b, 6, none⟩ = some (.slice p n cap) := block_cell hb2 6
  have hF2 : F.answers (w2.alloc (.cells #[.iface 3 (.int .i64 (n + 1)), .iface 9 (.string t)] 20)).tape := by
    have : w2.tape = w.tape := hkw2.tape
    show F.answers w2.tape
    rw [this]; exact hF
  go_wp2_with fail
  refine (errorf_letgo F (n + 1) t w2.heap.size _ hF2 (block_cell (block_new _ _) 0) (block_cell (block_new _ _) 1)).mono ?_
  rintro e w3 ⟨v, rfl, hk3⟩
  have hkw3 : Kept [b] w w3 := (hkw2.alloc _).trans (Kept.of_below hk3)
  have hb3 := (Kept.of_below (T := []) hk3).keep (block_alloc hb2 _) (by simp)
  have ho3 := hkw3.keep ho (by simpa using b_ne_chan hb ho)
  clear hk3 c6
  go_wp2_with fail
  refine (end_ b 1 mx mb pe fi _ bb cu ge en v ov rd pa s r w3 hb3 ho3).mono ?_
  rintro e w4 ⟨rfl, ov', hov, ho4, hb4, hk4⟩
  have c5 : w4.cell? ⟨b, 5, none⟩ = some (.int .u64 fi) := block_cell hb4 5
  have c6 : w4.cell? ⟨b, 6, none⟩ = some (.slice p n cap) := block_cell hb4 6
  have c7 : w4.cell? ⟨b, 7, none⟩ = some (.int .u64 bb) := block_cell hb4 7
  have f5 := block_free hb4 5
  have f6 := block_free hb4 6
  have f7 := block_free hb4 7
  have K4 : Kept [b, ov] w w4 := (hkw3.mono (by simp)).trans hk4
  have hrd4 := K4.keep hrd (by simpa using ⟨b_ne_chan hb hrd, by rintro rfl; rw [ho] at hrd; cases hrd⟩)
  go_wp2_with fail
  go_region
  go_wp2_with fail
  have hb5 : _ = some (Obj.cells (strm 1 mx mb pe (IntKind.u64.wrap (fi + (n + 1))) (.slice none 0 0) 0 cu (IntKind.u64.wrap (ge + 1)) (.iface 59 v) ov' rd pa) 49 (0, 0)) := block_self (block_self (block_drew (block_self hb4 5 (.int .u64 (IntKind.u64.wrap (fi + (n + 1)))))) 6 (.slice none 0 0)) 7 (.int .u64 0)
  have K5 : Kept [b] w4 _ := ((((Kept.refl [b] w4).setCell (a := ⟨b, 5, none⟩) (by simp) (.int .u64 (IntKind.u64.wrap (fi + (n + 1))))).drew).setCell (a := ⟨b, 6, none⟩) (by simp) (.slice none 0 0)).setCell (a := ⟨b, 7, none⟩) (by simp) (.int .u64 0)
  refine (unlock_ hb5).mono ?_
  rintro e w6 ⟨rfl, hb6, hk6⟩
  have K6 := K5.trans hk6
  clear hb5 K5 hk6
  have hrd6 := K6.keep hrd4 (by simpa using b_ne_chan hb4 hrd4)
  have ho6 := K6.keep ho4 (by simpa using b_ne_chan hb4 ho4)
  go_wp2_with fail
  refine (signal b 0 mx mb pe _ _ 0 cu _ _ ov' rd pa buf s' r' w6 hb6 hrd6).mono ?_
  rintro e w7 ⟨rfl, ⟨buf7, s7, hrd7⟩, hk7⟩
  go_wp2_with fail
  go_end0
  have hor : ov' ≠ rd := by rintro rfl; rw [ho6] at hrd6; cases hrd6
  have hwN : N ≤ w.heap.size := by have := block_lt hb; omega
  have hw4 := K4.size
  have hw6 := K6.size
  refine ⟨rfl, ?_, hNb, ⟨_, ov', rd, pa, hk7.keep hb6 (by simpa using (b_ne_chan hb6 hrd6).symm), by have := hkw3.size; omega, hNr, ⟨0, 0, hk7.keep ho6 (by simpa using hor)⟩, ⟨buf7, s7, r', hrd7⟩⟩, .inl ⟨rfl, rfl⟩⟩
  refine ((Turn.of_kept K4 hwN ?_).trans (Turn.of_kept K6 (by omega) (by simpa using kind_b hb4 hNb))).trans (Turn.of_kept hk7 (by omega) (by simpa using kind_chan hrd6 hNr))
  intro k hk
  rcases List.mem_cons.1 hk with rfl | hk
  · exact kind_b hb hNb
  · obtain rfl := List.mem_singleton.1 hk
    exact kind_chan ho hNo

set_option maxRecDepth 10000 in
set_option maxHeartbeats 800000 in
theorem offer_fits (F : Interp) (hT : Full F) (N b : Nat) (mx mb pe fi : Int) (it : Value) (bb cu ge : Int) (xs : List Value) (ip : Option Addr) (l c : Nat) (w : World) (hF : F.answers w.tape) (I : Inv N b mx mb pe fi it bb cu ge xs w)
    (hx : xs.length < 1099511627776) (hl : l < 4611686018427387904) (hmx : 0 ≤ mx ∧ mx ≤ 18446744073709551615) (hmb : 0 ≤ mb ∧ mb ≤ 18446744073709551615) (hf : Fits xs.length l mx mb bb) :
    Calls Ybaf.prog 6 #[.pointer (some ⟨b, 0, none⟩), .slice ip l c] w fun e w' => e = .returned (.bool true) ∧ Turn N w w' ∧ ∃ it', Inv N b mx mb pe fi it' (IntKind.u64.wrap (bb + l)) cu ge (xs ++ [.slice ip l c]) w' := by
  obtain ⟨hNb, ⟨en, ov, rd, pa, hb, hNo, hNr, ⟨s, r, ho⟩, ⟨buf, s', r', hrd⟩⟩, hrow⟩ := I
  obtain ⟨p, cap, rfl⟩ := hrow.len
  go_enter Ybaf.func6, Ybaf.ntmps6
  go_wp2_with (go_at_call 10; refine (lock_ hb).mono ?_; rintro e w1 ⟨rfl, hb1, hk1⟩)
  refine (excess F hT b p ip xs.length cap l c mx mb bb w1 (by rw [hk1.tape]; exact hF) (block_cell hb1 2) (block_cell hb1 3) (block_cell hb1 6) (block_cell hb1 7) (by omega) hl hmx hmb).mono ?_
  rintro e w2 ⟨t, rfl, t1, -, hk2⟩
  obtain rfl := t1 hf
  clear t1
  have hkw2 : Kept [b] w w2 := hk1.trans (Kept.of_below hk2)
  have hrow2 := hrow.keep hkw2 (by simpa using b_ne_row hrow hb)
  have hb2 := (Kept.of_below (T := []) hk2).keep hb1 (by simp)
  go_wp2_with fail
  refine (add_ N b 1 mx mb pe fi _ bb cu ge en ov rd pa xs ip l c w2 hb2 hrow2 (by have := block_lt hb2; omega) hx hl).mono ?_
  rintro e w3 ⟨rfl, it', hrow3, hb3, hk3⟩
  go_wp2_with fail
  refine (unlock_ hb3).mono ?_
  rintro e w4 ⟨rfl, hb4, hk4⟩
  have K4 : Kept (b :: blkOf (.slice p xs.length cap)) w w4 := ((hkw2.mono (by simp)).trans hk3).trans (hk4.mono (by simp))
  have hrow4 := hrow3.keep hk4 (by simpa using hrow3.notin hb3 (fun A f e => by cases e))
  have hrd4 := K4.keep hrd (by simpa using ⟨b_ne_chan hb hrd, chan_ne_row hrow hrd⟩)
  have ho4 := K4.keep ho (by simpa using ⟨b_ne_chan hb ho, chan_ne_row hrow ho⟩)
  go_wp2_with fail
  refine (signal b 0 mx mb pe fi it' _ cu ge en ov rd pa buf s' r' w4 hb4 hrd4).mono ?_
  rintro e w5 ⟨rfl, ⟨buf5, s5, hrd5⟩, hk5⟩
  go_wp2_with fail
  go_ret
  have hor : ov ≠ rd := by rintro rfl; rw [ho] at hrd; cases hrd
  refine ⟨rfl, ?_, it', hNb, ⟨en, ov, rd, pa, hk5.keep hb4 (by simpa using (b_ne_chan hb4 hrd4).symm), hNo, hNr, ⟨s, r, hk5.keep ho4 (by simpa using hor)⟩, ⟨buf5, s5, r', hrd5⟩⟩, hrow4.keep hk5 (by simpa using chan_ne_row hrow4 hrd4)⟩
  have hwN : N ≤ w.heap.size := by have := block_lt hb; omega
  exact (Turn.of_kept K4 hwN (by
    intro k hk
    rcases List.mem_cons.1 hk with rfl | hk
    · exact kind_b hb hNb
    · exact kind_row hrow k hk)).trans (Turn.of_kept hk5 (by have := K4.size; omega) (by simpa using kind_chan hrd4 hNr))

set_option maxRecDepth 10000 in
set_option maxHeartbeats 800000 in
theorem offer_over (F : Interp) (hT : Full F) (N b : Nat) (mx mb pe fi : Int) (it : Value) (bb cu ge : Int) (xs : List Value) (ip : Option Addr) (l c : Nat) (w : World) (hF : F.answers w.tape) (I : Inv N b mx mb pe fi it bb cu ge xs w)
    (hx : xs.length < 1099511627776) (hl : l < 4611686018427387904) (hmx : 0 ≤ mx ∧ mx ≤ 18446744073709551615) (hmb : 0 ≤ mb ∧ mb ≤ 18446744073709551615) (hf : ¬ Fits xs.length l mx mb bb) :
    Calls Ybaf.prog 6 #[.pointer (some ⟨b, 0, none⟩), .slice ip l c] w fun e w' => e = .returned (.bool false) ∧ Turn N w w' ∧ Inv N b mx mb pe fi it bb cu ge xs w' := by
  obtain ⟨hNb, ⟨en, ov, rd, pa, hb, hNo, hNr, ⟨s, r, ho⟩, ⟨buf, s', r', hrd⟩⟩, hrow⟩ := I
  obtain ⟨p, cap, rfl⟩ := hrow.len
  go_enter Ybaf.func6, Ybaf.ntmps6
  go_wp2_with (go_at_call 10; refine (lock_ hb).mono ?_; rintro e w1 ⟨rfl, hb1, hk1⟩)
  refine (excess F hT b p ip xs.length cap l c mx mb bb w1 (by rw [hk1.tape]; exact hF) (block_cell hb1 2) (block_cell hb1 3) (block_cell hb1 6) (block_cell hb1 7) (by omega) hl hmx hmb).mono ?_
  rintro e w2 ⟨t, rfl, -, t2, hk2⟩
  have ht : t.toList.isEmpty = false := not_empty (t2 hf)
  clear t2
  have hkw2 : Kept [b] w w2 := hk1.trans (Kept.of_below hk2)
  have hb2 := (Kept.of_below (T := []) hk2).keep hb1 (by simp)
  go_wp2_with fail
  refine (unlock_ hb2).mono ?_
  rintro e w4 ⟨rfl, hb4, hk4⟩
  have K4 : Kept [b] w w4 := hkw2.trans hk4
  go_wp2_with fail
  go_ret
  refine ⟨rfl, Turn.of_kept K4 (by have := block_lt hb; omega) (by simpa using kind_b hb hNb), hNb, ⟨en, ov, rd, pa, hb4, hNo, hNr, ⟨s, r, K4.keep ho (by simpa using b_ne_chan hb ho)⟩, ⟨buf, s', r', K4.keep hrd (by simpa using b_ne_chan hb hrd)⟩⟩, hrow.keep K4 (by simpa using b_ne_row hrow hb)⟩
end Go.Proofs.YbulkfyhgFmt
