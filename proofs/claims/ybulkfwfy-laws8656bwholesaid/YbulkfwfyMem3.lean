/-
  LawS8656BWhole: the bindings' row and the row of the innermost bindings, round by round. No walk here.
-/
import Derived.Test.YbulkfwfyMem2
import Derived.Laws.IdiomCopy
import Derived.Deep.RegionHeld
namespace Go.Proofs.Ybulkfwfy.LawB
open Go.RowKit

/-- The last of the first k bindings whose name is j; -1 for none. -/
def last (ix : Nat → Nat) : Nat → Nat → Int
  | 0, _ => -1
  | k + 1, j => if ix k = j then (k : Int) else last ix k j

theorem last_lt (ix : Nat → Nat) (k j : Nat) : -1 ≤ last ix k j ∧ last ix k j < k := by
  induction k with
  | zero => simp [last]
  | succ k ih =>
    simp only [last]
    split
    · omega
    · omega

theorem last_hit (ix : Nat → Nat) (k j : Nat) (h : 0 ≤ last ix k j) : ix (last ix k j).toNat = j := by
  induction k with
  | zero => simp [last] at h
  | succ k ih =>
    simp only [last] at h ⊢
    split
    · next e => simpa using e
    · next e => rw [if_neg e] at h; exact ih h

/-- One binding's seven cells. -/
def bnd (ix : Nat → Nat) (bS : Nat → Int) (bK : Nat → Bool) (bq bi : Nat → Int) (bs : Nat → ByteArray) (i : Nat) : List Value :=
  [.int .i32 (ix i), .int .i32 (bS i), .int .i32 (last ix i (ix i)), .bool (bK i), .int .u8 (bq i), .int .i64 (bi i), .string (bs i)]
def bnd0 : List Value := [.int .i32 0, .int .i32 0, .int .i32 0, .bool false, .int .u8 0, .int .i64 0, .string ⟨#[]⟩]
/-- The bindings' row when k of them are laid. -/
def nrow (ix : Nat → Nat) (bS : Nat → Int) (bK : Nat → Bool) (bq bi : Nat → Int) (bs : Nat → ByteArray) (k c : Nat) : Value :=
  if c / 7 < k then (bnd ix bS bK bq bi bs (c / 7)).getD (c % 7) .nilIface else bnd0.getD (c % 7) .nilIface

/-- What holds at the third loop's head. -/
structure St (w : World) (N ng nb G : Nat) (gD gK : Nat → Bool) (gq gi : Nat → Int) (gs : Nat → ByteArray) (ix : Nat → Nat) (bS : Nat → Int) (bK : Nat → Bool) (bq bi : Nat → Int) (bs : Nat → ByteArray) (k : Nat) (wr : World) : Prop where
  mem : Mem w N ng (.slice (some ⟨G, 0, none⟩) k nb) (fun _ => .string ⟨#[118]⟩) (glb gD gK ng) (stk gq gi gs ng) (fun j => .int .i32 (last ix k j)) wr
  far : N + 5 ≤ G
  named : wr.rowIs G 50 (nb * 7) (nrow ix bS bK bq bi bs k)

variable {w wr : World} {N ng nb G : Nat} {gD gK : Nat → Bool} {gq gi : Nat → Int} {gs : Nat → ByteArray} {ix : Nat → Nat} {bS : Nat → Int} {bK : Nat → Bool} {bq bi : Nat → Int} {bs : Nat → ByteArray} {k : Nat}

theorem St.start (h : Mem w N ng (.slice none 0 0) (fun _ => .string ⟨#[118]⟩) (glb gD gK ng) (stk gq gi gs ng) (fun _ => .int .i32 (-1)) wr) :
    St w N ng nb wr.heap.size gD gK gq gi gs ix bS bK bq bi bs 0 ((wr.alloc (.cells (madeCells #[.int .i32 0, .int .i32 0, .int .i32 0, .bool false, .int .u8 0, .int .i64 0, .string ⟨#[]⟩] (nb * 7)) 50)).setCell ⟨N, 8, none⟩ (.slice (some ⟨wr.heap.size, 0, none⟩) 0 nb)) := by
  refine ⟨(h.alloc _).setNamed _, h.size, ?_⟩
  refine World.rowIs.setOther ?_ (by show wr.heap.size ≠ N; have := h.size; omega) _
  refine ⟨_, block_alloc _ _, size_madeCells _ _, fun c hc => (made_at _ _ _ hc).trans ?_⟩
  have e : (#[.int .i32 0, .int .i32 0, .int .i32 0, .bool false, .int .u8 0, .int .i64 0, .string ⟨#[]⟩] : Array Value).size = 7 := rfl
  rw [e]
  simp only [nrow, Nat.not_lt_zero, if_false]
  have h7 : c % 7 < 7 := Nat.mod_lt _ (by omega)
  generalize c % 7 = r at h7
  match r, h7 with
  | 0, _ => rfl
  | 1, _ => rfl
  | 2, _ => rfl
  | 3, _ => rfl
  | 4, _ => rfl
  | 5, _ => rfl
  | 6, _ => rfl

theorem rowIs_setCells {b : Nat} {t : TypeId} {n : Nat} (l : List Value) : ∀ (o : Nat) {W : World} {f : Nat → Value}, W.rowIs b t n f → (W.setCells b o l).rowIs b t n (fun c => if o ≤ c ∧ c < o + l.length then l.getD (c - o) .nilIface else f c) := by
  induction l with
  | nil => intro o W f h; exact h.congr (fun c _ => by rw [if_neg (by simp <;> omega)])
  | cons v r ih =>
    intro o W f h
    refine (ih (o + 1) (h.set o v)).congr (fun c _ => ?_)
    by_cases e : c = o
    · subst e
      rw [if_neg (by omega), if_pos rfl, if_pos (by simp)]
      simp
    · by_cases e2 : o + 1 ≤ c ∧ c < o + 1 + r.length
      · rw [if_pos e2, if_pos (by simp; omega)]
        obtain ⟨d, hd⟩ : ∃ d, c - o = d + 1 := ⟨c - o - 1, by omega⟩
        rw [hd, show c - (o + 1) = d by omega]
        simp
      · rw [if_neg e2, if_neg e, if_neg (by simp; omega)]

theorem Below_setCells {B : Nat} {a : World} (l : List Value) : ∀ (o : Nat) {W : World} {b : Nat}, Below B a W → B ≤ b → Below B a (W.setCells b o l) := by
  induction l with
  | nil => intro o W b h _; exact h
  | cons v r ih => intro o W b h hb; exact ih (o + 1) (h.setCell hb v) hb

/-- 'm.named = append(m.named, binding{..})': there is room. -/
theorem St.append (h : St w N ng nb G gD gK gq gi gs ix bS bK bq bi bs k wr) :
    Mem w N ng (.slice (some ⟨G, 0, none⟩) (k + 1) nb) (fun _ => .string ⟨#[118]⟩) (glb gD gK ng) (stk gq gi gs ng) (fun j => .int .i32 (last ix k j)) ((wr.setCells G (k * 7) (bnd ix bS bK bq bi bs k)).setCell ⟨N, 8, none⟩ (.slice (some ⟨G, 0, none⟩) (k + 1) nb)) ∧
    ((wr.setCells G (k * 7) (bnd ix bS bK bq bi bs k)).setCell ⟨N, 8, none⟩ (.slice (some ⟨G, 0, none⟩) (k + 1) nb)).rowIs G 50 (nb * 7) (nrow ix bS bK bq bi bs (k + 1)) := by
  refine ⟨(h.mem.kept (Below_setCells _ _ (Below.refl _ _) h.far)).setNamed _, ?_⟩
  refine ((rowIs_setCells _ (k * 7) h.named).setOther (by show G ≠ N; have := h.far; omega) _).congr (fun c _ => ?_)
  have hl : (bnd ix bS bK bq bi bs k).length = 7 := rfl
  rw [hl]
  simp only [nrow]
  by_cases e : k * 7 ≤ c ∧ c < k * 7 + 7
  · rw [if_pos e, if_pos (by omega)]
    have d1 : c / 7 = k := by omega
    have d2 : c % 7 = c - k * 7 := by omega
    rw [d1, d2]
  · rw [if_neg e]
    by_cases e2 : c / 7 < k
    · rw [if_pos e2, if_pos (by omega)]
    · rw [if_neg e2, if_neg (by omega)]

/-- 'm.innermost[idx] = int32(len(m.named) - 1)'. -/
theorem St.next {W : World} (hm : Mem w N ng (.slice (some ⟨G, 0, none⟩) (k + 1) nb) (fun _ => .string ⟨#[118]⟩) (glb gD gK ng) (stk gq gi gs ng) (fun j => .int .i32 (last ix k j)) W) (hG : N + 5 ≤ G)
    (hn : W.rowIs G 50 (nb * 7) (nrow ix bS bK bq bi bs (k + 1))) : St w N ng nb G gD gK gq gi gs ix bS bK bq bi bs (k + 1) (W.setCell ⟨N + 4, ix k, none⟩ (.int .i32 k)).drew := by
  refine ⟨((hm.setInner (ix k) _).drew).congr (fun _ _ => rfl) (fun _ _ => rfl) (fun _ _ => rfl) (fun j _ => ?_), hG, (hn.setOther (by show G ≠ N + 4; omega) _).drew⟩
  simp only [last]
  by_cases e : j = ix k
  · rw [if_pos e, if_pos e.symm]
  · rw [if_neg e, if_neg (fun h => e h.symm)]

theorem St.kept (h : St w N ng nb G gD gK gq gi gs ix bS bK bq bi bs k wr) {w' : World} (hb : Below (G + 1) wr w') : St w N ng nb G gD gK gq gi gs ix bS bK bq bi bs k w' :=
  ⟨h.mem.kept (hb.mono (by have := h.far; omega)), h.far, h.named.of_block (hb.block _ (by omega))⟩
theorem St.lt (h : St w N ng nb G gD gK gq gi gs ix bS bK bq bi bs k wr) : G + 1 ≤ wr.heap.size := h.named.lt
theorem St.alloc (h : St w N ng nb G gD gK gq gi gs ix bS bK bq bi bs k wr) (o : Obj) : St w N ng nb G gD gK gq gi gs ix bS bK bq bi bs k (wr.alloc o) := h.kept ((Below.refl _ _).alloc h.lt o)
theorem St.drew (h : St w N ng nb G gD gK gq gi gs ix bS bK bq bi bs k wr) : St w N ng nb G gD gK gq gi gs ix bS bK bq bi bs k wr.drew := h.kept (Below.refl _ _).drew
theorem nrow0 (ix : Nat → Nat) (bS : Nat → Int) (bK : Nat → Bool) (bq bi : Nat → Int) (bs : Nat → ByteArray) (k : Nat) : nrow ix bS bK bq bi bs k (k * 7) = .int .i32 0 := by
  have d : (k * 7) / 7 = k := by omega
  have m : (k * 7) % 7 = 0 := by omega
  simp [nrow, d, m, bnd0]
theorem nrow1 (ix : Nat → Nat) (bS : Nat → Int) (bK : Nat → Bool) (bq bi : Nat → Int) (bs : Nat → ByteArray) (k : Nat) : nrow ix bS bK bq bi bs k (k * 7 + 1) = .int .i32 0 := by
  have d : (k * 7 + 1) / 7 = k := by omega
  have m : (k * 7 + 1) % 7 = 1 := by omega
  simp [nrow, d, m, bnd0]
theorem nrow2 (ix : Nat → Nat) (bS : Nat → Int) (bK : Nat → Bool) (bq bi : Nat → Int) (bs : Nat → ByteArray) (k : Nat) : nrow ix bS bK bq bi bs k (k * 7 + 2) = .int .i32 0 := by
  have d : (k * 7 + 2) / 7 = k := by omega
  have m : (k * 7 + 2) % 7 = 2 := by omega
  simp [nrow, d, m, bnd0]
theorem nrow3 (ix : Nat → Nat) (bS : Nat → Int) (bK : Nat → Bool) (bq bi : Nat → Int) (bs : Nat → ByteArray) (k : Nat) : nrow ix bS bK bq bi bs k (k * 7 + 3) = .bool false := by
  have d : (k * 7 + 3) / 7 = k := by omega
  have m : (k * 7 + 3) % 7 = 3 := by omega
  simp [nrow, d, m, bnd0]
theorem nrow4 (ix : Nat → Nat) (bS : Nat → Int) (bK : Nat → Bool) (bq bi : Nat → Int) (bs : Nat → ByteArray) (k : Nat) : nrow ix bS bK bq bi bs k (k * 7 + 4) = .int .u8 0 := by
  have d : (k * 7 + 4) / 7 = k := by omega
  have m : (k * 7 + 4) % 7 = 4 := by omega
  simp [nrow, d, m, bnd0]
theorem nrow5 (ix : Nat → Nat) (bS : Nat → Int) (bK : Nat → Bool) (bq bi : Nat → Int) (bs : Nat → ByteArray) (k : Nat) : nrow ix bS bK bq bi bs k (k * 7 + 5) = .int .i64 0 := by
  have d : (k * 7 + 5) / 7 = k := by omega
  have m : (k * 7 + 5) % 7 = 5 := by omega
  simp [nrow, d, m, bnd0]
theorem nrow6 (ix : Nat → Nat) (bS : Nat → Int) (bK : Nat → Bool) (bq bi : Nat → Int) (bs : Nat → ByteArray) (k : Nat) : nrow ix bS bK bq bi bs k (k * 7 + 6) = .string ⟨#[]⟩ := by
  have d : (k * 7 + 6) / 7 = k := by omega
  have m : (k * 7 + 6) % 7 = 6 := by omega
  simp [nrow, d, m, bnd0]
theorem cell_later_alloc {W : World} {a : Addr} {v : Value} (o : Obj) (h : W.cell? a = some v) : (W.alloc o).cell? a = some v :=
  (World.cell?_alloc_some W a o (by rw [h]; rfl)).trans h
theorem news_cells (W : World) (l : List Value) (t : TypeId) : ∀ j u, l[j]? = some u → (W.alloc (.cells l.toArray t)).drew.cell? ((⟨W.heap.size, 0, none⟩ : Addr).add j) = some u := fun j u h => by
  have e : ((⟨W.heap.size, 0, none⟩ : Addr).add j) = ⟨W.heap.size, j, none⟩ := by unfold Addr.add; split <;> simp_all
  rw [e]
  show (W.alloc (.cells l.toArray t)).cell? ⟨W.heap.size, j, none⟩ = some u
  rw [cell_block (block_alloc W _)]
  simpa using h
theorem bnd_one (ix : Nat → Nat) (bS : Nat → Int) (bK : Nat → Bool) (bq bi : Nat → Int) (bs : Nat → ByteArray) (i : Nat) : ∀ u ∈ bnd ix bS bK bq bi bs i, u.oneCell' = true := by
  intro u hu
  simp only [bnd, List.mem_cons, List.not_mem_nil, or_false] at hu
  rcases hu with rfl | rfl | rfl | rfl | rfl | rfl | rfl <;> rfl
theorem far_cell {W : World} {G o : Nat} {l : List Value} {a : Addr} {v : Value} (h : W.cell? a = some v) (hb : a.block ≠ G) : (W.setCells G o l).cell? a = some v :=
  (World.cell?_setCells_out G l o W a (fun e => absurd e hb)).trans h
theorem St.spare (h : St w N ng nb G gD gK gq gi gs ix bS bK bq bi bs k wr) (hk : k < nb) (l : List Value) (hl : l.length = 7) :
    ∀ j, j < l.length → (wr.cell? ⟨G, 0 + k * 7 + j, none⟩).isSome = true ∧ wr.frozen? ⟨G, 0 + k * 7 + j, none⟩ = false := fun j hj => by
  rw [Nat.zero_add, h.named.cell (i := k * 7 + j) (by omega)]
  exact ⟨rfl, h.named.frozen _⟩
theorem ix_lt {i ng : Nat} {x : Int} (h : (i : Int) = x % ((ng : Int) + 1)) (_hx : 0 ≤ (ng : Int)) : i < ng + 1 := by
  have h2 := Int.emod_lt_of_pos x (show (0 : Int) < (ng : Int) + 1 by omega)
  omega
theorem wrap32_id {x : Int} (h1 : 0 ≤ x) (h2 : x < 2147483648) : wrap32 x = x := by
  unfold wrap32
  omega
end Go.Proofs.Ybulkfwfy.LawB
