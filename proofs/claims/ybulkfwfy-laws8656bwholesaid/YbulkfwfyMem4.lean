/-
  LawS8656BWhole: the clones, and what the named load hands back. No walk here.
-/
import Derived.Test.YbulkfwfyMem3
import Derived.Test.YbulkfwfyClone
namespace Go.Proofs.Ybulkfwfy.LawB
open Go.RowKit

/-- The five clones, each in a block of its own. -/
structure Cl (ng nb : Nat) (gD gK : Nat → Bool) (gq gi : Nat → Int) (gs : Nat → ByteArray) (ix : Nat → Nat) (bS : Nat → Int) (bK : Nat → Bool) (bq bi : Nat → Int) (bs : Nat → ByteArray) (g1 g2 g3 g4 g5 : Nat) (wx : World) : Prop where
  r1 : ∀ i, i < (ng + 1) * 1 → wx.cell? ⟨g1, i, none⟩ = some (.string ⟨#[118]⟩)
  r2 : ∀ i, i < (ng + 1) * 2 → wx.cell? ⟨g2, i, none⟩ = some (glb gD gK ng i)
  r3 : ∀ i, i < (ng + 1) * 3 → wx.cell? ⟨g3, i, none⟩ = some (stk gq gi gs ng i)
  r4 : ∀ i, i < nb * 7 → wx.cell? ⟨g4, i, none⟩ = some (nrow ix bS bK bq bi bs nb i)
  r5 : ∀ i, i < (ng + 1) * 1 → wx.cell? ⟨g5, i, none⟩ = some (.int .i32 (last ix nb i))
  l1 : g1 < wx.heap.size
  l2 : g2 < wx.heap.size
  l3 : g3 < wx.heap.size
  l4 : g4 < wx.heap.size
  l5 : g5 < wx.heap.size

variable {w wx w' : World} {N ng nb G : Nat} {gD gK : Nat → Bool} {gq gi : Nat → Int} {gs : Nat → ByteArray} {ix : Nat → Nat} {bS : Nat → Int} {bK : Nat → Bool} {bq bi : Nat → Int} {bs : Nat → ByteArray} {g1 g2 g3 g4 g5 : Nat}

theorem Cl.kept (h : Cl ng nb gD gK gq gi gs ix bS bK bq bi bs g1 g2 g3 g4 g5 wx) (hb : Below wx.heap.size wx w') : Cl ng nb gD gK gq gi gs ix bS bK bq bi bs g1 g2 g3 g4 g5 w' :=
  ⟨fun i hi => (hb.cell h.l1).trans (h.r1 i hi), fun i hi => (hb.cell h.l2).trans (h.r2 i hi), fun i hi => (hb.cell h.l3).trans (h.r3 i hi), fun i hi => (hb.cell h.l4).trans (h.r4 i hi), fun i hi => (hb.cell h.l5).trans (h.r5 i hi),
    Nat.lt_of_lt_of_le h.l1 hb.size, Nat.lt_of_lt_of_le h.l2 hb.size, Nat.lt_of_lt_of_le h.l3 hb.size, Nat.lt_of_lt_of_le h.l4 hb.size, Nat.lt_of_lt_of_le h.l5 hb.size⟩

theorem cells_kept {W W' : World} {g k : Nat} {f : Nat → Value} (h : ∀ i, i < k → W.cell? ⟨g, i, none⟩ = some (f i)) (hg : g < W.heap.size) (hb : Below W.heap.size W W') : ∀ i, i < k → W'.cell? ⟨g, i, none⟩ = some (f i) :=
  fun i hi => (hb.cell hg).trans (h i hi)

theorem St.later {k : Nat} (h : St w N ng nb G gD gK gq gi gs ix bS bK bq bi bs k wx) (hb : Below wx.heap.size wx w') : St w N ng nb G gD gK gq gi gs ix bS bK bq bi bs k w' := h.kept (hb.mono h.lt)

theorem glb_one (k i : Nat) : (glb gD gK k i).oneCell' = true := by
  obtain ⟨b, hb⟩ := glb_cell (gD := gD) (gK := gK) k i
  rw [hb]; rfl
theorem stk0_one (c : Nat) : (stk0 c).oneCell' = true := by
  have h : c % 3 = 0 ∨ c % 3 = 1 ∨ c % 3 = 2 := by omega
  rcases h with e | e | e <;> simp [stk0, e] <;> rfl
theorem stk_one (k i : Nat) : (stk gq gi gs k i).oneCell' = true := by
  unfold stk
  split
  · split
    · rfl
    · split <;> rfl
  · exact stk0_one i
theorem nrow_one (k i : Nat) : (nrow ix bS bK bq bi bs k i).oneCell' = true := by
  have h7 : i % 7 < 7 := Nat.mod_lt _ (by omega)
  unfold nrow
  split
  · generalize i % 7 = r at h7
    match r, h7 with
    | 0, _ => rfl
    | 1, _ => rfl
    | 2, _ => rfl
    | 3, _ => rfl
    | 4, _ => rfl
    | 5, _ => rfl
    | 6, _ => rfl
  · generalize i % 7 = r at h7
    match r, h7 with
    | 0, _ => rfl
    | 1, _ => rfl
    | 2, _ => rfl
    | 3, _ => rfl
    | 4, _ => rfl
    | 5, _ => rfl
    | 6, _ => rfl

/-- What the named load hands back. -/
def Res (L F : Int) (ng gI : Nat) (gD : Nat → Bool) (gq gi : Nat → Int) (gs : Nat → ByteArray) (bq bi : Nat → Int) (bs : Nat → ByteArray) (q v : Int) (s : ByteArray) (er : Value) : Prop :=
  (F ≤ L ∧ q = bq L.toNat ∧ v = bi L.toNat ∧ s = bs L.toNat ∧ er = .nilIface) ∨
  (L < F ∧ gI < ng ∧ gD gI = true ∧ q = gq gI ∧ v = gi gI ∧ s = gs gI ∧ er = .nilIface) ∨
  (L < F ∧ (gI < ng → gD gI = false) ∧ q = 0 ∧ v = 0 ∧ s = ⟨#[]⟩ ∧ ∃ p, er = .iface 60 (.pointer (some p)))

theorem glb_at (i : Nat) (h : i < ng) : glb gD gK ng (i * 2) = .bool (gD i) := by
  have d : i * 2 / 2 = i := by omega
  have m : i * 2 % 2 = 0 := by omega
  simp [glb, d, m, h]
theorem glb_out (i : Nat) (h : ¬ i < ng) : glb gD gK ng (i * 2) = .bool false := by
  have d : i * 2 / 2 = i := by omega
  simp [glb, d, h]
theorem stk_at (i : Nat) (h : i < ng) : stk gq gi gs ng (i * 3) = .int .u8 (gq i) ∧ stk gq gi gs ng (i * 3 + 1) = .int .i64 (gi i) ∧ stk gq gi gs ng (i * 3 + 2) = .string (gs i) := by
  have d0 : i * 3 / 3 = i := by omega
  have d1 : (i * 3 + 1) / 3 = i := by omega
  have d2 : (i * 3 + 2) / 3 = i := by omega
  have m0 : i * 3 % 3 = 0 := by omega
  have m1 : (i * 3 + 1) % 3 = 1 := by omega
  have m2 : (i * 3 + 2) % 3 = 2 := by omega
  simp [stk, d0, d1, d2, m0, m1, m2, h]
theorem nrow_at (i j : Nat) (hj : j < 7) (h : i < nb) : nrow ix bS bK bq bi bs nb (i * 7 + j) = (bnd ix bS bK bq bi bs i).getD j .nilIface := by
  have d : (i * 7 + j) / 7 = i := by omega
  have m : (i * 7 + j) % 7 = j := by omega
  simp only [nrow, d, m, if_pos h]
theorem wrap64_id {x : Int} (h1 : 0 ≤ x) (h2 : x < 4294967296) : wrap64 x = x := by
  unfold wrap64
  omega
end Go.Proofs.Ybulkfwfy.LawB
