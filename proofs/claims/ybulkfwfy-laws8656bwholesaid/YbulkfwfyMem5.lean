/-
  LawS8656BWhole: the machine's five rows and their clones hold the same: in the form in which the contracts of slices.Equal ask it. No walk here.
-/
import Derived.Test.YbulkfwfyMem4
import Derived.Deep.Draws
namespace Go.Proofs.Ybulkfwfy.LawB
open Go.RowKit

variable {w wx : World} {N ng nb G : Nat} {gD gK : Nat → Bool} {gq gi : Nat → Int} {gs : Nat → ByteArray} {ix : Nat → Nat} {bS : Nat → Int} {bK : Nat → Bool} {bq bi : Nat → Int} {bs : Nat → ByteArray} {g1 g2 g3 g4 g5 : Nat}

def upB (ng : Nat) (f : Nat → Bool) (i : Nat) : Bool := if i < ng then f i else false
def upI (ng : Nat) (f : Nat → Int) (i : Nat) : Int := if i < ng then f i else 0
def upS (ng : Nat) (f : Nat → ByteArray) (i : Nat) : ByteArray := if i < ng then f i else ⟨#[]⟩

theorem glb_0 (i : Nat) : glb gD gK ng (i * 2) = .bool (upB ng gD i) := by
  have d : i * 2 / 2 = i := by omega
  have m : i * 2 % 2 = 0 := by omega
  simp only [glb, d, m, upB]
  split <;> simp
theorem glb_1 (i : Nat) : glb gD gK ng (i * 2 + 1) = .bool (upB ng gK i) := by
  have d : (i * 2 + 1) / 2 = i := by omega
  have m : (i * 2 + 1) % 2 = 1 := by omega
  simp only [glb, d, m, upB]
  split <;> simp
theorem stk_0 (i : Nat) : stk gq gi gs ng (i * 3) = .int .u8 (upI ng gq i) := by
  have d : i * 3 / 3 = i := by omega
  have m : i * 3 % 3 = 0 := by omega
  simp only [stk, stk0, d, m, upI]
  split <;> simp
theorem stk_1 (i : Nat) : stk gq gi gs ng (i * 3 + 1) = .int .i64 (upI ng gi i) := by
  have d : (i * 3 + 1) / 3 = i := by omega
  have m : (i * 3 + 1) % 3 = 1 := by omega
  simp only [stk, stk0, d, m, upI]
  split <;> simp
theorem stk_2 (i : Nat) : stk gq gi gs ng (i * 3 + 2) = .string (upS ng gs i) := by
  have d : (i * 3 + 2) / 3 = i := by omega
  have m : (i * 3 + 2) % 3 = 2 := by omega
  simp only [stk, stk0, d, m, upS]
  split <;> simp
theorem eq1 (hst : St w N ng nb G gD gK gq gi gs ix bS bK bq bi bs nb wx) (hcl : Cl ng nb gD gK gq gi gs ix bS bK bq bi bs g1 g2 g3 g4 g5 wx) :
    (∀ i, i < ng + 1 → wx.cell? ⟨N + 1, i, none⟩ = some (.string ⟨#[118]⟩)) ∧ (∀ i, i < ng + 1 → wx.cell? ⟨g1, i, none⟩ = some (.string ⟨#[118]⟩)) :=
  ⟨fun i hi => hst.mem.names.cell hi, fun i hi => hcl.r1 i (by omega)⟩
theorem eq2 (hst : St w N ng nb G gD gK gq gi gs ix bS bK bq bi bs nb wx) (hcl : Cl ng nb gD gK gq gi gs ix bS bK bq bi bs g1 g2 g3 g4 g5 wx) :
    (∀ i, i < ng + 1 → wx.cell? ⟨N + 2, i * 2, none⟩ = some (.bool (upB ng gD i))) ∧ (∀ i, i < ng + 1 → wx.cell? ⟨N + 2, i * 2 + 1, none⟩ = some (.bool (upB ng gK i))) ∧ (∀ i, i < ng + 1 → wx.cell? ⟨g2, i * 2, none⟩ = some (.bool (upB ng gD i))) ∧ (∀ i, i < ng + 1 → wx.cell? ⟨g2, i * 2 + 1, none⟩ = some (.bool (upB ng gK i))) :=
  ⟨fun i hi => (hst.mem.globs.cell (i := i * 2) (by omega)).trans (by rw [glb_0]), fun i hi => (hst.mem.globs.cell (i := i * 2 + 1) (by omega)).trans (by rw [glb_1]), fun i hi => (hcl.r2 (i * 2) (by omega)).trans (by rw [glb_0]), fun i hi => (hcl.r2 (i * 2 + 1) (by omega)).trans (by rw [glb_1])⟩
theorem eq3 (hst : St w N ng nb G gD gK gq gi gs ix bS bK bq bi bs nb wx) (hcl : Cl ng nb gD gK gq gi gs ix bS bK bq bi bs g1 g2 g3 g4 g5 wx) :
    (∀ i, i < ng + 1 → wx.cell? ⟨N + 3, i * 3, none⟩ = some (.int .u8 (upI ng gq i))) ∧ (∀ i, i < ng + 1 → wx.cell? ⟨N + 3, i * 3 + 1, none⟩ = some (.int .i64 (upI ng gi i))) ∧ (∀ i, i < ng + 1 → wx.cell? ⟨N + 3, i * 3 + 2, none⟩ = some (.string (upS ng gs i))) ∧ (∀ i, i < ng + 1 → wx.cell? ⟨g3, i * 3, none⟩ = some (.int .u8 (upI ng gq i))) ∧ (∀ i, i < ng + 1 → wx.cell? ⟨g3, i * 3 + 1, none⟩ = some (.int .i64 (upI ng gi i))) ∧ (∀ i, i < ng + 1 → wx.cell? ⟨g3, i * 3 + 2, none⟩ = some (.string (upS ng gs i))) :=
  ⟨fun i hi => (hst.mem.stack.cell (i := i * 3) (by omega)).trans (by rw [stk_0]), fun i hi => (hst.mem.stack.cell (i := i * 3 + 1) (by omega)).trans (by rw [stk_1]), fun i hi => (hst.mem.stack.cell (i := i * 3 + 2) (by omega)).trans (by rw [stk_2]), fun i hi => (hcl.r3 (i * 3) (by omega)).trans (by rw [stk_0]), fun i hi => (hcl.r3 (i * 3 + 1) (by omega)).trans (by rw [stk_1]), fun i hi => (hcl.r3 (i * 3 + 2) (by omega)).trans (by rw [stk_2])⟩
theorem nrow_f0 (i : Nat) (hi : i < nb) : nrow ix bS bK bq bi bs nb (i * 7) = .int .i32 (ix i) := nrow_at i 0 (by omega) hi
theorem nrow_f1 (i : Nat) (hi : i < nb) : nrow ix bS bK bq bi bs nb (i * 7 + 1) = .int .i32 (bS i) := nrow_at i 1 (by omega) hi
theorem nrow_f2 (i : Nat) (hi : i < nb) : nrow ix bS bK bq bi bs nb (i * 7 + 2) = .int .i32 (last ix i (ix i)) := nrow_at i 2 (by omega) hi
theorem nrow_f3 (i : Nat) (hi : i < nb) : nrow ix bS bK bq bi bs nb (i * 7 + 3) = .bool (bK i) := nrow_at i 3 (by omega) hi
theorem nrow_f4 (i : Nat) (hi : i < nb) : nrow ix bS bK bq bi bs nb (i * 7 + 4) = .int .u8 (bq i) := nrow_at i 4 (by omega) hi
theorem nrow_f5 (i : Nat) (hi : i < nb) : nrow ix bS bK bq bi bs nb (i * 7 + 5) = .int .i64 (bi i) := nrow_at i 5 (by omega) hi
theorem nrow_f6 (i : Nat) (hi : i < nb) : nrow ix bS bK bq bi bs nb (i * 7 + 6) = .string (bs i) := nrow_at i 6 (by omega) hi
theorem eq4 (hst : St w N ng nb G gD gK gq gi gs ix bS bK bq bi bs nb wx) (hcl : Cl ng nb gD gK gq gi gs ix bS bK bq bi bs g1 g2 g3 g4 g5 wx) :
    (∀ i, i < nb → wx.cell? ⟨G, i * 7, none⟩ = some (.int .i32 (ix i))) ∧ (∀ i, i < nb → wx.cell? ⟨G, i * 7 + 1, none⟩ = some (.int .i32 (bS i))) ∧ (∀ i, i < nb → wx.cell? ⟨G, i * 7 + 2, none⟩ = some (.int .i32 (last ix i (ix i)))) ∧ (∀ i, i < nb → wx.cell? ⟨G, i * 7 + 3, none⟩ = some (.bool (bK i))) ∧ (∀ i, i < nb → wx.cell? ⟨G, i * 7 + 4, none⟩ = some (.int .u8 (bq i))) ∧ (∀ i, i < nb → wx.cell? ⟨G, i * 7 + 5, none⟩ = some (.int .i64 (bi i))) ∧ (∀ i, i < nb → wx.cell? ⟨G, i * 7 + 6, none⟩ = some (.string (bs i))) ∧ (∀ i, i < nb → wx.cell? ⟨g4, i * 7, none⟩ = some (.int .i32 (ix i))) ∧ (∀ i, i < nb → wx.cell? ⟨g4, i * 7 + 1, none⟩ = some (.int .i32 (bS i))) ∧ (∀ i, i < nb → wx.cell? ⟨g4, i * 7 + 2, none⟩ = some (.int .i32 (last ix i (ix i)))) ∧ (∀ i, i < nb → wx.cell? ⟨g4, i * 7 + 3, none⟩ = some (.bool (bK i))) ∧ (∀ i, i < nb → wx.cell? ⟨g4, i * 7 + 4, none⟩ = some (.int .u8 (bq i))) ∧ (∀ i, i < nb → wx.cell? ⟨g4, i * 7 + 5, none⟩ = some (.int .i64 (bi i))) ∧ (∀ i, i < nb → wx.cell? ⟨g4, i * 7 + 6, none⟩ = some (.string (bs i))) :=
  ⟨fun i hi => (hst.named.cell (i := i * 7) (by omega)).trans (by rw [nrow_f0 i hi]), fun i hi => (hst.named.cell (i := i * 7 + 1) (by omega)).trans (by rw [nrow_f1 i hi]), fun i hi => (hst.named.cell (i := i * 7 + 2) (by omega)).trans (by rw [nrow_f2 i hi]), fun i hi => (hst.named.cell (i := i * 7 + 3) (by omega)).trans (by rw [nrow_f3 i hi]), fun i hi => (hst.named.cell (i := i * 7 + 4) (by omega)).trans (by rw [nrow_f4 i hi]), fun i hi => (hst.named.cell (i := i * 7 + 5) (by omega)).trans (by rw [nrow_f5 i hi]), fun i hi => (hst.named.cell (i := i * 7 + 6) (by omega)).trans (by rw [nrow_f6 i hi]), fun i hi => (hcl.r4 (i * 7) (by omega)).trans (by rw [nrow_f0 i hi]), fun i hi => (hcl.r4 (i * 7 + 1) (by omega)).trans (by rw [nrow_f1 i hi]), fun i hi => (hcl.r4 (i * 7 + 2) (by omega)).trans (by rw [nrow_f2 i hi]), fun i hi => (hcl.r4 (i * 7 + 3) (by omega)).trans (by rw [nrow_f3 i hi]), fun i hi => (hcl.r4 (i * 7 + 4) (by omega)).trans (by rw [nrow_f4 i hi]), fun i hi => (hcl.r4 (i * 7 + 5) (by omega)).trans (by rw [nrow_f5 i hi]), fun i hi => (hcl.r4 (i * 7 + 6) (by omega)).trans (by rw [nrow_f6 i hi])⟩
theorem eq5 (hst : St w N ng nb G gD gK gq gi gs ix bS bK bq bi bs nb wx) (hcl : Cl ng nb gD gK gq gi gs ix bS bK bq bi bs g1 g2 g3 g4 g5 wx) :
    (∀ i, i < ng + 1 → wx.cell? ⟨N + 4, i, none⟩ = some (.int .i32 (last ix nb i))) ∧ (∀ i, i < ng + 1 → wx.cell? ⟨g5, i, none⟩ = some (.int .i32 (last ix nb i))) :=
  ⟨fun i hi => hst.mem.inner.cell hi, fun i hi => hcl.r5 i (by omega)⟩
theorem below_drewN (B : Nat) (W : World) (m : Nat) : Below B W (W.drewN m) := ⟨rfl, rfl, rfl, Nat.le_refl _, fun _ _ => rfl⟩
end Go.Proofs.Ybulkfwfy.LawB
