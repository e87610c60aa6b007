/-
  LawS8656BWhole: the contracts of findNamed, loadGlobal, undefinedVariable and loadNamed.
-/
import Derived.Test.YbulkfwfyMake
import Derived.WalkSpells
import Derived.Deep.RegionHeld
namespace Go.Proofs.Ybulkfwfy.LawB
open Go.ChangeShapes Go.WideShapes Go.ChangeAt Go.RowKit

theorem find_hit (N m cm G nb cb j : Nat) (F : Int) (gI : Nat) (w : World) (c9 : w.cell? ⟨N, 9, none⟩ = some (.slice (some ⟨N + 4, 0, none⟩) m cm)) (c8 : w.cell? ⟨N, 8, none⟩ = some (.slice (some ⟨G, 0, none⟩) nb cb))
    (hg : gI < m) (hL : w.cell? ⟨N + 4, gI, none⟩ = some (.int .i32 (j : Int))) (hj : j < nb) (hb : nb ≤ 1048576) (hF : F ≤ (j : Int)) :
    Calls Yba.prog 19 #[.pointer (some ⟨N, 0, none⟩), .int .i64 F, .int .i32 (gI : Int)] w fun e w' => e = .returned (.pointer (some ⟨G, j * 7, none⟩)) ∧ w' = w := by
  have h1 : (gI : Int) < (m : Int) := by omega
  have h2 : (j : Int) < (nb : Int) := by omega
  go_enter Yba.func19, Yba.ntmps19
  go_wp2
  go_ret
  exact ⟨rfl, rfl⟩
theorem find_miss (N m cm : Nat) (L F : Int) (gI : Nat) (w : World) (c9 : w.cell? ⟨N, 9, none⟩ = some (.slice (some ⟨N + 4, 0, none⟩) m cm))
    (hg : gI < m) (hL : w.cell? ⟨N + 4, gI, none⟩ = some (.int .i32 L)) (hb : -1 ≤ L ∧ L ≤ 1048576) (hF : L < F) :
    Calls Yba.prog 19 #[.pointer (some ⟨N, 0, none⟩), .int .i64 F, .int .i32 (gI : Int)] w fun e w' => e = .returned (.pointer none) ∧ w' = w := by
  have h1 : (gI : Int) < (m : Int) := by omega
  go_enter Yba.func19, Yba.ntmps19
  go_wp2
  go_ret
  exact ⟨rfl, rfl⟩

theorem later {W : World} {a : Addr} {v : Value} (h : W.cell? a = some v) (o : Obj) : (W.alloc o).cell? a = some v :=
  (World.cell?_alloc_some W a o (by rw [h]; rfl)).trans h

theorem undef_any (w : World) :
    Calls Yba.prog 21 #[.string ⟨#[118]⟩] w fun e w' => ∃ p, e = .returned (.iface 60 (.pointer (some p))) ∧ Below w.heap.size w w' := by
  go_enter Yba.func21, Yba.ntmps21
  go_wp2
  go_ret
  exact ⟨_, rfl, (Below.refl _ _).alloc (Nat.le_refl _) _⟩

theorem global_yes (N m c4' c7' gI : Nat) (q v : Int) (s : ByteArray) (w : World) (c4 : w.cell? ⟨N, 4, none⟩ = some (.slice (some ⟨N + 2, 0, none⟩) m c4')) (c7 : w.cell? ⟨N, 7, none⟩ = some (.slice (some ⟨N + 3, 0, none⟩) m c7'))
    (hg : gI < m) (hD : w.cell? ⟨N + 2, gI * 2, none⟩ = some (.bool true)) (h0 : w.cell? ⟨N + 3, gI * 3, none⟩ = some (.int .u8 q)) (h1 : w.cell? ⟨N + 3, gI * 3 + 1, none⟩ = some (.int .i64 v)) (h2 : w.cell? ⟨N + 3, gI * 3 + 2, none⟩ = some (.string s)) :
    Calls Yba.prog 20 #[.pointer (some ⟨N, 0, none⟩), .int .i32 (gI : Int)] w fun e w' => e = .returned (.tuple #[.agg #[.int .u8 q, .int .i64 v, .string s], .nilIface]) ∧ Below w.heap.size w w' := by
  have h3 : (gI : Int) < (m : Int) := by omega
  have c4 := later c4
  have c7 := later c7
  have hD := later hD
  have h0 := later h0
  have h1 := later h1
  have h2 := later h2
  go_enter Yba.func20, Yba.ntmps20
  go_wp2
  exact bodyPost_ret (v := .tuple #[.agg #[.int .u8 q, .int .i64 v, .string s], .nilIface]) (by simp [results, Yba.results20, go_sem]) rfl ⟨rfl, (Below.refl _ _).alloc (Nat.le_refl _) _⟩

set_option maxHeartbeats 400000 in
theorem global_no (N m c4' c3' gI : Nat) (w : World) (c4 : w.cell? ⟨N, 4, none⟩ = some (.slice (some ⟨N + 2, 0, none⟩) m c4')) (c3 : w.cell? ⟨N, 3, none⟩ = some (.slice (some ⟨N + 1, 0, none⟩) m c3'))
    (hg : gI < m) (hD : w.cell? ⟨N + 2, gI * 2, none⟩ = some (.bool false)) (h0 : w.cell? ⟨N + 1, gI, none⟩ = some (.string ⟨#[118]⟩)) :
    Calls Yba.prog 20 #[.pointer (some ⟨N, 0, none⟩), .int .i32 (gI : Int)] w fun e w' => ∃ p, e = .returned (.tuple #[.agg #[.int .u8 0, .int .i64 0, .string ⟨#[]⟩], .iface 60 (.pointer (some p))]) ∧ Below w.heap.size w w' := by
  have h3 : (gI : Int) < (m : Int) := by omega
  have c4 := later c4
  have c3 := later c3
  have hD := later hD
  have h0 := later h0
  go_enter Yba.func20, Yba.ntmps20
  go_wp2_with fail
  refine (undef_any _).mono ?_
  rintro e w1 ⟨p, rfl, hb⟩
  have k0 : w1.cell? ⟨w.heap.size, 0, none⟩ = some (.int .u8 0) := (hb.cell (p := ⟨w.heap.size, 0, none⟩) (by simp)).trans (by simp)
  have k1 : w1.cell? ⟨w.heap.size, 1, none⟩ = some (.int .i64 0) := (hb.cell (p := ⟨w.heap.size, 1, none⟩) (by simp)).trans (by simp)
  have k2 : w1.cell? ⟨w.heap.size, 2, none⟩ = some (.string ⟨#[]⟩) := (hb.cell (p := ⟨w.heap.size, 2, none⟩) (by simp)).trans (by simp)
  have f0 : ∀ i, w1.frozen? ⟨w.heap.size, i, none⟩ = false := fun i => (hb.frozen (p := ⟨w.heap.size, i, none⟩) (by simp)).trans (by simp)
  have hbb : Below w.heap.size w w1 := ((Below.refl _ _).alloc (Nat.le_refl _) _).trans (hb.mono (by simp))
  have HB : Hid (Below w.heap.size w w1) := hbb
  clear hb hbb
  go_wp2
  exact bodyPost_ret (v := .tuple #[.agg #[.int .u8 0, .int .i64 0, .string ⟨#[]⟩], .iface 60 (.pointer (some p))]) (by simp [results, Yba.results20, go_sem, k0, k1, k2]) rfl ⟨p, rfl, ((HB.out.setCell (Nat.le_refl _) _).setCell (Nat.le_refl _) _).setCell (Nat.le_refl _) _⟩

set_option maxHeartbeats 400000 in
theorem named_hit (N m cm G nb cb j : Nat) (F : Int) (gI : Nat) (q v : Int) (s : ByteArray) (w : World) (c9 : w.cell? ⟨N, 9, none⟩ = some (.slice (some ⟨N + 4, 0, none⟩) m cm)) (c8 : w.cell? ⟨N, 8, none⟩ = some (.slice (some ⟨G, 0, none⟩) nb cb))
    (hg : gI < m) (hL : w.cell? ⟨N + 4, gI, none⟩ = some (.int .i32 (j : Int))) (hj : j < nb) (hb : nb ≤ 1048576) (hF : F ≤ (j : Int))
    (h0 : w.cell? ⟨G, j * 7 + 4, none⟩ = some (.int .u8 q)) (h1 : w.cell? ⟨G, j * 7 + 5, none⟩ = some (.int .i64 v)) (h2 : w.cell? ⟨G, j * 7 + 6, none⟩ = some (.string s)) :
    Calls Yba.prog 11 #[.pointer (some ⟨N, 0, none⟩), .int .i64 F, .int .i32 (gI : Int)] w fun e w' => e = .returned (.tuple #[.agg #[.int .u8 q, .int .i64 v, .string s], .nilIface]) ∧ Below w.heap.size w w' := by
  have h0 := later h0
  have h1 := later h1
  have h2 := later h2
  have c9 := later c9
  have c8 := later c8
  have hL := later hL
  have HF : Hid (_ ∧ _ ∧ _) := ⟨c9, c8, hL⟩
  clear c9 c8 hL
  go_enter Yba.func11, Yba.ntmps11
  go_wp2_with fail
  refine (find_hit N m cm G nb cb j F gI _ (HF.out.1 _) (HF.out.2.1 _) hg (HF.out.2.2 _) hj hb hF).mono ?_
  rintro e w' ⟨rfl, rfl⟩
  go_wp2
  exact bodyPost_ret (v := .tuple #[.agg #[.int .u8 q, .int .i64 v, .string s], .nilIface]) (by simp [results, Yba.results11, go_sem]) rfl ⟨rfl, (Below.refl _ _).alloc (Nat.le_refl _) _⟩

set_option maxHeartbeats 400000 in
theorem named_global (N m cm c4' c7' gI : Nat) (L F : Int) (q v : Int) (s : ByteArray) (w : World) (c9 : w.cell? ⟨N, 9, none⟩ = some (.slice (some ⟨N + 4, 0, none⟩) m cm))
    (c4 : w.cell? ⟨N, 4, none⟩ = some (.slice (some ⟨N + 2, 0, none⟩) m c4')) (c7 : w.cell? ⟨N, 7, none⟩ = some (.slice (some ⟨N + 3, 0, none⟩) m c7'))
    (hg : gI < m) (hL : w.cell? ⟨N + 4, gI, none⟩ = some (.int .i32 L)) (hb : -1 ≤ L ∧ L ≤ 1048576) (hF : L < F)
    (hD : w.cell? ⟨N + 2, gI * 2, none⟩ = some (.bool true)) (h0 : w.cell? ⟨N + 3, gI * 3, none⟩ = some (.int .u8 q)) (h1 : w.cell? ⟨N + 3, gI * 3 + 1, none⟩ = some (.int .i64 v)) (h2 : w.cell? ⟨N + 3, gI * 3 + 2, none⟩ = some (.string s)) :
    Calls Yba.prog 11 #[.pointer (some ⟨N, 0, none⟩), .int .i64 F, .int .i32 (gI : Int)] w fun e w' => e = .returned (.tuple #[.agg #[.int .u8 q, .int .i64 v, .string s], .nilIface]) ∧ Below w.heap.size w w' := by
  have HF : Hid (_ ∧ _ ∧ _ ∧ _ ∧ _ ∧ _ ∧ _ ∧ _) := ⟨later c9, later hL, later c4, later c7, later hD, later h0, later h1, later h2⟩
  clear c9 c4 c7 hL hD h0 h1 h2
  go_enter Yba.func11, Yba.ntmps11
  go_wp2_with fail
  refine (find_miss N m cm L F gI _ (HF.out.1 _) hg (HF.out.2.1 _) hb hF).mono ?_
  rintro e w' ⟨rfl, rfl⟩
  go_wp2_with fail
  refine (global_yes N m c4' c7' gI q v s _ (HF.out.2.2.1 _) (HF.out.2.2.2.1 _) hg (HF.out.2.2.2.2.1 _) (HF.out.2.2.2.2.2.1 _) (HF.out.2.2.2.2.2.2.1 _) (HF.out.2.2.2.2.2.2.2 _)).mono ?_
  rintro e w1 ⟨rfl, hb1⟩
  have k0 : w1.cell? ⟨w.heap.size, 0, none⟩ = some (.int .u8 0) := (hb1.cell (p := ⟨w.heap.size, 0, none⟩) (by simp)).trans (by simp)
  have k1 : w1.cell? ⟨w.heap.size, 1, none⟩ = some (.int .i64 0) := (hb1.cell (p := ⟨w.heap.size, 1, none⟩) (by simp)).trans (by simp)
  have k2 : w1.cell? ⟨w.heap.size, 2, none⟩ = some (.string ⟨#[]⟩) := (hb1.cell (p := ⟨w.heap.size, 2, none⟩) (by simp)).trans (by simp)
  have f0 : ∀ i, w1.frozen? ⟨w.heap.size, i, none⟩ = false := fun i => (hb1.frozen (p := ⟨w.heap.size, i, none⟩) (by simp)).trans (by simp)
  have hbb : Below w.heap.size w w1 := ((Below.refl _ _).alloc (Nat.le_refl _) _).trans (hb1.mono (by simp))
  have HB : Hid (Below w.heap.size w w1) := hbb
  clear hb1 hbb
  go_wp2
  exact bodyPost_ret (v := .tuple #[.agg #[.int .u8 q, .int .i64 v, .string s], .nilIface]) (by simp [results, Yba.results11, go_sem, k0, k1, k2]) rfl ⟨rfl, ((HB.out.setCell (Nat.le_refl _) _).setCell (Nat.le_refl _) _).setCell (Nat.le_refl _) _⟩

set_option maxHeartbeats 400000 in
theorem named_err (N m cm c4' c3' gI : Nat) (L F : Int) (w : World) (c9 : w.cell? ⟨N, 9, none⟩ = some (.slice (some ⟨N + 4, 0, none⟩) m cm))
    (c4 : w.cell? ⟨N, 4, none⟩ = some (.slice (some ⟨N + 2, 0, none⟩) m c4')) (c3 : w.cell? ⟨N, 3, none⟩ = some (.slice (some ⟨N + 1, 0, none⟩) m c3'))
    (hg : gI < m) (hL : w.cell? ⟨N + 4, gI, none⟩ = some (.int .i32 L)) (hb : -1 ≤ L ∧ L ≤ 1048576) (hF : L < F)
    (hD : w.cell? ⟨N + 2, gI * 2, none⟩ = some (.bool false)) (h0 : w.cell? ⟨N + 1, gI, none⟩ = some (.string ⟨#[118]⟩)) :
    Calls Yba.prog 11 #[.pointer (some ⟨N, 0, none⟩), .int .i64 F, .int .i32 (gI : Int)] w fun e w' => ∃ p, e = .returned (.tuple #[.agg #[.int .u8 0, .int .i64 0, .string ⟨#[]⟩], .iface 60 (.pointer (some p))]) ∧ Below w.heap.size w w' := by
  have HF : Hid (_ ∧ _ ∧ _ ∧ _ ∧ _ ∧ _) := ⟨later c9, later hL, later c4, later c3, later hD, later h0⟩
  clear c9 c4 c3 hL hD h0
  go_enter Yba.func11, Yba.ntmps11
  go_wp2_with fail
  refine (find_miss N m cm L F gI _ (HF.out.1 _) hg (HF.out.2.1 _) hb hF).mono ?_
  rintro e w' ⟨rfl, rfl⟩
  go_wp2_with fail
  refine (global_no N m c4' c3' gI _ (HF.out.2.2.1 _) (HF.out.2.2.2.1 _) hg (HF.out.2.2.2.2.1 _) (HF.out.2.2.2.2.2 _)).mono ?_
  rintro e w1 ⟨p, rfl, hb1⟩
  have k0 : w1.cell? ⟨w.heap.size, 0, none⟩ = some (.int .u8 0) := (hb1.cell (p := ⟨w.heap.size, 0, none⟩) (by simp)).trans (by simp)
  have k1 : w1.cell? ⟨w.heap.size, 1, none⟩ = some (.int .i64 0) := (hb1.cell (p := ⟨w.heap.size, 1, none⟩) (by simp)).trans (by simp)
  have k2 : w1.cell? ⟨w.heap.size, 2, none⟩ = some (.string ⟨#[]⟩) := (hb1.cell (p := ⟨w.heap.size, 2, none⟩) (by simp)).trans (by simp)
  have f0 : ∀ i, w1.frozen? ⟨w.heap.size, i, none⟩ = false := fun i => (hb1.frozen (p := ⟨w.heap.size, i, none⟩) (by simp)).trans (by simp)
  have hbb : Below w.heap.size w w1 := ((Below.refl _ _).alloc (Nat.le_refl _) _).trans (hb1.mono (by simp))
  have HB : Hid (Below w.heap.size w w1) := hbb
  clear hb1 hbb
  go_wp2
  exact bodyPost_ret (v := .tuple #[.agg #[.int .u8 0, .int .i64 0, .string ⟨#[]⟩], .iface 60 (.pointer (some p))]) (by simp [results, Yba.results11, go_sem, k0, k1, k2]) rfl ⟨p, rfl, ((HB.out.setCell (Nat.le_refl _) _).setCell (Nat.le_refl _) _).setCell (Nat.le_refl _) _⟩
end Go.Proofs.Ybulkfwfy.LawB
