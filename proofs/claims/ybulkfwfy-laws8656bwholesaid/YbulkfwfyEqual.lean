/-
  LawS8656BWhole: slices.Equal at the five element types, at two rows that hold the same: true.
-/
import Derived.Test.YbulkfwfyMake
import Derived.Deep.LoopGhost
import Derived.Deep.Light
import Derived.Deep.Draws
import Derived.Deep.QuietTactic
import Derived.BigQuiet
namespace Go.Proofs.Ybulkfwfy.LawB
open Go.ChangeShapes Go.WideShapes Go.ChangeAt Go.RowKit

set_option maxRecDepth 100000 in
set_option maxHeartbeats 1000000 in
theorem equal12 (b1 b2 n c1 c2 : Nat) (S : Nat → ByteArray) (w : World) (hn : n ≤ 1048577)
    (x0 : ∀ i, i < n → w.cell? ⟨b1, i, none⟩ = some (.string (S i))) (y0 : ∀ i, i < n → w.cell? ⟨b2, i, none⟩ = some (.string (S i))) :
    Calls Yba.prog 12 #[.slice (some ⟨b1, 0, none⟩) n c1, .slice (some ⟨b2, 0, none⟩) n c2] w fun e w' => e = .returned (.bool true) ∧ ∃ m, w' = w.drewN m := by
  have H : Hid ((∀ i, i < n → w.cell? ⟨b1, i, none⟩ = some (.string (S i))) ∧ (∀ i, i < n → w.cell? ⟨b2, i, none⟩ = some (.string (S i)))) := ⟨x0, y0⟩
  clear x0 y0
  go_enter Yba.func12, Yba.ntmps12
  go_wp2
  go_loopg [5, 13] n (fun g _ i wr => ∃ k : Nat, k + g = n ∧ i = .int .i64 k ∧ ∃ m, wr = w.drewN m)
  case atStart => exact ⟨0, by omega, rfl, 0, rfl⟩
  case round =>
    obtain ⟨k, hk, rfl, m, rfl⟩ := hrel
    by_cases hlt : k < n
    · obtain ⟨x0, y0⟩ := H.out
      have x0' := x0 k hlt
      have y0' := y0 k hlt
      clear x0 y0
      have hi : (k : Int) < (n : Int) := by omega
      go_wp2
      go_quiet (fail)
      go_wp2
      go_roundg (gk - 1)
      case measure => go_light; omega
      case rel =>
        go_light
        exact ⟨k + 1, by omega, by go_num, m + nq, rfl⟩
    · have hi : ¬ (k : Int) < (n : Int) := by omega
      go_wp2
      go_ret
      exact ⟨rfl, m, rfl⟩

set_option maxRecDepth 100000 in
set_option maxHeartbeats 1000000 in
theorem equal13 (b1 b2 n c1 c2 : Nat) (D : Nat → Bool) (K : Nat → Bool) (w : World) (hn : n ≤ 1048577)
    (x0 : ∀ i, i < n → w.cell? ⟨b1, i * 2, none⟩ = some (.bool (D i))) (x1 : ∀ i, i < n → w.cell? ⟨b1, i * 2 + 1, none⟩ = some (.bool (K i))) (y0 : ∀ i, i < n → w.cell? ⟨b2, i * 2, none⟩ = some (.bool (D i))) (y1 : ∀ i, i < n → w.cell? ⟨b2, i * 2 + 1, none⟩ = some (.bool (K i))) :
    Calls Yba.prog 13 #[.slice (some ⟨b1, 0, none⟩) n c1, .slice (some ⟨b2, 0, none⟩) n c2] w fun e w' => e = .returned (.bool true) ∧ ∃ m, w' = w.drewN m := by
  have H : Hid ((∀ i, i < n → w.cell? ⟨b1, i * 2, none⟩ = some (.bool (D i))) ∧ (∀ i, i < n → w.cell? ⟨b1, i * 2 + 1, none⟩ = some (.bool (K i))) ∧ (∀ i, i < n → w.cell? ⟨b2, i * 2, none⟩ = some (.bool (D i))) ∧ (∀ i, i < n → w.cell? ⟨b2, i * 2 + 1, none⟩ = some (.bool (K i)))) := ⟨x0, x1, y0, y1⟩
  clear x0 x1 y0 y1
  go_enter Yba.func13, Yba.ntmps13
  go_wp2
  go_loopg [5, 13] n (fun g _ i wr => ∃ k : Nat, k + g = n ∧ i = .int .i64 k ∧ ∃ m, wr = w.drewN m)
  case atStart => exact ⟨0, by omega, rfl, 0, rfl⟩
  case round =>
    obtain ⟨k, hk, rfl, m, rfl⟩ := hrel
    by_cases hlt : k < n
    · obtain ⟨x0, x1, y0, y1⟩ := H.out
      have x0' := x0 k hlt
      have x1' := x1 k hlt
      have y0' := y0 k hlt
      have y1' := y1 k hlt
      clear x0 x1 y0 y1
      have hi : (k : Int) < (n : Int) := by omega
      go_wp2
      go_quiet (fail)
      go_wp2
      go_roundg (gk - 1)
      case measure => go_light; omega
      case rel =>
        go_light
        exact ⟨k + 1, by omega, by go_num, m + nq, rfl⟩
    · have hi : ¬ (k : Int) < (n : Int) := by omega
      go_wp2
      go_ret
      exact ⟨rfl, m, rfl⟩

set_option maxRecDepth 100000 in
set_option maxHeartbeats 1000000 in
theorem equal14 (b1 b2 n c1 c2 : Nat) (q : Nat → Int) (v : Nat → Int) (S : Nat → ByteArray) (w : World) (hn : n ≤ 1048577)
    (x0 : ∀ i, i < n → w.cell? ⟨b1, i * 3, none⟩ = some (.int .u8 (q i))) (x1 : ∀ i, i < n → w.cell? ⟨b1, i * 3 + 1, none⟩ = some (.int .i64 (v i))) (x2 : ∀ i, i < n → w.cell? ⟨b1, i * 3 + 2, none⟩ = some (.string (S i))) (y0 : ∀ i, i < n → w.cell? ⟨b2, i * 3, none⟩ = some (.int .u8 (q i))) (y1 : ∀ i, i < n → w.cell? ⟨b2, i * 3 + 1, none⟩ = some (.int .i64 (v i))) (y2 : ∀ i, i < n → w.cell? ⟨b2, i * 3 + 2, none⟩ = some (.string (S i))) :
    Calls Yba.prog 14 #[.slice (some ⟨b1, 0, none⟩) n c1, .slice (some ⟨b2, 0, none⟩) n c2] w fun e w' => e = .returned (.bool true) ∧ ∃ m, w' = w.drewN m := by
  have H : Hid ((∀ i, i < n → w.cell? ⟨b1, i * 3, none⟩ = some (.int .u8 (q i))) ∧ (∀ i, i < n → w.cell? ⟨b1, i * 3 + 1, none⟩ = some (.int .i64 (v i))) ∧ (∀ i, i < n → w.cell? ⟨b1, i * 3 + 2, none⟩ = some (.string (S i))) ∧ (∀ i, i < n → w.cell? ⟨b2, i * 3, none⟩ = some (.int .u8 (q i))) ∧ (∀ i, i < n → w.cell? ⟨b2, i * 3 + 1, none⟩ = some (.int .i64 (v i))) ∧ (∀ i, i < n → w.cell? ⟨b2, i * 3 + 2, none⟩ = some (.string (S i)))) := ⟨x0, x1, x2, y0, y1, y2⟩
  clear x0 x1 x2 y0 y1 y2
  go_enter Yba.func14, Yba.ntmps14
  go_wp2
  go_loopg [5, 13] n (fun g _ i wr => ∃ k : Nat, k + g = n ∧ i = .int .i64 k ∧ ∃ m, wr = w.drewN m)
  case atStart => exact ⟨0, by omega, rfl, 0, rfl⟩
  case round =>
    obtain ⟨k, hk, rfl, m, rfl⟩ := hrel
    by_cases hlt : k < n
    · obtain ⟨x0, x1, x2, y0, y1, y2⟩ := H.out
      have x0' := x0 k hlt
      have x1' := x1 k hlt
      have x2' := x2 k hlt
      have y0' := y0 k hlt
      have y1' := y1 k hlt
      have y2' := y2 k hlt
      clear x0 x1 x2 y0 y1 y2
      have hi : (k : Int) < (n : Int) := by omega
      go_wp2
      go_quiet (fail)
      go_wp2
      go_roundg (gk - 1)
      case measure => go_light; omega
      case rel =>
        go_light
        exact ⟨k + 1, by omega, by go_num, m + nq, rfl⟩
    · have hi : ¬ (k : Int) < (n : Int) := by omega
      go_wp2
      go_ret
      exact ⟨rfl, m, rfl⟩

set_option maxRecDepth 100000 in
set_option maxHeartbeats 1000000 in
theorem equal15 (b1 b2 n c1 c2 : Nat) (a : Nat → Int) (b : Nat → Int) (c : Nat → Int) (D : Nat → Bool) (q : Nat → Int) (v : Nat → Int) (S : Nat → ByteArray) (w : World) (hn : n ≤ 1048577)
    (x0 : ∀ i, i < n → w.cell? ⟨b1, i * 7, none⟩ = some (.int .i32 (a i))) (x1 : ∀ i, i < n → w.cell? ⟨b1, i * 7 + 1, none⟩ = some (.int .i32 (b i))) (x2 : ∀ i, i < n → w.cell? ⟨b1, i * 7 + 2, none⟩ = some (.int .i32 (c i))) (x3 : ∀ i, i < n → w.cell? ⟨b1, i * 7 + 3, none⟩ = some (.bool (D i))) (x4 : ∀ i, i < n → w.cell? ⟨b1, i * 7 + 4, none⟩ = some (.int .u8 (q i))) (x5 : ∀ i, i < n → w.cell? ⟨b1, i * 7 + 5, none⟩ = some (.int .i64 (v i))) (x6 : ∀ i, i < n → w.cell? ⟨b1, i * 7 + 6, none⟩ = some (.string (S i))) (y0 : ∀ i, i < n → w.cell? ⟨b2, i * 7, none⟩ = some (.int .i32 (a i))) (y1 : ∀ i, i < n → w.cell? ⟨b2, i * 7 + 1, none⟩ = some (.int .i32 (b i))) (y2 : ∀ i, i < n → w.cell? ⟨b2, i * 7 + 2, none⟩ = some (.int .i32 (c i))) (y3 : ∀ i, i < n → w.cell? ⟨b2, i * 7 + 3, none⟩ = some (.bool (D i))) (y4 : ∀ i, i < n → w.cell? ⟨b2, i * 7 + 4, none⟩ = some (.int .u8 (q i))) (y5 : ∀ i, i < n → w.cell? ⟨b2, i * 7 + 5, none⟩ = some (.int .i64 (v i))) (y6 : ∀ i, i < n → w.cell? ⟨b2, i * 7 + 6, none⟩ = some (.string (S i))) :
    Calls Yba.prog 15 #[.slice (some ⟨b1, 0, none⟩) n c1, .slice (some ⟨b2, 0, none⟩) n c2] w fun e w' => e = .returned (.bool true) ∧ ∃ m, w' = w.drewN m := by
  have H : Hid ((∀ i, i < n → w.cell? ⟨b1, i * 7, none⟩ = some (.int .i32 (a i))) ∧ (∀ i, i < n → w.cell? ⟨b1, i * 7 + 1, none⟩ = some (.int .i32 (b i))) ∧ (∀ i, i < n → w.cell? ⟨b1, i * 7 + 2, none⟩ = some (.int .i32 (c i))) ∧ (∀ i, i < n → w.cell? ⟨b1, i * 7 + 3, none⟩ = some (.bool (D i))) ∧ (∀ i, i < n → w.cell? ⟨b1, i * 7 + 4, none⟩ = some (.int .u8 (q i))) ∧ (∀ i, i < n → w.cell? ⟨b1, i * 7 + 5, none⟩ = some (.int .i64 (v i))) ∧ (∀ i, i < n → w.cell? ⟨b1, i * 7 + 6, none⟩ = some (.string (S i))) ∧ (∀ i, i < n → w.cell? ⟨b2, i * 7, none⟩ = some (.int .i32 (a i))) ∧ (∀ i, i < n → w.cell? ⟨b2, i * 7 + 1, none⟩ = some (.int .i32 (b i))) ∧ (∀ i, i < n → w.cell? ⟨b2, i * 7 + 2, none⟩ = some (.int .i32 (c i))) ∧ (∀ i, i < n → w.cell? ⟨b2, i * 7 + 3, none⟩ = some (.bool (D i))) ∧ (∀ i, i < n → w.cell? ⟨b2, i * 7 + 4, none⟩ = some (.int .u8 (q i))) ∧ (∀ i, i < n → w.cell? ⟨b2, i * 7 + 5, none⟩ = some (.int .i64 (v i))) ∧ (∀ i, i < n → w.cell? ⟨b2, i * 7 + 6, none⟩ = some (.string (S i)))) := ⟨x0, x1, x2, x3, x4, x5, x6, y0, y1, y2, y3, y4, y5, y6⟩
  clear x0 x1 x2 x3 x4 x5 x6 y0 y1 y2 y3 y4 y5 y6
  go_enter Yba.func15, Yba.ntmps15
  go_wp2
  go_loopg [5, 13] n (fun g _ i wr => ∃ k : Nat, k + g = n ∧ i = .int .i64 k ∧ ∃ m, wr = w.drewN m)
  case atStart => exact ⟨0, by omega, rfl, 0, rfl⟩
  case round =>
    obtain ⟨k, hk, rfl, m, rfl⟩ := hrel
    by_cases hlt : k < n
    · obtain ⟨x0, x1, x2, x3, x4, x5, x6, y0, y1, y2, y3, y4, y5, y6⟩ := H.out
      have x0' := x0 k hlt
      have x1' := x1 k hlt
      have x2' := x2 k hlt
      have x3' := x3 k hlt
      have x4' := x4 k hlt
      have x5' := x5 k hlt
      have x6' := x6 k hlt
      have y0' := y0 k hlt
      have y1' := y1 k hlt
      have y2' := y2 k hlt
      have y3' := y3 k hlt
      have y4' := y4 k hlt
      have y5' := y5 k hlt
      have y6' := y6 k hlt
      clear x0 x1 x2 x3 x4 x5 x6 y0 y1 y2 y3 y4 y5 y6
      have hi : (k : Int) < (n : Int) := by omega
      go_wp2
      go_quiet (fail)
      go_wp2
      go_roundg (gk - 1)
      case measure => go_light; omega
      case rel =>
        go_light
        exact ⟨k + 1, by omega, by go_num, m + nq, rfl⟩
    · have hi : ¬ (k : Int) < (n : Int) := by omega
      go_wp2
      go_ret
      exact ⟨rfl, m, rfl⟩

set_option maxRecDepth 100000 in
set_option maxHeartbeats 1000000 in
theorem equal16 (b1 b2 n c1 c2 : Nat) (a : Nat → Int) (w : World) (hn : n ≤ 1048577)
    (x0 : ∀ i, i < n → w.cell? ⟨b1, i, none⟩ = some (.int .i32 (a i))) (y0 : ∀ i, i < n → w.cell? ⟨b2, i, none⟩ = some (.int .i32 (a i))) :
    Calls Yba.prog 16 #[.slice (some ⟨b1, 0, none⟩) n c1, .slice (some ⟨b2, 0, none⟩) n c2] w fun e w' => e = .returned (.bool true) ∧ ∃ m, w' = w.drewN m := by
  have H : Hid ((∀ i, i < n → w.cell? ⟨b1, i, none⟩ = some (.int .i32 (a i))) ∧ (∀ i, i < n → w.cell? ⟨b2, i, none⟩ = some (.int .i32 (a i)))) := ⟨x0, y0⟩
  clear x0 y0
  go_enter Yba.func16, Yba.ntmps16
  go_wp2
  go_loopg [5, 13] n (fun g _ i wr => ∃ k : Nat, k + g = n ∧ i = .int .i64 k ∧ ∃ m, wr = w.drewN m)
  case atStart => exact ⟨0, by omega, rfl, 0, rfl⟩
  case round =>
    obtain ⟨k, hk, rfl, m, rfl⟩ := hrel
    by_cases hlt : k < n
    · obtain ⟨x0, y0⟩ := H.out
      have x0' := x0 k hlt
      have y0' := y0 k hlt
      clear x0 y0
      have hi : (k : Int) < (n : Int) := by omega
      go_wp2
      go_quiet (fail)
      go_wp2
      go_roundg (gk - 1)
      case measure => go_light; omega
      case rel =>
        go_light
        exact ⟨k + 1, by omega, by go_num, m + nq, rfl⟩
    · have hi : ¬ (k : Int) < (n : Int) := by omega
      go_wp2
      go_ret
      exact ⟨rfl, m, rfl⟩
end Go.Proofs.Ybulkfwfy.LawB
