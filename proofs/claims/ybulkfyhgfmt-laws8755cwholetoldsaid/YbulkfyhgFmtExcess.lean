/-
  'excess': the empty text just where the item fits; Errorf's make; 'end'.
-/
import Derived.Test.YbulkfyhgFmtRows
import Derived.Test.YbulkfyhgFmtFmt
import Derived.Test.YbulkfyhgFmtChan
import Derived.WalkKit
import Derived.WalkSpells
import Derived.Deep.Light
namespace Go.Proofs.YbulkfyhgFmt
open Go.RowKit Go.Extern.Stop Go.Stop Go.Extern

/-- What Sprintf is asked at the two formats. -/
def moreReading (x : Int) : List (List UInt8) := [[109, 111, 114, 101, 32, 116, 104, 97, 110, 32, 116, 104, 101, 32, 37, 100, 32, 116, 104, 101, 32, 114, 101, 108, 97, 121, 32, 107, 101, 101, 112, 115], Ybaf.shape22, digits 8 (x % 18446744073709551616).toNat]
def bytsReading (x y : Int) : List (List UInt8) := [[37, 100, 32, 98, 121, 116, 101, 115, 44, 32, 109, 111, 114, 101, 32, 116, 104, 97, 110, 32, 116, 104, 101, 32, 37, 100, 32, 116, 104, 101, 32, 114, 101, 108, 97, 121, 32, 107, 101, 101, 112, 115], Ybaf.shape22, digits 8 (x % 18446744073709551616).toNat, Ybaf.shape22, digits 8 (y % 18446744073709551616).toNat]
/-- The two texts are never empty. -/
def Full (F : Interp) : Prop := (∀ x, 0 ≤ x → x ≤ 18446744073709551615 → FmtStop.textOf (F "fmt.Sprintf" (moreReading x) 0) ≠ ⟨#[]⟩) ∧ (∀ x y, 0 ≤ x → x ≤ 18446744073709551615 → 0 ≤ y → y ≤ 18446744073709551615 → FmtStop.textOf (F "fmt.Sprintf" (bytsReading x y) 0) ≠ ⟨#[]⟩)

set_option maxHeartbeats 400000 in
theorem excess_more (F : Interp) (b : Nat) (p ip : Option Addr) (n cap l c : Nat) (mx bb : Int) (w : World) (hF : F.answers w.tape)
    (c2 : w.cell? ⟨b, 2, none⟩ = some (.int .u64 mx)) (c6 : w.cell? ⟨b, 6, none⟩ = some (.slice p n cap)) (c7 : w.cell? ⟨b, 7, none⟩ = some (.int .u64 bb))
    (hn : n < 4611686018427387904) (hl : l < 4611686018427387904) (h : mx < (n : Int) + 1) :
    Calls Ybaf.prog 11 #[.pointer (some ⟨b, 0, none⟩), .slice ip l c] w fun e w' => e = .returned (.string (FmtStop.textOf (F "fmt.Sprintf" (moreReading mx) 0))) ∧ Below w.heap.size w w' := by
  have hF' := answers_open hF
  go_enter Ybaf.func11, Ybaf.ntmps11
  go_wp2
  go_region
  go_wp2
  go_ret
  exact ⟨rfl, (((Below.refl _ _).alloc (Nat.le_refl _) _).drew).drew⟩
set_option maxHeartbeats 400000 in
theorem excess_byts (F : Interp) (b : Nat) (p ip : Option Addr) (n cap l c : Nat) (mx mb bb : Int) (w : World) (hF : F.answers w.tape)
    (c2 : w.cell? ⟨b, 2, none⟩ = some (.int .u64 mx)) (c3 : w.cell? ⟨b, 3, none⟩ = some (.int .u64 mb)) (c6 : w.cell? ⟨b, 6, none⟩ = some (.slice p n cap)) (c7 : w.cell? ⟨b, 7, none⟩ = some (.int .u64 bb))
    (hn : n < 4611686018427387904) (hl : l < 4611686018427387904) (h : ¬ mx < (n : Int) + 1) (h2 : mb < IntKind.u64.wrap (bb + l)) :
    Calls Ybaf.prog 11 #[.pointer (some ⟨b, 0, none⟩), .slice ip l c] w fun e w' => e = .returned (.string (FmtStop.textOf (F "fmt.Sprintf" (bytsReading (IntKind.u64.wrap (bb + l)) mb) 0))) ∧ Below w.heap.size w w' := by
  have hF' := answers_open hF
  go_enter Ybaf.func11, Ybaf.ntmps11
  go_wp2
  go_region
  go_wp2
  go_ret
  exact ⟨rfl, (((Below.refl _ _).alloc (Nat.le_refl _) _).drew).drew⟩
set_option maxHeartbeats 400000 in
theorem excess_fits (F : Interp) (b : Nat) (p ip : Option Addr) (n cap l c : Nat) (mx mb bb : Int) (w : World) (hF : F.answers w.tape)
    (c2 : w.cell? ⟨b, 2, none⟩ = some (.int .u64 mx)) (c3 : w.cell? ⟨b, 3, none⟩ = some (.int .u64 mb)) (c6 : w.cell? ⟨b, 6, none⟩ = some (.slice p n cap)) (c7 : w.cell? ⟨b, 7, none⟩ = some (.int .u64 bb))
    (hn : n < 4611686018427387904) (hl : l < 4611686018427387904) (h : ¬ mx < (n : Int) + 1) (h2 : ¬ mb < IntKind.u64.wrap (bb + l)) :
    Calls Ybaf.prog 11 #[.pointer (some ⟨b, 0, none⟩), .slice ip l c] w fun e w' => e = .returned (.string ⟨#[]⟩) ∧ Below w.heap.size w w' := by
  have hF' := answers_open hF
  go_enter Ybaf.func11, Ybaf.ntmps11
  go_wp2
  go_region
  go_wp2
  go_ret
  exact ⟨rfl, (Below.refl _ _).drew⟩

/-- The item fits. -/
def Fits (n l : Nat) (mx mb bb : Int) : Prop := (n : Int) + 1 ≤ mx ∧ IntKind.u64.wrap (bb + l) ≤ mb

theorem excess (F : Interp) (hT : Full F) (b : Nat) (p ip : Option Addr) (n cap l c : Nat) (mx mb bb : Int) (w : World) (hF : F.answers w.tape)
    (c2 : w.cell? ⟨b, 2, none⟩ = some (.int .u64 mx)) (c3 : w.cell? ⟨b, 3, none⟩ = some (.int .u64 mb)) (c6 : w.cell? ⟨b, 6, none⟩ = some (.slice p n cap)) (c7 : w.cell? ⟨b, 7, none⟩ = some (.int .u64 bb))
    (hn : n < 4611686018427387904) (hl : l < 4611686018427387904) (hx : 0 ≤ mx ∧ mx ≤ 18446744073709551615) (hm : 0 ≤ mb ∧ mb ≤ 18446744073709551615) :
    Calls Ybaf.prog 11 #[.pointer (some ⟨b, 0, none⟩), .slice ip l c] w fun e w' => ∃ t, e = .returned (.string t) ∧ (Fits n l mx mb bb → t = ⟨#[]⟩) ∧ (¬ Fits n l mx mb bb → t ≠ ⟨#[]⟩) ∧ Below w.heap.size w w' := by
  by_cases h : mx < (n : Int) + 1
  · refine (excess_more F b p ip n cap l c mx bb w hF c2 c6 c7 hn hl h).mono ?_
    rintro e w' ⟨rfl, hb⟩
    exact ⟨_, rfl, fun f => absurd f.1 (by omega), fun _ => hT.1 mx hx.1 hx.2, hb⟩
  · by_cases h2 : mb < IntKind.u64.wrap (bb + l)
    · refine (excess_byts F b p ip n cap l c mx mb bb w hF c2 c3 c6 c7 hn hl h h2).mono ?_
      rintro e w' ⟨rfl, hb⟩
      have hw : 0 ≤ IntKind.u64.wrap (bb + l) ∧ IntKind.u64.wrap (bb + l) ≤ 18446744073709551615 := by
        simp [IntKind.wrap, IntKind.signed, IntKind.bits]
        omega
      exact ⟨_, rfl, fun f => absurd f.2 (by omega), fun _ => hT.2 _ mb hw.1 hw.2 hm.1 hm.2, hb⟩
    · refine (excess_fits F b p ip n cap l c mx mb bb w hF c2 c3 c6 c7 hn hl h h2).mono ?_
      rintro e w' ⟨rfl, hb⟩
      exact ⟨_, rfl, fun _ => rfl, fun f => absurd ⟨by omega, by omega⟩ f, hb⟩

set_option maxHeartbeats 400000 in
theorem errorf_letgo (F : Interp) (x : Int) (t : ByteArray) (q : Nat) (w : World) (hF : F.answers w.tape)
    (h0 : w.cell? ⟨q, 0, none⟩ = some (.iface 3 (.int .i64 x))) (h1 : w.cell? ⟨q, 1, none⟩ = some (.iface 9 (.string t))) :
    Calls Ybaf.prog 13 #[.string ⟨#[108, 101, 116, 32, 103, 111, 32, 111, 102, 32, 116, 104, 101, 32, 37, 100, 32, 105, 116, 101, 109, 115, 32, 105, 116, 32, 104, 97, 100, 32, 110, 111, 116, 32, 97, 99, 107, 110, 111, 119, 108, 101, 100, 103, 101, 100, 44, 32, 37, 115]⟩, .slice (some ⟨q, 0, none⟩) 2 2] w fun e w' => ∃ v, e = .returned (.iface 59 v) ∧ Below w.heap.size w w' := by
  have hF' := answers_open hF
  go_enter Ybaf.func13, Ybaf.ntmps13
  go_wp2
  go_ret
  exact ⟨_, rfl, by go_light; exact ((Below.refl _ _).drew).alloc (Nat.le_refl _) _⟩

set_option maxHeartbeats 400000 in
theorem errorf_acks (F : Interp) (x y : Int) (q : Nat) (w : World) (hF : F.answers w.tape)
    (h0 : w.cell? ⟨q, 0, none⟩ = some (.iface 22 (.int .u64 x))) (h1 : w.cell? ⟨q, 1, none⟩ = some (.iface 22 (.int .u64 y))) :
    Calls Ybaf.prog 13 #[.string ⟨#[105, 116, 32, 97, 99, 107, 110, 111, 119, 108, 101, 100, 103, 101, 115, 32, 105, 116, 101, 109, 32, 37, 100, 44, 32, 97, 110, 100, 32, 116, 104, 101, 32, 115, 116, 114, 101, 97, 109, 32, 104, 97, 115, 32, 37, 100]⟩, .slice (some ⟨q, 0, none⟩) 2 2] w fun e w' => ∃ v, e = .returned (.iface 59 v) ∧ Below w.heap.size w w' := by
  have hF' := answers_open hF
  go_enter Ybaf.func13, Ybaf.ntmps13
  go_wp2
  go_ret
  exact ⟨_, rfl, by go_light; exact ((Below.refl _ _).drew).alloc (Nat.le_refl _) _⟩

theorem errors_new (t : ByteArray) (w : World) : Calls Ybaf.prog 17 #[.string t] w fun e w' => ∃ v, e = .returned (.iface 59 v) ∧ Below w.heap.size w w' := by
  go_enter Ybaf.func17, Ybaf.ntmps17
  go_wp2
  go_ret
  exact ⟨_, rfl, (Below.refl _ _).alloc (Nat.le_refl _) _⟩
end Go.Proofs.YbulkfyhgFmt
