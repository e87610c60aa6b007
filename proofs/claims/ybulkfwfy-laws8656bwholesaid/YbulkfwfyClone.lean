/-
  LawS8656BWhole: slices.Clone at the five element types: a new row with the same cells; nothing that was there has turned.
-/
import Derived.Test.YbulkfwfyMake
import Derived.Lib.SliceRun
namespace Go.Proofs.Ybulkfwfy.LawB
open Go.ChangeShapes Go.WideShapes Go.ChangeAt Go.RowKit

/-- What is known of a clone of n elements of 'size' cells each, cell i holding 'f i'. -/
def Cloned (w w' : World) (g n size : Nat) (f : Nat → Value) : Prop :=
  w.heap.size ≤ g ∧ g < w'.heap.size ∧ Below w.heap.size w w' ∧ ∀ i, i < n * size → w'.cell? ⟨g, i, none⟩ = some (f i)

theorem own_empty (w : World) (e : TypeId) (size : Nat) : (w.alloc (.cells #[] e)).ownsRow w.heap.size e size (.slice (some ⟨w.heap.size, 0, none⟩) 0 0) 0 [] :=
  World.ownsRow_made w #[] 0 (Nat.le_refl _) (by unfold maxLen; omega) (by simp)

theorem news_of {w : World} {b : Nat} {e e' : TypeId} {m k : Nat} {f : Nat → Value} (hrow : w.rowIs b e m f) (hk : k ≤ m) :
    ∀ j u, ((List.range k).map f)[j]? = some u → (w.alloc (.cells #[] e')).cell? ((⟨b, 0, none⟩ : Addr).add j) = some u := fun j u h => by
  have e : ((⟨b, 0, none⟩ : Addr).add j) = ⟨b, j, none⟩ := by unfold Addr.add; split <;> simp_all
  rw [e]
  simp only [List.getElem?_map, Option.map_eq_some_iff] at h
  obtain ⟨i, hi, rfl⟩ := h
  obtain ⟨hlt, hij⟩ := List.getElem?_eq_some_iff.1 hi
  simp only [List.getElem_range] at hij
  subst hij
  have hj : j < k := by simpa using hlt
  exact (hrow.alloc _).cell (by omega)

theorem cloned_of {w w1 : World} {v : Value} {e : TypeId} {n size : Nat} {f : Nat → Value} (hown : w1.ownsRow w.heap.size e size v n ((List.range (n * size)).map f)) (hne : ¬ v = .slice none 0 0)
    (hg : (w.alloc (.cells #[] e)).grownBy w1 (some w.heap.size)) : ∃ g c, v = .slice (some ⟨g, 0, none⟩) n c ∧ Cloned w w1 g n size f := by
  rcases hown.2 with ⟨h, _⟩ | ⟨g, cap, cur, rfl, hb, hh, _⟩
  · exact absurd h hne
  · refine ⟨g, cap, rfl, hb, (Array.getElem?_eq_some_iff.1 hh).1, ((Below.refl _ _).alloc (Nat.le_refl _) _).grown hg (by simp) (fun k hk => by cases hk; exact Nat.le_refl _), fun i hi => ?_⟩
    have := hown.cells (g := g) rfl i (f i) (by simp [hi])
    have e : ((⟨g, 0, none⟩ : Addr).add i) = ⟨g, i, none⟩ := by unfold Addr.add; split <;> simp_all
    rwa [e] at this

theorem clone6 (b n cap m : Nat) (f : Nat → Value) (w : World) (hrow : w.rowIs b 9 m f) (hn : n * 1 ≤ m) (hlen : n ≤ 1048577) (hone : ∀ i, (f i).oneCell' = true) :
    Calls Yba.prog 6 #[.slice (some ⟨b, 0, none⟩) n cap] w fun e w' => ∃ g c, e = .returned (.slice (some ⟨g, 0, none⟩) n c) ∧ Cloned w w' g n 1 f := by
  have q : ∀ (w : World) (a : Option Addr) (n c n' c' : Nat), (binOp .eql 30 (.slice a n c) (.slice none n' c')).run Yba.prog w = .ok (.bool a.isNone) w := fun w a n c n' c' => Lib.run_eql_slice_nil w _ _ a n c n' c' Yba.underlying30
  obtain ⟨i0, hi, hz0, hz1, hz2⟩ := info_parts info9
  have hown := own_empty w 9 1
  have hnews := news_of (e' := 9) hrow hn
  have h1 : ∀ u ∈ (List.range (n * 1)).map f, u.oneCell' = true := fun u hu => by obtain ⟨i, _, rfl⟩ := List.mem_map.1 hu; exact hone i
  have hl : ((List.range (n * 1)).map f).length = n * 1 := by simp
  have hb1 : 0 + n ≤ maxLen := by unfold maxLen; omega
  have hb2 : (0 + n) * 16 ≤ 140737488355328 := by omega
  have HO : Hid (_ ∧ _ ∧ _ ∧ _) := ⟨hown, hnews, h1, hl⟩
  clear hown hnews h1 hl hrow hone
  go_enter Yba.func6, Yba.ntmps6
  go_wp2_with (at_builtin; refine wpList_append_own _ rfl (.tmp 5) (.tmp 6) 30 rfl w.heap.size 9 i0 (.string ⟨#[]⟩) 1 16 Yba.underlying30 hi hz0 hz1 hz2 rfl (by decide) (.slice (some ⟨w.heap.size, 0, none⟩) 0 0) 0 [] rfl HO.out.1 ⟨b, 0, none⟩ n cap ((List.range (n * 1)).map f) rfl HO.out.2.2.2 HO.out.2.1 HO.out.2.2.1 hb1 hb2 (by simp) ?_; intro v' w1 hown1 hgrow hnil)
  rw [Nat.zero_add, List.nil_append] at hown1
  obtain ⟨g, c, rfl, hcl⟩ := cloned_of (n := n) (size := 1) (f := f) hown1 (fun e => by simpa using hnil.1 e) hgrow
  go_wp2
  go_ret
  exact ⟨g, c, rfl, hcl⟩

theorem clone7 (b n cap m : Nat) (f : Nat → Value) (w : World) (hrow : w.rowIs b 43 m f) (hn : n * 2 ≤ m) (hlen : n ≤ 1048577) (hone : ∀ i, (f i).oneCell' = true) :
    Calls Yba.prog 7 #[.slice (some ⟨b, 0, none⟩) n cap] w fun e w' => ∃ g c, e = .returned (.slice (some ⟨g, 0, none⟩) n c) ∧ Cloned w w' g n 2 f := by
  have q : ∀ (w : World) (a : Option Addr) (n c n' c' : Nat), (binOp .eql 31 (.slice a n c) (.slice none n' c')).run Yba.prog w = .ok (.bool a.isNone) w := fun w a n c n' c' => Lib.run_eql_slice_nil w _ _ a n c n' c' Yba.underlying31
  obtain ⟨i0, hi, hz0, hz1, hz2⟩ := info_parts info43
  have hown := own_empty w 43 2
  have hnews := news_of (e' := 43) hrow hn
  have h1 : ∀ u ∈ (List.range (n * 2)).map f, u.oneCell' = true := fun u hu => by obtain ⟨i, _, rfl⟩ := List.mem_map.1 hu; exact hone i
  have hl : ((List.range (n * 2)).map f).length = n * 2 := by simp
  have hb1 : 0 + n ≤ maxLen := by unfold maxLen; omega
  have hb2 : (0 + n) * 2 ≤ 140737488355328 := by omega
  have HO : Hid (_ ∧ _ ∧ _ ∧ _) := ⟨hown, hnews, h1, hl⟩
  clear hown hnews h1 hl hrow hone
  go_enter Yba.func7, Yba.ntmps7
  go_wp2_with (at_builtin; refine wpList_append_own _ rfl (.tmp 5) (.tmp 6) 31 rfl w.heap.size 43 i0 (.agg #[.bool false, .bool false]) 2 2 Yba.underlying31 hi hz0 hz1 hz2 rfl (by decide) (.slice (some ⟨w.heap.size, 0, none⟩) 0 0) 0 [] rfl HO.out.1 ⟨b, 0, none⟩ n cap ((List.range (n * 2)).map f) rfl HO.out.2.2.2 HO.out.2.1 HO.out.2.2.1 hb1 hb2 (by simp) ?_; intro v' w1 hown1 hgrow hnil)
  rw [Nat.zero_add, List.nil_append] at hown1
  obtain ⟨g, c, rfl, hcl⟩ := cloned_of (n := n) (size := 2) (f := f) hown1 (fun e => by simpa using hnil.1 e) hgrow
  go_wp2
  go_ret
  exact ⟨g, c, rfl, hcl⟩

theorem clone8 (b n cap m : Nat) (f : Nat → Value) (w : World) (hrow : w.rowIs b 46 m f) (hn : n * 3 ≤ m) (hlen : n ≤ 1048577) (hone : ∀ i, (f i).oneCell' = true) :
    Calls Yba.prog 8 #[.slice (some ⟨b, 0, none⟩) n cap] w fun e w' => ∃ g c, e = .returned (.slice (some ⟨g, 0, none⟩) n c) ∧ Cloned w w' g n 3 f := by
  have q : ∀ (w : World) (a : Option Addr) (n c n' c' : Nat), (binOp .eql 32 (.slice a n c) (.slice none n' c')).run Yba.prog w = .ok (.bool a.isNone) w := fun w a n c n' c' => Lib.run_eql_slice_nil w _ _ a n c n' c' Yba.underlying32
  obtain ⟨i0, hi, hz0, hz1, hz2⟩ := info_parts info46
  have hown := own_empty w 46 3
  have hnews := news_of (e' := 46) hrow hn
  have h1 : ∀ u ∈ (List.range (n * 3)).map f, u.oneCell' = true := fun u hu => by obtain ⟨i, _, rfl⟩ := List.mem_map.1 hu; exact hone i
  have hl : ((List.range (n * 3)).map f).length = n * 3 := by simp
  have hb1 : 0 + n ≤ maxLen := by unfold maxLen; omega
  have hb2 : (0 + n) * 32 ≤ 140737488355328 := by omega
  have HO : Hid (_ ∧ _ ∧ _ ∧ _) := ⟨hown, hnews, h1, hl⟩
  clear hown hnews h1 hl hrow hone
  go_enter Yba.func8, Yba.ntmps8
  go_wp2_with (at_builtin; refine wpList_append_own _ rfl (.tmp 5) (.tmp 6) 32 rfl w.heap.size 46 i0 (.agg #[.int .u8 0, .int .i64 0, .string ⟨#[]⟩]) 3 32 Yba.underlying32 hi hz0 hz1 hz2 rfl (by decide) (.slice (some ⟨w.heap.size, 0, none⟩) 0 0) 0 [] rfl HO.out.1 ⟨b, 0, none⟩ n cap ((List.range (n * 3)).map f) rfl HO.out.2.2.2 HO.out.2.1 HO.out.2.2.1 hb1 hb2 (by simp) ?_; intro v' w1 hown1 hgrow hnil)
  rw [Nat.zero_add, List.nil_append] at hown1
  obtain ⟨g, c, rfl, hcl⟩ := cloned_of (n := n) (size := 3) (f := f) hown1 (fun e => by simpa using hnil.1 e) hgrow
  go_wp2
  go_ret
  exact ⟨g, c, rfl, hcl⟩

theorem clone9 (b n cap m : Nat) (f : Nat → Value) (w : World) (hrow : w.rowIs b 50 m f) (hn : n * 7 ≤ m) (hlen : n ≤ 1048577) (hone : ∀ i, (f i).oneCell' = true) :
    Calls Yba.prog 9 #[.slice (some ⟨b, 0, none⟩) n cap] w fun e w' => ∃ g c, e = .returned (.slice (some ⟨g, 0, none⟩) n c) ∧ Cloned w w' g n 7 f := by
  have q : ∀ (w : World) (a : Option Addr) (n c n' c' : Nat), (binOp .eql 34 (.slice a n c) (.slice none n' c')).run Yba.prog w = .ok (.bool a.isNone) w := fun w a n c n' c' => Lib.run_eql_slice_nil w _ _ a n c n' c' Yba.underlying34
  obtain ⟨i0, hi, hz0, hz1, hz2⟩ := info_parts info50
  have hown := own_empty w 50 7
  have hnews := news_of (e' := 50) hrow hn
  have h1 : ∀ u ∈ (List.range (n * 7)).map f, u.oneCell' = true := fun u hu => by obtain ⟨i, _, rfl⟩ := List.mem_map.1 hu; exact hone i
  have hl : ((List.range (n * 7)).map f).length = n * 7 := by simp
  have hb1 : 0 + n ≤ maxLen := by unfold maxLen; omega
  have hb2 : (0 + n) * 48 ≤ 140737488355328 := by omega
  have HO : Hid (_ ∧ _ ∧ _ ∧ _) := ⟨hown, hnews, h1, hl⟩
  clear hown hnews h1 hl hrow hone
  go_enter Yba.func9, Yba.ntmps9
  go_wp2_with (at_builtin; refine wpList_append_own _ rfl (.tmp 5) (.tmp 6) 34 rfl w.heap.size 50 i0 (.agg #[.int .i32 0, .int .i32 0, .int .i32 0, .bool false, .int .u8 0, .int .i64 0, .string ⟨#[]⟩]) 7 48 Yba.underlying34 hi hz0 hz1 hz2 rfl (by decide) (.slice (some ⟨w.heap.size, 0, none⟩) 0 0) 0 [] rfl HO.out.1 ⟨b, 0, none⟩ n cap ((List.range (n * 7)).map f) rfl HO.out.2.2.2 HO.out.2.1 HO.out.2.2.1 hb1 hb2 (by simp) ?_; intro v' w1 hown1 hgrow hnil)
  rw [Nat.zero_add, List.nil_append] at hown1
  obtain ⟨g, c, rfl, hcl⟩ := cloned_of (n := n) (size := 7) (f := f) hown1 (fun e => by simpa using hnil.1 e) hgrow
  go_wp2
  go_ret
  exact ⟨g, c, rfl, hcl⟩

theorem clone10 (b n cap m : Nat) (f : Nat → Value) (w : World) (hrow : w.rowIs b 21 m f) (hn : n * 1 ≤ m) (hlen : n ≤ 1048577) (hone : ∀ i, (f i).oneCell' = true) :
    Calls Yba.prog 10 #[.slice (some ⟨b, 0, none⟩) n cap] w fun e w' => ∃ g c, e = .returned (.slice (some ⟨g, 0, none⟩) n c) ∧ Cloned w w' g n 1 f := by
  have q : ∀ (w : World) (a : Option Addr) (n c n' c' : Nat), (binOp .eql 35 (.slice a n c) (.slice none n' c')).run Yba.prog w = .ok (.bool a.isNone) w := fun w a n c n' c' => Lib.run_eql_slice_nil w _ _ a n c n' c' Yba.underlying35
  obtain ⟨i0, hi, hz0, hz1, hz2⟩ := info_parts info21
  have hown := own_empty w 21 1
  have hnews := news_of (e' := 21) hrow hn
  have h1 : ∀ u ∈ (List.range (n * 1)).map f, u.oneCell' = true := fun u hu => by obtain ⟨i, _, rfl⟩ := List.mem_map.1 hu; exact hone i
  have hl : ((List.range (n * 1)).map f).length = n * 1 := by simp
  have hb1 : 0 + n ≤ maxLen := by unfold maxLen; omega
  have hb2 : (0 + n) * 4 ≤ 140737488355328 := by omega
  have HO : Hid (_ ∧ _ ∧ _ ∧ _) := ⟨hown, hnews, h1, hl⟩
  clear hown hnews h1 hl hrow hone
  go_enter Yba.func10, Yba.ntmps10
  go_wp2_with (at_builtin; refine wpList_append_own _ rfl (.tmp 5) (.tmp 6) 35 rfl w.heap.size 21 i0 (.int .i32 0) 1 4 Yba.underlying35 hi hz0 hz1 hz2 rfl (by decide) (.slice (some ⟨w.heap.size, 0, none⟩) 0 0) 0 [] rfl HO.out.1 ⟨b, 0, none⟩ n cap ((List.range (n * 1)).map f) rfl HO.out.2.2.2 HO.out.2.1 HO.out.2.2.1 hb1 hb2 (by simp) ?_; intro v' w1 hown1 hgrow hnil)
  rw [Nat.zero_add, List.nil_append] at hown1
  obtain ⟨g, c, rfl, hcl⟩ := cloned_of (n := n) (size := 1) (f := f) hown1 (fun e => by simpa using hnil.1 e) hgrow
  go_wp2
  go_ret
  exact ⟨g, c, rfl, hcl⟩
end Go.Proofs.Ybulkfwfy.LawB
