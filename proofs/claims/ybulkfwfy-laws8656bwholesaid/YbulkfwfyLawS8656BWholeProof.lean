/-
  The proof of Rows.LawS8656BWholeSaid: the frame after the guide's own way for a law over slices (proof-skeleton.mjs), at slices of structs; the walk is in YbulkfwfyLawBWalk.
-/
import Derived.Test.YbulkfwfyRows
import Derived.Test.YbulkfwfyLawBWalk
import Derived.Test.YbulkfwfyOpen
import Derived.WalkKit
import Derived.ProofKit
import Derived.OpenShut
import Derived.ShutString
import Derived.ChangeOld
import Derived.Below
import Derived.SizedLaws
namespace Go.Proofs.Ybulkfwfy.lawS8656BWhole
open Go.ChangeShapes Go.WideShapes Go.ChangeAt Go.RowKit
open Go.ChangeMaps (open_string shut_string)
set_option linter.unusedVariables false

theorem own : ownKnob Yba.prog.godebug = none := by kernel_rfl
theorem laidOut : laidOutB Yba.prog = true := by kernel_rfl
theorem bytes41 : Yba.prog.bytesOf 41 = 32 := by kernel_rfl
theorem bytes48 : Yba.prog.bytesOf 48 = 40 := by kernel_rfl

set_option maxRecDepth 100000 in
/-- The law's way out for long inputs. -/
theorem walk_big (ga ba : Option Addr) (ng cg nb cb : Nat) (fl nm : Int) (h1 : ng ≤ 140737488351232) (h2 : nb ≤ 140737488351232) (hsum : ¬ ng + nb ≤ 1048576) (w : World) :
    Calls Yba.prog 3 #[.slice ga ng cg, .slice ba nb cb, .int .u32 fl, .int .u32 nm] w fun e w' => e = .returned (.bool true) ∧ Below w.heap.size w w' := by
  have hs : 1048576 < (ng : Int) + (nb : Int) := by omega
  go_enter Yba.func3, Yba.ntmps3
  go_wp2
  go_ret
  exact ⟨rfl, Below.refl _ _⟩

/-- The length of a slice that is read. -/
theorem read_len {H : Type} {enc : TypeId × Value → H} {w : World} {spare : Nat → Bool} {held : Bool} {a : Option Addr} {len cap : Nat} {d : DataW H} {p : List MemPlace} {T E : TypeId} (hT : Yba.prog.underlying T = some (.slice E))
    (h : DataW.Trod enc Yba.prog w 0 spare held T (.slice a len cap) d p) : len = 0 ∨ ∃ es sp, d = .slice es sp ∧ es.length = len := by
  obtain ⟨fuel, hf⟩ := h
  rcases Deep.open_slice hT hf with ⟨hcs, _⟩ | ⟨ad, l, c, m, n, D, Pl, hcs, _, _, _, _, hx, _⟩
  · simp [Value.cells] at hcs
    exact .inl hcs.2.1
  · simp [Value.cells] at hcs
    obtain ⟨rfl, rfl, rfl⟩ := hcs
    simp only [Prod.mk.injEq] at hx
    exact .inr ⟨_, _, hx.1, by simp⟩

set_option maxRecDepth 100000 in
theorem lifted (os : Os) (started : os.Started) (H : Type) (enc : TypeId × Value → H) :
    ReturnsInHanded {} Yba.checked os 3 .any (Rows.lawS8656BWholeSpec.pre6 enc Yba.prog Yba.f3 Rows.lawS8656BWholeRow.domain false) (Rows.lawS8656BWholeSpec.post enc Yba.prog Yba.f3 false true false false) := by
  refine returnsInHanded_of_change_sized (C := Yba.checked) own started (by kernel_rfl) Yba.func3
    (ChangeSpec.witness6 (enc := enc) (C := Yba.checked) false ⟨#[], #[.slice none 0 0, .slice none 0 0, .int .u32 0, .int .u32 0], []⟩ 8 (by kernel_rfl) (by kernel_rfl) (by kernel_rfl) (by kernel_rfl)) ?_
  intro W base args ds gs before hval0 hW hcnd hsz0 _
  have hsz : (DataW.weightsEach Yba.prog (Yba.f3.params.toList ++ Rows.lawS8656BWholeSpec.plain.varTypes Yba.prog) (ds ++ gs)).all (· ≤ reachBytes) = true := hsz0
  clear hsz0
  have hval : ∀ (j : Nat) t v, Yba.f3.params[j]? = some t → args[j]? = some v → Value.okWide Yba.prog W .any base t v := hval0
  have hW' := hW
  obtain ⟨p, q, hA0, hV, rfl, hfz, hnd⟩ := hW
  have hA : DataW.TrodAll enc Yba.prog W 0 (fun _ => true) true Yba.f3.params.toList args.toList ds p := hA0
  rw [Yba.params3] at hA hval hsz
  obtain ⟨v0, vs0, d0, ds0, p0, q0, hargs, rfl, rfl, h0, r0⟩ := trodAll_cons hA
  obtain ⟨v1, vs1, d1, ds1, p1, q1, rfl, rfl, rfl, h1, r1⟩ := trodAll_cons r0
  obtain ⟨v2, vs2, d2, ds2, p2, q2, rfl, rfl, rfl, h2, r2⟩ := trodAll_cons r1
  obtain ⟨v3, vs3, d3, ds3, p3, q3, rfl, rfl, rfl, h3, r3⟩ := trodAll_cons r2
  obtain ⟨rfl, rfl, rfl⟩ := trodAll_nil r3
  obtain rfl : args = #[v0, v1, v2, v3] := by cases args; simp_all
  obtain ⟨rfl, rfl⟩ := trodVars_none hV
  obtain ⟨a0, len0, cap0, rfl⟩ := okWide_slice Yba.underlying22 (hval 0 22 v0 rfl rfl)
  obtain ⟨a1, len1, cap1, rfl⟩ := okWide_slice Yba.underlying23 (hval 1 23 v1 rfl rfl)
  have k0 := h0
  have lt0 : ∀ x ∈ p0, x.block < W.heap.size := by obtain ⟨m, hm⟩ := k0; exact DataW.trod_lt m _ _ _ hm
  have k1 := h1
  have lt1 : ∀ x ∈ p1, x.block < W.heap.size := by obtain ⟨m, hm⟩ := k1; exact DataW.trod_lt m _ _ _ hm
  obtain ⟨gb, go, gD, gK, gq, gi, gs, hga, hgb, hg⟩ := LawB.open_globals h0
  obtain ⟨bb, bo, bN, bS, bK, bq, bi, bs, hba, hbb, hb⟩ := LawB.open_binds h1
  have s0 : len0 ≤ 140737488351232 := by
    rcases read_len Yba.underlying22 h0 with h | ⟨es, sp, rfl, hl⟩
    · omega
    · have := sized_slice hsz (j := 0) (t := 22) (e := 41) rfl rfl Yba.underlying22
      rw [bytes41] at this
      simp only [reachBytes] at this
      omega
  have s1 : len1 ≤ 140737488351232 := by
    rcases read_len Yba.underlying23 h1 with h | ⟨es, sp, rfl, hl⟩
    · omega
    · have := sized_slice hsz (j := 1) (t := 23) (e := 48) rfl rfl Yba.underlying23
      rw [bytes48] at this
      simp only [reachBytes] at this
      omega
  obtain ⟨a2, rfl, rfl, rfl, w2⟩ := open_int Yba.underlying24 (hval 2 24 v2 rfl rfl) h2
  obtain ⟨a3, rfl, rfl, rfl, w3⟩ := open_int Yba.underlying24 (hval 3 24 v3 rfl rfl) h3
  clear hA0 hval0 hsz
  have fin : Calls Yba.prog 3 #[.slice a0 len0 cap0, .slice a1 len1 cap1, .int .u32 a2, .int .u32 a3] W fun e w' => e = .returned (.bool true) ∧ Below W.heap.size W w' := by
    by_cases hsum : len0 + len1 ≤ 1048576
    · refine LawB.walk a0 a1 len0 cap0 len1 cap1 a2 a3 hsum gb go hga gD gK gq gi gs W hgb bb bo hba hbb (fun i => if i < len1 then bN i else 0) bS bK bq bi bs (fun i => ?_) (bounds_u32 w2) (bounds_u32 w3) (fun i hi => ?_)
        (fun i hi => (hg i hi).1.1) (fun i hi => (hg i hi).1.2.1) (fun i hi => (hg i hi).1.2.2.1) (fun i hi => (hg i hi).1.2.2.2.1) (fun i hi => (hg i hi).1.2.2.2.2)
      · show 0 ≤ (if i < len1 then bN i else 0) ∧ (if i < len1 then bN i else 0) ≤ 4294967295
        by_cases hi : i < len1
        · rw [if_pos hi]; exact bounds_u32 (hb i hi).2.1
        · rw [if_neg hi]; omega
      · simp only [if_pos hi]
        exact (hb i hi).1
    · exact walk_big a0 a1 len0 cap0 len1 cap1 a2 a3 s0 s1 hsum W
  refine fin.mono fun e W' ⟨he, bel⟩ => ?_
  subst he
  exact ⟨_, rfl, _, _, _, [], _, [], hW', trodAll_mk1 (shut_bool Yba.underlying4 _), (trodAll_cons_mk (Below.trod laidOut (by kernel_rfl) (of_decide_eq_true (by kernel_rfl)) k0 bel lt0) (trodAll_cons_mk (Below.trod laidOut (by kernel_rfl) (of_decide_eq_true (by kernel_rfl)) k1 bel lt1) (trodAll_cons_mk (shut_int Yba.underlying24 w2) (trodAll_cons_mk (shut_int Yba.underlying24 w3) trodAll_mk0)))), rfl, bel.frame _, fun h => by cases h⟩

theorem over : Rows.lawS8656BWholeRow.holds Yba.pinned (OpenSpec.ofChange Rows.lawS8656BWholeSpec) :=
  OpenClaim.holds_of_wide 3 Yba.f3 rfl rfl rfl rfl rfl rfl rfl ⟨rfl, rfl, rfl, rfl, rfl⟩ rfl rfl rfl rfl rfl (by kernel_rfl) Yba.func3 (by kernel_rfl)
    (of_decide_eq_true (by kernel_rfl)) (by unfold Func.isWrapper; first | (rw [if_pos (by decide +kernel)]; kernel_rfl) | (rw [if_neg (by decide +kernel)]; exact ⟨rfl, rfl⟩))
    (fun os started H enc _ => lifted os started H enc)

/-- THE STATEMENT. -/
theorem proved : Rows.LawS8656BWholeSaid := over
end Go.Proofs.Ybulkfwfy.lawS8656BWhole
