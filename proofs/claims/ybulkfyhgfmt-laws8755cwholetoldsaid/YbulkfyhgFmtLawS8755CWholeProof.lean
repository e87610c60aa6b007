/-
  The proof of Rows.LawS8755CWholeToldSaid: the told card. The walk is in YbulkfyhgFmtLaw (for every F whose two texts are not empty); here the argument is opened, the texts are told, the card is closed.
-/
import Derived.Test.YbulkfyhgFmtCards
import Derived.Test.YbulkfyhgFmtLaw
import Derived.Test.YbulkfyhgFmtOpen
import Derived.Test.YbulkfyhgFmtTexts
import Derived.ProofKit
import Derived.OpenShut
import Derived.ChangeOld
import Derived.Below
import Derived.SizedLaws
import Derived.Stop.JoinedAt
import Derived.Stop.JoinedTold
import Derived.SevenToldRow
namespace Go.Proofs.YbulkfyhgFmt.lawS8755CWhole
open Go.ChangeShapes Go.WideShapes Go.ChangeAt Go.RowKit Go.Kit
open Go.Extern.Stop Go.Stop Go.Extern
set_option linter.unusedVariables false

theorem laidOut : laidOutB Ybaf.prog = true := by kernel_rfl
theorem bytes25 : Ybaf.prog.bytesOf 25 = 40 := by kernel_rfl

set_option maxRecDepth 100000 in
/-- The law's way out for long scripts. -/
theorem walk_big (mx mb : Int) (pa : Option Addr) (n cp : Nat) (h1 : n ≤ 140737488351232) (hn : ¬ n ≤ 4096) (w : World) :
    Calls Ybaf.prog 3 #[.int .u64 mx, .int .u64 mb, .slice pa n cp] w fun e w' => e = .returned (.bool true) ∧ Below w.heap.size w w' := by
  have hs : (4096 : Int) < (n : Int) := by omega
  go_enter Ybaf.func3, Ybaf.ntmps3
  go_wp2
  go_ret
  exact ⟨rfl, Below.refl _ _⟩

/-- The length of a slice that is read. -/
theorem read_len {H : Type} {enc : TypeId × Value → H} {w : World} {spare : Nat → Bool} {held : Bool} {a : Option Addr} {len cap : Nat} {d : DataW H} {p : List MemPlace} {T E : TypeId} (hT : Ybaf.prog.underlying T = some (.slice E))
    (h : DataW.Trod enc Ybaf.prog w 0 spare held T (.slice a len cap) d p) : len = 0 ∨ ∃ es sp, d = .slice es sp ∧ es.length = len := by
  obtain ⟨fuel, hf⟩ := h
  rcases Deep.open_slice hT hf with ⟨hcs, _⟩ | ⟨ad, l, c, m, n, D, Pl, hcs, _, _, _, _, hx, _⟩
  · simp [Value.cells] at hcs
    exact .inl hcs.2.1
  · simp [Value.cells] at hcs
    obtain ⟨rfl, rfl, rfl⟩ := hcs
    simp only [Prod.mk.injEq] at hx
    exact .inr ⟨_, _, hx.1, by simp⟩

theorem bounds_u64 {x : Int} (h : (Lit.int .u64 x).wf = true) : 0 ≤ x ∧ x ≤ 18446744073709551615 := by
  simp [Lit.wf, IntKind.min, IntKind.max, IntKind.signed, IntKind.bits] at h
  omega
theorem bounds_u8 {x : Int} (h : (Lit.int .u8 x).wf = true) : 0 ≤ x ∧ x ≤ 255 := by
  simp [Lit.wf, IntKind.min, IntKind.max, IntKind.signed, IntKind.bits] at h
  omega

set_option maxRecDepth 100000 in
theorem lifted (os : Os) (started : os.Started) (H : Type) (enc : TypeId × Value → H) :
    ReturnsInTold none {} Ybaf.checked os 3 .any Input.okWide ((OpenSpec.ofChange Rows.lawS8755CWholeSpec).preRow enc Ybaf.prog Ybaf.f3 [] false []) (fun F => ((OpenSpec.ofChange Rows.lawS8755CWholeSpec).at F).post enc Ybaf.prog Ybaf.f3 false true false false) (aloneAtReturn Ybaf.prog) nothingAlways := by
  refine returnsInTold_of_row (C := Ybaf.checked) (s := OpenSpec.ofChange Rows.lawS8755CWholeSpec) (by kernel_rfl) Ybaf.own started (by kernel_rfl) Ybaf.func3
    (OpenSpec.witness_stopped (enc := enc) (C := Ybaf.checked) false ⟨#[], #[.int .u64 0, .int .u64 0, .slice none 0 0], []⟩ 8 (by kernel_rfl) (by kernel_rfl) (by kernel_rfl) (by kernel_rfl)) ?_
  intro F W base args ds gs before _ hF hval0 hW _ _ hsz0 _ _
  have hsz : (DataW.weightsEach Ybaf.prog (Ybaf.f3.params.toList ++ Rows.lawS8755CWholeSpec.plain.varTypes Ybaf.prog) (ds ++ gs)).all (· ≤ reachBytes) = true := hsz0
  clear hsz0
  have hval : ∀ (j : Nat) t v, Ybaf.f3.params[j]? = some t → args[j]? = some v → Value.okWide Ybaf.prog W .any base t v := hval0
  have hW' := hW
  obtain ⟨p, q, hA0, hV, rfl, hfz, hnd⟩ := hW
  have hA : DataW.TrodAll enc Ybaf.prog W 0 (fun _ => true) true Ybaf.f3.params.toList args.toList ds p := hA0
  rw [Ybaf.params3] at hA hval hsz
  obtain ⟨v0, vs0, d0, ds0, p0, q0, hargs, rfl, rfl, h0, r0⟩ := trodAll_cons hA
  obtain ⟨v1, vs1, d1, ds1, p1, q1, rfl, rfl, rfl, h1, r1⟩ := trodAll_cons r0
  obtain ⟨v2, vs2, d2, ds2, p2, q2, rfl, rfl, rfl, h2, r2⟩ := trodAll_cons r1
  obtain ⟨rfl, rfl, rfl⟩ := trodAll_nil r2
  obtain rfl : args = #[v0, v1, v2] := by cases args; simp_all
  obtain ⟨rfl, rfl⟩ := trodVars_none hV
  obtain ⟨a2, len2, cap2, rfl⟩ := okWide_slice Ybaf.underlying23 (hval 2 23 v2 rfl rfl)
  have k2 := h2
  have lt2 : ∀ x ∈ p2, x.block < W.heap.size := by obtain ⟨m, hm⟩ := k2; exact DataW.trod_lt m _ _ _ hm
  obtain ⟨ob, oo, oq, oA, oB, oS, hoa, hob, ho⟩ := open_ops h2
  have s2 : len2 ≤ 140737488351232 := by
    rcases read_len Ybaf.underlying23 h2 with h | ⟨es, sp, rfl, hl⟩
    · omega
    · have := sized_slice hsz (j := 2) (t := 23) (e := 25) rfl rfl Ybaf.underlying23
      rw [bytes25] at this
      simp only [reachBytes] at this
      omega
  obtain ⟨a0, rfl, rfl, rfl, w0⟩ := open_int Ybaf.underlying22 (hval 0 22 v0 rfl rfl) h0
  obtain ⟨a1, rfl, rfl, rfl, w1⟩ := open_int Ybaf.underlying22 (hval 1 22 v1 rfl rfl) h1
  clear hA0 hval0 hsz
  have fin : Calls Ybaf.prog 3 #[.int .u64 a0, .int .u64 a1, .slice a2 len2 cap2] W fun e w' => e = .returned (.bool true) ∧ Below W.heap.size W w' := by
    by_cases hn : len2 ≤ 4096
    · refine walk F.told (full_told F) a0 a1 a2 len2 cap2 hn ob oo hoa W hF hob (fun i => if i < len2 then oq i else 0) oA oB oS (bounds_u64 w0) (bounds_u64 w1) (fun i => ?_) (fun i hi => ?_) (fun i hi => ?_)
      · show 0 ≤ (if i < len2 then oq i else 0) ∧ (if i < len2 then oq i else 0) ≤ 255
        by_cases hi : i < len2
        · rw [if_pos hi]; exact bounds_u8 (ho i hi).2.1
        · rw [if_neg hi]; omega
      · simp only [if_pos hi]
        exact (ho i hi).1
      · have := (ho i hi).2.2.2.2
        simp only [maxLen] at this
        omega
    · exact walk_big a0 a1 a2 len2 cap2 s2 hn W
  refine fin.mono fun e W' ⟨he, bel⟩ => ?_
  subst he
  exact ⟨_, rfl, _, _, _, [], _, [], hW', trodAll_mk1 (shut_bool Ybaf.underlying4 _), (trodAll_cons_mk (shut_int Ybaf.underlying22 w0) (trodAll_cons_mk (shut_int Ybaf.underlying22 w1) (trodAll_cons_mk (Below.trod laidOut (by kernel_rfl) (of_decide_eq_true (by kernel_rfl)) k2 bel lt2) trodAll_mk0))), rfl, bel.frame _, fun h => by cases h⟩

theorem stops : Ybaf.pinned.checked.prog.stops = ["fmt.Sprintf", "fmt.errorf"] := by kernel_rfl
theorem stopKnobs : Ybaf.pinned.checked.prog.stopKnobs = [] := by kernel_rfl
theorem quiet (os : Os) : Stop.quiet Ybaf.pinned.checked.prog os := by
  intro k hk
  rw [stopKnobs] at hk
  cases hk
theorem laidOut' : laidOutB Ybaf.pinned.checked.prog = true := by kernel_rfl

/-- THE STATEMENT. -/
theorem proved : Rows.LawS8755CWholeToldSaid :=
  Claim7.holds_of_told_any 3 Ybaf.f3 "fmt.Sprintf" ["fmt.errorf"] [] _ _ _ (by kernel_rfl) rfl rfl rfl laidOut' (by kernel_rfl) rfl ⟨rfl, rfl, rfl, rfl, rfl, rfl, rfl⟩ rfl rfl (by kernel_rfl) (by kernel_rfl) Ybaf.func3 (by kernel_rfl)
    (of_decide_eq_true (by kernel_rfl)) (by unfold Func.isWrapper; first | (rw [if_pos (by decide +kernel)]; kernel_rfl) | (rw [if_neg (by decide +kernel)]; exact ⟨rfl, rfl⟩)) stops.symm rfl stopKnobs.symm (by kernel_rfl)
    (by kernel_rfl) (by kernel_rfl) (by kernel_rfl) (by kernel_rfl) (by kernel_rfl) (by kernel_rfl) (by kernel_rfl) (by kernel_rfl) (by kernel_rfl) rfl (by kernel_rfl) rfl rfl
    rfl rfl
    rfl (by kernel_rfl) (by kernel_rfl) (by kernel_rfl) (by decide) (by kernel_rfl)
    (OpenClaim.moreEntering_of (by kernel_rfl) (by kernel_rfl) (by kernel_rfl) (by kernel_rfl) (by kernel_rfl) (by kernel_rfl) (by kernel_rfl) (by kernel_rfl) (by kernel_rfl) (by kernel_rfl))
    ⟨_, WideRow.started_initial, quiet _⟩
    (fun os started _ H enc _ => lifted os started H enc)
end Go.Proofs.YbulkfyhgFmt.lawS8755CWhole
