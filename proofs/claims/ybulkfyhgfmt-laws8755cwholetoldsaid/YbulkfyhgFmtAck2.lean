/-
  'ack' where it lets the first k items go.
-/
import Derived.Test.YbulkfyhgFmtAck
namespace Go.Proofs.YbulkfyhgFmt
open Go.RowKit Go.Conc Go.MuLone Go.Extern.Stop Go.Stop Go.Extern

/-- The bytes kept, behind the first items. -/
def ackB (fi cu bb : Int) (ls : Nat → Nat) : Nat → Int
  | 0 => bb
  | k + 1 => if cu ≤ IntKind.u64.wrap (fi + k) then IntKind.u64.wrap (ackB fi cu bb ls k - ls k) else ackB fi cu bb ls k

theorem setCells_block {e : TypeId} {q : Nat} : ∀ (vs : List Value) (o : Nat) (w : World) (A : Array Value), w.heap[q]? = some (.cells A e (0, 0)) →
    ∃ A', (w.setCells q o vs).heap[q]? = some (.cells A' e (0, 0)) ∧ A'.size = A.size ∧ ∀ i, (i < o ∨ o + vs.length ≤ i) → A'[i]? = A[i]?
  | [], _, _, A, h => ⟨A, h, rfl, fun _ _ => rfl⟩
  | v :: vs, o, w, A, h => by
    obtain ⟨A', h1, h2, h3⟩ := setCells_block vs (o + 1) _ _ (block_self h o v)
    refine ⟨A', h1, by simpa using h2, fun i hi => ?_⟩
    simp only [List.length_cons] at hi
    rw [h3 i (by omega), Array.getElem?_setIfInBounds_ne (by omega)]
theorem Kept.setCells {T : List Nat} {q : Nat} (hq : q ∈ T) : ∀ (vs : List Value) (o : Nat) (w w' : World), Kept T w w' → Kept T w (w'.setCells q o vs)
  | [], _, _, _, h => h
  | v :: vs, o, _, _, h => Kept.setCells hq vs (o + 1) _ _ (h.setCell (.inl hq) v)

/-- 'clear', what it runs to being known. -/
theorem wpList_clear_run {P : Program} {w : World} {ops : Array Oper} {rest : List Oper} {o : Oper} {a : Act} {Q : Exit → Act → World → Prop} (hg : o.guard = none) (s : Operand) (t : TypeId)
    (hop : o.op = Op.call { callee := Callee.builtin Builtin.clear, args := #[s], argTypes := #[t] }) {v v' : Value} {w' : World} (hs : a.eval s = v)
    (hrun : (Builtin.clear_ #[t] o.type #[v]).run P w = .ok v' w') (hK : wpList P ops Q rest (a.put o.dst v') w') : wpList P ops Q (o :: rest) a w := by
  refine wpList_plain hg fun K hK' => ?_
  unfold Oper.wp execOp
  simp only [hop, resolve, invoke, builtin, Sem.run_bind, Sem.run_pure, Result.andThen_ok, List.map_toArray, List.map_cons, List.map_nil, hs, hrun]
  exact hK' _ _ hK

set_option maxRecDepth 10000 in
set_option maxHeartbeats 1600000 in
theorem ack_takes (N b : Nat) (mx mb pe fi : Int) (it : Value) (bb cu ge : Int) (xs : List Value) (ls : Nat → Nat) (k : Nat) (w : World) (I : Inv N b mx mb pe fi it bb cu ge xs w)
    (hls : ∀ (i : Nat) (x : Value), xs[i]? = some x → ∃ p c, x = .slice p (ls i) c) (hl : ∀ i, ls i < 4611686018427387904) (h0 : 0 ≤ fi) (h64 : fi + k ≤ 18446744073709551615) (hk0 : 0 < k) (hkn : k ≤ xs.length) (hx : xs.length < 1099511627776) :
    Calls Ybaf.prog 7 #[.pointer (some ⟨b, 0, none⟩), .int .u64 ge, .int .u64 (fi + k)] w fun e w' => e = .returned .nilIface ∧ Turn N w w' ∧ ∃ it', Inv N b mx mb pe (fi + k) it' (ackB fi cu bb ls k) cu ge (xs.drop k) w' := by
  obtain ⟨hNb, ⟨en, ov, rd, pa, hb, hNo, hNr, ⟨s, r, ho⟩, ⟨buf, s', r', hrd⟩⟩, hrow⟩ := I
  have hrow0 := hrow
  rcases hrow with ⟨-, rfl⟩ | ⟨q, o, cap, A, rfl, hNq, hA, hcap, hoc, hcells⟩
  · simp at hkn; omega
  obtain ⟨n, hn⟩ : ∃ n, n = xs.length := ⟨_, rfl⟩
  rw [← hn] at hb hrow0 hkn hx hcap
  have hn' : Hid (n = xs.length) := hn
  clear hn
  have hqb : q ≠ b := by rintro rfl; rw [hb] at hA; cases hA
  have hw : IntKind.u64.wrap (fi + k - fi) = k := by simp [IntKind.wrap, IntKind.bits, IntKind.signed]; omega
  go_enter_defers Ybaf.func7, Ybaf.ntmps7
  go_upto_region 2 with (go_at_call 10; refine (lock_ hb).mono ?_; rintro e w1 ⟨rfl, hb1, hk1⟩)
  have c5 : w1.cell? ⟨b, 5, none⟩ = some (.int .u64 fi) := block_cell hb1 5
  have c6 : w1.cell? ⟨b, 6, none⟩ = some (.slice (some ⟨q, o, none⟩) n cap) := block_cell hb1 6
  have c9 : w1.cell? ⟨b, 9, none⟩ = some (.int .u64 ge) := block_cell hb1 9
  have hle : ¬ fi + k ≤ fi := by omega
  have hfar : ¬ (n : Int) < k := by omega
  go_upto_block 0 with fail
  go_cut [8, 9, 70] from 71 to 97 (fun _ _ _ wx => wx.heap[b]? = some (.cells (strm 1 mx mb pe fi (.slice (some ⟨q, o, none⟩) n cap) (ackB fi cu bb ls k) cu ge en ov rd pa) 49 (0, 0)) ∧ Kept [b] w1 wx)
  case first =>
    clear c5 c6 c9
    go_wp2
    go_loopg [8, 9, 70] k (fun g _ _ i wr => ∃ j : Nat, j + g = k ∧ i = .int .i64 j ∧ wr.heap[b]? = some (.cells (strm 1 mx mb pe fi (.slice (some ⟨q, o, none⟩) n cap) (ackB fi cu bb ls j) cu ge en ov rd pa) 49 (0, 0)) ∧ Kept [b] w1 wr)
    case atStart => exact ⟨0, by omega, rfl, hb1, Kept.refl _ _⟩
    case round =>
      obtain ⟨j, hj, rfl, hbr, hkr⟩ := hrel
      by_cases hlt : j < k
      · have hi : (j : Int) < (k : Int) := by omega
        obtain ⟨x, hxj⟩ : ∃ x, xs[j]? = some x := ⟨xs[j]'(by have := hn'.out; omega), by simp⟩
        obtain ⟨pj, cj, rfl⟩ := hls j x hxj
        have hAr := (hk1.trans hkr).keep hA (by simpa using hqb)
        have e0 : wr.cell? ⟨q, o + j, none⟩ = some (.slice pj (ls j) cj) := (block_cell hAr (o + j)).trans (hcells j _ hxj)
        have c5 : wr.cell? ⟨b, 5, none⟩ = some (.int .u64 fi) := block_cell hbr 5
        have c8 : wr.cell? ⟨b, 8, none⟩ = some (.int .u64 cu) := block_cell hbr 8
        have c7 : wr.cell? ⟨b, 7, none⟩ = some (.int .u64 (ackB fi cu bb ls j)) := block_cell hbr 7
        have f7 := block_free hbr 7
        have hlj := hl j
        have hwj : IntKind.u64.wrap (fi + j) = fi + j := by simp [IntKind.wrap, IntKind.bits, IntKind.signed]; omega
        by_cases hc : cu ≤ fi + j
        · go_wp2
          go_region
          go_wp2
          go_roundg (gk - 1)
          case measure => go_light; omega
          case rel =>
            go_light
            refine ⟨j + 1, by omega, by go_num, ?_, (hkr.drew).setCell (by simp) _⟩
            have hs : ackB fi cu bb ls (j + 1) = IntKind.u64.wrap (ackB fi cu bb ls j - ls j) := by simp only [ackB, hwj, if_pos hc]
            rw [hs]
            exact block_self (block_drew hbr) 7 _
        · go_wp2
          go_region
          go_wp2
          go_roundg (gk - 1)
          case measure => go_light; omega
          case rel =>
            go_light
            refine ⟨j + 1, by omega, by go_num, ?_, hkr.drew⟩
            have hs : ackB fi cu bb ls (j + 1) = ackB fi cu bb ls j := by simp only [ackB, hwj, if_neg (by omega : ¬ cu ≤ fi + j)]
            rw [hs]
            exact block_drew hbr
      · have hi : ¬ (j : Int) < (k : Int) := by omega
        go_wp2
        go_meet
        case rel =>
          go_light
          obtain rfl : j = k := by omega
          exact ⟨hbr, hkr⟩
  case rest =>
    clear c5 c6 c9
    obtain ⟨hbc, hkc⟩ := hcut
    have hAc := (hk1.trans hkc).keep hA (by simpa using hqb)
    have c6 : wc.cell? ⟨b, 6, none⟩ = some (.slice (some ⟨q, o, none⟩) n cap) := block_cell hbc 6
    have hcl : (Builtin.clear_ #[36] 0 #[.slice (some ⟨q, o, none⟩) k cap]).run Ybaf.prog wc = .ok (.tuple #[]) (wc.setCells q o (List.replicate k (.slice none 0 0))) := by
      refine Lib.run_clear_slice (P := Ybaf.prog) wc 36 29 0 (.slice none 0 0) Ybaf.underlying36 (fun _ => by simp [go_sem]) rfl rfl q o k cap hk0 (fun j hj => ?_) (fun j _ => block_free hAc _)
      rw [block_cell hAc, Array.getElem?_eq_getElem (by omega)]
      rfl
    go_upto_region 15 with (at_builtin; refine wpList_clear_run rfl _ 36 rfl rfl hcl ?_)
    obtain ⟨W, hW⟩ : ∃ W, W = wc.setCells q o (List.replicate k (.slice none 0 0)) := ⟨_, rfl⟩
    rw [← hW]
    obtain ⟨A', hA', hsz, hrest⟩ := setCells_block (List.replicate k (.slice none 0 0)) o wc A hAc
    rw [← hW] at hA'
    simp only [List.length_replicate] at hrest
    have hkW : Kept [b, q] w W := by rw [hW]; exact Kept.setCells (by simp) _ _ _ _ ((hk1.trans hkc).mono (by simp))
    have hbW : W.heap[b]? = some (.cells (strm 1 mx mb pe fi (.slice (some ⟨q, o, none⟩) n cap) (ackB fi cu bb ls k) cu ge en ov rd pa) 49 (0, 0)) := by
      rw [hW]; exact (Kept.setCells (T := [q]) (by simp) _ _ _ _ (Kept.refl _ _)).keep hbc (by simpa using Ne.symm hqb)
    clear hW c6 hcl hbc hkc hAc
    have c6 : W.cell? ⟨b, 6, none⟩ = some (.slice (some ⟨q, o, none⟩) n cap) := block_cell hbW 6
    have f6 := block_free hbW 6
    have c5 : W.cell? ⟨b, 5, none⟩ = some (.int .u64 fi) := block_cell hbW 5
    have f5 := block_free hbW 5
    have fin : ∀ (o2 cap2 : Nat), (o2 = o + k ∧ cap2 = cap - k ∨ o2 = o ∧ cap = k ∧ cap2 = 0) → ∀ w3 : World, w3.heap[b]? = some (.cells (strm 0 mx mb pe (fi + k) (.slice (some ⟨q, o2, none⟩) (n - k) cap2) (ackB fi cu bb ls k) cu ge en ov rd pa) 49 (0, 0)) → Kept [b] W w3 →
        Turn N w w3 ∧ ∃ it', Inv N b mx mb pe (fi + k) it' (ackB fi cu bb ls k) cu ge (xs.drop k) w3 := by
      intro o2 cap2 ho2 w3 hb3 hk3
      have K3 : Kept [b, q] w w3 := hkW.trans (hk3.mono (by simp))
      have hnx := hn'.out
      have hlen : (xs.drop k).length = n - k := by simp [hnx]
      refine ⟨Turn.of_kept K3 (by have := block_lt hb; omega) ?_, _, hNb, ⟨en, ov, rd, pa, hb3, hNo, hNr, ⟨s, r, K3.keep ho ?_⟩, ⟨buf, s', r', K3.keep hrd ?_⟩⟩, .inr ⟨q, o2, cap2, A', by rw [hlen], hNq, hk3.keep hA' (by simpa using hqb), by omega, by omega, ?_⟩⟩
      · intro i hi
        rcases List.mem_cons.1 hi with rfl | hi
        · exact kind_b hb hNb
        · obtain rfl := List.mem_singleton.1 hi
          exact kind_row hrow0 i (by simp [blkOf])
      · simpa using ⟨b_ne_chan hb ho, by have := chan_ne_row hrow0 ho; simpa [blkOf] using this⟩
      · simpa using ⟨b_ne_chan hb hrd, by have := chan_ne_row hrow0 hrd; simpa [blkOf] using this⟩
      · intro j x hxj
        have hj : j < (xs.drop k).length := by
          rcases Nat.lt_or_ge j (xs.drop k).length with h | h
          · exact h
          · rw [List.getElem?_eq_none h] at hxj; cases hxj
        obtain rfl : o2 = o + k := by omega
        rw [List.getElem?_drop] at hxj
        rw [hrest _ (by omega), Nat.add_assoc]
        exact hcells _ x hxj
    go_wp2_with fail
    · refine leaves_cons (f := 15) (args := #[.pointer (some ⟨b, 0, none⟩)]) (by simp) (by simp [go_sem]) ?_
      refine (unlockD_ .returning (block_self (block_self hbW 6 _) 5 _)).mono ?_
      rintro e u' w3 ⟨rfl, rfl, hb3, hk3⟩
      exact ⟨_, results_tmp rfl _ _ _, rfl, fin _ _ (.inr ⟨rfl, by assumption, rfl⟩) w3 hb3 ((((Kept.refl [b] W).setCell (by simp) _).setCell (by simp) _).trans hk3)⟩
    · refine leaves_cons (f := 15) (args := #[.pointer (some ⟨b, 0, none⟩)]) (by simp) (by simp [go_sem]) ?_
      refine (unlockD_ .returning (block_self (block_self hbW 6 _) 5 _)).mono ?_
      rintro e u' w3 ⟨rfl, rfl, hb3, hk3⟩
      exact ⟨_, results_tmp rfl _ _ _, rfl, fin _ _ (.inl ⟨rfl, rfl⟩) w3 hb3 ((((Kept.refl [b] W).setCell (by simp) _).setCell (by simp) _).trans hk3)⟩
end Go.Proofs.YbulkfyhgFmt
