/-
  LawS8755CWhole: the walk of the law.
-/
import Derived.Test.YbulkfyhgFmtPrep
import Derived.Deep.DeepCutAuto
import Derived.Deep.CutBlock
import Derived.Deep.LoopGhost
import Derived.Deep.Light
import Derived.WalkSpells
namespace Go.Proofs.YbulkfyhgFmt
open Go.RowKit Go.Conc Go.Extern.Stop Go.Stop Go.Extern

set_option maxRecDepth 100000 in
set_option maxHeartbeats 20000000 in
theorem walk (F : Interp) (hT : Full F) (mx mb : Int) (pa : Option Addr) (n cp : Nat) (hn : n ≤ 4096) (ob oo : Nat) (hpa : 0 < n → pa = some ⟨ob, oo, none⟩) (w : World) (hF : F.answers w.tape) (hob : 0 < n → ob < w.heap.size)
    (oq oA oB : Nat → Int) (oS : Nat → ByteArray) (hmx : 0 ≤ mx ∧ mx ≤ 18446744073709551615) (hmb : 0 ≤ mb ∧ mb ≤ 18446744073709551615)
    (hq : ∀ i, 0 ≤ oq i ∧ oq i ≤ 255)
    (hcells : ∀ i, i < n → w.cell? ⟨ob, oo + i * 4, none⟩ = some (.int .u8 (oq i)) ∧ w.cell? ⟨ob, oo + i * 4 + 1, none⟩ = some (.int .i64 (oA i)) ∧ w.cell? ⟨ob, oo + i * 4 + 2, none⟩ = some (.int .i64 (oB i)) ∧ w.cell? ⟨ob, oo + i * 4 + 3, none⟩ = some (.string (oS i)))
    (hsz : ∀ i, i < n → (oS i).size < 9223372036854775808) :
    Calls Ybaf.prog 3 #[.int .u64 mx, .int .u64 mb, .slice pa n cp] w fun e w' => e = .returned (.bool true) ∧ Below w.heap.size w w' := by
  obtain ⟨N, hN0⟩ : ∃ N, N = w.heap.size := ⟨_, rfl⟩
  rw [← hN0] at hob
  have hN : Hid (N = w.heap.size) := hN0
  clear hN0
  have Hpa : Hid ((0 < n → pa = some ⟨ob, oo, none⟩) ∧ (0 < n → ob < N)) := ⟨hpa, hob⟩
  have Hq : Hid (∀ i, 0 ≤ oq i ∧ oq i ≤ 255) := hq
  have Hc : Hid (∀ i, i < n → w.cell? ⟨ob, oo + i * 4, none⟩ = some (.int .u8 (oq i)) ∧ w.cell? ⟨ob, oo + i * 4 + 1, none⟩ = some (.int .i64 (oA i)) ∧ w.cell? ⟨ob, oo + i * 4 + 2, none⟩ = some (.int .i64 (oB i)) ∧ w.cell? ⟨ob, oo + i * 4 + 3, none⟩ = some (.string (oS i))) := hcells
  have Hz : Hid (∀ i, i < n → (oS i).size < 9223372036854775808) := hsz
  clear hpa hob hq hcells hsz
  have hn1 : ¬ (4096 : Int) < (n : Int) := by omega
  go_enter Ybaf.func3, Ybaf.ntmps3
  go_upto_block 0 with fail
  go_cut [7, 9, 43] from 44 to 58 (fun _ _ _ wx => Below N w wx ∧ Hid (∀ i, i < n → (oS i).size ≤ 65536))
  case first =>
    go_wp2
    go_loopg [7, 9, 43] n (fun g t _ i wr => ∃ (k : Nat) (tt : Int), k + g = n ∧ i = .int .i64 k ∧ t = .int .i64 tt ∧ (0 ≤ tt ∧ tt ≤ 1048576) ∧ Below N w wr ∧ Hid (∀ i, i < k → (oS i).size ≤ 65536))
    case atStart => exact ⟨0, 0, by omega, rfl, rfl, by omega, Below.refl _ _, fun i hi => by omega⟩
    case round =>
      obtain ⟨k, tt, hk, rfl, rfl, htt, hbl, hle⟩ := hrel
      by_cases hlt : k < n
      · obtain rfl := Hpa.out.1 (by omega)
        have hi : (k : Int) < (n : Int) := by omega
        obtain ⟨x0, x1, x2, x3⟩ := Hc.out k hlt
        have hoN := Hpa.out.2 (by omega)
        rw [← hbl.cell hoN] at x0 x1 x2 x3
        have hzk := Hz.out k hlt
        have hsize := hbl.size
        have hNw := hN.out
        by_cases h1 : (65536 : Int) < ((oS k).size : Int)
        · go_wp2
          go_ret
          exact ⟨rfl, by rw [← hNw]; exact hbl.alloc (by omega) _⟩
        · by_cases h2 : (1048576 : Int) < tt + ((oS k).size : Int)
          · go_wp2
            go_ret
            exact ⟨rfl, by rw [← hNw]; exact hbl.alloc (by omega) _⟩
          · go_wp2
            go_roundg (gk - 1)
            case measure => go_light; omega
            case rel =>
              go_light
              refine ⟨k + 1, _, by omega, by go_num, rfl, by omega, hbl.alloc (by omega) _, fun i hi => ?_⟩
              rcases Nat.lt_or_ge i k with h | h
              · exact hle.out i h
              · obtain rfl : i = k := by omega
                omega
      · have hi : ¬ (k : Int) < (n : Int) := by omega
        go_wp2
        go_meet
        case rel =>
          go_light
          obtain rfl : k = n := by omega
          exact ⟨hbl, hle⟩
  case rest =>
    obtain ⟨hbl, Hle⟩ := hcut
    obtain ⟨M, hM0⟩ : ∃ M, M = wc.heap.size := ⟨_, rfl⟩
    have hM : Hid (M = wc.heap.size) := hM0
    clear hM0
    go_upto_block 2 with (go_at_call 4; refine (newStream mx mb wc).mono ?_; rintro e w1 ⟨b, rfl, ht1, hI1⟩)
    have hM' := hM.out
    rw [← hM'] at ht1 hI1
    have hNM : N ≤ M := by have := hbl.size; have := hN.out; omega
    have hg0 : Good N M b 0 mx mb w (.slice none 0 0) (.int .u64 1) (.int .u64 1) (.int .u64 0) (.int .u64 0) (.int .u64 0) w1 :=
      ⟨[], [], _, _, 0, 1, 0, 1, 0, rfl, rfl, rfl, rfl, rfl, rfl, ⟨hI1, .inl ⟨rfl, rfl⟩, rfl, fun i x s h => by simp at h⟩, hbl.trans (ht1.below.mono hNM), hNM, by simp, by omega, by omega, by simp⟩
    clear ht1 hI1 hbl hM hM'
    go_cut [11, 12, 13, 14, 15, 16, 18, 19, 20, 21, 22, 23, 24, 25, 26, 27, 28, 29, 30, 31, 32, 64] from 65 to 242 (fun v11 v12 v13 v14 v15 v16 _ _ _ _ _ _ _ _ _ _ _ _ _ _ _ _ wx => Good N M b n mx mb w v11 v12 v13 v14 v15 v16 wx)
    case first =>
      go_wp2
      go_loopg [11, 12, 13, 14, 15, 16, 18, 19, 20, 21, 22, 23, 24, 25, 26, 27, 28, 29, 30, 31, 32, 64] n (fun g v11 v12 v13 v14 v15 v16 _ _ _ _ _ _ _ _ _ _ _ _ _ _ _ i wr => ∃ k : Nat, k + g = n ∧ i = .int .i64 k ∧ Good N M b k mx mb w v11 v12 v13 v14 v15 v16 wr)
      case atStart => exact ⟨0, by omega, rfl, hg0⟩
      case round =>
        obtain ⟨k, hk, rfl, hg⟩ := hrel
        by_cases hlt : k < n
        · obtain ⟨ss, xs, it, mv, pe, fi, bb, cu, ge, rfl, rfl, rfl, rfl, rfl, rfl, hst, hbl, hNM, hss, hfi, hge, hsz⟩ := hg
          obtain rfl := Hpa.out.1 (by omega)
          have hi : (k : Int) < (n : Int) := by omega
          obtain ⟨x0, x1, x2, x3⟩ := Hc.out k hlt
          have hoN := Hpa.out.2 (by omega)
          rw [← hbl.cell hoN] at x0 x1 x2 x3
          obtain ⟨pm, cm, hmv⟩ := hst.row.len
          simp only [List.length_map] at hmv
          subst hmv
          obtain ⟨L, hL0⟩ : ∃ L, L = ss.length := ⟨_, rfl⟩
          rw [← hL0] at hst hss ⊢
          have hL : Hid (L = ss.length) := hL0
          clear hL0
          go_upto_region 23 with fail
          obtain ⟨W, hW⟩ : ∃ W, W = wr.alloc (.cells #[.int .u8 (oq k), .int .i64 (oA k), .int .i64 (oB k), .string (oS k)] 25) := ⟨_, rfl⟩
          rw [← hW]
          have hO0 : W.heap[wr.heap.size]? = some (.cells #[.int .u8 (oq k), .int .i64 (oA k), .int .i64 (oB k), .string (oS k)] 25 (0, 0)) := by rw [hW]; exact block_new _ _
          obtain ⟨g, hgg⟩ : ∃ g, g = wr.heap.size := ⟨_, rfl⟩
          rw [← hgg] at hO0 ⊢
          have hO : Hid (W.heap[g]? = some (.cells #[.int .u8 (oq k), .int .i64 (oA k), .int .i64 (oB k), .string (oS k)] 25 (0, 0))) := hO0
          have hstW := hst.below (w' := W) (by rw [hW]; exact (Below.refl _ _).alloc (Nat.le_refl _) _)
          have hblW : Below N w W := by rw [hW]; exact hbl.alloc (by have := hbl.size; have := hN.out; omega) _
          clear hW hst hbl x0 x1 x2 x3 hgg hO0
          have y0 : W.cell? ⟨g, 0, none⟩ = some (.int .u8 (oq k)) := block_cell hO.out 0
          have hqk := Hq.out k
          have hlek := Hle.out k hlt
          go_upto_region 24 with fail
          have hr : oq k % 4 = 0 ∨ oq k % 4 = 1 ∨ oq k % 4 = 2 ∨ oq k % 4 = 3 := by omega
          rcases hr with hr | hr | hr | hr
          · have y3 : W.cell? ⟨g, 3, none⟩ = some (.string (oS k)) := block_cell hO.out 3
            obtain ⟨cI, W2, hconv, hitem, hW2⟩ := bytes_of (oS k) W
            have hst2 := hstW.below hW2
            have hO2 := (Kept.of_below (T := []) hW2).keep hO.out (by simp)
            have hbl2 : Below N w W2 := hblW.trans (hW2.mono (by have := hblW.size; have := hN.out; omega))
            have hF2 : F.answers W2.tape := by rw [hbl2.tape]; exact hF
            have z0 : W2.cell? ⟨g, 0, none⟩ = some (.int .u8 (oq k)) := block_cell hO2 0
            have z3 : W2.cell? ⟨g, 3, none⟩ = some (.string (oS k)) := block_cell hO2 3
            have hlen : Hid (xs.length = L) := hstW.len.trans hL.out.symm
            by_cases hf : Fits xs.length (oS k).size mx mb bb
            · as_aux_lemma =>
                have hf1 : (L : Int) + 1 ≤ mx := by have := hf.1; have := hlen.out; omega
                have hf2 := hf.2
                go_wp2_with fail
                refine (push_fits F hT M b mx mb pe fi it bb cu ge xs (some ⟨W.heap.size, 0, none⟩) (oS k).size cI W2 hF2 hst2.inv (by have := hlen.out; omega) (by omega) hmx hmb hf).mono ?_
                rintro e W3 ⟨rfl, hturn, it', hI3⟩

                have hO3 := hturn.plain g _ 25 _ (by decide) (by decide) hO2
                have q3 : W3.cell? ⟨g, 3, none⟩ = some (.string (oS k)) := block_cell hO3 3
                have hrow3 := (hst2.row.turn hturn).alloc (.cells #[.string (oS k)] 9)
                have hM3 : M ≤ W3.heap.size := by have := hturn.below.size; have := hst2.lt; omega
                obtain ⟨v5, W5, hrun, hrow5, hk5⟩ := append_strs hrow3 ⟨W3.heap.size, 0, none⟩ 1 (.string (oS k)) (block_cell (block_new _ _) 0) rfl (by simp; omega) (by have := hL.out; simp; omega)
                go_wp2_with (at_builtin; refine wpList_append_run rfl _ _ 28 rfl rfl rfl hrun ?_)
                go_roundg (gk - 1)
                case measure => go_light; omega
                case rel =>
                  go_light
                  have hal : Below W3.heap.size W3 (W3.alloc (.cells #[.string (oS k)] 9)) := (Below.refl _ _).alloc (Nat.le_refl _) _
                  have hst5 := hst2.appended hitem (hturn.trans (Turn.of_below hal hM3)) (hI3.kept (Kept.of_below (T := []) hal) (by simp)) hrow5 hk5
                  refine ⟨k + 1, by omega, by go_num, ss ++ [oS k], _, _, _, pe, fi, _, cu, ge, rfl, rfl, rfl, rfl, rfl, rfl, hst5, ?_, hNM, by have := hL.out; simp; omega, by omega, by omega, ?_⟩
                  · exact (hbl2.trans (hturn.below.mono hNM)).trans (below_of hal hk5 hrow3 (by omega) hNM)
                  · intro s hs
                    rcases List.mem_append.1 hs with hs | hs
                    · exact hsz s hs
                    · obtain rfl := List.mem_singleton.1 hs
                      exact hlek
            · have hf' : ¬ ((L : Int) + 1 ≤ mx) ∨ (L : Int) + 1 ≤ mx ∧ ¬ (IntKind.u64.wrap (bb + ((oS k).size : Int)) ≤ mb) := by
                have : ¬ (((xs.length : Nat) : Int) + 1 ≤ mx ∧ IntKind.u64.wrap (bb + ((oS k).size : Int)) ≤ mb) := hf
                have hx : xs.length = L := hlen.out
                rw [hx] at this
                by_cases h : (L : Int) + 1 ≤ mx
                · exact .inr ⟨h, fun h2 => this ⟨h, h2⟩⟩
                · exact .inl h
              rcases hf' with hf1 | ⟨hf1, hf2⟩
              · as_aux_lemma =>
                  go_wp2_with fail
                  refine (push_over F hT M b mx mb pe fi it bb cu ge xs (some ⟨W.heap.size, 0, none⟩) (oS k).size cI W2 hF2 hst2.inv (by have := hlen.out; omega) (by omega) hmx hmb hf).mono ?_
                  rintro e W3 ⟨rfl, hturn, hI3⟩
                  go_wp2_with fail
                  go_roundg (gk - 1)
                  case measure => go_light; omega
                  case rel =>
                    go_light
                    have hx : ((xs.length : Nat) : Int) = (L : Int) := by have := hlen.out; omega
                    have hw1 : IntKind.u64.wrap (fi + ((L : Int) + 1)) = fi + ((L : Int) + 1) := by simp [IntKind.wrap, IntKind.bits, IntKind.signed]; omega
                    have hw2 : IntKind.u64.wrap (ge + 1) = ge + 1 := by simp [IntKind.wrap, IntKind.bits, IntKind.signed]; omega
                    rw [hx, hw1, hw2] at hI3
                    refine ⟨k + 1, by omega, by go_num, [], [], _, _, pe, _, 0, cu, _, rfl, rfl, rfl, rfl, rfl, rfl, ⟨hI3, .inl ⟨rfl, rfl⟩, rfl, fun i x s h => by simp at h⟩, hbl2.trans (hturn.below.mono hNM), hNM, by simp, ?_, ?_, by simp⟩
                    · omega
                    · omega
              · as_aux_lemma =>
                  go_wp2_with fail
                  refine (push_over F hT M b mx mb pe fi it bb cu ge xs (some ⟨W.heap.size, 0, none⟩) (oS k).size cI W2 hF2 hst2.inv (by have := hlen.out; omega) (by omega) hmx hmb hf).mono ?_
                  rintro e W3 ⟨rfl, hturn, hI3⟩
                  go_wp2_with fail
                  go_roundg (gk - 1)
                  case measure => go_light; omega
                  case rel =>
                    go_light
                    have hx : ((xs.length : Nat) : Int) = (L : Int) := by have := hlen.out; omega
                    have hw1 : IntKind.u64.wrap (fi + ((L : Int) + 1)) = fi + ((L : Int) + 1) := by simp [IntKind.wrap, IntKind.bits, IntKind.signed]; omega
                    have hw2 : IntKind.u64.wrap (ge + 1) = ge + 1 := by simp [IntKind.wrap, IntKind.bits, IntKind.signed]; omega
                    rw [hx, hw1, hw2] at hI3
                    refine ⟨k + 1, by omega, by go_num, [], [], _, _, pe, _, 0, cu, _, rfl, rfl, rfl, rfl, rfl, rfl, ⟨hI3, .inl ⟨rfl, rfl⟩, rfl, fun i x s h => by simp at h⟩, hbl2.trans (hturn.below.mono hNM), hNM, by simp, ?_, ?_, by simp⟩
                    · omega
                    · omega
          · have y3 : W.cell? ⟨g, 3, none⟩ = some (.string (oS k)) := block_cell hO.out 3
            obtain ⟨cI, W2, hconv, hitem, hW2⟩ := bytes_of (oS k) W
            have hst2 := hstW.below hW2
            have hO2 := (Kept.of_below (T := []) hW2).keep hO.out (by simp)
            have hbl2 : Below N w W2 := hblW.trans (hW2.mono (by have := hblW.size; have := hN.out; omega))
            have hF2 : F.answers W2.tape := by rw [hbl2.tape]; exact hF
            have z0 : W2.cell? ⟨g, 0, none⟩ = some (.int .u8 (oq k)) := block_cell hO2 0
            have z3 : W2.cell? ⟨g, 3, none⟩ = some (.string (oS k)) := block_cell hO2 3
            have hlen : Hid (xs.length = L) := hstW.len.trans hL.out.symm
            by_cases hf : Fits xs.length (oS k).size mx mb bb
            · as_aux_lemma =>
                have hf1 : (L : Int) + 1 ≤ mx := by have := hf.1; have := hlen.out; omega
                have hf2 := hf.2
                go_wp2_with fail
                refine (offer_fits F hT M b mx mb pe fi it bb cu ge xs (some ⟨W.heap.size, 0, none⟩) (oS k).size cI W2 hF2 hst2.inv (by have := hlen.out; omega) (by omega) hmx hmb hf).mono ?_
                rintro e W3 ⟨rfl, hturn, it', hI3⟩

                have hO3 := hturn.plain g _ 25 _ (by decide) (by decide) hO2
                have q3 : W3.cell? ⟨g, 3, none⟩ = some (.string (oS k)) := block_cell hO3 3
                have hrow3 := (hst2.row.turn hturn).alloc (.cells #[.string (oS k)] 9)
                have hM3 : M ≤ W3.heap.size := by have := hturn.below.size; have := hst2.lt; omega
                obtain ⟨v5, W5, hrun, hrow5, hk5⟩ := append_strs hrow3 ⟨W3.heap.size, 0, none⟩ 1 (.string (oS k)) (block_cell (block_new _ _) 0) rfl (by simp; omega) (by have := hL.out; simp; omega)
                go_wp2_with (at_builtin; refine wpList_append_run rfl _ _ 28 rfl rfl rfl hrun ?_)
                go_roundg (gk - 1)
                case measure => go_light; omega
                case rel =>
                  go_light
                  have hal : Below W3.heap.size W3 (W3.alloc (.cells #[.string (oS k)] 9)) := (Below.refl _ _).alloc (Nat.le_refl _) _
                  have hst5 := hst2.appended hitem (hturn.trans (Turn.of_below hal hM3)) (hI3.kept (Kept.of_below (T := []) hal) (by simp)) hrow5 hk5
                  refine ⟨k + 1, by omega, by go_num, ss ++ [oS k], _, _, _, pe, fi, _, cu, ge, rfl, rfl, rfl, rfl, rfl, rfl, hst5, ?_, hNM, by have := hL.out; simp; omega, by omega, by omega, ?_⟩
                  · exact (hbl2.trans (hturn.below.mono hNM)).trans (below_of hal hk5 hrow3 (by omega) hNM)
                  · intro s hs
                    rcases List.mem_append.1 hs with hs | hs
                    · exact hsz s hs
                    · obtain rfl := List.mem_singleton.1 hs
                      exact hlek
            · have hf' : ¬ ((L : Int) + 1 ≤ mx) ∨ (L : Int) + 1 ≤ mx ∧ ¬ (IntKind.u64.wrap (bb + ((oS k).size : Int)) ≤ mb) := by
                have : ¬ (((xs.length : Nat) : Int) + 1 ≤ mx ∧ IntKind.u64.wrap (bb + ((oS k).size : Int)) ≤ mb) := hf
                have hx : xs.length = L := hlen.out
                rw [hx] at this
                by_cases h : (L : Int) + 1 ≤ mx
                · exact .inr ⟨h, fun h2 => this ⟨h, h2⟩⟩
                · exact .inl h
              rcases hf' with hf1 | ⟨hf1, hf2⟩
              · as_aux_lemma =>
                  go_wp2_with fail
                  refine (offer_over F hT M b mx mb pe fi it bb cu ge xs (some ⟨W.heap.size, 0, none⟩) (oS k).size cI W2 hF2 hst2.inv (by have := hlen.out; omega) (by omega) hmx hmb hf).mono ?_
                  rintro e W3 ⟨rfl, hturn, hI3⟩
                  go_wp2_with fail
                  go_roundg (gk - 1)
                  case measure => go_light; omega
                  case rel =>
                    go_light
                    exact ⟨k + 1, by omega, by go_num, ss, xs, _, _, pe, fi, bb, cu, ge, rfl, rfl, rfl, rfl, rfl, rfl, hst2.turned hturn hI3, hbl2.trans (hturn.below.mono hNM), hNM, by have := hL.out; omega, by omega, by omega, hsz⟩
              · as_aux_lemma =>
                  go_wp2_with fail
                  refine (offer_over F hT M b mx mb pe fi it bb cu ge xs (some ⟨W.heap.size, 0, none⟩) (oS k).size cI W2 hF2 hst2.inv (by have := hlen.out; omega) (by omega) hmx hmb hf).mono ?_
                  rintro e W3 ⟨rfl, hturn, hI3⟩
                  go_wp2_with fail
                  go_roundg (gk - 1)
                  case measure => go_light; omega
                  case rel =>
                    go_light
                    exact ⟨k + 1, by omega, by go_num, ss, xs, _, _, pe, fi, bb, cu, ge, rfl, rfl, rfl, rfl, rfl, rfl, hst2.turned hturn hI3, hbl2.trans (hturn.below.mono hNM), hNM, by have := hL.out; omega, by omega, by omega, hsz⟩
          · have y1 : W.cell? ⟨g, 1, none⟩ = some (.int .i64 (oA k)) := block_cell hO.out 1
            have y2 : W.cell? ⟨g, 2, none⟩ = some (.int .i64 (oB k)) := block_cell hO.out 2
            have hlen : Hid (xs.length = L) := hstW.len.trans hL.out.symm
            have hF2 : F.answers W.tape := by rw [hblW.tape]; exact hF
            go_upto_region 47 with fail
            obtain ⟨a, ha, ha01⟩ : ∃ a : Int, (IntKind.u64.wrap (oA k)).tmod 2 = a ∧ (a = 0 ∨ a = 1) := tmod_two _
            obtain ⟨dn, hd, hd8⟩ : ∃ d : Nat, (IntKind.u64.wrap (oB k)).tmod 8 = (d : Int) ∧ d < 8 := tmod_eight _
            have hwd : IntKind.u64.wrap (fi + (dn : Int)) = fi + (dn : Int) := by simp [IntKind.wrap, IntKind.bits, IntKind.signed]; omega
            rw [ha, hd, hwd]
            clear ha hd hwd y0 y1 y2
            rcases ha01 with rfl | rfl
            · have hwa : IntKind.u64.wrap (ge + 0) = ge := by simp [IntKind.wrap, IntKind.bits, IntKind.signed]; omega
              rw [hwa]
              clear hwa
              by_cases hd0 : dn = 0
              · as_aux_lemma =>
                  subst hd0
                  rw [show fi + ((0 : Nat) : Int) = fi from by omega]
                  go_wp2_with fail
                  refine (ack_old M b mx mb pe fi it bb cu ge xs ge fi W hstW.inv (.inr (Int.le_refl _))).mono ?_
                  rintro e W3 ⟨rfl, hturn, hI3⟩
                  go_wp2_with fail
                  go_roundg (gk - 1)
                  case measure => go_light; omega
                  case rel =>
                    go_light
                    exact ⟨k + 1, by omega, by go_num, ss, xs, _, _, pe, fi, bb, cu, ge, rfl, rfl, rfl, rfl, rfl, rfl, hstW.turned hturn hI3, hblW.trans (hturn.below.mono hNM), hNM, by have := hL.out; omega, by omega, by omega, hsz⟩
              · have hnle : ¬ fi + (dn : Int) ≤ fi := by omega
                have hwn : IntKind.u64.wrap (fi + (dn : Int) - fi) = dn := by simp [IntKind.wrap, IntKind.bits, IntKind.signed]; omega
                by_cases hfar : (L : Int) < (dn : Int)
                · as_aux_lemma =>
                    go_wp2_with fail
                    refine (ack_far F M b mx mb pe fi it bb cu ge xs (fi + (dn : Int)) W hF2 hstW.inv (by omega) (by omega) (by omega) (by have := hlen.out; omega) (by have := hlen.out; omega)).mono ?_
                    rintro e W3 ⟨⟨v, rfl⟩, hturn, hI3⟩
                    go_wp2_with fail
                    go_roundg (gk - 1)
                    case measure => go_light; omega
                    case rel =>
                      go_light
                      exact ⟨k + 1, by omega, by go_num, ss, xs, _, _, pe, fi, bb, cu, ge, rfl, rfl, rfl, rfl, rfl, rfl, hstW.turned hturn hI3, hblW.trans (hturn.below.mono hNM), hNM, by have := hL.out; omega, by omega, by omega, hsz⟩
                · have hfarN : ¬ L < dn := by omega
                  have hfarN' : dn ≤ L := by omega
                  go_wp2_with fail
                  refine (ack_takes M b mx mb pe fi it bb cu ge xs (lensOf ss) dn W hstW.inv hstW.lens (lens_small hsz) (by omega) (by omega) (by omega) (by have := hlen.out; omega) (by have := hlen.out; omega)).mono ?_
                  rintro e W3 ⟨rfl, hturn, it', hI3⟩
                  obtain ⟨q, o, hpm, hcap, hmc⟩ := row_cells (hstW.row.turn hturn) (by have := hL.out; simp; omega) hL.out
                  subst hpm
                  go_upto_block 5 with fail
                  go_cut [14, 27] from 148 to 190 (fun v14 _ wx => v14 = .int .u64 (ackB fi cu bb (lensOf ss) dn) ∧ W3 = wx)
                  case first =>
                    go_wp2
                    go_loopg [14, 27] dn (fun g v14 v27 wr => ∃ j : Nat, j + g = dn ∧ v27 = .int .u64 j ∧ v14 = .int .u64 (ackB fi cu bb (lensOf ss) j) ∧ W3 = wr)
                    case atStart => exact ⟨0, by omega, rfl, rfl, rfl⟩
                    case round =>
                      obtain ⟨j, hj, rfl, rfl, rfl⟩ := hrel
                      by_cases hjd : j < dn
                      · have hji : (j : Int) < (dn : Int) := by omega
                        have hjL : (j : Int) < (L : Int) := by omega
                        have hm := hmc j (by omega)
                        have hms : lensOf ss j < 4611686018427387904 := lens_small hsz j
                        have hwj : IntKind.u64.wrap (fi + (j : Int)) = fi + (j : Int) := by simp [IntKind.wrap, IntKind.bits, IntKind.signed]; omega
                        have hbs : ackB fi cu bb (lensOf ss) (j + 1) = if cu ≤ fi + (j : Int) then IntKind.u64.wrap (ackB fi cu bb (lensOf ss) j - (lensOf ss j : Nat)) else ackB fi cu bb (lensOf ss) j := by simp only [ackB, hwj]
                        have Hbs : Hid (_ = _) := hbs
                        clear hbs
                        have hls : lensOf ss j = (ss.getD j ⟨#[]⟩).size := rfl
                        rw [hls] at hms Hbs
                        clear hls
                        obtain ⟨sj, hsj⟩ : ∃ sj, sj = ss.getD j ⟨#[]⟩ := ⟨_, rfl⟩
                        rw [← hsj] at hm hms Hbs
                        clear hsj
                        obtain ⟨bj, hbj⟩ : ∃ bj, bj = ackB fi cu bb (lensOf ss) j := ⟨_, rfl⟩
                        rw [← hbj] at Hbs ⊢
                        clear hbj
                        by_cases hcu : cu ≤ fi + (j : Int)
                        · go_wp2
                          go_roundg (gk - 1)
                          case measure => go_light; omega
                          case rel =>
                            go_light
                            exact ⟨j + 1, by omega, by go_num, by rw [Hbs.out, if_pos hcu], rfl⟩
                        · go_wp2
                          go_roundg (gk - 1)
                          case measure => go_light; omega
                          case rel =>
                            go_light
                            exact ⟨j + 1, by omega, by go_num, by rw [Hbs.out, if_neg (by omega)], rfl⟩
                      · have hji : ¬ (j : Int) < (dn : Int) := by omega
                        go_wp2
                        go_meet
                        case rel =>
                          go_light
                          obtain rfl : j = dn := by omega
                          exact ⟨rfl, rfl⟩
                  case rest =>
                    as_aux_lemma =>
                      obtain ⟨rfl, rfl⟩ := hcut
                      have hdL : (dn : Int) ≤ (L : Int) := by omega
                      have fin : ∀ (o2 cap2 : Nat), (o2 = o + dn ∧ cap2 = cm - dn ∨ o2 = o ∧ cm = dn ∧ cap2 = 0) → St M b mx mb pe (fi + dn) it' (.slice (some ⟨q, o2, none⟩) (L - dn) cap2) (ackB fi cu bb (lensOf ss) dn) cu ge (ss.drop dn) (xs.drop dn) W3 := by
                        intro o2 cap2 ho
                        exact hstW.dropped hturn hI3 hL.out (by have := hL.out; omega) ho
                      go_wp2_with fail
                      all_goals
                        go_roundg (gk - 1)
                        case measure => go_light; omega
                        case rel =>
                          go_light
                          refine ⟨k + 1, by omega, by go_num, ss.drop dn, xs.drop dn, _, _, pe, _, _, cu, ge, rfl, rfl, rfl, rfl, rfl, rfl, fin _ _ (by first | exact .inl ⟨rfl, rfl⟩ | exact .inr ⟨rfl, by assumption, rfl⟩), hblW.trans (hturn.below.mono hNM), hNM, by have := hL.out; simp; omega, by omega, by omega, fun s hs => hsz s (List.mem_of_mem_drop hs)⟩
            · as_aux_lemma =>
                have hwa : IntKind.u64.wrap (ge + 1) = ge + 1 := by simp [IntKind.wrap, IntKind.bits, IntKind.signed]; omega
                rw [hwa]
                clear hwa
                have hne : ¬ ge + 1 = ge := by omega
                go_wp2_with fail
                refine (ack_old M b mx mb pe fi it bb cu ge xs (ge + 1) (fi + (dn : Int)) W hstW.inv (.inl hne)).mono ?_
                rintro e W3 ⟨rfl, hturn, hI3⟩
                go_wp2_with fail
                go_roundg (gk - 1)
                case measure => go_light; omega
                case rel =>
                  go_light
                  exact ⟨k + 1, by omega, by go_num, ss, xs, _, _, pe, fi, bb, cu, ge, rfl, rfl, rfl, rfl, rfl, rfl, hstW.turned hturn hI3, hblW.trans (hturn.below.mono hNM), hNM, by have := hL.out; omega, by omega, by omega, hsz⟩
          · have y2 : W.cell? ⟨g, 2, none⟩ = some (.int .i64 (oB k)) := block_cell hO.out 2
            have hlen : Hid (xs.length = L) := hstW.len.trans hL.out.symm
            go_upto_region 66 with fail
            obtain ⟨dn, hd, hd4⟩ : ∃ d : Nat, (IntKind.u64.wrap (oB k)).tmod 4 = (d : Int) ∧ d < 4 := tmod_four _
            have hwd : wrap64 (dn : Int) = dn := by unfold wrap64; omega
            rw [hd, hwd, hr]
            clear hd hwd y0 y2 hr
            obtain ⟨q, hq0⟩ : ∃ q, q = W.heap.size := ⟨_, rfl⟩
            obtain ⟨A1, hA1, mk1⟩ := make_at Ybaf.underlying36 info29 dn (by omega) (by omega) W
            obtain ⟨A2, hA2, mk2⟩ := make_at Ybaf.underlying28 info9 dn (by omega) (by omega) (W.alloc (.cells A1 29))
            simp only [World.size_alloc] at mk2
            rw [← hq0] at mk1 mk2
            have Hq0 : Hid (q = W.heap.size) := hq0
            clear hq0
            go_upto_block 7 with fail
            have hq0 := Hq0.out
            obtain ⟨W2, hW2⟩ : ∃ W2, W2 = (W.alloc (.cells A1 29)).alloc (.cells A2 9) := ⟨_, rfl⟩
            rw [← hW2]
            have hh0 : Half q dn 0 (oS k) W W2 := by
              refine ⟨A1, A2, ?_, ?_, hA1, hA2, ?_, fun i hi => by omega⟩
              · rw [hW2, hq0]; exact block_alloc (block_new W _) _
              · rw [hW2, hq0]
                have := block_new (W.alloc (.cells A1 29)) (.cells A2 9)
                simpa only [World.size_alloc] using this
              · rw [hW2, hq0]; exact ((Below.refl _ _).alloc (Nat.le_refl _) _).alloc (by simp) _
            have hgq : g < q := by rw [hq0]; exact block_lt hO.out
            have hMq : Hid (M ≤ q) := by rw [hq0]; exact hstW.lt
            clear hW2 hq0 mk1 mk2 hA1 hA2
            go_cut [31, 32] from 202 to 228 (fun _ _ wx => Half q dn dn (oS k) W wx)
            case first =>
              go_wp2
              go_loopg [31, 32] dn (fun g v31 _ wr => ∃ j : Nat, j + g = dn ∧ v31 = .int .i64 j ∧ Half q dn j (oS k) W wr)
              case atStart => exact ⟨0, by omega, rfl, hh0⟩
              case round =>
                obtain ⟨j, hj, rfl, hh⟩ := hrel
                by_cases hjd : j < dn
                · have hji : (j : Int) < (dn : Int) := by omega
                  have hOr : wr.heap[g]? = some (.cells #[.int .u8 (oq k), .int .i64 (oA k), .int .i64 (oB k), .string (oS k)] 25 (0, 0)) := by
                    obtain ⟨B1, B2, -, -, -, -, hbq, -⟩ := hh
                    exact (hbq.block g hgq).trans hO.out
                  have y3 : wr.cell? ⟨g, 3, none⟩ = some (.string (oS k)) := block_cell hOr 3
                  obtain ⟨D, hD0⟩ : ∃ D, D = (oS k).size / (j + 1) := ⟨_, rfl⟩
                  have hDle : D ≤ (oS k).size := by rw [hD0]; exact Nat.div_le_self _ _
                  have hdiv : wrap64 (((oS k).size : Int) / ((j : Int) + 1)) = (D : Int) := by
                    have : ((oS k).size : Int) / ((j : Int) + 1) = (D : Int) := by rw [hD0]; norm_cast
                    rw [this]; unfold wrap64; omega
                  have hcut : cutS (oS k) j = (oS k).extract 0 D := by rw [hD0]; rfl
                  have Hcut : Hid (cutS (oS k) j = (oS k).extract 0 D) := hcut
                  clear hcut hD0
                  obtain ⟨cI, V, hconv, hitem, hV⟩ := bytes_of ((oS k).extract 0 D) wr.drew
                  rw [← Hcut.out] at hitem
                  obtain ⟨B1, B2, hB1, hB2, sB1, sB2, -, -⟩ := id hh
                  have hkV : Kept [] wr V := ((Kept.refl [] wr).drew).trans (Kept.of_below hV)
                  have g1 := hkV.keep hB1 (by simp)
                  have g2 := hkV.keep hB2 (by simp)
                  have e1 : ∃ v1, V.cell? ⟨q, j, none⟩ = some v1 := ⟨B1[j]'(by omega), by rw [block_cell g1]; simp⟩
                  have e2 : ∃ v2, V.cell? ⟨q + 1, j, none⟩ = some v2 := ⟨B2[j]'(by omega), by rw [block_cell g2]; simp⟩
                  obtain ⟨v1, e1⟩ := e1
                  obtain ⟨v2, e2⟩ := e2
                  have f1 := block_free g1 j
                  have f2 := block_free g2 j
                  have HhV : Hid (Below wr.heap.size wr V) := ((Below.refl _ wr).drew).trans hV
                  clear hB1 hB2 g1 g2 hkV hV sB1 sB2
                  have hsz' : wr.drew.heap.size = wr.heap.size := rfl
                  rw [hsz'] at hconv hitem
                  clear hsz'
                  go_wp2
                  go_region
                  go_wp2
                  go_roundg (gk - 1)
                  case measure => go_light; omega
                  case rel =>
                    go_light
                    refine ⟨j + 1, by omega, by go_num, ?_⟩
                    have := hh.next hjd HhV.out (c := cI) (by rw [Hcut.out] at hitem ⊢; exact hitem)
                    have hDs : ((oS k).extract 0 D).size = D := extract_size _ _ hDle
                    rw [Hcut.out, hDs] at this
                    exact this
                · have hji : ¬ (j : Int) < (dn : Int) := by omega
                  go_wp2
                  go_meet
                  case rel =>
                    go_light
                    obtain rfl : j = dn := by omega
                    exact hh
            case rest =>
              as_aux_lemma =>
                obtain ⟨xs', hxl, hr29, hr9, hitems⟩ := hcut.rows hMq.out
                have hBq : Below q W wc := by
                  obtain ⟨B1, B2, -, -, -, -, hbq, -⟩ := hcut
                  exact hbq
                have hOc : wc.heap[g]? = some (.cells #[.int .u8 (oq k), .int .i64 (oA k), .int .i64 (oB k), .string (oS k)] 25 (0, 0)) := (hBq.block g hgq).trans hO.out
                have y1 : wc.cell? ⟨g, 1, none⟩ = some (.int .i64 (oA k)) := block_cell hOc 1
                have hstC := hstW.below (w' := wc) (by rw [← Hq0.out]; exact hBq)
                have hMq' := hMq.out
                have hblC : Below N w wc := hblW.trans (hBq.mono (by omega))
                have Hxl : Hid (xs'.length = dn) := hxl
                clear hxl hcut hBq hOc
                go_wp2_with fail
                refine (restart M b mx mb pe fi it bb cu ge xs (IntKind.u64.wrap (oA k)) (.slice (some ⟨q, 0, none⟩) dn dn) xs' wc hstC.inv hr29 (by have := Hxl.out; omega)).mono ?_
                rintro e W3 ⟨rfl, hturn, hI3⟩
                go_wp2_with fail
                go_roundg (gk - 1)
                case measure => go_light; omega
                case rel =>
                  go_light
                  have hw2 : IntKind.u64.wrap (ge + 1) = ge + 1 := by simp [IntKind.wrap, IntKind.bits, IntKind.signed]; omega
                  rw [hw2, Hxl.out] at hI3
                  refine ⟨k + 1, by omega, by go_num, (List.range dn).map (cutS (oS k)), xs', _, _, _, 1, 0, _, _, rfl, rfl, rfl, rfl, rfl, rfl, ⟨hI3, hr9.turn hturn, by have := Hxl.out; simp [this], fun i x s h1 h2 => (hitems i x s h1 h2).turn hturn⟩, hblC.trans (hturn.below.mono hNM), hNM, by simp; omega, by omega, by omega, fun s hs => ?_⟩
                  obtain ⟨i, -, rfl⟩ := List.mem_map.1 hs
                  have := cutS_size (oS k) i
                  omega
        · have hi : ¬ (k : Int) < (n : Int) := by omega
          go_wp2
          go_meet
          case rel =>
            go_light
            obtain rfl : k = n := by omega
            exact hg
    case rest =>
      obtain ⟨ss, xs, it, mv, pe, fi, bb, cu, ge, rfl, rfl, rfl, rfl, rfl, rfl, hst, hbl, hNM, hss, hfi, hge, hsz⟩ := hcut
      obtain ⟨pm, cm, hmv⟩ := hst.row.len
      simp only [List.length_map] at hmv
      subst hmv
      obtain ⟨pi, ci, hit⟩ := hst.inv.row.len
      rw [hst.len] at hit
      subst hit
      obtain ⟨L, hL0⟩ : ∃ L, L = ss.length := ⟨_, rfl⟩
      rw [← hL0] at hst hss ⊢
      have hL : Hid (L = ss.length) := hL0
      clear hL0
      obtain ⟨hNb, ⟨en, ov, rd, pq, hb, -⟩, -⟩ := hst.inv
      go_wp2_with fail
      refine (backlog b mx mb pe fi pi L ci bb cu ge en ov rd pq wc hb (by omega)).mono ?_
      rintro e W2 ⟨rfl, hb2, hk2⟩
      have hst2 : St M b mx mb pe fi (.slice pi L ci) (.slice pm L cm) bb cu ge ss xs W2 := hst.same hb hb2 hk2
      have hbl2 : Below N w W2 := hbl.trans (Turn.of_kept (N := M) hk2 hst.lt (by simpa using kind_b hb hNb) |>.below.mono hNM)
      have c2 : W2.cell? ⟨b, 2, none⟩ = some (.int .u64 mx) := block_cell hb2 2
      have c3 : W2.cell? ⟨b, 3, none⟩ = some (.int .u64 mb) := block_cell hb2 3
      have c4 : W2.cell? ⟨b, 4, none⟩ = some (.int .u64 pe) := block_cell hb2 4
      have c5 : W2.cell? ⟨b, 5, none⟩ = some (.int .u64 fi) := block_cell hb2 5
      have c6 : W2.cell? ⟨b, 6, none⟩ = some (.slice pi L ci) := block_cell hb2 6
      have c7 : W2.cell? ⟨b, 7, none⟩ = some (.int .u64 bb) := block_cell hb2 7
      have c8 : W2.cell? ⟨b, 8, none⟩ = some (.int .u64 cu) := block_cell hb2 8
      have c9 : W2.cell? ⟨b, 9, none⟩ = some (.int .u64 ge) := block_cell hb2 9
      clear hst hbl hk2 hb
      go_upto_block 9 with fail
      go_cut [35, 322] from 323 to 338 (fun _ _ wx => Below W2.heap.size W2 wx)
      case first =>
        clear c2 c3 c4 c5 c6 c7 c8 c9
        go_wp2
        go_loopg [35, 322] L (fun g _ v wr => ∃ j : Nat, j + g = L ∧ v = .int .i64 j ∧ Below W2.heap.size W2 wr)
        case atStart => exact ⟨0, by omega, rfl, Below.refl _ _⟩
        case round =>
          obtain ⟨j, hj, rfl, hbr⟩ := hrel
          by_cases hjL : j < L
          · have hji : (j : Int) < (L : Int) := by omega
            have hstr := hst2.below hbr
            obtain ⟨qm, om, rfl, -, hmc⟩ := row_cells hstr.row (by have := hL.out; simp; omega) hL.out
            obtain ⟨qi, oi, rfl, hic⟩ := items_cells hstr.inv.row (by have := hL.out; have := hst2.len; omega)
            obtain ⟨x, hx⟩ : ∃ x, xs[j]? = some x := ⟨xs[j]'(by have := hL.out; have := hst2.len; omega), by simp⟩
            obtain ⟨sj, hsj⟩ : ∃ sj, ss[j]? = some sj := ⟨ss[j]'(by have := hL.out; omega), by simp⟩
            have hitem := hstr.item j x sj hx hsj
            have m1 := hic j x hx
            have m2 := hmc j hjL
            have hgd : ss.getD j ⟨#[]⟩ = sj := by simp [List.getD, hsj]
            rw [hgd] at m2
            clear hgd hx hsj hmc hic
            have hback := back_of (hitem.kept ((Kept.refl [] wr).drew) (by simp))
            obtain ⟨hNb', ⟨en', ov', rd', pq', hb', -⟩, -⟩ := hstr.inv
            have c6 : wr.cell? ⟨b, 6, none⟩ = some (.slice (some ⟨qi, oi, none⟩) L ci) := block_cell hb' 6
            obtain ⟨px, cx, Bx, fx, rfl, -, -⟩ := hitem
            go_wp2
            go_region
            go_wp2
            go_roundg (gk - 1)
            case measure => go_light; omega
            case rel =>
              go_light
              exact ⟨j + 1, by omega, by go_num, hbr.drew⟩
          · have hji : ¬ (j : Int) < (L : Int) := by omega
            go_wp2
            go_meet
            case rel =>
              go_light
              exact hbr
      case rest =>
        as_aux_lemma =>
          have hb3 := (Kept.of_below (T := []) hcut).keep hb2 (by simp)
          go_wp2_with fail
          refine (backlog b mx mb pe fi pi L ci bb cu ge en ov rd pq wc hb3 (by omega)).mono ?_
          rintro e W4 ⟨rfl, hb4, hk4⟩
          go_wp2_with fail
          go_ret
          refine ⟨rfl, ?_⟩
          rw [← hN.out]
          have hM2 := hst2.lt
          have hsz2 := hcut.size
          exact (hbl2.trans (hcut.mono (by omega))).trans ((Turn.of_kept (N := M) hk4 (by omega) (by simpa using kind_b hb3 hNb)).below.mono hNM)
end Go.Proofs.YbulkfyhgFmt
