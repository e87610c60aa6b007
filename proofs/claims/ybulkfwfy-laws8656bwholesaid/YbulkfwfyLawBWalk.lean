/-
  LawS8656BWhole: the walk of the law: four loops, each cut around; every callee by its contract.
-/
import Derived.Test.YbulkfwfyMem5
import Derived.Test.YbulkfwfyEqual
import Derived.Test.YbulkfwfyLoad
import Derived.Deep.DeepCutAuto
import Derived.Deep.CutBlock
import Derived.Deep.LoopGhost
import Derived.Deep.Light
import Derived.BigRegion
import Derived.Deep.RegionLaw
import Derived.Test.YbulkfwfyLast
import Derived.WalkSpells
namespace Go.Proofs.Ybulkfwfy.LawB
open Go.ChangeShapes Go.WideShapes Go.ChangeAt Go.RowKit


set_option maxRecDepth 100000 in
set_option maxHeartbeats 20000000 in
theorem walk (ga ba : Option Addr) (ng cg nb cb : Nat) (fl nm : Int) (hsum : ng + nb ≤ 1048576) (gb go : Nat) (hga : 0 < ng → ga = some ⟨gb, go, none⟩)
    (gD gK : Nat → Bool) (gq gi : Nat → Int) (gs : Nat → ByteArray) (w : World) (hgb : 0 < ng → gb < w.heap.size) (bb bo : Nat) (hba : 0 < nb → ba = some ⟨bb, bo, none⟩) (hbb : 0 < nb → bb < w.heap.size) (bN bS : Nat → Int) (bK : Nat → Bool) (bq bi : Nat → Int) (bs : Nat → ByteArray)
    (hbN : ∀ i, 0 ≤ bN i ∧ bN i ≤ 4294967295) (hfl : 0 ≤ fl ∧ fl ≤ 4294967295) (hnm : 0 ≤ nm ∧ nm ≤ 4294967295)
    (b0 : ∀ i, i < nb → w.cell? ⟨bb, bo + i * 6, none⟩ = some (.int .u32 (bN i)) ∧ w.cell? ⟨bb, bo + i * 6 + 1, none⟩ = some (.int .i32 (bS i)) ∧ w.cell? ⟨bb, bo + i * 6 + 2, none⟩ = some (.bool (bK i)) ∧ w.cell? ⟨bb, bo + i * 6 + 3, none⟩ = some (.int .u8 (bq i)) ∧ w.cell? ⟨bb, bo + i * 6 + 4, none⟩ = some (.int .i64 (bi i)) ∧ w.cell? ⟨bb, bo + i * 6 + 5, none⟩ = some (.string (bs i)))
    (g0 : ∀ i, i < ng → w.cell? ⟨gb, go + i * 5, none⟩ = some (.bool (gD i))) (g1 : ∀ i, i < ng → w.cell? ⟨gb, go + i * 5 + 1, none⟩ = some (.bool (gK i)))
    (g2 : ∀ i, i < ng → w.cell? ⟨gb, go + i * 5 + 2, none⟩ = some (.int .u8 (gq i))) (g3 : ∀ i, i < ng → w.cell? ⟨gb, go + i * 5 + 3, none⟩ = some (.int .i64 (gi i)))
    (g4 : ∀ i, i < ng → w.cell? ⟨gb, go + i * 5 + 4, none⟩ = some (.string (gs i))) :
    Calls Yba.prog 3 #[.slice ga ng cg, .slice ba nb cb, .int .u32 fl, .int .u32 nm] w fun e w' => e = .returned (.bool true) ∧ Below w.heap.size w w' := by
  have hs : ¬ (1048576 < (ng : Int) + (nb : Int)) := by omega
  have mk30 := make_at Yba.underlying30 info9 (ng + 1) (ng + 1) (Nat.le_refl _) (by omega) (by omega)
  have mk31 := make_at Yba.underlying31 info43 (ng + 1) (ng + 1) (Nat.le_refl _) (by omega) (by omega)
  have mk32 := make_at Yba.underlying32 info46 (ng + 1) (ng + 1) (Nat.le_refl _) (by omega) (by omega)
  have mk35 := make_at Yba.underlying35 info21 (ng + 1) (ng + 1) (Nat.le_refl _) (by omega) (by omega)
  rw [show ((ng + 1 : Nat) : Int) = (ng : Int) + 1 from by omega] at mk30 mk31 mk32 mk35
  obtain ⟨N, hN0⟩ : ∃ N, N = w.heap.size := ⟨_, rfl⟩
  rw [← hN0] at hgb
  have hN : Hid (N = w.heap.size) := hN0
  have G0 : Hid (∀ i, i < ng → w.cell? ⟨gb, go + i * 5, none⟩ = some (.bool (gD i)) ∧ w.cell? ⟨gb, go + i * 5 + 1, none⟩ = some (.bool (gK i)) ∧ w.cell? ⟨gb, go + i * 5 + 2, none⟩ = some (.int .u8 (gq i)) ∧ w.cell? ⟨gb, go + i * 5 + 3, none⟩ = some (.int .i64 (gi i)) ∧ w.cell? ⟨gb, go + i * 5 + 4, none⟩ = some (.string (gs i))) :=
    fun i hi => ⟨g0 i hi, g1 i hi, g2 i hi, g3 i hi, g4 i hi⟩
  have Hga : Hid ((0 < ng → ga = some ⟨gb, go, none⟩) ∧ (0 < ng → gb < N)) := ⟨hga, hgb⟩
  have B0 : Hid (∀ i, i < nb → w.cell? ⟨bb, bo + i * 6, none⟩ = some (.int .u32 (bN i)) ∧ w.cell? ⟨bb, bo + i * 6 + 1, none⟩ = some (.int .i32 (bS i)) ∧ w.cell? ⟨bb, bo + i * 6 + 2, none⟩ = some (.bool (bK i)) ∧ w.cell? ⟨bb, bo + i * 6 + 3, none⟩ = some (.int .u8 (bq i)) ∧ w.cell? ⟨bb, bo + i * 6 + 4, none⟩ = some (.int .i64 (bi i)) ∧ w.cell? ⟨bb, bo + i * 6 + 5, none⟩ = some (.string (bs i))) := b0
  rw [← hN0] at hbb
  have Hba : Hid ((0 < nb → ba = some ⟨bb, bo, none⟩) ∧ (0 < nb → bb < N)) := ⟨hba, hbb⟩
  clear b0 hba hbb
  clear hN0 g0 g1 g2 g3 g4 hga hgb
  go_enter Yba.func3, Yba.ntmps3
  go_upto_region 9 with fail
  go_cut [9, 10, 11] from 34 to 64 (fun n m i wx => n = .int .i64 ((ng : Int) + 1) ∧ m = .pointer (some ⟨N, 0, none⟩) ∧ i = .int .i64 0 ∧ Mem w N ng (.slice none 0 0) (fun _ => .string ⟨#[]⟩) (fun _ => .bool false) stk0 (fun _ => .int .i32 0) wx)
  case first =>
    go_wp2
    go_meet
    case rel =>
      go_light
      refine ⟨rfl, by rw [hN.out], rfl, ?_⟩
      rw [hN.out]
      exact mem_start w ng
  case rest =>
    clear mk30 mk31 mk32 mk35
    obtain ⟨rfl, rfl, rfl, hm0⟩ := hcut
    go_upto_block 0 with fail
    go_cut [11] from 34 to 64 (fun _ wx => Mem w N ng (.slice none 0 0) (fun _ => .string ⟨#[118]⟩) (fun _ => .bool false) stk0 (fun _ => .int .i32 (-1)) wx)
    case first =>
      go_wp2
      go_loopg [11] (ng + 1) (fun g i wr => ∃ k : Nat, k + g = ng + 1 ∧ i = .int .i64 k ∧ Mem w N ng (.slice none 0 0) (fun j => if j < k then .string ⟨#[118]⟩ else .string ⟨#[]⟩) (fun _ => .bool false) stk0 (fun j => if j < k then .int .i32 (-1) else .int .i32 0) wr)
      case atStart => exact ⟨0, by omega, rfl, hm0.congr (fun _ _ => by simp) (fun _ _ => rfl) (fun _ _ => rfl) (fun _ _ => by simp)⟩
      case round =>
        obtain ⟨k, hk, rfl, hm⟩ := hrel
        by_cases hlt : k < ng + 1
        · have c3 := hm.c3
          have c9 := hm.c9
          have x1 := hm.names.cell hlt
          have x2 := hm.names.frozen k
          have y1 := hm.inner.cell hlt
          have y2 := hm.inner.frozen k
          simp only [Nat.lt_irrefl, if_false] at x1 y1
          have hi : (k : Int) < (ng : Int) + 1 := by omega
          go_wp2
          go_roundg (gk - 1)
          case measure => go_light; omega
          case rel =>
            go_light
            refine ⟨k + 1, by omega, by go_num, ?_⟩
            refine ((hm.setName k (.string ⟨#[118]⟩)).setInner k (.int .i32 (-1))).congr (fun j _ => ?_) (fun _ _ => rfl) (fun _ _ => rfl) (fun j _ => ?_)
            · by_cases e : j = k <;> by_cases e2 : j < k <;> simp [e, e2] <;> omega
            · by_cases e : j = k <;> by_cases e2 : j < k <;> simp [e, e2] <;> omega
        · have hi : ¬ (k : Int) < (ng : Int) + 1 := by omega
          go_wp2
          go_meet
          case rel =>
            go_light
            exact hm.congr (fun j hj => by simp; omega) (fun _ _ => rfl) (fun _ _ => rfl) (fun j hj => by simp; omega)
    case rest =>
      clear hm0
      have hm1 := hcut
      clear hcut
      go_upto_block 2 with fail
      go_cut [12, 13, 84] from 34 to 84 (fun _ _ _ wx => Mem w N ng (.slice none 0 0) (fun _ => .string ⟨#[118]⟩) (glb gD gK ng) (stk gq gi gs ng) (fun _ => .int .i32 (-1)) wx)
      case first =>
        go_wp2
        go_loopg [12, 13, 84] ng (fun g _ _ i wr => ∃ k : Nat, k + g = ng ∧ i = .int .i64 k ∧ Mem w N ng (.slice none 0 0) (fun _ => .string ⟨#[118]⟩) (glb gD gK k) (stk gq gi gs k) (fun _ => .int .i32 (-1)) wr)
        case atStart => exact ⟨0, by omega, rfl, hm1.rows0⟩
        case round =>
          obtain ⟨k, hk, rfl, hm⟩ := hrel
          by_cases hlt : k < ng
          · obtain rfl := Hga.out.1 (by omega)
            have hi : (k : Int) < (ng : Int) := by omega
            obtain ⟨x0, x1, x2, x3, x4⟩ := G0.out k hlt
            have hgN := Hga.out.2 (by omega)
            rw [← hm.below.cell hgN] at x0 x1 x2 x3 x4
            go_upto_region 17 with fail
            go_cut [13] from 85 to 113 (fun b wx => ∃ g, b = .pointer (some ⟨g, 0, none⟩) ∧ N + 5 ≤ g ∧ wx.heap[g]? = some (.cells #[.bool (gD k), .bool (gK k), .int .u8 (gq k), .int .i64 (gi k), .string (gs k)] 41 (0, 0)) ∧ Mem w N ng (.slice none 0 0) (fun _ => .string ⟨#[118]⟩) (glb gD gK (k + 1)) (stk gq gi gs k) (fun _ => .int .i32 (-1)) wx)
            case first =>
              clear x0 x1 x2 x3 x4
              obtain ⟨W, hW0⟩ : ∃ W, W = wr.alloc (.cells #[.bool (gD k), .bool (gK k), .int .u8 (gq k), .int .i64 (gi k), .string (gs k)] 41) := ⟨_, rfl⟩
              rw [← hW0]
              have hb : Hid (W.heap[wr.heap.size]? = some (.cells #[.bool (gD k), .bool (gK k), .int .u8 (gq k), .int .i64 (gi k), .string (gs k)] 41 (0, 0))) := by rw [hW0]; exact block_alloc _ _
              have hmW : Mem w N ng (.slice none 0 0) (fun _ => .string ⟨#[118]⟩) (glb gD gK k) (stk gq gi gs k) (fun _ => .int .i32 (-1)) W := by rw [hW0]; exact hm.alloc _
              clear hW0
              have y0 : W.cell? ⟨wr.heap.size, 0, none⟩ = some (.bool (gD k)) := cell_block hb.out 0
              have y1 : W.cell? ⟨wr.heap.size, 1, none⟩ = some (.bool (gK k)) := cell_block hb.out 1
              have c4 := hmW.c4
              have z0 := hmW.globs.cell (i := k * 2) (by omega)
              have z1 := hmW.globs.cell (i := k * 2 + 1) (by omega)
              have z2 := hmW.globs.frozen (k * 2)
              have z3 := hmW.globs.frozen (k * 2 + 1)
              rw [(glb_zero k).1] at z0
              rw [(glb_zero k).2] at z1
              have hi' : (k : Int) < (ng : Int) + 1 := by omega
              go_region
              go_wp2
              go_meet
              case rel =>
                go_light
                exact ⟨_, rfl, hm.size, block_set (block_set hb.out (by show N + 2 ≠ wr.heap.size; have := hm.size; omega) _) (by show N + 2 ≠ wr.heap.size; have := hm.size; omega) _, hmW.glb_step⟩
            case rest =>
              clear x0 x1 x2 x3 x4 hm
              obtain ⟨g, rfl, hg5, hblk, hm⟩ := hcut
              have hB : Hid (wc.heap[g]? = some (.cells #[.bool (gD k), .bool (gK k), .int .u8 (gq k), .int .i64 (gi k), .string (gs k)] 41 (0, 0))) := hblk
              have y2 : wc.cell? ⟨g, 2, none⟩ = some (.int .u8 (gq k)) := cell_block hblk 2
              have y3 : wc.cell? ⟨g, 3, none⟩ = some (.int .i64 (gi k)) := cell_block hblk 3
              have y4 : wc.cell? ⟨g, 4, none⟩ = some (.string (gs k)) := cell_block hblk 4
              clear hblk
              have c7 := hm.c7
              have z0 := hm.stack.cell (i := k * 3) (by omega)
              have z1 := hm.stack.cell (i := k * 3 + 1) (by omega)
              have z2 := hm.stack.cell (i := k * 3 + 2) (by omega)
              have z3 := hm.stack.frozen (k * 3)
              have z4 := hm.stack.frozen (k * 3 + 1)
              have z5 := hm.stack.frozen (k * 3 + 2)
              rw [(stk_zero k).1] at z0
              rw [(stk_zero k).2.1] at z1
              rw [(stk_zero k).2.2] at z2
              have hi' : (k : Int) < (ng : Int) + 1 := by omega
              go_wp2
              go_region
              go_wp2
              go_roundg (gk - 1)
              case measure => go_light; omega
              case rel =>
                go_light
                exact ⟨k + 1, by omega, by go_num, hm.stk_step⟩
          · have hi : ¬ (k : Int) < (ng : Int) := by omega
            obtain rfl : k = ng := by omega
            go_wp2
            go_meet
            case rel =>
              go_light
              exact hm
      case rest =>
        clear hm1
        have hm2 := hcut
        clear hcut
        obtain ⟨ix, hix0⟩ : ∃ ix : Nat → Nat, ∀ i, (ix i : Int) = bN i % ((ng : Int) + 1) := ⟨fun i => (bN i % ((ng : Int) + 1)).toNat, fun i => by rw [Int.toNat_of_nonneg (Int.emod_nonneg _ (by omega))]⟩
        have hix : Hid (∀ i, (ix i : Int) = bN i % ((ng : Int) + 1)) := hix0
        clear hix0
        go_upto_region 20 with fail
        go_cut [] from 34 to 113 (fun wx => ∃ G, St w N ng nb G gD gK gq gi gs ix bS bK bq bi bs 0 wx)
        case first =>
          have mk34 := make_at Yba.underlying34 info50 0 nb (Nat.zero_le _) (by omega) (by omega)
          rw [show ((0 : Nat) : Int) = 0 from rfl] at mk34
          have c8 : ∀ o, (wc.alloc o).cell? ⟨N, 8, none⟩ = some (.slice none 0 0) := fun o => (hm2.alloc o).c8
          have f8 : ∀ o, (wc.alloc o).frozen? ⟨N, 8, none⟩ = false := fun o => (hm2.alloc o).mfrozen 8
          go_wp2
          go_meet
          case rel =>
            go_light
            exact ⟨_, St.start hm2⟩
        case rest =>
          clear hm2
          obtain ⟨G, hst⟩ := hcut
          go_upto_block 4 with fail
          go_cut [15, 16, 122] from 34 to 122 (fun _ _ _ wx => St w N ng nb G gD gK gq gi gs ix bS bK bq bi bs nb wx)
          case first =>
            go_wp2
            go_loopg [15, 16, 122] nb (fun g _ _ i wr => ∃ k : Nat, k + g = nb ∧ i = .int .i64 k ∧ St w N ng nb G gD gK gq gi gs ix bS bK bq bi bs k wr)
            case atStart => exact ⟨0, by omega, rfl, hst⟩
            case round =>
              clear hst
              obtain ⟨k, hk, rfl, hst⟩ := hrel
              by_cases hlt : k < nb
              · obtain rfl := Hba.out.1 (by omega)
                have hi : (k : Int) < (nb : Int) := by omega
                obtain ⟨x0, x1, x2, x3, x4, x5⟩ := B0.out k hlt
                have hbNN := Hba.out.2 (by omega)
                rw [← hst.mem.below.cell hbNN] at x0 x1 x2 x3 x4 x5
                have hbk := hbN k
                go_upto_region 24 with fail
                go_cut [15, 16] from 123 to 174 (fun b s wx => ∃ g, b = .pointer (some ⟨g, 0, none⟩) ∧ s = .int .i32 (ix k) ∧ G + 1 ≤ g ∧ wx.heap[g]? = some (.cells #[.int .u32 (bN k), .int .i32 (bS k), .bool (bK k), .int .u8 (bq k), .int .i64 (bi k), .string (bs k)] 48 (0, 0)) ∧ St w N ng nb G gD gK gq gi gs ix bS bK bq bi bs k wx)
                case first =>
                  go_wp2
                  go_meet
                  case rel =>
                    go_light
                    refine ⟨_, rfl, ?_, hst.lt, block_alloc _ _, hst.alloc _⟩
                    rw [hix.out k]
                    have h1 := Int.emod_nonneg (bN k) (show ((ng : Int) + 1) ≠ 0 by omega)
                    have h2 := Int.emod_lt_of_pos (bN k) (show (0 : Int) < (ng : Int) + 1 by omega)
                    rw [wrap32_id (by omega) (by omega)]
                case rest =>
                  clear x0 x1 x2 x3 x4 x5 hst hbk
                  obtain ⟨g, rfl, rfl, hgG, hblk, hst⟩ := hcut
                  have hB : Hid (wc.heap[g]? = some (.cells #[.int .u32 (bN k), .int .i32 (bS k), .bool (bK k), .int .u8 (bq k), .int .i64 (bi k), .string (bs k)] 48 (0, 0))) := hblk
                  have y1 : wc.cell? ⟨g, 1, none⟩ = some (.int .i32 (bS k)) := cell_block hblk 1
                  have y2 : wc.cell? ⟨g, 2, none⟩ = some (.bool (bK k)) := cell_block hblk 2
                  have y3 : wc.cell? ⟨g, 3, none⟩ = some (.int .u8 (bq k)) := cell_block hblk 3
                  have y4 : wc.cell? ⟨g, 4, none⟩ = some (.int .i64 (bi k)) := cell_block hblk 4
                  have y5 : wc.cell? ⟨g, 5, none⟩ = some (.string (bs k)) := cell_block hblk 5
                  clear hblk
                  have c8 := hst.mem.c8
                  have c9 := hst.mem.c9
                  have hixk := ix_lt (hix.out k) (by omega)
                  have z0 := hst.mem.inner.cell hixk
                  have f8 := hst.mem.mfrozen 8
                  have hi1 : (ix k : Int) < (ng : Int) + 1 := by omega
                  have hNG : ¬ N = G := by have := hst.far; omega
                  have hGN : ¬ G = N := by have := hst.far; omega
                  have hgap : k * 7 + 7 ≤ nb * 7 := by omega
                  have d8 : ∀ o, (wc.alloc o).cell? ⟨N, 8, none⟩ = some (.slice (some ⟨G, 0, none⟩) k nb) := fun o => (hst.alloc o).mem.c8
                  have e8 : ∀ o, (wc.alloc o).frozen? ⟨N, 8, none⟩ = false := fun o => (hst.alloc o).mem.mfrozen 8
                  have r0 : ∀ o, (wc.alloc o).cell? ⟨G, k * 7, none⟩ = some (.int .i32 0) := fun o => ((hst.alloc o).named.cell (i := k * 7) (by omega)).trans (by simp [nrow0])
                  have r1 : ∀ o, (wc.alloc o).cell? ⟨G, k * 7 + 1, none⟩ = some (.int .i32 0) := fun o => ((hst.alloc o).named.cell (i := k * 7 + 1) (by omega)).trans (by simp [nrow1])
                  have r2 : ∀ o, (wc.alloc o).cell? ⟨G, k * 7 + 2, none⟩ = some (.int .i32 0) := fun o => ((hst.alloc o).named.cell (i := k * 7 + 2) (by omega)).trans (by simp [nrow2])
                  have r3 : ∀ o, (wc.alloc o).cell? ⟨G, k * 7 + 3, none⟩ = some (.bool false) := fun o => ((hst.alloc o).named.cell (i := k * 7 + 3) (by omega)).trans (by simp [nrow3])
                  have r4 : ∀ o, (wc.alloc o).cell? ⟨G, k * 7 + 4, none⟩ = some (.int .u8 0) := fun o => ((hst.alloc o).named.cell (i := k * 7 + 4) (by omega)).trans (by simp [nrow4])
                  have r5 : ∀ o, (wc.alloc o).cell? ⟨G, k * 7 + 5, none⟩ = some (.int .i64 0) := fun o => ((hst.alloc o).named.cell (i := k * 7 + 5) (by omega)).trans (by simp [nrow5])
                  have r6 : ∀ o, (wc.alloc o).cell? ⟨G, k * 7 + 6, none⟩ = some (.string ⟨#[]⟩) := fun o => ((hst.alloc o).named.cell (i := k * 7 + 6) (by omega)).trans (by simp [nrow6])
                  have q : ∀ o i, (wc.alloc o).frozen? ⟨G, i, none⟩ = false := fun o i => (hst.alloc o).named.frozen i
                  have d9 : ∀ o, (wc.alloc o).cell? ⟨N, 9, none⟩ = some (.slice (some ⟨N + 4, 0, none⟩) (ng + 1) (ng + 1)) := fun o => (hst.alloc o).mem.c9
                  have u1 : ∀ o, (wc.alloc o).cell? ⟨g, 1, none⟩ = some (.int .i32 (bS k)) := fun o => cell_later_alloc o y1
                  have u2 : ∀ o, (wc.alloc o).cell? ⟨g, 2, none⟩ = some (.bool (bK k)) := fun o => cell_later_alloc o y2
                  have u3 : ∀ o, (wc.alloc o).cell? ⟨g, 3, none⟩ = some (.int .u8 (bq k)) := fun o => cell_later_alloc o y3
                  have u4 : ∀ o, (wc.alloc o).cell? ⟨g, 4, none⟩ = some (.int .i64 (bi k)) := fun o => cell_later_alloc o y4
                  have u5 : ∀ o, (wc.alloc o).cell? ⟨g, 5, none⟩ = some (.string (bs k)) := fun o => cell_later_alloc o y5
                  have zz0 : ∀ o, (wc.alloc o).cell? ⟨N + 4, ix k, none⟩ = some (.int .i32 (last ix k (ix k))) := fun o => (hst.alloc o).mem.inner.cell hixk
                  obtain ⟨i0, hi0, _, hi7, _⟩ := info_parts info50
                  have hgG' : g ≠ G := by omega
                  have hN4G : N + 4 ≠ G := by have := hst.far; omega
                  have fz8 : ∀ o l, ((wc.alloc o).drew.setCells G (0 + k * 7) l).frozen? ⟨N, 8, none⟩ = false := fun o l => (World.frozen?_setCells G l _ _ _).trans (e8 o)
                  go_upto_region 25 with fail
                  go_cut [] from 123 to 174 (fun wx => Mem w N ng (.slice (some ⟨G, 0, none⟩) (k + 1) nb) (fun _ => .string ⟨#[118]⟩) (glb gD gK ng) (stk gq gi gs ng) (fun j => .int .i32 (last ix k j)) wx ∧ wx.rowIs G 50 (nb * 7) (nrow ix bS bK bq bi bs (k + 1)))
                  case first =>
                    refine Last.start (fun w' => w'.cell? ⟨N, 8, none⟩ = some (.slice (some ⟨G, 0, none⟩) k nb) ∧ w'.cell? ⟨N, 9, none⟩ = some (.slice (some ⟨N + 4, 0, none⟩) (ng + 1) (ng + 1)) ∧ w'.cell? ⟨g, 1, none⟩ = some (.int .i32 (bS k)) ∧ w'.cell? ⟨g, 2, none⟩ = some (.bool (bK k)) ∧ w'.cell? ⟨g, 3, none⟩ = some (.int .u8 (bq k)) ∧ w'.cell? ⟨g, 4, none⟩ = some (.int .i64 (bi k)) ∧ w'.cell? ⟨g, 5, none⟩ = some (.string (bs k)) ∧ w'.cell? ⟨N + 4, ix k, none⟩ = some (.int .i32 (last ix k (ix k)))) 29 (by kernel_rfl) ⟨c8, c9, y1, y2, y3, y4, y5, z0⟩ (fun hHeld => ?_)
                    refine Last.take 0 (v := ?v0) rfl (by kernel_rfl) (by kernel_rfl) (by kernel_rfl) (by kernel_rfl) (fun _ _ _ h => h) rfl ?y0 hHeld ?r0
                    case y0 => (intro w hSw; (try dsimp only at hSw); go_simp; try with_reducible rfl)
                    try simp only [Act.put, List.setIfInBounds_toArray, List.set_cons_zero, List.set_cons_succ]
                    refine Last.take 1 (v := ?v1) rfl (by kernel_rfl) (by kernel_rfl) (by kernel_rfl) (by kernel_rfl) (fun _ _ _ h => h) rfl ?y1 hHeld ?r1
                    case y1 => (intro w hSw; (try dsimp only at hSw); go_simp; try with_reducible rfl)
                    try simp only [Act.put, List.setIfInBounds_toArray, List.set_cons_zero, List.set_cons_succ]
                    refine Last.take 2 (v := ?v2) rfl (by kernel_rfl) (by kernel_rfl) (by kernel_rfl) (by kernel_rfl) (fun _ _ _ h => h) rfl ?y2 hHeld ?r2
                    case y2 => (intro w hSw; (try dsimp only at hSw); go_simp; try with_reducible rfl)
                    try simp only [Act.put, List.setIfInBounds_toArray, List.set_cons_zero, List.set_cons_succ]
                    refine Last.take 3 (v := ?v3) rfl (by kernel_rfl) (by kernel_rfl) (by kernel_rfl) (by kernel_rfl) (fun _ _ _ h => h) rfl ?y3 hHeld ?r3
                    case y3 => (intro w hSw; (try dsimp only at hSw); go_simp; try with_reducible rfl)
                    try simp only [Act.put, List.setIfInBounds_toArray, List.set_cons_zero, List.set_cons_succ]
                    refine Last.take 4 (v := ?v4) rfl (by kernel_rfl) (by kernel_rfl) (by kernel_rfl) (by kernel_rfl) (fun _ _ _ h => h) rfl ?y4 hHeld ?r4
                    case y4 => (intro w hSw; (try dsimp only at hSw); go_simp; try with_reducible rfl)
                    try simp only [Act.put, List.setIfInBounds_toArray, List.set_cons_zero, List.set_cons_succ]
                    refine Last.take 5 (v := ?v5) rfl (by kernel_rfl) (by kernel_rfl) (by kernel_rfl) (by kernel_rfl) (fun _ _ _ h => h) rfl ?y5 hHeld ?r5
                    case y5 => (intro w hSw; (try dsimp only at hSw); go_simp; try with_reducible rfl)
                    try simp only [Act.put, List.setIfInBounds_toArray, List.set_cons_zero, List.set_cons_succ]
                    refine Last.take 6 (v := ?v6) rfl (by kernel_rfl) (by kernel_rfl) (by kernel_rfl) (by kernel_rfl) (fun _ _ _ h => h) rfl ?y6 hHeld ?r6
                    case y6 => (intro w hSw; (try dsimp only at hSw); go_simp; try with_reducible rfl)
                    try simp only [Act.put, List.setIfInBounds_toArray, List.set_cons_zero, List.set_cons_succ]
                    refine Last.take 7 (v := ?v7) rfl (by kernel_rfl) (by kernel_rfl) (by kernel_rfl) (by kernel_rfl) (fun _ _ _ h => h) rfl ?y7 hHeld ?r7
                    case y7 => (intro w hSw; (try dsimp only at hSw); go_simp; try with_reducible rfl)
                    try simp only [Act.put, List.setIfInBounds_toArray, List.set_cons_zero, List.set_cons_succ]
                    refine Last.take 8 (v := ?v8) rfl (by kernel_rfl) (by kernel_rfl) (by kernel_rfl) (by kernel_rfl) (fun _ _ _ h => h) rfl ?y8 hHeld ?r8
                    case y8 => (intro w hSw; (try dsimp only at hSw); go_simp; try with_reducible rfl)
                    try simp only [Act.put, List.setIfInBounds_toArray, List.set_cons_zero, List.set_cons_succ]
                    refine Last.take 9 (v := ?v9) rfl (by kernel_rfl) (by kernel_rfl) (by kernel_rfl) (by kernel_rfl) (fun _ _ _ h => h) rfl ?y9 hHeld ?r9
                    case y9 => (intro w hSw; (try dsimp only at hSw); go_simp; try with_reducible rfl)
                    try simp only [Act.put, List.setIfInBounds_toArray, List.set_cons_zero, List.set_cons_succ]
                    refine Last.take 10 (v := ?v10) rfl (by kernel_rfl) (by kernel_rfl) (by kernel_rfl) (by kernel_rfl) (fun _ _ _ h => h) rfl ?y10 hHeld ?r10
                    case y10 => (intro w hSw; (try dsimp only at hSw); go_simp; try with_reducible rfl)
                    try simp only [Act.put, List.setIfInBounds_toArray, List.set_cons_zero, List.set_cons_succ]
                    refine Last.take 11 (v := ?v11) rfl (by kernel_rfl) (by kernel_rfl) (by kernel_rfl) (by kernel_rfl) (fun _ _ _ h => h) rfl ?y11 hHeld ?r11
                    case y11 => (intro w hSw; (try dsimp only at hSw); go_simp; try with_reducible rfl)
                    try simp only [Act.put, List.setIfInBounds_toArray, List.set_cons_zero, List.set_cons_succ]
                    refine Last.take 12 (v := ?v12) rfl (by kernel_rfl) (by kernel_rfl) (by kernel_rfl) (by kernel_rfl) (fun _ _ _ h => h) rfl ?y12 hHeld ?r12
                    case y12 => (intro w hSw; (try dsimp only at hSw); go_simp; try with_reducible rfl)
                    try simp only [Act.put, List.setIfInBounds_toArray, List.set_cons_zero, List.set_cons_succ]
                    refine Last.take 13 (v := ?v13) rfl (by kernel_rfl) (by kernel_rfl) (by kernel_rfl) (by kernel_rfl) (fun _ _ _ h => h) rfl ?y13 hHeld ?r13
                    case y13 => (intro w hSw; (try dsimp only at hSw); go_simp; try with_reducible rfl)
                    try simp only [Act.put, List.setIfInBounds_toArray, List.set_cons_zero, List.set_cons_succ]
                    refine Last.take 14 (v := ?v14) rfl (by kernel_rfl) (by kernel_rfl) (by kernel_rfl) (by kernel_rfl) (fun _ _ _ h => h) rfl ?y14 hHeld ?r14
                    case y14 => (intro w hSw; (try dsimp only at hSw); go_simp; try with_reducible rfl)
                    try simp only [Act.put, List.setIfInBounds_toArray, List.set_cons_zero, List.set_cons_succ]
                    refine Last.take 15 (v := ?v15) rfl (by kernel_rfl) (by kernel_rfl) (by kernel_rfl) (by kernel_rfl) (fun _ _ _ h => h) rfl ?y15 hHeld ?r15
                    case y15 => (intro w hSw; (try dsimp only at hSw); go_simp; try with_reducible rfl)
                    try simp only [Act.put, List.setIfInBounds_toArray, List.set_cons_zero, List.set_cons_succ]
                    refine Last.take 16 (v := ?v16) rfl (by kernel_rfl) (by kernel_rfl) (by kernel_rfl) (by kernel_rfl) (fun _ _ _ h => h) rfl ?y16 hHeld ?r16
                    case y16 => (intro w hSw; (try dsimp only at hSw); go_simp; try with_reducible rfl)
                    try simp only [Act.put, List.setIfInBounds_toArray, List.set_cons_zero, List.set_cons_succ]
                    refine Last.take 17 (v := ?v17) rfl (by kernel_rfl) (by kernel_rfl) (by kernel_rfl) (by kernel_rfl) (fun _ _ _ h => h) rfl ?y17 hHeld ?r17
                    case y17 => (intro w hSw; (try dsimp only at hSw); go_simp; try with_reducible rfl)
                    try simp only [Act.put, List.setIfInBounds_toArray, List.set_cons_zero, List.set_cons_succ]
                    refine Last.take 18 (v := ?v18) rfl (by kernel_rfl) (by kernel_rfl) (by kernel_rfl) (by kernel_rfl) (fun _ _ _ h => h) rfl ?y18 hHeld ?r18
                    case y18 => (intro w hSw; (try dsimp only at hSw); go_simp; try with_reducible rfl)
                    try simp only [Act.put, List.setIfInBounds_toArray, List.set_cons_zero, List.set_cons_succ]
                    refine Last.take 19 (v := ?v19) rfl (by kernel_rfl) (by kernel_rfl) (by kernel_rfl) (by kernel_rfl) (fun _ _ _ h => h) rfl ?y19 hHeld ?r19
                    case y19 => (intro w hSw; (try dsimp only at hSw); go_simp; try with_reducible rfl)
                    try simp only [Act.put, List.setIfInBounds_toArray, List.set_cons_zero, List.set_cons_succ]
                    refine Last.take 20 (v := ?v20) rfl (by kernel_rfl) (by kernel_rfl) (by kernel_rfl) (by kernel_rfl) (fun _ _ _ h => h) rfl ?y20 hHeld ?r20
                    case y20 => (intro w hSw; (try dsimp only at hSw); go_simp; try with_reducible rfl)
                    try simp only [Act.put, List.setIfInBounds_toArray, List.set_cons_zero, List.set_cons_succ]
                    refine Last.take 21 (v := ?v21) rfl (by kernel_rfl) (by kernel_rfl) (by kernel_rfl) (by kernel_rfl) (fun _ _ _ h => h) rfl ?y21 hHeld ?r21
                    case y21 => (intro w hSw; (try dsimp only at hSw); go_simp; try with_reducible rfl)
                    try simp only [Act.put, List.setIfInBounds_toArray, List.set_cons_zero, List.set_cons_succ]
                    refine Last.take 22 (v := ?v22) rfl (by kernel_rfl) (by kernel_rfl) (by kernel_rfl) (by kernel_rfl) (fun _ _ _ h => h) rfl ?y22 hHeld ?r22
                    case y22 => (intro w hSw; (try dsimp only at hSw); go_simp; try with_reducible rfl)
                    try simp only [Act.put, List.setIfInBounds_toArray, List.set_cons_zero, List.set_cons_succ]
                    refine Last.take 23 (v := ?v23) rfl (by kernel_rfl) (by kernel_rfl) (by kernel_rfl) (by kernel_rfl) (fun _ _ _ h => h) rfl ?y23 hHeld ?r23
                    case y23 => (intro w hSw; (try dsimp only at hSw); go_simp; try with_reducible rfl)
                    try simp only [Act.put, List.setIfInBounds_toArray, List.set_cons_zero, List.set_cons_succ]
                    refine Last.take 24 (v := ?v24) rfl (by kernel_rfl) (by kernel_rfl) (by kernel_rfl) (by kernel_rfl) (fun _ _ _ h => h) rfl ?y24 hHeld ?r24
                    case y24 => (intro w hSw; (try dsimp only at hSw); go_simp; try with_reducible rfl)
                    try simp only [Act.put, List.setIfInBounds_toArray, List.set_cons_zero, List.set_cons_succ]
                    refine Last.one 25 rfl (by kernel_rfl) (fun K hK => ?_)
                    go_simp
                    refine hK.out _ _ (fun _ => ⟨d8 _, d9 _, u1 _, u2 _, u3 _, u4 _, u5 _, zz0 _⟩) (fun hHeld => ?_)
                    replace hHeld := hHeld (by decide)
                    clear hK
                    try simp only [Act.put, List.setIfInBounds_toArray, List.set_cons_zero, List.set_cons_succ]
                    refine Last.one 26 rfl (by kernel_rfl) (fun K hK => ?_)
                    refine step_append_room rfl (.tmp 136) (.tmp 157) 34 rfl 50 i0 7 Yba.underlying34 hi0 hi7 G 0 k nb rfl ⟨wc.heap.size, 0, none⟩ 1 1 (bnd ix bS bK bq bi bs k) rfl rfl ?hc ?h1 (by omega) ?hsp ?_
                    case hc => exact news_cells wc (bnd ix bS bK bq bi bs k) 50
                    case h1 => exact bnd_one _ _ _ _ _ _ _
                    case hsp => exact (hst.alloc _).drew.spare hlt _ rfl
                    obtain ⟨s1, s2, s3, s4, s5, s6, s7, s8⟩ := hHeld
                    refine hK.out _ _ (fun _ => ⟨far_cell s1 hNG, far_cell s2 hNG, far_cell s3 hgG', far_cell s4 hgG', far_cell s5 hgG', far_cell s6 hgG', far_cell s7 hgG', far_cell s8 hN4G⟩) (fun hHeld => ?_)
                    replace hHeld := hHeld (by decide)
                    clear hK s1 s2 s3 s4 s5 s6 s7 s8
                    generalize hW27 : ((wc.alloc (.cells #[.int .i32 (ix k), .int .i32 (bS k), .int .i32 (last ix k (ix k)), .bool (bK k), .int .u8 (bq k), .int .i64 (bi k), .string (bs k)] 50)).drew.setCells G (0 + k * 7) (bnd ix bS bK bq bi bs k)) = W27 at hHeld ⊢
                    have s2 : W27.frozen? ⟨N, 8, none⟩ = false := by rw [← hW27]; exact fz8 _ _
                    have HW : Hid (((wc.alloc (.cells #[.int .i32 (ix k), .int .i32 (bS k), .int .i32 (last ix k (ix k)), .bool (bK k), .int .u8 (bq k), .int .i64 (bi k), .string (bs k)] 50)).drew.setCells G (0 + k * 7) (bnd ix bS bK bq bi bs k)) = W27) := hW27
                    clear hW27
                    try simp only [Act.put, List.setIfInBounds_toArray, List.set_cons_zero, List.set_cons_succ]
                    refine Last.one 27 rfl (by kernel_rfl) (fun K hK => ?_)
                    go_simp
                    refine hK.out _ _ (fun _ => hHeld) (fun hHeld => ?_)
                    replace hHeld := hHeld (by decide)
                    clear hK
                    try simp only [Act.put, List.setIfInBounds_toArray, List.set_cons_zero, List.set_cons_succ]
                    refine Last.one 28 rfl (by kernel_rfl) (fun K hK => ?_)
                    go_simp
                    refine hK.out _ _ (fun _ => hHeld) (fun hHeld => ?_)
                    replace hHeld := hHeld (by decide)
                    clear hK
                    try simp only [Act.put, List.setIfInBounds_toArray, List.set_cons_zero, List.set_cons_succ]
                    refine Last.one 29 rfl (by kernel_rfl) (fun K hK => ?_)
                    have s1 := hHeld.1
                    go_simp
                    refine hK.out _ _ (fun h => absurd rfl h) (fun _ => ?_)
                    try simp only [Act.put, List.setIfInBounds_toArray, List.set_cons_zero, List.set_cons_succ]
                    refine Last.done (by kernel_rfl) ?_ _
                    go_wp2
                    go_meet
                    case rel =>
                      go_light
                      rw [← HW.out]
                      have hap := (hst.alloc (.cells #[.int .i32 (ix k), .int .i32 (bS k), .int .i32 (last ix k (ix k)), .bool (bK k), .int .u8 (bq k), .int .i64 (bi k), .string (bs k)] 50)).drew.append
                      rw [Nat.zero_add]
                      exact hap
                  case rest =>
                    have hfar := hst.far
                    clear hst c8 c9 y1 y2 y3 y4 y5 z0 f8 d8 e8 r0 r1 r2 r3 r4 r5 r6 q d9 u1 u2 u3 u4 u5 zz0 hi0 hi7 fz8 hB
                    obtain ⟨hm3, hn3⟩ := hcut
                    have c8 := hm3.c8
                    have c9 := hm3.c9
                    have z0 := hm3.inner.cell hixk
                    have z1 := hm3.inner.frozen (ix k)
                    go_wp2
                    go_region
                    go_wp2
                    go_roundg (gk - 1)
                    case measure => go_light; omega
                    case rel =>
                      go_light
                      exact ⟨k + 1, by omega, by go_num, St.next hm3 hfar hn3⟩
              · have hi : ¬ (k : Int) < (nb : Int) := by omega
                obtain rfl : k = nb := by omega
                go_wp2
                go_meet
                case rel =>
                  go_light
                  exact hst
          case rest =>
            clear hst
            have hst := hcut
            clear hcut
            obtain ⟨gI, hgI0⟩ : ∃ gI : Nat, (gI : Int) = nm % ((ng : Int) + 1) := ⟨(nm % ((ng : Int) + 1)).toNat, by rw [Int.toNat_of_nonneg (Int.emod_nonneg _ (by omega))]⟩
            obtain ⟨F, hF0⟩ : ∃ F : Nat, (F : Int) = fl % ((nb : Int) + 2) := ⟨(fl % ((nb : Int) + 2)).toNat, by rw [Int.toNat_of_nonneg (Int.emod_nonneg _ (by omega))]⟩
            have hgI : Hid ((gI : Int) = nm % ((ng : Int) + 1)) := hgI0
            have hF : Hid ((F : Int) = fl % ((nb : Int) + 2)) := hF0
            clear hgI0 hF0
            go_upto_region 29 with fail
            go_cut [17, 18] from 114 to 186 (fun f g wx => f = .int .i64 (F : Int) ∧ g = .int .i32 (gI : Int) ∧ St w N ng nb G gD gK gq gi gs ix bS bK bq bi bs nb wx)
            case first =>
              go_wp2
              go_meet
              case rel =>
                go_light
                have h1 := Int.emod_nonneg nm (show ((ng : Int) + 1) ≠ 0 by omega)
                have h2 := Int.emod_lt_of_pos nm (show (0 : Int) < (ng : Int) + 1 by omega)
                have h3 := Int.emod_nonneg fl (show ((nb : Int) + 2) ≠ 0 by omega)
                have h4 := Int.emod_lt_of_pos fl (show (0 : Int) < (nb : Int) + 2 by omega)
                refine ⟨?_, ?_, hst⟩
                · rw [hF.out, wrap64_id (by omega) (by omega)]
                · rw [hgI.out, wrap32_id (by omega) (by omega)]
            case rest =>
              clear hst
              obtain ⟨rfl, rfl, hst⟩ := hcut
              go_upto_region 30 with fail
              have c3 := hst.mem.c3
              go_wp2_with fail
              refine (clone6 (N + 1) (ng + 1) (ng + 1) (ng + 1) (fun _ => .string ⟨#[118]⟩) wc hst.mem.names (by omega) (by omega) (fun _ => rfl)).mono ?_
              rintro e w1 ⟨g1, cc1, rfl, hp1, hq1, hb1, hr1⟩
              have hst1 := hst.later hb1
              have c4 := hst1.mem.c4
              clear c3 hst hb1 hp1
              go_wp2_with fail
              refine (clone7 (N + 2) (ng + 1) (ng + 1) ((ng + 1) * 2) (glb gD gK ng) w1 hst1.mem.globs (by omega) (by omega) (glb_one _)).mono ?_
              rintro e w2 ⟨g2, cc2, rfl, hp2, hq2, hb2, hr2⟩
              have hst2 := hst1.later hb2
              replace hr1 := cells_kept hr1 hq1 hb2
              replace hq1 := Nat.lt_of_lt_of_le hq1 hb2.size
              have c7 := hst2.mem.c7
              clear c4 hst1 hb2 hp2
              go_wp2_with fail
              refine (clone8 (N + 3) (ng + 1) (ng + 1) ((ng + 1) * 3) (stk gq gi gs ng) w2 hst2.mem.stack (by omega) (by omega) (stk_one _)).mono ?_
              rintro e w3 ⟨g3, cc3, rfl, hp3, hq3, hb3, hr3⟩
              have hst3 := hst2.later hb3
              replace hr1 := cells_kept hr1 hq1 hb3
              replace hr2 := cells_kept hr2 hq2 hb3
              replace hq1 := Nat.lt_of_lt_of_le hq1 hb3.size
              replace hq2 := Nat.lt_of_lt_of_le hq2 hb3.size
              have c8 := hst3.mem.c8
              clear c7 hst2 hb3 hp3
              go_wp2_with fail
              refine (clone9 G nb nb (nb * 7) (nrow ix bS bK bq bi bs nb) w3 hst3.named (by omega) (by omega) (nrow_one _)).mono ?_
              rintro e w4 ⟨g4, cc4, rfl, hp4, hq4, hb4, hr4⟩
              have hst4 := hst3.later hb4
              replace hr1 := cells_kept hr1 hq1 hb4
              replace hr2 := cells_kept hr2 hq2 hb4
              replace hr3 := cells_kept hr3 hq3 hb4
              replace hq1 := Nat.lt_of_lt_of_le hq1 hb4.size
              replace hq2 := Nat.lt_of_lt_of_le hq2 hb4.size
              replace hq3 := Nat.lt_of_lt_of_le hq3 hb4.size
              have c9 := hst4.mem.c9
              clear c8 hst3 hb4 hp4
              go_upto_region 34 with fail
              go_cut [19, 20, 21, 22, 23] from 114 to 211 (fun s1 s2 s3 s4 s5 wx => ∃ g1 g2 g3 g4 g5 c1 c2 c3 c4 c5, s1 = .slice (some ⟨g1, 0, none⟩) (ng + 1) c1 ∧ s2 = .slice (some ⟨g2, 0, none⟩) (ng + 1) c2 ∧ s3 = .slice (some ⟨g3, 0, none⟩) (ng + 1) c3 ∧ s4 = .slice (some ⟨g4, 0, none⟩) nb c4 ∧ s5 = .slice (some ⟨g5, 0, none⟩) (ng + 1) c5 ∧ St w N ng nb G gD gK gq gi gs ix bS bK bq bi bs nb wx ∧ Cl ng nb gD gK gq gi gs ix bS bK bq bi bs g1 g2 g3 g4 g5 wx)
              case first =>
                go_wp2_with fail
                refine (clone10 (N + 4) (ng + 1) (ng + 1) (ng + 1) (fun j => .int .i32 (last ix nb j)) w4 hst4.mem.inner (by omega) (by omega) (fun _ => rfl)).mono ?_
                rintro e w5 ⟨g5, cc5, rfl, hp5, hq5, hb5, hr5⟩
                go_wp2
                go_meet
                case rel =>
                  go_light
                  exact ⟨g1, g2, g3, g4, g5, _, _, _, _, _, rfl, rfl, rfl, rfl, rfl, hst4.later hb5, cells_kept hr1 hq1 hb5, cells_kept hr2 hq2 hb5, cells_kept hr3 hq3 hb5, cells_kept hr4 hq4 hb5, hr5,
                    Nat.lt_of_lt_of_le hq1 hb5.size, Nat.lt_of_lt_of_le hq2 hb5.size, Nat.lt_of_lt_of_le hq3 hb5.size, Nat.lt_of_lt_of_le hq4 hb5.size, hq5⟩
              case rest =>
                clear hst4 hr1 hr2 hr3 hr4 hq1 hq2 hq3 hq4 c9
                obtain ⟨g1, g2, g3, g4, g5, cc1, cc2, cc3, cc4, cc5, rfl, rfl, rfl, rfl, rfl, hst, hcl⟩ := hcut
                obtain ⟨L, hL0⟩ : ∃ L, L = last ix nb gI := ⟨_, rfl⟩
                have hL : Hid (L = last ix nb gI) := hL0
                have hLb : -1 ≤ L ∧ L ≤ 1048576 := by have := last_lt ix nb gI; rw [hL0]; omega
                clear hL0
                have hgl := ix_lt hgI.out (by omega)
                go_upto_region 35 with fail
                go_cut [24, 25] from 114 to 218 (fun p er wx => ∃ (gv : Nat) (q v : Int) (s : ByteArray), p = .pointer (some ⟨gv, 0, none⟩) ∧ wx.heap[gv]? = some (.cells #[.int .u8 q, .int .i64 v, .string s] 46 (0, 0)) ∧ Res L F ng gI gD gq gi gs bq bi bs q v s er ∧ St w N ng nb G gD gK gq gi gs ix bS bK bq bi bs nb wx ∧ Cl ng nb gD gK gq gi gs ix bS bK bq bi bs g1 g2 g3 g4 g5 wx)
                case first =>
                  have hcell : wc.cell? ⟨N + 4, gI, none⟩ = some (.int .i32 L) := by rw [hL.out]; exact hst.mem.inner.cell hgl
                  have hc4 := hst.mem.c4
                  have hc9 := hst.mem.c9
                  by_cases hA : (F : Int) ≤ L
                  · obtain ⟨j, hj⟩ : ∃ j : Nat, (j : Int) = L := ⟨L.toNat, by omega⟩
                    have hjn : j < nb := by have := last_lt ix nb gI; rw [← hL.out] at this; omega
                    have hn4 := hst.named.cell (i := j * 7 + 4) (by omega)
                    have hn5 := hst.named.cell (i := j * 7 + 5) (by omega)
                    have hn6 := hst.named.cell (i := j * 7 + 6) (by omega)
                    rw [nrow_at j 4 (by omega) hjn] at hn4
                    rw [nrow_at j 5 (by omega) hjn] at hn5
                    rw [nrow_at j 6 (by omega) hjn] at hn6
                    have HH := named_hit N (ng + 1) (ng + 1) G nb nb j F gI (bq j) (bi j) (bs j) wc hc9 hst.mem.c8 hgl (by rw [hj]; exact hcell) hjn (by omega) (by omega) hn4 hn5 hn6
                    clear hcell hc4 hc9 hn4 hn5 hn6
                    go_wp2_with fail
                    refine HH.mono ?_
                    rintro e w1 ⟨rfl, hb⟩
                    have hst1 := hst.later hb
                    have hcl1 := hcl.kept hb
                    clear hst hcl hb HH
                    go_wp2
                    go_meet
                    case rel =>
                      go_light
                      refine ⟨_, _, _, _, rfl, block_alloc _ _, .inl ⟨hA, ?_, ?_, ?_, rfl⟩, hst1.alloc _, hcl1.kept ((Below.refl _ _).alloc (Nat.le_refl _) _)⟩
                      · rw [← hj]; rfl
                      · rw [← hj]; rfl
                      · rw [← hj]; rfl
                  · by_cases hB : gI < ng ∧ gD gI = true
                    · have hD := hst.mem.globs.cell (i := gI * 2) (by omega)
                      have hs0 := hst.mem.stack.cell (i := gI * 3) (by omega)
                      have hs1 := hst.mem.stack.cell (i := gI * 3 + 1) (by omega)
                      have hs2 := hst.mem.stack.cell (i := gI * 3 + 2) (by omega)
                      rw [glb_at gI hB.1, hB.2] at hD
                      rw [(stk_at gI hB.1).1] at hs0
                      rw [(stk_at gI hB.1).2.1] at hs1
                      rw [(stk_at gI hB.1).2.2] at hs2
                      have HH := named_global N (ng + 1) (ng + 1) (ng + 1) (ng + 1) gI L F (gq gI) (gi gI) (gs gI) wc hc9 hc4 hst.mem.c7 hgl hcell hLb (by omega) hD hs0 hs1 hs2
                      clear hcell hc4 hc9 hD hs0 hs1 hs2
                      go_wp2_with fail
                      refine HH.mono ?_
                      rintro e w1 ⟨rfl, hb⟩
                      have hst1 := hst.later hb
                      have hcl1 := hcl.kept hb
                      clear hst hcl hb HH
                      go_wp2
                      go_meet
                      case rel =>
                        go_light
                        exact ⟨_, _, _, _, rfl, block_alloc _ _, .inr (.inl ⟨by omega, hB.1, hB.2, rfl, rfl, rfl, rfl⟩), hst1.alloc _, hcl1.kept ((Below.refl _ _).alloc (Nat.le_refl _) _)⟩
                    · have hD := hst.mem.globs.cell (i := gI * 2) (by omega)
                      have hfalse : gI < ng → gD gI = false := fun h => by cases e : gD gI with | false => rfl | true => exact absurd ⟨h, e⟩ hB
                      have hD' : wc.cell? ⟨N + 2, gI * 2, none⟩ = some (.bool false) := by
                        rw [hD]
                        by_cases h : gI < ng
                        · rw [glb_at gI h, hfalse h]
                        · rw [glb_out gI h]
                      have HH := named_err N (ng + 1) (ng + 1) (ng + 1) (ng + 1) gI L F wc hc9 hc4 hst.mem.c3 hgl hcell hLb (by omega) hD' (hst.mem.names.cell hgl)
                      clear hcell hc4 hc9 hD hD'
                      go_wp2_with fail
                      refine HH.mono ?_
                      rintro e w1 ⟨p, rfl, hb⟩
                      have hst1 := hst.later hb
                      have hcl1 := hcl.kept hb
                      clear hst hcl hb HH
                      go_wp2
                      go_meet
                      case rel =>
                        go_light
                        exact ⟨_, _, _, _, rfl, block_alloc _ _, .inr (.inr ⟨by omega, hfalse, rfl, rfl, rfl, p, rfl⟩), hst1.alloc _, hcl1.kept ((Below.refl _ _).alloc (Nat.le_refl _) _)⟩
                case rest =>
                  clear hst hcl
                  obtain ⟨gv, q, v, s, rfl, hv0, hres0, hst, hcl⟩ := hcut
                  have hv : Hid (wc.heap[gv]? = some (.cells #[.int .u8 q, .int .i64 v, .string s] 46 (0, 0))) := hv0
                  have hres : Hid (Res L F ng gI gD gq gi gs bq bi bs q v s u25) := hres0
                  clear hv0 hres0
                  obtain ⟨W5, hW5⟩ : ∃ W, W = wc := ⟨_, rfl⟩
                  subst hW5
                  go_upto_block 6 with fail
                  go_cut [26, 27] from 114 to 221 (fun j _ wx => j = .int .i64 L ∧ W5 = wx)
                  case first =>
                    go_wp2
                    go_loopg [26, 27] nb (fun m s26 s27 wx => wx = W5 ∧ m ≤ nb ∧ s26 = .int .i64 (-1) ∧ (∃ i : Int, s27 = .int .i64 i ∧ i + 1 = (m : Int)) ∧ Hid (last ix m gI = L))
                    case atStart => exact ⟨rfl, Nat.le_refl _, rfl, ⟨_, rfl, by omega⟩, hL.out.symm⟩
                    case round =>
                      obtain ⟨rfl, hmn, rfl, ⟨i, rfl, hi⟩, hlast⟩ := hrel
                      by_cases hpos : 0 < gk
                      · obtain ⟨m, rfl⟩ : ∃ m, gk = m + 1 := ⟨gk - 1, by omega⟩
                        obtain rfl : i = (m : Int) := by omega
                        obtain rfl := Hba.out.1 (by omega)
                        have hbNN := Hba.out.2 (by omega)
                        have hx := (B0.out m (by omega)).1
                        rw [← hst.mem.below.cell hbNN] at hx
                        have hbk := hbN m
                        have him : (m : Int) < (nb : Int) := by omega
                        have hwrap : wrap32 (bN m % ((ng : Int) + 1)) = (ix m : Int) := by
                          have h1 := Int.emod_nonneg (bN m) (show ((ng : Int) + 1) ≠ 0 by omega)
                          have h2 := Int.emod_lt_of_pos (bN m) (show (0 : Int) < (ng : Int) + 1 by omega)
                          rw [wrap32_id (by omega) (by omega), hix.out m]
                        clear hi hmn hpos
                        by_cases he : ix m = gI
                        · have hb : ((ix m : Int) == (gI : Int)) = true := by rw [he]; simp
                          have hLm : Hid (L = (m : Int)) := by have h := hlast.out; simp only [last] at h; rw [if_pos he] at h; exact h.symm
                          have HE : Hid (ix m = gI) := he
                          clear he hlast
                          go_wp2
                          go_meet
                          case rel =>
                            go_light
                            exact ⟨by rw [hLm.out], rfl⟩
                        · have hb : ((ix m : Int) == (gI : Int)) = false := by simp; omega
                          have hlm : Hid (last ix m gI = L) := by have h := hlast.out; simp only [last] at h; rw [if_neg he] at h; exact h
                          clear he hlast
                          go_wp2
                          go_roundg m
                          case measure => go_light; omega
                          case rel =>
                            go_light
                            exact ⟨rfl, by omega, rfl, ⟨_, rfl, by omega⟩, hlm⟩
                      · obtain rfl : gk = 0 := by omega
                        obtain rfl : i = -1 := by omega
                        have hLm : Hid (L = -1) := hlast.out.symm
                        clear hlast hi hmn hpos
                        go_wp2
                        go_meet
                        case rel =>
                          go_light
                          exact ⟨by rw [hLm.out], rfl⟩
                  case rest =>
                    obtain ⟨rfl, rfl⟩ := hcut
                    have t60 : ∀ (p : Addr) (w : World), (Instr.typeAssert (.iface 60 (.pointer (some p))) 57 60 true).run Yba.prog w = .ok (.tuple #[.pointer (some p), .bool true]) w := fun _ _ => by kernel_rfl
                    have v0 : W5.cell? ⟨gv, 0, none⟩ = some (.int .u8 q) := cell_block hv.out 0
                    have v1 : W5.cell? ⟨gv, 1, none⟩ = some (.int .i64 v) := cell_block hv.out 1
                    have v2 : W5.cell? ⟨gv, 2, none⟩ = some (.string s) := cell_block hv.out 2
                    replace v0 := later v0
                    replace v1 := later v1
                    replace v2 := later v2
                    rcases hres.out with ⟨hA, rfl, rfl, rfl, rfl⟩ | ⟨hA, hB, hC, rfl, rfl, rfl, rfl⟩ | ⟨hA, hB, rfl, rfl, rfl, p, rfl⟩
                    · as_aux_lemma =>
                        obtain ⟨j, hj⟩ : ∃ j : Nat, L = (j : Int) := ⟨L.toNat, by omega⟩
                        subst hj
                        have hjn : j < nb := by have := last_lt ix nb gI; rw [← hL.out] at this; omega
                        obtain rfl := Hba.out.1 (by omega)
                        have hbNN := Hba.out.2 (by omega)
                        obtain ⟨x0, x1, x2, x3, x4, x5⟩ := B0.out j hjn
                        rw [← hst.mem.below.cell hbNN] at x0 x1 x2 x3 x4 x5
                        replace x0 := later x0
                        replace x1 := later x1
                        replace x2 := later x2
                        replace x3 := later x3
                        replace x4 := later x4
                        replace x5 := later x5
                        have hji : (j : Int) < (nb : Int) := by omega
                        simp only [Int.toNat_natCast] at v0 v1 v2
                        go_upto_region 55 with fail
                        generalize hW6 : ((W5.alloc (.cells #[.int .u8 (bq j), .int .i64 (bi j), .string (bs j)] 46)).alloc (.cells #[.int .u32 (bN j), .int .i32 (bS j), .bool (bK j), .int .u8 (bq j), .int .i64 (bi j), .string (bs j)] 48)) = W6
                        have hst6 : St w N ng nb G gD gK gq gi gs ix bS bK bq bi bs nb W6 := by rw [← hW6]; exact hst.later (((Below.refl _ _).alloc (Nat.le_refl _) _).alloc (by simp) _)
                        have hcl6 : Cl ng nb gD gK gq gi gs ix bS bK bq bi bs g1 g2 g3 g4 g5 W6 := by rw [← hW6]; exact hcl.kept (((Below.refl _ _).alloc (Nat.le_refl _) _).alloc (by simp) _)
                        have a0 : W6.cell? ⟨gv, 0, none⟩ = some (.int .u8 (bq j)) := by rw [← hW6]; exact later (v0 _) _
                        have a1 : W6.cell? ⟨gv, 1, none⟩ = some (.int .i64 (bi j)) := by rw [← hW6]; exact later (v1 _) _
                        have a2 : W6.cell? ⟨gv, 2, none⟩ = some (.string (bs j)) := by rw [← hW6]; exact later (v2 _) _
                        have b0 : W6.cell? ⟨W5.heap.size, 0, none⟩ = some (.int .u8 (bq j)) := by rw [← hW6]; exact later (cell_block (block_alloc _ _) 0) _
                        have b1 : W6.cell? ⟨W5.heap.size, 1, none⟩ = some (.int .i64 (bi j)) := by rw [← hW6]; exact later (cell_block (block_alloc _ _) 1) _
                        have b2 : W6.cell? ⟨W5.heap.size, 2, none⟩ = some (.string (bs j)) := by rw [← hW6]; exact later (cell_block (block_alloc _ _) 2) _
                        clear hW6 hst hcl v0 v1 v2
                        clear x0 x1 x2 x3 x4 x5
                        have c3 := hst6.mem.c3
                        have c4 := hst6.mem.c4
                        have c7 := hst6.mem.c7
                        have c8 := hst6.mem.c8
                        have c9 := hst6.mem.c9
                        have E1 : Hid (_ ∧ _) := eq1 hst6 hcl6
                        have E2 : Hid (_ ∧ _) := eq2 hst6 hcl6
                        have E3 : Hid (_ ∧ _) := eq3 hst6 hcl6
                        have E4 : Hid (_ ∧ _) := eq4 hst6 hcl6
                        have E5 : Hid (_ ∧ _) := eq5 hst6 hcl6
                        have hend : Hid (Below w.heap.size w W6) := by rw [← hN.out]; exact hst6.mem.below
                        clear hst6 hcl6
                        go_wp2_with fail
                        obtain ⟨p0, p1⟩ := E1.out
                        refine (equal12 (N + 1) g1 (ng + 1) (ng + 1) cc1 (fun _ => ⟨#[118]⟩) W6 (by omega) p0 p1).mono ?_
                        clear p0 p1 E1
                        rintro e w' ⟨rfl, m1, rfl⟩
                        go_wp2_with fail
                        obtain ⟨p0, p1, p2, p3⟩ := E2.out
                        refine (equal13 (N + 2) g2 (ng + 1) (ng + 1) cc2 (upB ng gD) (upB ng gK) (W6.drewN m1) (by omega) p0 p1 p2 p3).mono ?_
                        clear p0 p1 p2 p3 E2
                        rintro e w' ⟨rfl, m2, rfl⟩
                        go_wp2_with fail
                        obtain ⟨p0, p1, p2, p3, p4, p5⟩ := E3.out
                        refine (equal14 (N + 3) g3 (ng + 1) (ng + 1) cc3 (upI ng gq) (upI ng gi) (upS ng gs) (W6.drewN (m1 + m2)) (by omega) p0 p1 p2 p3 p4 p5).mono ?_
                        clear p0 p1 p2 p3 p4 p5 E3
                        rintro e w' ⟨rfl, m3, rfl⟩
                        go_wp2_with fail
                        obtain ⟨p0, p1, p2, p3, p4, p5, p6, p7, p8, p9, p10, p11, p12, p13⟩ := E4.out
                        refine (equal15 G g4 nb nb cc4 (fun i => (ix i : Int)) bS (fun i => last ix i (ix i)) bK bq bi bs (W6.drewN (m1 + m2 + m3)) (by omega) p0 p1 p2 p3 p4 p5 p6 p7 p8 p9 p10 p11 p12 p13).mono ?_
                        clear p0 p1 p2 p3 p4 p5 p6 p7 p8 p9 p10 p11 p12 p13 E4
                        rintro e w' ⟨rfl, m4, rfl⟩
                        go_wp2_with fail
                        obtain ⟨p0, p1⟩ := E5.out
                        refine (equal16 (N + 4) g5 (ng + 1) (ng + 1) cc5 (fun i => last ix nb i) (W6.drewN (m1 + m2 + m3 + m4)) (by omega) p0 p1).mono ?_
                        clear p0 p1 E5
                        rintro e w' ⟨rfl, m5, rfl⟩
                        go_wp2_with fail
                        go_ret
                        exact ⟨rfl, hend.out.trans (below_drewN _ _ _)⟩
                    · as_aux_lemma =>
                        obtain rfl := Hga.out.1 (by omega)
                        have hgNN := Hga.out.2 (by omega)
                        obtain ⟨x0, x1, x2, x3, x4⟩ := G0.out gI hB
                        rw [← hst.mem.below.cell hgNN] at x0 x1 x2 x3 x4
                        rw [hC] at x0
                        clear hC
                        replace x0 := later x0
                        replace x1 := later x1
                        replace x2 := later x2
                        replace x3 := later x3
                        replace x4 := later x4
                        have hlt : ¬ (F : Int) ≤ L := by omega
                        have hji : (gI : Int) < (ng : Int) := by omega
                        go_upto_region 55 with fail
                        generalize hW6 : ((W5.alloc (.cells #[.int .u8 (gq gI), .int .i64 (gi gI), .string (gs gI)] 46)).alloc (.cells #[.bool true, .bool (gK gI), .int .u8 (gq gI), .int .i64 (gi gI), .string (gs gI)] 41)) = W6
                        have hst6 : St w N ng nb G gD gK gq gi gs ix bS bK bq bi bs nb W6 := by rw [← hW6]; exact hst.later (((Below.refl _ _).alloc (Nat.le_refl _) _).alloc (by simp) _)
                        have hcl6 : Cl ng nb gD gK gq gi gs ix bS bK bq bi bs g1 g2 g3 g4 g5 W6 := by rw [← hW6]; exact hcl.kept (((Below.refl _ _).alloc (Nat.le_refl _) _).alloc (by simp) _)
                        have a0 : W6.cell? ⟨gv, 0, none⟩ = some (.int .u8 (gq gI)) := by rw [← hW6]; exact later (v0 _) _
                        have a1 : W6.cell? ⟨gv, 1, none⟩ = some (.int .i64 (gi gI)) := by rw [← hW6]; exact later (v1 _) _
                        have a2 : W6.cell? ⟨gv, 2, none⟩ = some (.string (gs gI)) := by rw [← hW6]; exact later (v2 _) _
                        have b0 : W6.cell? ⟨W5.heap.size, 0, none⟩ = some (.int .u8 (gq gI)) := by rw [← hW6]; exact later (cell_block (block_alloc _ _) 0) _
                        have b1 : W6.cell? ⟨W5.heap.size, 1, none⟩ = some (.int .i64 (gi gI)) := by rw [← hW6]; exact later (cell_block (block_alloc _ _) 1) _
                        have b2 : W6.cell? ⟨W5.heap.size, 2, none⟩ = some (.string (gs gI)) := by rw [← hW6]; exact later (cell_block (block_alloc _ _) 2) _
                        clear hW6 hst hcl v0 v1 v2
                        clear x0 x1 x2 x3 x4
                        have c3 := hst6.mem.c3
                        have c4 := hst6.mem.c4
                        have c7 := hst6.mem.c7
                        have c8 := hst6.mem.c8
                        have c9 := hst6.mem.c9
                        have E1 : Hid (_ ∧ _) := eq1 hst6 hcl6
                        have E2 : Hid (_ ∧ _) := eq2 hst6 hcl6
                        have E3 : Hid (_ ∧ _) := eq3 hst6 hcl6
                        have E4 : Hid (_ ∧ _) := eq4 hst6 hcl6
                        have E5 : Hid (_ ∧ _) := eq5 hst6 hcl6
                        have hend : Hid (Below w.heap.size w W6) := by rw [← hN.out]; exact hst6.mem.below
                        clear hst6 hcl6
                        go_wp2_with fail
                        obtain ⟨p0, p1⟩ := E1.out
                        refine (equal12 (N + 1) g1 (ng + 1) (ng + 1) cc1 (fun _ => ⟨#[118]⟩) W6 (by omega) p0 p1).mono ?_
                        clear p0 p1 E1
                        rintro e w' ⟨rfl, m1, rfl⟩
                        go_wp2_with fail
                        obtain ⟨p0, p1, p2, p3⟩ := E2.out
                        refine (equal13 (N + 2) g2 (ng + 1) (ng + 1) cc2 (upB ng gD) (upB ng gK) (W6.drewN m1) (by omega) p0 p1 p2 p3).mono ?_
                        clear p0 p1 p2 p3 E2
                        rintro e w' ⟨rfl, m2, rfl⟩
                        go_wp2_with fail
                        obtain ⟨p0, p1, p2, p3, p4, p5⟩ := E3.out
                        refine (equal14 (N + 3) g3 (ng + 1) (ng + 1) cc3 (upI ng gq) (upI ng gi) (upS ng gs) (W6.drewN (m1 + m2)) (by omega) p0 p1 p2 p3 p4 p5).mono ?_
                        clear p0 p1 p2 p3 p4 p5 E3
                        rintro e w' ⟨rfl, m3, rfl⟩
                        go_wp2_with fail
                        obtain ⟨p0, p1, p2, p3, p4, p5, p6, p7, p8, p9, p10, p11, p12, p13⟩ := E4.out
                        refine (equal15 G g4 nb nb cc4 (fun i => (ix i : Int)) bS (fun i => last ix i (ix i)) bK bq bi bs (W6.drewN (m1 + m2 + m3)) (by omega) p0 p1 p2 p3 p4 p5 p6 p7 p8 p9 p10 p11 p12 p13).mono ?_
                        clear p0 p1 p2 p3 p4 p5 p6 p7 p8 p9 p10 p11 p12 p13 E4
                        rintro e w' ⟨rfl, m4, rfl⟩
                        go_wp2_with fail
                        obtain ⟨p0, p1⟩ := E5.out
                        refine (equal16 (N + 4) g5 (ng + 1) (ng + 1) cc5 (fun i => last ix nb i) (W6.drewN (m1 + m2 + m3 + m4)) (by omega) p0 p1).mono ?_
                        clear p0 p1 E5
                        rintro e w' ⟨rfl, m5, rfl⟩
                        go_wp2_with fail
                        go_ret
                        exact ⟨rfl, hend.out.trans (below_drewN _ _ _)⟩
                    · have hlt : ¬ (F : Int) ≤ L := by omega
                      by_cases hgn : gI < ng
                      · as_aux_lemma =>
                          obtain rfl := Hga.out.1 (by omega)
                          have hgNN := Hga.out.2 (by omega)
                          obtain ⟨x0, x1, x2, x3, x4⟩ := G0.out gI hgn
                          rw [← hst.mem.below.cell hgNN] at x0
                          rw [hB hgn] at x0
                          clear hB x1 x2 x3 x4
                          replace x0 := later x0
                          have hji : (gI : Int) < (ng : Int) := by omega
                          go_upto_region 52 with fail
                          generalize hW6 : (W5.alloc (.cells #[.int .u8 0, .int .i64 0, .string ⟨#[]⟩] 46)) = W6
                          have hst6 : St w N ng nb G gD gK gq gi gs ix bS bK bq bi bs nb W6 := by rw [← hW6]; exact hst.later ((Below.refl _ _).alloc (Nat.le_refl _) _)
                          have hcl6 : Cl ng nb gD gK gq gi gs ix bS bK bq bi bs g1 g2 g3 g4 g5 W6 := by rw [← hW6]; exact hcl.kept ((Below.refl _ _).alloc (Nat.le_refl _) _)
                          have a0 : W6.cell? ⟨gv, 0, none⟩ = some (.int .u8 0) := by rw [← hW6]; exact v0 _
                          have a1 : W6.cell? ⟨gv, 1, none⟩ = some (.int .i64 0) := by rw [← hW6]; exact v1 _
                          have a2 : W6.cell? ⟨gv, 2, none⟩ = some (.string ⟨#[]⟩) := by rw [← hW6]; exact v2 _
                          have b0 : W6.cell? ⟨W5.heap.size, 0, none⟩ = some (.int .u8 0) := by rw [← hW6]; exact cell_block (block_alloc _ _) 0
                          have b1 : W6.cell? ⟨W5.heap.size, 1, none⟩ = some (.int .i64 0) := by rw [← hW6]; exact cell_block (block_alloc _ _) 1
                          have b2 : W6.cell? ⟨W5.heap.size, 2, none⟩ = some (.string ⟨#[]⟩) := by rw [← hW6]; exact cell_block (block_alloc _ _) 2
                          clear hW6 hst hcl v0 v1 v2
                          clear x0
                          have c3 := hst6.mem.c3
                          have c4 := hst6.mem.c4
                          have c7 := hst6.mem.c7
                          have c8 := hst6.mem.c8
                          have c9 := hst6.mem.c9
                          have E1 : Hid (_ ∧ _) := eq1 hst6 hcl6
                          have E2 : Hid (_ ∧ _) := eq2 hst6 hcl6
                          have E3 : Hid (_ ∧ _) := eq3 hst6 hcl6
                          have E4 : Hid (_ ∧ _) := eq4 hst6 hcl6
                          have E5 : Hid (_ ∧ _) := eq5 hst6 hcl6
                          have hend : Hid (Below w.heap.size w W6) := by rw [← hN.out]; exact hst6.mem.below
                          clear hst6 hcl6
                          go_wp2_with fail
                          obtain ⟨p0, p1⟩ := E1.out
                          refine (equal12 (N + 1) g1 (ng + 1) (ng + 1) cc1 (fun _ => ⟨#[118]⟩) W6 (by omega) p0 p1).mono ?_
                          clear p0 p1 E1
                          rintro e w' ⟨rfl, m1, rfl⟩
                          go_wp2_with fail
                          obtain ⟨p0, p1, p2, p3⟩ := E2.out
                          refine (equal13 (N + 2) g2 (ng + 1) (ng + 1) cc2 (upB ng gD) (upB ng gK) (W6.drewN m1) (by omega) p0 p1 p2 p3).mono ?_
                          clear p0 p1 p2 p3 E2
                          rintro e w' ⟨rfl, m2, rfl⟩
                          go_wp2_with fail
                          obtain ⟨p0, p1, p2, p3, p4, p5⟩ := E3.out
                          refine (equal14 (N + 3) g3 (ng + 1) (ng + 1) cc3 (upI ng gq) (upI ng gi) (upS ng gs) (W6.drewN (m1 + m2)) (by omega) p0 p1 p2 p3 p4 p5).mono ?_
                          clear p0 p1 p2 p3 p4 p5 E3
                          rintro e w' ⟨rfl, m3, rfl⟩
                          go_wp2_with fail
                          obtain ⟨p0, p1, p2, p3, p4, p5, p6, p7, p8, p9, p10, p11, p12, p13⟩ := E4.out
                          refine (equal15 G g4 nb nb cc4 (fun i => (ix i : Int)) bS (fun i => last ix i (ix i)) bK bq bi bs (W6.drewN (m1 + m2 + m3)) (by omega) p0 p1 p2 p3 p4 p5 p6 p7 p8 p9 p10 p11 p12 p13).mono ?_
                          clear p0 p1 p2 p3 p4 p5 p6 p7 p8 p9 p10 p11 p12 p13 E4
                          rintro e w' ⟨rfl, m4, rfl⟩
                          go_wp2_with fail
                          obtain ⟨p0, p1⟩ := E5.out
                          refine (equal16 (N + 4) g5 (ng + 1) (ng + 1) cc5 (fun i => last ix nb i) (W6.drewN (m1 + m2 + m3 + m4)) (by omega) p0 p1).mono ?_
                          clear p0 p1 E5
                          rintro e w' ⟨rfl, m5, rfl⟩
                          go_wp2_with fail
                          go_ret
                          exact ⟨rfl, hend.out.trans (below_drewN _ _ _)⟩
                      · as_aux_lemma =>
                          have hji : ¬ (gI : Int) < (ng : Int) := by omega
                          clear hB
                          go_upto_region 52 with fail
                          generalize hW6 : (W5.alloc (.cells #[.int .u8 0, .int .i64 0, .string ⟨#[]⟩] 46)) = W6
                          have hst6 : St w N ng nb G gD gK gq gi gs ix bS bK bq bi bs nb W6 := by rw [← hW6]; exact hst.later ((Below.refl _ _).alloc (Nat.le_refl _) _)
                          have hcl6 : Cl ng nb gD gK gq gi gs ix bS bK bq bi bs g1 g2 g3 g4 g5 W6 := by rw [← hW6]; exact hcl.kept ((Below.refl _ _).alloc (Nat.le_refl _) _)
                          have a0 : W6.cell? ⟨gv, 0, none⟩ = some (.int .u8 0) := by rw [← hW6]; exact v0 _
                          have a1 : W6.cell? ⟨gv, 1, none⟩ = some (.int .i64 0) := by rw [← hW6]; exact v1 _
                          have a2 : W6.cell? ⟨gv, 2, none⟩ = some (.string ⟨#[]⟩) := by rw [← hW6]; exact v2 _
                          have b0 : W6.cell? ⟨W5.heap.size, 0, none⟩ = some (.int .u8 0) := by rw [← hW6]; exact cell_block (block_alloc _ _) 0
                          have b1 : W6.cell? ⟨W5.heap.size, 1, none⟩ = some (.int .i64 0) := by rw [← hW6]; exact cell_block (block_alloc _ _) 1
                          have b2 : W6.cell? ⟨W5.heap.size, 2, none⟩ = some (.string ⟨#[]⟩) := by rw [← hW6]; exact cell_block (block_alloc _ _) 2
                          clear hW6 hst hcl v0 v1 v2
                          have c3 := hst6.mem.c3
                          have c4 := hst6.mem.c4
                          have c7 := hst6.mem.c7
                          have c8 := hst6.mem.c8
                          have c9 := hst6.mem.c9
                          have E1 : Hid (_ ∧ _) := eq1 hst6 hcl6
                          have E2 : Hid (_ ∧ _) := eq2 hst6 hcl6
                          have E3 : Hid (_ ∧ _) := eq3 hst6 hcl6
                          have E4 : Hid (_ ∧ _) := eq4 hst6 hcl6
                          have E5 : Hid (_ ∧ _) := eq5 hst6 hcl6
                          have hend : Hid (Below w.heap.size w W6) := by rw [← hN.out]; exact hst6.mem.below
                          clear hst6 hcl6
                          go_wp2_with fail
                          obtain ⟨p0, p1⟩ := E1.out
                          refine (equal12 (N + 1) g1 (ng + 1) (ng + 1) cc1 (fun _ => ⟨#[118]⟩) W6 (by omega) p0 p1).mono ?_
                          clear p0 p1 E1
                          rintro e w' ⟨rfl, m1, rfl⟩
                          go_wp2_with fail
                          obtain ⟨p0, p1, p2, p3⟩ := E2.out
                          refine (equal13 (N + 2) g2 (ng + 1) (ng + 1) cc2 (upB ng gD) (upB ng gK) (W6.drewN m1) (by omega) p0 p1 p2 p3).mono ?_
                          clear p0 p1 p2 p3 E2
                          rintro e w' ⟨rfl, m2, rfl⟩
                          go_wp2_with fail
                          obtain ⟨p0, p1, p2, p3, p4, p5⟩ := E3.out
                          refine (equal14 (N + 3) g3 (ng + 1) (ng + 1) cc3 (upI ng gq) (upI ng gi) (upS ng gs) (W6.drewN (m1 + m2)) (by omega) p0 p1 p2 p3 p4 p5).mono ?_
                          clear p0 p1 p2 p3 p4 p5 E3
                          rintro e w' ⟨rfl, m3, rfl⟩
                          go_wp2_with fail
                          obtain ⟨p0, p1, p2, p3, p4, p5, p6, p7, p8, p9, p10, p11, p12, p13⟩ := E4.out
                          refine (equal15 G g4 nb nb cc4 (fun i => (ix i : Int)) bS (fun i => last ix i (ix i)) bK bq bi bs (W6.drewN (m1 + m2 + m3)) (by omega) p0 p1 p2 p3 p4 p5 p6 p7 p8 p9 p10 p11 p12 p13).mono ?_
                          clear p0 p1 p2 p3 p4 p5 p6 p7 p8 p9 p10 p11 p12 p13 E4
                          rintro e w' ⟨rfl, m4, rfl⟩
                          go_wp2_with fail
                          obtain ⟨p0, p1⟩ := E5.out
                          refine (equal16 (N + 4) g5 (ng + 1) (ng + 1) cc5 (fun i => last ix nb i) (W6.drewN (m1 + m2 + m3 + m4)) (by omega) p0 p1).mono ?_
                          clear p0 p1 E5
                          rintro e w' ⟨rfl, m5, rfl⟩
                          go_wp2_with fail
                          go_ret
                          exact ⟨rfl, hend.out.trans (below_drewN _ _ _)⟩
end Go.Proofs.Ybulkfwfy.LawB
