/-
  fmt's two texts, told: neither is empty.
-/
import Derived.Test.YbulkfyhgFmtExcess
import Derived.Stop.Texts
import Derived.Stop.JoinedTold
import Derived.Stop.FmtTextKit
namespace Go.Proofs.YbulkfyhgFmt
open Go.Kit Go.Extern.Stop Go.Stop Go.Extern

theorem wf_u64 {x : Int} (h0 : 0 ≤ x) (h1 : x ≤ 18446744073709551615) : (Lit.int .u64 x).wf = true := by
  simp [Lit.wf, IntKind.min, IntKind.max, IntKind.signed, IntKind.bits]
  omega

theorem more_parse : (FmtText.parse [109, 111, 114, 101, 32, 116, 104, 97, 110, 32, 116, 104, 101, 32, 37, 100, 32, 116, 104, 101, 32, 114, 101, 108, 97, 121, 32, 107, 101, 101, 112, 115]).map FmtText.glue = some [.lit [109, 111, 114, 101, 32, 116, 104, 97, 110, 32, 116, 104, 101, 32], .verb {} 100, .lit [32, 116, 104, 101, 32, 114, 101, 108, 97, 121, 32, 107, 101, 101, 112, 115]] := by rfl
theorem byts_parse : (FmtText.parse [37, 100, 32, 98, 121, 116, 101, 115, 44, 32, 109, 111, 114, 101, 32, 116, 104, 97, 110, 32, 116, 104, 101, 32, 37, 100, 32, 116, 104, 101, 32, 114, 101, 108, 97, 121, 32, 107, 101, 101, 112, 115]).map FmtText.glue = some [.verb {} 100, .lit [32, 98, 121, 116, 101, 115, 44, 32, 109, 111, 114, 101, 32, 116, 104, 97, 110, 32, 116, 104, 101, 32], .verb {} 100, .lit [32, 116, 104, 101, 32, 114, 101, 108, 97, 121, 32, 107, 101, 101, 112, 115]] := by rfl

theorem more_text (x : Int) (hw : (Lit.int .u64 x).wf = true) : FmtText.text "fmt.Sprintf" (moreReading x) = some ([109, 111, 114, 101, 32, 116, 104, 97, 110, 32, 116, 104, 101, 32] ++ (Lib.itoa x ++ [32, 116, 104, 101, 32, 114, 101, 108, 97, 121, 32, 107, 101, 101, 112, 115])) := by
  have hi := FmtText.operand_int_at (sh := Ybaf.shape22) (k := .u64) rfl rfl x hw
  rw [moreReading, FmtText.text_sprintf_glued more_parse (FmtText.operands_cons hi FmtText.operands_nil)]
  simp [FmtText.render, FmtText.printArg_d _ _ hw]
theorem byts_text (x y : Int) (hx : (Lit.int .u64 x).wf = true) (hy : (Lit.int .u64 y).wf = true) : FmtText.text "fmt.Sprintf" (bytsReading x y) = some (Lib.itoa x ++ ([32, 98, 121, 116, 101, 115, 44, 32, 109, 111, 114, 101, 32, 116, 104, 97, 110, 32, 116, 104, 101, 32] ++ (Lib.itoa y ++ [32, 116, 104, 101, 32, 114, 101, 108, 97, 121, 32, 107, 101, 101, 112, 115]))) := by
  have h1 := FmtText.operand_int_at (sh := Ybaf.shape22) (k := .u64) rfl rfl x hx
  have h2 := FmtText.operand_int_at (sh := Ybaf.shape22) (k := .u64) rfl rfl y hy
  rw [bytsReading, FmtText.text_sprintf_glued byts_parse (FmtText.operands_cons h1 (FmtText.operands_cons h2 FmtText.operands_nil))]
  simp [FmtText.render, FmtText.printArg_d _ _ hx, FmtText.printArg_d _ _ hy]

/-- The texts that fmt is told to give are never empty. -/
theorem full_told (F : Interp) : Full F.told := by
  constructor
  · intro x h0 h1 e
    have hw := wf_u64 h0 h1
    have hl := FmtText.itoa_length_le hw
    have ht := told_string F (more_text x hw) (by simp; omega)
    have := textOf_list F.told "fmt.Sprintf" (moreReading x)
    rw [e, ht] at this
    simp at this
  · intro x y h0 h1 h2 h3 e
    have hx := wf_u64 h0 h1
    have hy := wf_u64 h2 h3
    have l1 := FmtText.itoa_length_le hx
    have l2 := FmtText.itoa_length_le hy
    have ht := told_string F (byts_text x y hx hy) (by simp; omega)
    have := textOf_list F.told "fmt.Sprintf" (bytsReading x y)
    rw [e, ht] at this
    simp at this
end Go.Proofs.YbulkfyhgFmt
