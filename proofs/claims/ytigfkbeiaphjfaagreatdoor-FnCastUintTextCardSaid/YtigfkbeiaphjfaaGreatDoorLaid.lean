/- What the listed package variables give the walks: the table of powers of ten. -/
import Derived.Test.YtigfkbeiaphjfaaGreatDoorRows
import Derived.Test.YtigfkbeiaphjfaaGreatDoorChecked
import Derived.ProofKit
import Derived.OpenShut
import Derived.LaidMore
import Derived.Lib.LaidTab
import Derived.Lib.ItoaNum
import Derived.Stop.Joined
import Derived.Stop.LaidErr
namespace Go.Proofs.YtigfkbeiaphjfaaGreatDoor.Cb
open Go.ChangeShapes Go.WideShapes Go.ChangeAt Go.RowKit

def laid8 : List (String × DataW Unit) := [("math/bits.deBruijn32tab", Rows.laid_math_bits_deBruijn32tab), ("math/bits.deBruijn64tab", Rows.laid_math_bits_deBruijn64tab), ("internal/strconv.optimize", Rows.laid_internal_strconv_optimize), ("internal/strconv.uint64pow10", Rows.laid_internal_strconv_uint64pow10), ("strconv.ErrRange", Rows.laid_strconv_ErrRange), ("strconv.ErrSyntax", Rows.laid_strconv_ErrSyntax), ("internal/strconv.leftcheats", Rows.laid_internal_strconv_leftcheats), ("internal/strconv.pow10Tab", Rows.laid_internal_strconv_pow10Tab)]

theorem own : ownKnob Tryz.prog.godebug = none := by kernel_rfl
theorem laidOut : laidOutB Tryz.prog = true := by kernel_rfl
theorem gTab : Tryz.prog.globalNamed "internal/strconv.uint64pow10" = some 1 := by kernel_rfl
theorem tTab : (Tryz.prog.globals[1]?).map (·.type) = some 185 := by kernel_rfl
theorem cellsT : Tryz.prog.cellsOf 185 = 20 := by kernel_rfl
theorem cells22 : Tryz.prog.cellsOf 22 = 1 := by kernel_rfl
theorem tab_data : (Rows.laid_internal_strconv_uint64pow10 : DataW Unit) = Lib.tabData .u64 Lib.pow10Tab := by kernel_rfl
theorem tab_of_laid {W : World} (h : laidMetH Tryz.prog laid8 W) : Lib.TabIs Tryz.prog W "internal/strconv.uint64pow10" .u64 Lib.pow10Tab := by
  rw [MakeChecks.laidMetH_plain _ _ _ (by kernel_rfl)] at h
  have h4 := h.tail.tail.tail
  rw [tab_data] at h4
  exact Lib.tabIs_of_head gTab tTab Tryz.underlying185 Tryz.underlying22 cells22 cellsT h4
end Go.Proofs.YtigfkbeiaphjfaaGreatDoor.Cb
