/-
  What the ten listed variables give: the table of powers of ten lies in memory as its initialiser lays it; a world in which all ten lie so.
-/
import Derived.Test.YtahmahdfjiojjaaDoorLev
import Derived.Stop.LaidErr
import Derived.LaidMore
import Derived.MakeChecks
import Derived.Lay
namespace Go.Proofs.YtahmahdfjiojjaaDoor
open Go

theorem gPowType : (Tryd.prog.globals[7]?).map (·.type) = some 71 := by kernel_rfl
theorem cellsPow : Tryd.prog.cellsOf 71 = 20 := by kernel_rfl
theorem cellsU64 : Tryd.prog.cellsOf 42 = 1 := by kernel_rfl
theorem pow10_data : (Rows.laid_internal_strconv_uint64pow10 : DataW Unit) = Lib.tabData .u64 Lib.pow10Tab := by kernel_rfl
def laid10 : List (String × DataW Unit) := [("math/bits.deBruijn32tab", Rows.laid_math_bits_deBruijn32tab), ("math/bits.deBruijn64tab", Rows.laid_math_bits_deBruijn64tab), ("internal/strconv.uint64pow10", Rows.laid_internal_strconv_uint64pow10), ("unicode/utf8.acceptRanges", Rows.laid_unicode_utf8_acceptRanges), ("strconv.isGraphic", Rows.laid_strconv_isGraphic), ("strconv.isNotPrint16", Rows.laid_strconv_isNotPrint16), ("strconv.isNotPrint32", Rows.laid_strconv_isNotPrint32), ("strconv.isPrint16", Rows.laid_strconv_isPrint16), ("strconv.isPrint32", Rows.laid_strconv_isPrint32), ("unicode/utf8.first", Rows.laid_unicode_utf8_first)]
theorem tab_of_laid {W : World} (h : laidMetH Tryd.prog laid10 W) : Tab W := by
  rw [MakeChecks.laidMetH_plain _ _ _ (by kernel_rfl)] at h
  have h3 := laidMet.tail (laidMet.tail h)
  rw [pow10_data] at h3
  exact Lib.tabIs_of_head gPow gPowType Tryd.underlying71 Tryd.underlying42 cellsU64 cellsPow h3
theorem all_met (os : Os) (args : Array Value) : laidMetH Tryd.prog laid10 ((World.laidAll Tryd.prog os laid10).forCall (fun _ _ => 0) ⟨#[], args, []⟩).memory := by
  rw [MakeChecks.laidMetH_plain _ _ _ (by kernel_rfl)]
  exact laidMet_laidAll _ (by kernel_rfl) (by kernel_rfl)
theorem own : ownKnob Tryd.prog.godebug = none := by kernel_rfl
end Go.Proofs.YtahmahdfjiojjaaDoor
