/-
  What the three listed variables give: the table of powers of ten lies in memory as its initialiser lays it.
-/
import Derived.Test.YtahmahdfjiojjaaDoorLev
import Derived.Stop.LaidErr
import Derived.LaidMore
import Derived.MakeChecks
namespace Go.Proofs.YtahmahdfjiojjaaDoor
open Go

theorem gPowType : (Tryd.prog.globals[7]?).map (·.type) = some 71 := by kernel_rfl
theorem cellsPow : Tryd.prog.cellsOf 71 = 20 := by kernel_rfl
theorem cellsU64 : Tryd.prog.cellsOf 42 = 1 := by kernel_rfl
theorem pow10_data : (Rows.laid_internal_strconv_uint64pow10 : DataW Unit) = Lib.tabData .u64 Lib.pow10Tab := by kernel_rfl
def laid3 : List (String × DataW Unit) := [("math/bits.deBruijn32tab", Rows.laid_math_bits_deBruijn32tab), ("math/bits.deBruijn64tab", Rows.laid_math_bits_deBruijn64tab), ("internal/strconv.uint64pow10", Rows.laid_internal_strconv_uint64pow10)]
theorem tab_of_laid {W : World} (h : laidMetH Tryd.prog laid3 W) : Tab W := by
  rw [MakeChecks.laidMetH_plain _ _ _ (by kernel_rfl)] at h
  have h3 : laidMet Tryd.prog [("internal/strconv.uint64pow10", Rows.laid_internal_strconv_uint64pow10)] W := laidMet.tail (laidMet.tail h)
  rw [pow10_data] at h3
  exact Lib.tabIs_of_head (rest := []) gPow gPowType Tryd.underlying71 Tryd.underlying42 cellsU64 cellsPow h3
/-- The heap that the door's own run leaves meets the condition. -/
theorem door_met (os : Os) (args : Array Value) : laidMetH Tryd.prog laid3 ((World.doorLaid Tryd.prog 34 os).forCall (fun _ _ => 0) ⟨#[], args, []⟩).memory :=
  laidMetH_of_parts3 (fuel := 8) (laidMet_of_run' 8 (by kernel_rfl) (by kernel_rfl)) (by kernel_rfl) (by kernel_rfl)
theorem own : ownKnob Tryd.prog.godebug = none := by kernel_rfl
end Go.Proofs.YtahmahdfjiojjaaDoor
