/-
  From a row's listed variables to the fact that the walks take.
-/
import Derived.Test.YtnehofekgnbelaaGreatDoorNetStr
import Derived.Stop.LaidErr
namespace Go.Proofs.YtnehofekgnbelaaGreatDoor
open Go.RowKit

/-- From what the row lists to the fact that the walks take: the table of powers of ten. -/
theorem tab_of_laid {W : World} {rest : List (String × DataW Unit)} {x y : String × DataW Unit} (h : laidMet Tryz.prog (x :: y :: (tabName, Rows.laid_internal_strconv_uint64pow10) :: rest) W) : Tab W :=
  Lib.tabIs_of_head (g := 1) (t := 264) (e := 154) (n := 20) (by kernel_rfl) (by kernel_rfl) (by kernel_rfl) (by kernel_rfl) (by kernel_rfl) (by kernel_rfl) (laidMet.tail (laidMet.tail h))

end Go.Proofs.YtnehofekgnbelaaGreatDoor
