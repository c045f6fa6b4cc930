/-
  THE START THAT IS SHOWN TO BE THERE: a world in which the five listed variables hold what the rows list.
-/
import Derived.Test.Qxb6616414aDoorRows
import Derived.ProofKit
import Derived.Lay
namespace Go.Proofs.Qxb6616414aDoor
open Go.RowKit
set_option maxRecDepth 1000000

theorem wit_shaped (os : Os) (args : Array Value) : ((World.laidAll Tryd.prog os Rows.fnInOtherCaseConcatRow.laid).forCall (fun _ _ => 0) ⟨#[], args, []⟩).Shaped Tryd.checked.prog := World.shaped_of_ZipB (by kernel_rfl) (by kernel_rfl)
theorem wit_laid (os : Os) (args : Array Value) : laidMet Tryd.prog Rows.fnInOtherCaseConcatRow.laid ((World.laidAll Tryd.prog os Rows.fnInOtherCaseConcatRow.laid).forCall (fun _ _ => 0) ⟨#[], args, []⟩).memory :=
  laidMet_laidAll args (by kernel_rfl) (by kernel_rfl)

end Go.Proofs.Qxb6616414aDoor
