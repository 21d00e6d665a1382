/- The law FnSumKind: the kinds 0 and 1. -/
import Derived.Test.YtbbafeocmchlnaaKsA
set_option linter.unusedVariables false
set_option linter.unusedSimpArgs false
set_option maxRecDepth 100000
namespace Go.Proofs.Ytbbafeocmchlnaa
open Go Go.Den Go.Proofs

theorem g11_0_true : Goal11 true 0 := fun n => VV_eval .any tab_ok 300 (by kernel_rfl)
theorem g11_0_false : Goal11 false 0 := fun n => VV_eval .any tab_ok 300 (by kernel_rfl)
theorem g11_1_true : Goal11 true 1 := fun n => VV_eval .any tab_ok 300 (by kernel_rfl)
theorem g11_1_false : Goal11 false 1 := fun n => VV_eval .any tab_ok 300 (by kernel_rfl)

end Go.Proofs.Ytbbafeocmchlnaa
