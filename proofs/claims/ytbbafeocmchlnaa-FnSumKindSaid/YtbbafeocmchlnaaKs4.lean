/- The law FnSumKind: the kinds 8 and 9. -/
import Derived.Test.YtbbafeocmchlnaaKsA
set_option linter.unusedVariables false
set_option linter.unusedSimpArgs false
set_option maxRecDepth 100000
namespace Go.Proofs.Ytbbafeocmchlnaa
open Go Go.Den Go.Proofs

theorem g11_8_true : Goal11 true 8 := fun n => VV_eval .any tab_ok 300 (by kernel_rfl)
theorem g11_8_false : Goal11 false 8 := fun n => VV_eval .any tab_ok 300 (by kernel_rfl)
theorem g11_9_true : Goal11 true 9 := fun n => VV_eval .any tab_ok 300 (by kernel_rfl)
theorem g11_9_false : Goal11 false 9 := fun n => VV_eval .any tab_ok 300 (by kernel_rfl)

end Go.Proofs.Ytbbafeocmchlnaa
