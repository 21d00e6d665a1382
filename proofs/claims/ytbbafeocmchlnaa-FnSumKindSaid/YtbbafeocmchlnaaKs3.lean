/- The law FnSumKind: the kinds 6 and 7. -/
import Derived.Test.YtbbafeocmchlnaaKsA
set_option linter.unusedVariables false
set_option linter.unusedSimpArgs false
set_option maxRecDepth 100000
namespace Go.Proofs.Ytbbafeocmchlnaa
open Go Go.Den Go.Proofs

theorem g11_6_true : Goal11 true 6 := fun n => VV_eval .any tab_ok 300 (by kernel_rfl)
theorem g11_6_false : Goal11 false 6 := fun n => VV_eval .any tab_ok 300 (by kernel_rfl)
theorem g11_7_true : Goal11 true 7 := fun n => VV_eval .any tab_ok 300 (by kernel_rfl)
theorem g11_7_false : Goal11 false 7 := fun n => VV_eval .any tab_ok 300 (by kernel_rfl)

end Go.Proofs.Ytbbafeocmchlnaa
