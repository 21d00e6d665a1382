/- The law FnSumKind: the kinds 4 and 5. -/
import Derived.Test.YtbbafeocmchlnaaKsA
set_option linter.unusedVariables false
set_option linter.unusedSimpArgs false
set_option maxRecDepth 100000
namespace Go.Proofs.Ytbbafeocmchlnaa
open Go Go.Den Go.Proofs

theorem g11_4_true : Goal11 true 4 := fun n => VV_eval .any tab_ok 300 (by kernel_rfl)
theorem g11_4_false : Goal11 false 4 := fun n => VV_eval .any tab_ok 300 (by kernel_rfl)
theorem g11_5_true : Goal11 true 5 := fun n => VV_eval .any tab_ok 300 (by kernel_rfl)
theorem g11_5_false : Goal11 false 5 := fun n => VV_eval .any tab_ok 300 (by kernel_rfl)

end Go.Proofs.Ytbbafeocmchlnaa
