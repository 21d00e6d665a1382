/- The law FnSumKind: the kinds 2 and 3. -/
import Derived.Test.YtbbafeocmchlnaaKsA
set_option linter.unusedVariables false
set_option linter.unusedSimpArgs false
set_option maxRecDepth 100000
namespace Go.Proofs.Ytbbafeocmchlnaa
open Go Go.Den Go.Proofs

theorem g11_2_true : Goal11 true 2 := fun n => VV_eval .any tab_ok 300 (by kernel_rfl)
theorem g11_2_false : Goal11 false 2 := fun n => VV_eval .any tab_ok 300 (by kernel_rfl)
theorem g11_3_true : Goal11 true 3 := fun n => VV_eval .any tab_ok 300 (by kernel_rfl)
theorem g11_3_false : Goal11 false 3 := fun n => VV_eval .any tab_ok 300 (by kernel_rfl)

end Go.Proofs.Ytbbafeocmchlnaa
