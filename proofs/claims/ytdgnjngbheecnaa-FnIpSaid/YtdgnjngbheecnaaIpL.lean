/- The shelf's strings.IndexByte, laid at this program (printed by the kit's lay-plain.mjs). -/
import Derived.Ground.NamesProg
import Derived.Shelf.Lays
import Derived.Test.YtdgnjngbheecnaaProg
set_option linter.unusedVariables false
namespace Go.Proofs.Ytdgnjngbheecnaa
open Go Go.Shelf Go.Proofs
def laysIdx_ren : Go.Shelf.Ren := ⟨fun | 137 => 146 | 217 => 169 | 266 => 189 | n => n, fun | 9 => 9 | 5 => 5 | 3 => 3 | n => n, fun | n => n⟩
theorem laysIdx : Go.Proofs.Lays.n137 Try.prog laysIdx_ren := {
  mixed := by kernel_rfl
  f137 := Try.func146.trans (congrArg some (by kernel_rfl))
  f217 := Try.func169.trans (congrArg some (by kernel_rfl))
  f266 := Try.func189.trans (congrArg some (by kernel_rfl))
  t3 := Try.underlying3
  a3 := Try.isAgg3
  z3 := Try.sizeOf3
  v3 := Try.zeroValue3
  t5 := Try.underlying5
  a5 := Try.isAgg5
  z5 := Try.sizeOf5
  v5 := Try.zeroValue5
  t9 := Try.underlying9
  a9 := Try.isAgg9
  z9 := Try.sizeOf9
  v9 := Try.zeroValue9 }
end Go.Proofs.Ytdgnjngbheecnaa
