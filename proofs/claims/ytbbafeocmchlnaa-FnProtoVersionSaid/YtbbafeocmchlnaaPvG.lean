/- Versions: the walk of the law FnProtoVersion, as its row asks for it. -/
import Derived.Test.YtbbafeocmchlnaaPvF
import Derived.Test.YtbbafeocmchlnaaVer
set_option linter.unusedVariables false
set_option linter.unusedSimpArgs false
namespace Go.Proofs.Ytbbafeocmchlnaa
open Go Go.Den Go.Proofs

theorem protoVersion_walk (d0 d1 : DV) (s0 : Shaped (.st [(1, .int .u64), (1, .int .u64), (1, .int .u64)]) d0) (s1 : Shaped (.st [(1, .int .u64), (1, .int .u64), (1, .int .u64)]) d1) : Ok Try.prog (fun _ => .any) 8 [d0, d1] [] (.p (.bool true)) [] := by
  obtain ⟨a, b, c, rfl, ha, hb, hc⟩ := shaped_ver s0
  obtain ⟨x, y, z, rfl, _, _, _⟩ := shaped_ver s1
  by_cases ga : a < 256
  · by_cases gb : b < 256
    · by_cases gc : c < 256
      · exact ok8_d a b c x y z ha hb hc ga gb gc
      · exact ok8_c a b c x y z ha hb hc ga gb gc
    · exact ok8_b a b c x y z ha hb hc ga gb
  · exact ok8_a a b c x y z ha hb hc ga

end Go.Proofs.Ytbbafeocmchlnaa
