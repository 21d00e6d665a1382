/- The law FnSumKind: the walk. -/
import Derived.Test.YtbbafeocmchlnaaKs0
import Derived.Test.YtbbafeocmchlnaaKs1
import Derived.Test.YtbbafeocmchlnaaKs2
import Derived.Test.YtbbafeocmchlnaaKs3
import Derived.Test.YtbbafeocmchlnaaKs4
set_option linter.unusedVariables false
set_option linter.unusedSimpArgs false
set_option maxRecDepth 100000
namespace Go.Proofs.Ytbbafeocmchlnaa
open Go Go.Den Go.Proofs

theorem goal11 (b : Bool) (k : Int) (h0 : 0 ≤ k) (h1 : k < 10) : Goal11 b k := by
  have : k = 0 ∨ k = 1 ∨ k = 2 ∨ k = 3 ∨ k = 4 ∨ k = 5 ∨ k = 6 ∨ k = 7 ∨ k = 8 ∨ k = 9 := by omega
  cases b <;> rcases this with rfl | rfl | rfl | rfl | rfl | rfl | rfl | rfl | rfl | rfl
  · exact g11_0_false
  · exact g11_1_false
  · exact g11_2_false
  · exact g11_3_false
  · exact g11_4_false
  · exact g11_5_false
  · exact g11_6_false
  · exact g11_7_false
  · exact g11_8_false
  · exact g11_9_false
  · exact g11_0_true
  · exact g11_1_true
  · exact g11_2_true
  · exact g11_3_true
  · exact g11_4_true
  · exact g11_5_true
  · exact g11_6_true
  · exact g11_7_true
  · exact g11_8_true
  · exact g11_9_true

theorem ok11 (n : Int) (b : Bool) (h0 : 0 ≤ n) (h1 : n < 256) : Ok Try.prog (fun _ => .any) 11 [.p (.int .u8 n), .p (.bool b)] [] (.p (.bool true)) [] := by
  refine Ok_by Try.func11 c11_ok r11_ok 78 rfl ?_
  have hm : n.tmod 10 = n % 10 := Int.tmod_eq_emod_of_nonneg h0
  have hw : IntKind.i64.wrap (n.tmod 10) = n.tmod 10 := by
    rw [hm]
    simp [IntKind.wrap, IntKind.bits, IntKind.signed]; omega
  have g := goal11 b (n.tmod 10) (by omega) (by omega) n
  simp [c11_eq, hw]
  simpa [st11] using g

/-- The law's walk, as its row asks for it. -/
theorem sumKind_walk (n : Int) (b : Bool) (hn : (Lit.int .u8 n).wf = true) : Ok Try.prog (fun _ => .any) 11 [.p (.int .u8 n), .p (.bool b)] [] (.p (.bool true)) [] := by
  have h : IntKind.u8.min ≤ n ∧ n ≤ IntKind.u8.max := by simpa [Lit.wf] using hn
  have h1 : IntKind.u8.min = 0 := rfl
  have h2 : IntKind.u8.max = 255 := rfl
  exact ok11 n b (by omega) (by omega)

end Go.Proofs.Ytbbafeocmchlnaa
