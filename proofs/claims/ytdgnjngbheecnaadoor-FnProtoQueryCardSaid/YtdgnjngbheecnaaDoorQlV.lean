/- Versions, as arguments (turned from another seat by mkpq.py) -/
import Derived.Test.YtdgnjngbheecnaaDoorQlB
set_option linter.unusedVariables false
set_option linter.unusedSimpArgs false
set_option maxRecDepth 100000
namespace Go.Proofs.YtdgnjngbheecnaaDoor
open Go Go.Den Go.Proofs



theorem shaped_u64 {d : DV} (s : Shaped (.int .u64) d) : ∃ n : Nat, d = .p (.int .u64 n) ∧ n < B64 := by
  cases s with
  | @int k n h =>
    have h : IntKind.u64.min ≤ n ∧ n ≤ IntKind.u64.max := by simpa [Lit.wf] using h
    have h1 : IntKind.u64.min = 0 := rfl
    have h2 : IntKind.u64.max = 18446744073709551615 := rfl
    refine ⟨n.toNat, ?_, by simp [B64]; omega⟩
    rw [Int.toNat_of_nonneg (by omega)]
theorem shaped_ver {d : DV} (s : Shaped (.st [(1, .int .u64), (1, .int .u64), (1, .int .u64)]) d) : ∃ a b c : Nat, d = verD a b c ∧ a < B64 ∧ b < B64 ∧ c < B64 := by
  cases s with
  | st hl h hc =>
    rename_i ds
    match ds, hl, h with
    | [d1, d2, d3], _, h =>
      obtain ⟨a, h1, h2⟩ := shaped_u64 (h 0 (by simp) (by simp))
      obtain ⟨b, h3, h4⟩ := shaped_u64 (h 1 (by simp) (by simp))
      obtain ⟨c, h5, h6⟩ := shaped_u64 (h 2 (by simp) (by simp))
      simp only [List.getElem_cons_zero, List.getElem_cons_succ] at h1 h3 h5
      subst h1; subst h3; subst h5
      exact ⟨a, b, c, rfl, h2, h4, h6⟩


end Go.Proofs.YtdgnjngbheecnaaDoor
