/- Notices: the law FnNoticeEqual. -/
import Derived.Test.YthkgekkpnldbmaaNtE
set_option linter.unusedVariables false
set_option linter.unusedSimpArgs false
set_option maxRecDepth 100000
namespace Go.Proofs.Ythkgekkpnldbmaa
open Go Go.Den Go.Proofs


theorem rlK_inj {n x y : ByteArray} : rlK (n, x) = rlK (n, y) ↔ x = y := by
  unfold rlK
  rw [S_of n, S_of x, S_of y]
  simp [S, S_inj]
theorem rlK_ps {x y : ByteArray} : rlK (pfx, x) ≠ rlK (sfx, y) := by
  have e1 : rlK (pfx, x) = S ([112, 114, 101, 102, 105, 120, 45] ++ x.data.toList) := by
    conv => lhs; rw [S_of x]
    simp only [rlK, pfx, mk_S, S_append]
    rfl
  have e2 : rlK (sfx, y) = S ([115, 117, 102, 102, 105, 120, 45] ++ y.data.toList) := by
    conv => lhs; rw [S_of y]
    simp only [rlK, sfx, mk_S, S_append]
    rfl
  rw [e1, e2]
  simp
theorem rlK_sp {x y : ByteArray} : rlK (sfx, x) ≠ rlK (pfx, y) := fun h => rlK_ps h.symm
theorem nEq_spec {ev p s evs : List ByteArray} {pre suf : ByteArray} (h1 : ev.Nodup) (h2 : evs.Nodup) (hp : p.length ≤ 1) (hs : s.length ≤ 1) (hp0 : ∀ x ∈ p, x ≠ ⟨#[]⟩) (hs0 : ∀ x ∈ s, x ≠ ⟨#[]⟩) :
    nEq ev p s evs pre suf = (decide (setOf ev = setOf evs) && (decide (fstOf p = pre) && decide (fstOf s = suf))) := by
  rw [nEq, evEq_spec h1 h2]
  congr 1
  match p, hp, s, hs with
  | [], _, [], _ =>
    by_cases a : pre = ⟨#[]⟩ <;> by_cases b : suf = ⟨#[]⟩ <;> simp [rls, evEq, fstOf, a, b, setHas, eq_comm]
  | [x], _, [], _ =>
    have := hp0 x (by simp)
    by_cases a : pre = ⟨#[]⟩ <;> by_cases b : suf = ⟨#[]⟩ <;> simp [rls, evEq, fstOf, a, b, setHas, this, rlK_inj, rlK_ps, rlK_sp, eq_comm]
  | [], _, [y], _ =>
    have := hs0 y (by simp)
    by_cases a : pre = ⟨#[]⟩ <;> by_cases b : suf = ⟨#[]⟩ <;> simp [rls, evEq, fstOf, a, b, setHas, this, rlK_inj, rlK_ps, rlK_sp, eq_comm]
  | [x], _, [y], _ =>
    have := hs0 y (by simp)
    have := hp0 x (by simp)
    by_cases a : pre = ⟨#[]⟩ <;> by_cases b : suf = ⟨#[]⟩ <;> simp [rls, evEq, fstOf, a, b, setHas, *, rlK_inj, rlK_ps, rlK_sp, eq_comm]
end Go.Proofs.Ythkgekkpnldbmaa
