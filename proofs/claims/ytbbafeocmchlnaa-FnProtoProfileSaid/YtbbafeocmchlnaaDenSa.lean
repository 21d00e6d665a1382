/- The library: contracts of functions over denoted values (S). -/
import Derived.Test.YtbbafeocmchlnaaDenS
import Derived.Test.YtbbafeocmchlnaaDenNc
set_option linter.unusedVariables false
set_option linter.unusedSimpArgs false
set_option linter.unusedSectionVars false
set_option linter.unnecessarySimpa false
namespace Go.Den
open Go

section
variable {P : Program} {G : Nat → DV} {e : Env} {w : World} {K : DV → List Blk → Prop} {t : List DV} {a : Act}

theorem lit_only {o : Oper} {sz : Nat} {els : List Opd} (hc : cOp P o = some (.lit sz els)) : ∃ ty n parts, o.op = .buildSlice ty n parts := by
  obtain ⟨dst, op, type, pos, after, guard⟩ := o
  cases op
  case buildSlice ty n parts => exact ⟨ty, n, parts, rfl⟩
  case binOp op ty x y z =>
    exfalso
    cases op <;> simp only [cOp, cEq] at hc <;> (repeat' split at hc) <;> simp_all [Option.bind_eq_some_iff]
  case slice t x lo hi mx =>
    exfalso
    cases mx <;> simp only [cOp] at hc <;> (repeat' split at hc) <;> first | (simp only [Option.bind_eq_some_iff] at hc; obtain ⟨g, _, hc⟩ := hc; split at hc <;> cases hc) | simp_all [Option.map_eq_some_iff]
  case makeMap ty r =>
    exfalso
    cases r <;> simp [cOp] at hc
  case call c =>
    exfalso
    simp only [cOp, cCall] at hc
    repeat' split at hc
    all_goals simp_all
  all_goals
    exfalso
    simp only [cOp, cConv] at hc
    repeat' split at hc
    all_goals simp_all [Option.map_eq_some_iff, Option.bind_eq_some_iff]

theorem sound_litz {o : Oper} {sz : Nat} {els : List Opd} (hc : cOp P o = some (.lit sz els)) (hg : GR e G) (ht : TR e t a.tmps) (hH : e.H = w.heap) (hr : HR e) (h : vcO P G (DO.litz sz els) (Opd.ev G t) e.h K) : Yields P (execOp a.eval o) w (After e w K) := by
  obtain ⟨ty, n, parts, ho⟩ := lit_only hc
  obtain ⟨dst, op, type, pos, after, guard⟩ := o
  simp only at ho
  subst ho
  simp only [cOp] at hc
  split at hc
  · rename_i el hu
    split at hc
    · rename_i i hi
      by_cases hcond : i.zero.isSome = true ∧ n * i.size ≤ 16777216 ∧ consec 0 parts.toList = true ∧ parts.size = n
      · rw [if_pos hcond] at hc
        cases hc
        obtain ⟨h1, h2, h3, h4⟩ := hcond
        simp only [vcO] at h
        exact y_litz hu ⟨i, hi, rfl, h1⟩ h2 (ev := Opd.ev G t) (fun x => vr_ev hg ht x) parts h3 h4 hH hr h
      · rw [if_neg hcond] at hc; cases hc
    · cases hc
  · cases hc
end
end Go.Den
