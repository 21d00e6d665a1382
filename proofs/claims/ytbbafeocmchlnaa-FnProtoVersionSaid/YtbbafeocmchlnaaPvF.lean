/- Versions: the law FnProtoVersion's walk. -/
import Derived.Test.YtbbafeocmchlnaaPvE
set_option linter.unusedVariables false
set_option linter.unusedSimpArgs false
set_option maxRecDepth 100000
namespace Go.Proofs.Ytbbafeocmchlnaa
open Go Go.Den Go.Proofs

def AtCase (a b c x y z : Nat) (r : Bool) : Prop :=
  r = atLeast (a, b, c) (x, y, z) ∧ ((a < x ∧ ¬ x < a ∧ a ≠ x ∧ r = false) ∨ (x < a ∧ ¬ a < x ∧ a ≠ x ∧ r = true) ∨
    (a = x ∧ ((b < y ∧ ¬ y < b ∧ b ≠ y ∧ r = false) ∨ (y < b ∧ ¬ b < y ∧ b ≠ y ∧ r = true) ∨ (b = y ∧ ((z ≤ c ∧ r = true) ∨ (¬ z ≤ c ∧ r = false))))))
theorem atCase (a b c x y z : Nat) : ∃ r, AtCase a b c x y z r := by
  refine ⟨atLeast (a, b, c) (x, y, z), ⟨rfl, ?_⟩⟩
  rcases Nat.lt_trichotomy a x with h | h | h
  · exact .inl ⟨h, by omega, by omega, by simp [atLeast, h]⟩
  · subst h
    refine .inr (.inr ⟨rfl, ?_⟩)
    rcases Nat.lt_trichotomy b y with h | h | h
    · exact .inl ⟨h, by omega, by omega, by simp [atLeast, h]⟩
    · subst h
      refine .inr (.inr ⟨rfl, ?_⟩)
      by_cases h : z ≤ c
      · exact .inl ⟨h, by simp [atLeast, h]⟩
      · exact .inr ⟨h, by simp [atLeast]; omega⟩
    · exact .inr (.inl ⟨h, by omega, by omega, by simp [atLeast]; omega⟩)
  · exact .inr (.inl ⟨h, by omega, by omega, by simp [atLeast]; omega⟩)

theorem ok8_a (a b c x y z : Nat) (ha : a < B64) (hb : b < B64) (hc : c < B64) (ga : ¬ a < 256) : Ok Try.prog (fun _ => .any) 8 [verD a b c, verD x y z] [] (.p (.bool true)) [] := by
  have la := dig_length a ha
  have lb := dig_length b hb
  have lc := dig_length c hc
  have gA : decide ((a : Int) < 256) = false := by simp; omega
  obtain ⟨r, hr, hcase⟩ := atCase a b c x y z
  refine Ok_by Try.func8 c8_ok r8_ok 84 rfl ?_
  rcases hcase with ⟨h1, h2, h3, rfl⟩ | ⟨h1, h2, h3, rfl⟩ | ⟨h2, ⟨h1, h3, h4, rfl⟩ | ⟨h1, h3, h4, rfl⟩ | ⟨h3, ⟨h1, rfl⟩ | ⟨h1, rfl⟩⟩⟩
  all_goals
    try subst h2
    try subst h3
    simp [c8, r8, verD]
    refine FF_by (ok31 _ _ _ _ ha hb hc) ?_
    first | simp [h1, h2, h3, gA] | simp [h1, h3, h4, gA] | simp [h1, gA]
    refine DF_by (ok33 _ _ ha) ?_
    simp
    refine ⟨by omega, ?_⟩
    refine DF_by (ok33 _ _ hb) ?_
    simp
    refine ⟨by omega, by omega, ?_⟩
    refine DF_by (ok33 _ _ hc) ?_
    simp [verT]
    refine ⟨by omega, ?_⟩
    refine DF_by (ok34 _ _ _ _ _ _ _) ?_
    simp [← hr]
    refine DF_by (ok14 _) ?_
    simp

theorem ok8_b (a b c x y z : Nat) (ha : a < B64) (hb : b < B64) (hc : c < B64) (ga : a < 256) (gb : ¬ b < 256) : Ok Try.prog (fun _ => .any) 8 [verD a b c, verD x y z] [] (.p (.bool true)) [] := by
  have la := dig_length a ha
  have lb := dig_length b hb
  have lc := dig_length c hc
  have gA : decide ((a : Int) < 256) = true := by simp; omega
  have gB : decide ((b : Int) < 256) = false := by simp; omega
  obtain ⟨r, hr, hcase⟩ := atCase a b c x y z
  refine Ok_by Try.func8 c8_ok r8_ok 84 rfl ?_
  rcases hcase with ⟨h1, h2, h3, rfl⟩ | ⟨h1, h2, h3, rfl⟩ | ⟨h2, ⟨h1, h3, h4, rfl⟩ | ⟨h1, h3, h4, rfl⟩ | ⟨h3, ⟨h1, rfl⟩ | ⟨h1, rfl⟩⟩⟩
  all_goals
    try subst h2
    try subst h3
    simp [c8, r8, verD]
    refine FF_by (ok31 _ _ _ _ ha hb hc) ?_
    first | simp [h1, h2, h3, gA, gB] | simp [h1, h3, h4, gA, gB] | simp [h1, gA, gB]
    refine DF_by (ok33 _ _ ha) ?_
    simp
    refine ⟨by omega, ?_⟩
    refine DF_by (ok33 _ _ hb) ?_
    simp
    refine ⟨by omega, by omega, ?_⟩
    refine DF_by (ok33 _ _ hc) ?_
    simp [verT]
    refine ⟨by omega, ?_⟩
    refine DF_by (ok34 _ _ _ _ _ _ _) ?_
    simp [← hr]
    refine DF_by (ok14 _) ?_
    simp

theorem ok8_c (a b c x y z : Nat) (ha : a < B64) (hb : b < B64) (hc : c < B64) (ga : a < 256) (gb : b < 256) (gc : ¬ c < 256) : Ok Try.prog (fun _ => .any) 8 [verD a b c, verD x y z] [] (.p (.bool true)) [] := by
  have la := dig_length a ha
  have lb := dig_length b hb
  have lc := dig_length c hc
  have gA : decide ((a : Int) < 256) = true := by simp; omega
  have gB : decide ((b : Int) < 256) = true := by simp; omega
  have gC : decide ((c : Int) < 256) = false := by simp; omega
  obtain ⟨r, hr, hcase⟩ := atCase a b c x y z
  refine Ok_by Try.func8 c8_ok r8_ok 84 rfl ?_
  rcases hcase with ⟨h1, h2, h3, rfl⟩ | ⟨h1, h2, h3, rfl⟩ | ⟨h2, ⟨h1, h3, h4, rfl⟩ | ⟨h1, h3, h4, rfl⟩ | ⟨h3, ⟨h1, rfl⟩ | ⟨h1, rfl⟩⟩⟩
  all_goals
    try subst h2
    try subst h3
    simp [c8, r8, verD]
    refine FF_by (ok31 _ _ _ _ ha hb hc) ?_
    first | simp [h1, h2, h3, gA, gB, gC] | simp [h1, h3, h4, gA, gB, gC] | simp [h1, gA, gB, gC]
    refine DF_by (ok33 _ _ ha) ?_
    simp
    refine ⟨by omega, ?_⟩
    refine DF_by (ok33 _ _ hb) ?_
    simp
    refine ⟨by omega, by omega, ?_⟩
    refine DF_by (ok33 _ _ hc) ?_
    simp [verT]
    refine ⟨by omega, ?_⟩
    refine DF_by (ok34 _ _ _ _ _ _ _) ?_
    simp [← hr]
    refine DF_by (ok14 _) ?_
    simp

theorem ok8_d (a b c x y z : Nat) (ha : a < B64) (hb : b < B64) (hc : c < B64) (ga : a < 256) (gb : b < 256) (gc : c < 256) : Ok Try.prog (fun _ => .any) 8 [verD a b c, verD x y z] [] (.p (.bool true)) [] := by
  have la := dig_length a ha
  have lb := dig_length b hb
  have lc := dig_length c hc
  have gA : decide ((a : Int) < 256) = true := by simp; omega
  have gB : decide ((b : Int) < 256) = true := by simp; omega
  have gC : decide ((c : Int) < 256) = true := by simp; omega
  obtain ⟨r, hr, hcase⟩ := atCase a b c x y z
  refine Ok_by Try.func8 c8_ok r8_ok 84 rfl ?_
  rcases hcase with ⟨h1, h2, h3, rfl⟩ | ⟨h1, h2, h3, rfl⟩ | ⟨h2, ⟨h1, h3, h4, rfl⟩ | ⟨h1, h3, h4, rfl⟩ | ⟨h3, ⟨h1, rfl⟩ | ⟨h1, rfl⟩⟩⟩
  all_goals
    try subst h2
    try subst h3
    simp [c8, r8, verD]
    refine FF_by (ok31 _ _ _ _ ha hb hc) ?_
    first | simp [h1, h2, h3, gA, gB, gC] | simp [h1, h3, h4, gA, gB, gC] | simp [h1, gA, gB, gC]
    refine DF_by (ok32 _ _ _ _ ga gb gc) ?_
    simp [verD]
    refine DF_by (ok33 _ _ ha) ?_
    simp
    refine ⟨by omega, ?_⟩
    refine DF_by (ok33 _ _ hb) ?_
    simp
    refine ⟨by omega, by omega, ?_⟩
    refine DF_by (ok33 _ _ hc) ?_
    simp [verT]
    refine ⟨by omega, ?_⟩
    refine DF_by (ok34 _ _ _ _ _ _ _) ?_
    simp [← hr]
    refine DF_by (ok14 _) ?_
    simp

end Go.Proofs.Ytbbafeocmchlnaa
