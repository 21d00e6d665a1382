/- Versions: a version's text is read as it was. -/
import Derived.Test.YtbbafeocmchlnaaPvD
set_option linter.unusedVariables false
set_option linter.unusedSimpArgs false
set_option maxRecDepth 100000
namespace Go.Proofs.Ytbbafeocmchlnaa
open Go Go.Den Go.Proofs

theorem dg_ne (n : Nat) : dg n ≠ 46 := by
  have key : ∀ d : Fin 10, UInt8.ofNat (48 + d.val) ≠ 46 := by decide
  exact key ⟨n % 10, Nat.mod_lt _ (by decide)⟩
theorem dig_ne (n : Nat) : ∀ x ∈ dig n, x ≠ 46 := by
  induction n using Nat.strongRecOn with
  | _ n ih =>
    intro x hx
    by_cases h : n < 10
    · rw [dig_lt h] at hx; simp at hx; subst hx; exact dg_ne n
    · rw [dig_ge (by omega)] at hx
      rcases List.mem_append.1 hx with hx | hx
      · exact ih (n / 10) (by omega) x hx
      · simp at hx; subst hx; exact dg_ne n
theorem splitC_of : ∀ (l : List UInt8) (r : List UInt8), (∀ x ∈ l, x ≠ 46) → splitC (l ++ 46 :: r) = l :: splitC r
  | [], r, _ => by simp [splitC]
  | x :: l, r, h => by
    have := splitC_of l r fun y hy => h y (by simp [hy])
    have hx : x ≠ 46 := h x (by simp)
    simp only [List.cons_append, splitC, if_neg hx, this]
theorem splitC_one : ∀ (l : List UInt8), (∀ x ∈ l, x ≠ 46) → splitC l = [l]
  | [], _ => rfl
  | x :: l, h => by
    have := splitC_one l fun y hy => h y (by simp [hy])
    have hx : x ≠ 46 := h x (by simp)
    simp only [splitC, if_neg hx, this]
theorem split_verT (a b c : Nat) : splitC (verT a b c) = [dig a, dig b, dig c] := by
  unfold verT
  rw [splitC_of _ _ (dig_ne a), splitC_of _ _ (dig_ne b), splitC_one _ (dig_ne c)]

theorem ok72 (h : List Blk) (a b c : Nat) (ha : a < 256) (hb : b < 256) (hc : c < 256) : Ok Try.prog (fun _ => .any) 72 [.p (.string (txt (verT a b c)))] h (verD a b c) h := by
  refine Ok_by Try.func72 c72_ok r72_ok 44 rfl ?_
  have la := dig_length a (Nat.lt_trans ha (by decide))
  have lb := dig_length b (Nat.lt_trans hb (by decide))
  have lc := dig_length c (Nat.lt_trans hc (by decide))
  simp [c72, r72, verD]
  refine FF_by (ok112 _ (verT a b c) (by simp [verT]; omega)) ?_
  simp [split_verT, strs]
  refine FF_by (ok113 _ a ha) ?_
  simp
  refine FF_by (ok113 _ b hb) ?_
  simp
  refine FF_by (ok113 _ c hc) ?_
  simp
  exact WkV.ofPure (by simp) rfl
theorem ok32 (h : List Blk) (a b c : Nat) (ha : a < 256) (hb : b < 256) (hc : c < 256) : Ok Try.prog (fun _ => .any) 32 [.p (.string (txt (verT a b c)))] h (verD a b c) h := by
  refine Ok_by Try.func32 c32_ok r32_ok 5 rfl ?_
  simp [c32, r32, verD]
  refine FF_by (ok72 _ a b c ha hb hc) ?_
  simp
  refine FF_by (ok71 _ a b c) ?_
  simp [verD]
  exact WkV.ofPure (by simp) rfl

end Go.Proofs.Ytbbafeocmchlnaa
