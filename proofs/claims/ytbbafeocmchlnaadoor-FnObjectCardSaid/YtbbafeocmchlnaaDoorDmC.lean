/- Domains: a text's first and last letter. -/
import Derived.Test.YtbbafeocmchlnaaDoorDmB
set_option linter.unusedVariables false
set_option linter.unusedSimpArgs false
set_option maxRecDepth 100000
namespace Go.Proofs.YtbbafeocmchlnaaDoor
open Go Go.Den Go.Proofs

theorem ok19 (h : List Blk) (c : UInt8) (t : List UInt8) (hl : t.length ≤ 9223372036854775000) : OkR Tryd.prog GT 19 [.p (.string (txt (c :: t)))] h (RuR (c :: t) h) := by
  refine OkR_by Tryd.func19 c19_ok r19_ok 18 rfl ?_
  have hlt := c.toNat_lt
  have hw : IntKind.i32.wrap (c.toNat : Int) = c.toNat := by simp [IntKind.wrap, IntKind.bits, IntKind.signed]; omega
  have hpos : (0 : Int) < (t.length : Int) + 1 := by omega
  rcases Nat.lt_or_ge c.toNat 128 with a | a
  · have e : (c.toNat : Int) < 128 := by omega
    simp [c19, r19, byteD, e, hw, hpos]
    refine REr_by _ _ .refl ?_
    exact ⟨HPre.refl _, c.toNat, 1, rfl, fun _ => ⟨by omega, by simp, .inl ⟨rfl, c, t, rfl, rfl, a⟩⟩⟩
  · have e : ¬ (c.toNat : Int) < 128 := by omega
    simp [c19, r19, byteD, e, hw, hpos]
    refine FF_byR (ok23 h c t a hl) ?_
    rintro v h' ⟨hp, r, n, rfl, hh⟩
    simp
    refine REr_by _ _ .refl ?_
    exact ⟨hp, r, n, rfl, hh⟩
end Go.Proofs.YtbbafeocmchlnaaDoor
