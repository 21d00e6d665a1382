/- Letters (turned from another seat by mkpe.py) -/
import Derived.Test.YtdgnjngbheecnaaDoorSpB
set_option linter.unusedVariables false
set_option linter.unusedSimpArgs false
set_option maxRecDepth 100000
namespace Go.Proofs.YtdgnjngbheecnaaDoor
open Go Go.Den Go.Proofs



theorem ok85 (h : List Blk) (c : UInt8) (t : List UInt8) (hl : t.length ≤ 9223372036854775000) : OkR Tryd.prog GT 85 [.p (.string (txt (c :: t)))] h (RuR (c :: t) h) := by
  refine OkR_by Tryd.func85 c85_ok r85_ok 18 rfl ?_
  have hlt := c.toNat_lt
  have hw : IntKind.i32.wrap (c.toNat : Int) = c.toNat := by simp [IntKind.wrap, IntKind.bits, IntKind.signed]; omega
  have hpos : (0 : Int) < (t.length : Int) + 1 := by omega
  rcases Nat.lt_or_ge c.toNat 128 with a | a
  · have e : (c.toNat : Int) < 128 := by omega
    simp [c85, r85, byteD, e, hw, hpos]
    refine REr_by _ _ .refl ?_
    exact ⟨HPre.refl _, c.toNat, 1, rfl, fun _ => ⟨by omega, by simp, .inl ⟨rfl, c, t, rfl, rfl, a⟩⟩⟩
  · have e : ¬ (c.toNat : Int) < 128 := by omega
    simp [c85, r85, byteD, e, hw, hpos]
    refine FF_byR (ok105 h c t a hl) ?_
    rintro v h' ⟨hp, r, n, rfl, hh⟩
    simp
    refine REr_by _ _ .refl ?_
    exact ⟨hp, r, n, rfl, hh⟩

end Go.Proofs.YtdgnjngbheecnaaDoor
