/- Domains: signs, and blanks. -/
import Derived.Test.YtbbafeocmchlnaaDoorCodA
import Derived.Test.YtbbafeocmchlnaaDoorLibE
set_option linter.unusedVariables false
set_option linter.unusedSimpArgs false
set_option maxRecDepth 100000
namespace Go.Proofs.YtbbafeocmchlnaaDoor
open Go Go.Den Go.Proofs

def small (c : UInt8) : Bool := (decide (97 ≤ c.toNat) && decide (c.toNat ≤ 122)) || (decide (48 ≤ c.toNat) && decide (c.toNat ≤ 57))
theorem ok9 {G : Nat → DV} (h : List Blk) (c : UInt8) : Ok Tryd.prog G 9 [.p (.int .u8 c.toNat)] h (.p (.bool (small c))) h := by
  refine Ok_by Tryd.func9 c9_ok r9_ok 16 rfl ?_
  rcases Nat.lt_or_ge c.toNat 48 with a | a
  · have e1 : ¬ (97 : Int) ≤ (c.toNat : Int) := by omega
    have e2 : ¬ (48 : Int) ≤ (c.toNat : Int) := by omega
    have f1 : ¬ 97 ≤ c.toNat := by omega
    have f2 : ¬ 48 ≤ c.toNat := by omega
    simp [c9, r9, e1, e2, small, f1, f2]
  · have e2 : (48 : Int) ≤ (c.toNat : Int) := by omega
    rcases Nat.lt_or_ge c.toNat 58 with b | b
    · have e1 : ¬ (97 : Int) ≤ (c.toNat : Int) := by omega
      have e3 : (c.toNat : Int) ≤ 57 := by omega
      have f1 : ¬ 97 ≤ c.toNat := by omega
      have f3 : c.toNat ≤ 57 := by omega
      simp [c9, r9, e1, e2, e3, small, f1, a, f3]
    · have e3 : ¬ (c.toNat : Int) ≤ 57 := by omega
      have f3 : ¬ c.toNat ≤ 57 := by omega
      rcases Nat.lt_or_ge c.toNat 97 with d | d
      · have e1 : ¬ (97 : Int) ≤ (c.toNat : Int) := by omega
        have f1 : ¬ 97 ≤ c.toNat := by omega
        simp [c9, r9, e1, e2, e3, small, f1, a, f3]
      · have e1 : (97 : Int) ≤ (c.toNat : Int) := by omega
        rcases Nat.lt_or_ge c.toNat 123 with g | g
        · have e4 : (c.toNat : Int) ≤ 122 := by omega
          have f4 : c.toNat ≤ 122 := by omega
          simp [c9, r9, e1, e4, small, d, f4]
        · have e4 : ¬ (c.toNat : Int) ≤ 122 := by omega
          have f4 : ¬ c.toNat ≤ 122 := by omega
          simp [c9, r9, e1, e2, e3, e4, small, d, f4, f3]

/-- Whether a letter is a blank: what is told of it. -/
def SpR (r : Int) (h : List Blk) (v : DV) (h' : List Blk) : Prop := h' = h ∧ ∃ b, v = .p (.bool b) ∧ (33 ≤ r ∧ r ≤ 127 → b = false)
theorem ok20 {G : Nat → DV} (h : List Blk) (r : Int) : OkR Tryd.prog G 20 [.p (.int .i32 r)] h (SpR r h) := by
  refine OkR_by Tryd.func20 c20_ok r20_ok 24 rfl ?_
  simp [c20, r20]
  refine CC_by (fun e => ?_) (fun e => ?_)
  · have e : r = 9 := by simpa using e
    subst e
    simp
    refine REr_by _ _ .refl ?_
    exact ⟨rfl, _, rfl, fun h => by omega⟩
  have e : r ≠ 9 := by simpa using e
  simp
  refine CC_by (fun e => ?_) (fun e => ?_)
  · have e : r = 10 := by simpa using e
    subst e
    simp
    refine REr_by _ _ .refl ?_
    exact ⟨rfl, _, rfl, fun h => by omega⟩
  have e : r ≠ 10 := by simpa using e
  simp
  refine CC_by (fun e => ?_) (fun e => ?_)
  · have e : r = 11 := by simpa using e
    subst e
    simp
    refine REr_by _ _ .refl ?_
    exact ⟨rfl, _, rfl, fun h => by omega⟩
  have e : r ≠ 11 := by simpa using e
  simp
  refine CC_by (fun e => ?_) (fun e => ?_)
  · have e : r = 12 := by simpa using e
    subst e
    simp
    refine REr_by _ _ .refl ?_
    exact ⟨rfl, _, rfl, fun h => by omega⟩
  have e : r ≠ 12 := by simpa using e
  simp
  refine CC_by (fun e => ?_) (fun e => ?_)
  · have e : r = 13 := by simpa using e
    subst e
    simp
    refine REr_by _ _ .refl ?_
    exact ⟨rfl, _, rfl, fun h => by omega⟩
  have e : r ≠ 13 := by simpa using e
  simp
  refine CC_by (fun e => ?_) (fun e => ?_)
  · have e : r = 32 := by simpa using e
    subst e
    simp
    refine REr_by _ _ .refl ?_
    exact ⟨rfl, _, rfl, fun h => by omega⟩
  have e : r ≠ 32 := by simpa using e
  simp
  refine CC_by (fun e => ?_) (fun e => ?_)
  · have e : r = 133 := by simpa using e
    subst e
    simp
    refine REr_by _ _ .refl ?_
    exact ⟨rfl, _, rfl, fun h => by omega⟩
  have e : r ≠ 133 := by simpa using e
  simp
  refine CC_by (fun e => ?_) (fun e => ?_)
  · have e : r = 160 := by simpa using e
    subst e
    simp
    refine REr_by _ _ .refl ?_
    exact ⟨rfl, _, rfl, fun h => by omega⟩
  have e : r ≠ 160 := by simpa using e
  simp
  refine CC_by (fun e => ?_) (fun e => ?_)
  · have e : r = 5760 := by simpa using e
    subst e
    simp
    refine REr_by _ _ .refl ?_
    exact ⟨rfl, _, rfl, fun h => by omega⟩
  have e : r ≠ 5760 := by simpa using e
  simp
  refine CC_by (fun e => ?_) (fun e => ?_)
  · have e : r = 8232 := by simpa using e
    subst e
    simp
    refine REr_by _ _ .refl ?_
    exact ⟨rfl, _, rfl, fun h => by omega⟩
  have e : r ≠ 8232 := by simpa using e
  simp
  refine CC_by (fun e => ?_) (fun e => ?_)
  · have e : r = 8233 := by simpa using e
    subst e
    simp
    refine REr_by _ _ .refl ?_
    exact ⟨rfl, _, rfl, fun h => by omega⟩
  have e : r ≠ 8233 := by simpa using e
  simp
  refine CC_by (fun e => ?_) (fun e => ?_)
  · have e : r = 8239 := by simpa using e
    subst e
    simp
    refine REr_by _ _ .refl ?_
    exact ⟨rfl, _, rfl, fun h => by omega⟩
  have e : r ≠ 8239 := by simpa using e
  simp
  refine CC_by (fun e => ?_) (fun e => ?_)
  · have e : r = 8287 := by simpa using e
    subst e
    simp
    refine REr_by _ _ .refl ?_
    exact ⟨rfl, _, rfl, fun h => by omega⟩
  have e : r ≠ 8287 := by simpa using e
  simp
  refine CC_by (fun e => ?_) (fun e => ?_)
  · have e : r = 12288 := by simpa using e
    subst e
    simp
    refine REr_by _ _ .refl ?_
    exact ⟨rfl, _, rfl, fun h => by omega⟩
  have e : r ≠ 12288 := by simpa using e
  simp
  rcases Decidable.em ((8192 : Int) ≤ r) with a | a
  · simp [a]
    refine REr_by _ _ .refl ?_
    exact ⟨rfl, _, rfl, fun h => by omega⟩
  · simp [a]
    refine REr_by _ _ .refl ?_
    exact ⟨rfl, _, rfl, fun h => rfl⟩

theorem ok24 {G : Nat → DV} (h : List Blk) (c : UInt8) : Ok Tryd.prog G 24 [.p (.int .u8 c.toNat)] h (.p (.bool (iand IntKind.u8 (c.toNat : Int) 192 != 128))) h := by
  refine Ok_by Tryd.func24 c24_ok r24_ok 5 rfl ?_
  simp [c24, r24]
end Go.Proofs.YtbbafeocmchlnaaDoor
