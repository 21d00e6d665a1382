/- Versions: their texts, and their order. -/
import Derived.Test.YtbbafeocmchlnaaPvA
set_option linter.unusedVariables false
set_option linter.unusedSimpArgs false
set_option maxRecDepth 100000
namespace Go.Proofs.Ytbbafeocmchlnaa
open Go Go.Den Go.Proofs

def verD (a b c : Nat) : DV := .agg [.p (.int .u64 a), .p (.int .u64 b), .p (.int .u64 c)]
def B64 : Nat := 18446744073709551616
theorem ok52 {G : Nat → DV} (h : List Blk) (a b c : Nat) : Ok Try.prog G 52 [verD a b c] h (verD a b c) h := by
  refine Ok_by Try.func52 c52_ok r52_ok 9 rfl ?_
  simp [c52, r52, verD]
  exact WkV.ofPure (by simp) rfl
theorem ok71 {G : Nat → DV} (h : List Blk) (a b c : Nat) : Ok Try.prog G 71 [verD a b c] h (verD a b c) h := by
  refine Ok_by Try.func71 c71_ok r71_ok 9 rfl ?_
  simp [c71, r71, verD]
  exact WkV.ofPure (by simp) rfl
def verT (a b c : Nat) : List UInt8 := dig a ++ 46 :: (dig b ++ 46 :: dig c)
theorem dig_length (n : Nat) (h : n < B64) : (dig n).length ≤ 20 := by
  have : ∀ k n, n < 10 ^ (k + 1) → (dig n).length ≤ k + 1 := by
    intro k
    induction k with
    | zero => intro n hn; rw [dig_lt (by simpa using hn)]; simp
    | succ k ih =>
      intro n hn
      by_cases h10 : n < 10
      · rw [dig_lt h10]; simp
      · rw [dig_ge (by omega)]
        have := ih (n / 10) (by rw [Nat.pow_succ] at hn; omega)
        simp; omega
  exact this 19 n (Nat.lt_trans h (by decide))
theorem ok70 {G : Nat → DV} (h : List Blk) (a b c : Nat) (ha : a < B64) (hb : b < B64) (hc : c < B64) : Ok Try.prog G 70 [verD a b c] h (.p (.string (txt (verT a b c)))) h := by
  refine Ok_by Try.func70 c70_ok r70_ok 15 rfl ?_
  have la := dig_length a ha
  have lb := dig_length b hb
  have lc := dig_length c hc
  simp [c70, r70, verD]
  refine DF_by (ok107 _ a ha) ?_
  simp
  refine ⟨by omega, ?_⟩
  refine DF_by (ok107 _ b hb) ?_
  simp
  refine ⟨by omega, by omega, ?_⟩
  refine DF_by (ok107 _ c hc) ?_
  simp [verT]
  omega
theorem ok31 {G : Nat → DV} (h : List Blk) (a b c : Nat) (ha : a < B64) (hb : b < B64) (hc : c < B64) : Ok Try.prog G 31 [verD a b c] h (.p (.string (txt (verT a b c)))) h := by
  refine Ok_by Try.func31 c31_ok r31_ok 5 rfl ?_
  simp [c31, r31, verD]
  refine FF_by (ok52 _ a b c) ?_
  simp
  refine FF_by (ok70 _ a b c ha hb hc) ?_
  simp
theorem ok14 (h : List Blk) : Ok Try.prog (fun _ => .any) 14 [] h (.p (.bool true)) h := Ok.eval .any tab_ok 200 (by kernel_rfl) h

@[simp] theorem icast_beq (x y : Nat) : ((x : Int) == (y : Int)) = decide (x = y) := by
  rw [Bool.eq_iff_iff]; simp; omega
def atLeast (v c : Nat × Nat × Nat) : Bool := !(decide (v.1 < c.1) || (decide (v.1 = c.1) && decide (v.2.1 < c.2.1)) || (decide (v.1 = c.1) && decide (v.2.1 = c.2.1) && decide (v.2.2 < c.2.2)))
theorem ok73 {G : Nat → DV} (h : List Blk) (a b c x y z : Nat) : Ok Try.prog G 73 [verD a b c, verD x y z] h (.p (.bool (atLeast (x, y, z) (a, b, c)))) h := by
  refine Ok_by Try.func73 c73_ok r73_ok 43 rfl ?_
  simp [c73, r73, verD]

  cases h1 : decide (x < a) <;> cases h2 : decide (x = a) <;> cases h3 : decide (y < b) <;> cases h4 : decide (y = b) <;> cases h5 : decide (z < c) <;> simp [atLeast, h1, h2, h3, h4, h5]
theorem ok34 {G : Nat → DV} (h : List Blk) (a b c x y z : Nat) : Ok Try.prog G 34 [verD a b c, verD x y z] h (.p (.bool (atLeast (x, y, z) (a, b, c)))) h := by
  refine Ok_by Try.func34 c34_ok r34_ok 8 rfl ?_
  simp [c34, r34, verD]
  refine DF_by (ok52 _ a b c) ?_
  simp [verD]
  refine DF_by (ok52 _ x y z) ?_
  simp
  refine DF_by (ok73 _ a b c x y z) ?_
  simp

end Go.Proofs.Ytbbafeocmchlnaa
