/- Numbers' texts. (turned from another seat by mkpu.py) -/
import Derived.Test.YtppjcnaffphakaaGreatDoorMwA
import Derived.Lib.ItoaNum
set_option linter.unusedVariables false
set_option linter.unusedSimpArgs false
set_option maxRecDepth 100000
set_option maxHeartbeats 4000000
namespace Go.Proofs.YtppjcnaffphakaaGreatDoor
open Go Go.Den Go.Proofs

/-- A number's text. -/
def decI (n : Int) : List UInt8 := Lib.itoa n

theorem dd_eq (u : Nat) : Lib.decDigits u = if u < 10 then [UInt8.ofNat (48 + u)] else Lib.decDigits (u / 10) ++ [UInt8.ofNat (48 + u % 10)] := by
  rw [Lib.decDigits]
  split <;> rfl

theorem dig_toNat (k : Nat) (h : k < 10) : (UInt8.ofNat (48 + k)).toNat = 48 + k := by
  rw [UInt8.toNat_ofNat']
  omega

theorem dd_ne (u : Nat) : Lib.decDigits u ≠ [] := by
  rw [dd_eq]
  split <;> simp

theorem dd_0 : Lib.decDigits 0 = [48] := by rw [dd_eq]; rfl

theorem decI_eq (n : Int) : decI n = if n < 0 then 45 :: Lib.decDigits n.natAbs else Lib.decDigits n.natAbs := by
  unfold decI Lib.itoa
  split
  · rfl
  · rw [show n.toNat = n.natAbs by omega]
theorem dd_len (u : Nat) (h : u < 18446744073709551616) : (Lib.decDigits u).length ≤ 20 := by
  have : ∀ k u, u < 10 ^ (k + 1) → (Lib.decDigits u).length ≤ k + 1 := by
    intro k
    induction k with
    | zero => intro u hu; rw [dd_eq, if_pos (by omega)]; simp
    | succ k ih =>
      intro u hu
      rw [dd_eq]
      split
      · simp
      · have := ih (u / 10) (by rw [Nat.pow_succ] at hu; omega)
        simp; omega
  refine this 19 u ?_
  have : (10 : Nat) ^ 20 = 100000000000000000000 := by decide
  omega

end Go.Proofs.YtppjcnaffphakaaGreatDoor
