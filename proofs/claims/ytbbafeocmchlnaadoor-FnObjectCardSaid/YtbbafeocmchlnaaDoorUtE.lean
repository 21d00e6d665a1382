/- Whether a text is of whole letters. -/
import Derived.Test.YtbbafeocmchlnaaDoorUtD
import Derived.Test.YtbbafeocmchlnaaDoorCodB
set_option linter.unusedVariables false
set_option linter.unusedSimpArgs false
set_option maxRecDepth 100000
namespace Go.Proofs.YtbbafeocmchlnaaDoor
open Go Go.Den Go.Proofs

/-- Eight bytes as a number. -/
def W8 (s : List UInt8) : Nat := (s.getD 0 0).toNat + (s.getD 1 0).toNat * 2 ^ 8 + (s.getD 2 0).toNat * 2 ^ 16 + (s.getD 3 0).toNat * 2 ^ 24 + (s.getD 4 0).toNat * 2 ^ 32 + (s.getD 5 0).toNat * 2 ^ 40 + (s.getD 6 0).toNat * 2 ^ 48 + (s.getD 7 0).toNat * 2 ^ 56
theorem wr64 (c : UInt8) : IntKind.u64.wrap (c.toNat : Int) = c.toNat := wrap_u rfl _ (by have := c.toNat_lt; simp only [IntKind.bits]; omega)
theorem sh64 (c : UInt8) (i : Nat) (hi : i ≤ 56) : ishl .u64 (c.toNat : Int) (i : Int) = ((c.toNat * 2 ^ i : Nat) : Int) := by
  refine ishl_nat rfl ?_ (by simp only [IntKind.bits]; omega)
  have h1 := c.toNat_lt
  have h2 : 2 ^ i ≤ 2 ^ 56 := Nat.pow_le_pow_right (by decide) hi
  simp only [IntKind.bits]
  calc c.toNat * 2 ^ i < 2 ^ 8 * 2 ^ i := Nat.mul_lt_mul_of_pos_right h1 (Nat.two_pow_pos i)
    _ ≤ 2 ^ 8 * 2 ^ 56 := Nat.mul_le_mul_left _ h2
    _ = 2 ^ 64 := by decide
theorem or64 {a : Nat} (c : UInt8) (i : Nat) (hi : i ≤ 56) (ha : a < 2 ^ i) : ior .u64 (a : Int) ((c.toNat * 2 ^ i : Nat) : Int) = ((a + c.toNat * 2 ^ i : Nat) : Int) := by
  have h1 := c.toNat_lt
  have h2 : 2 ^ i ≤ 2 ^ 56 := Nat.pow_le_pow_right (by decide) hi
  have h3 : c.toNat * 2 ^ i < 2 ^ 64 := by
    calc c.toNat * 2 ^ i < 2 ^ 8 * 2 ^ i := Nat.mul_lt_mul_of_pos_right h1 (Nat.two_pow_pos i)
      _ ≤ 2 ^ 8 * 2 ^ 56 := Nat.mul_le_mul_left _ h2
      _ = 2 ^ 64 := by decide
  rw [ior_nat rfl (by simp only [IntKind.bits]; omega) (by simpa only [IntKind.bits] using h3), or_add ha]
theorem W8_lt (s : List UInt8) : W8 s < 2 ^ 64 := by
  unfold W8
  have h0 := (s.getD 0 0).toNat_lt
  have h1 := (s.getD 1 0).toNat_lt
  have h2 := (s.getD 2 0).toNat_lt
  have h3 := (s.getD 3 0).toNat_lt
  have h4 := (s.getD 4 0).toNat_lt
  have h5 := (s.getD 5 0).toNat_lt
  have h6 := (s.getD 6 0).toNat_lt
  have h7 := (s.getD 7 0).toNat_lt
  omega
theorem word8 (b0 b1 b2 b3 b4 b5 b6 b7 : UInt8) :
    ior .u64 (ior .u64 (ior .u64 (ior .u64 (ior .u64 (ior .u64 (ior .u64 (b0.toNat : Int) (ishl .u64 (b1.toNat : Int) 8)) (ishl .u64 (b2.toNat : Int) 16)) (ishl .u64 (b3.toNat : Int) 24)) (ishl .u64 (b4.toNat : Int) 32)) (ishl .u64 (b5.toNat : Int) 40)) (ishl .u64 (b6.toNat : Int) 48)) (ishl .u64 (b7.toNat : Int) 56) =
      ((b0.toNat + b1.toNat * 2 ^ 8 + b2.toNat * 2 ^ 16 + b3.toNat * 2 ^ 24 + b4.toNat * 2 ^ 32 + b5.toNat * 2 ^ 40 + b6.toNat * 2 ^ 48 + b7.toNat * 2 ^ 56 : Nat) : Int) := by
  have h0 := b0.toNat_lt
  have h1 := b1.toNat_lt
  have h2 := b2.toNat_lt
  have h3 := b3.toNat_lt
  have h4 := b4.toNat_lt
  have h5 := b5.toNat_lt
  have h6 := b6.toNat_lt
  have e1 : ishl .u64 (b1.toNat : Int) 8 = ((b1.toNat * 2 ^ 8 : Nat) : Int) := sh64 b1 8 (by decide)
  have e2 : ishl .u64 (b2.toNat : Int) 16 = ((b2.toNat * 2 ^ 16 : Nat) : Int) := sh64 b2 16 (by decide)
  have e3 : ishl .u64 (b3.toNat : Int) 24 = ((b3.toNat * 2 ^ 24 : Nat) : Int) := sh64 b3 24 (by decide)
  have e4 : ishl .u64 (b4.toNat : Int) 32 = ((b4.toNat * 2 ^ 32 : Nat) : Int) := sh64 b4 32 (by decide)
  have e5 : ishl .u64 (b5.toNat : Int) 40 = ((b5.toNat * 2 ^ 40 : Nat) : Int) := sh64 b5 40 (by decide)
  have e6 : ishl .u64 (b6.toNat : Int) 48 = ((b6.toNat * 2 ^ 48 : Nat) : Int) := sh64 b6 48 (by decide)
  have e7 : ishl .u64 (b7.toNat : Int) 56 = ((b7.toNat * 2 ^ 56 : Nat) : Int) := sh64 b7 56 (by decide)
  rw [e1, e2, e3, e4, e5, e6, e7, or64 b1 8 (by decide) (by omega), or64 b2 16 (by decide) (by omega), or64 b3 24 (by decide) (by omega), or64 b4 32 (by decide) (by omega), or64 b5 40 (by decide) (by omega), or64 b6 48 (by decide) (by omega), or64 b7 56 (by decide) (by omega)]

theorem ok17 {G : Nat → DV} (h : List Blk) (s : List UInt8) (hs : 8 ≤ s.length) (hl : s.length ≤ 2147483647) : Ok Tryd.prog G 17 [.p (.string (txt s))] h (.p (.int .u64 (W8 s : Int))) h := by
  refine Ok_by Tryd.func17 c17_ok r17_ok 58 rfl ?_
  rcases s with _ | ⟨b0, _ | ⟨b1, _ | ⟨b2, _ | ⟨b3, _ | ⟨b4, _ | ⟨b5, _ | ⟨b6, _ | ⟨b7, t⟩⟩⟩⟩⟩⟩⟩⟩
  all_goals first | (simp only [List.length_cons, List.length_nil] at hs; omega) | skip
  have e : W8 (b0 :: b1 :: b2 :: b3 :: b4 :: b5 :: b6 :: b7 :: t) = b0.toNat + b1.toNat * 2 ^ 8 + b2.toNat * 2 ^ 16 + b3.toNat * 2 ^ 24 + b4.toNat * 2 ^ 32 + b5.toNat * 2 ^ 40 + b6.toNat * 2 ^ 48 + b7.toNat * 2 ^ 56 := rfl
  rw [e, ← word8]
  have q0 : (0 : Int) < (t.length : Int) + 1 + 1 + 1 + 1 + 1 + 1 + 1 + 1 := by omega
  have q1 : (1 : Int) < (t.length : Int) + 1 + 1 + 1 + 1 + 1 + 1 + 1 + 1 := by omega
  have q2 : (2 : Int) < (t.length : Int) + 1 + 1 + 1 + 1 + 1 + 1 + 1 + 1 := by omega
  have q3 : (3 : Int) < (t.length : Int) + 1 + 1 + 1 + 1 + 1 + 1 + 1 + 1 := by omega
  have q4 : (4 : Int) < (t.length : Int) + 1 + 1 + 1 + 1 + 1 + 1 + 1 + 1 := by omega
  have q5 : (5 : Int) < (t.length : Int) + 1 + 1 + 1 + 1 + 1 + 1 + 1 + 1 := by omega
  have q6 : (6 : Int) < (t.length : Int) + 1 + 1 + 1 + 1 + 1 + 1 + 1 + 1 := by omega
  have q7 : (7 : Int) < (t.length : Int) + 1 + 1 + 1 + 1 + 1 + 1 + 1 + 1 := by omega
  simp [c17, r17, byteD, wr64, q0, q1, q2, q3, q4, q5, q6, q7]

/-! Eight bytes at once. -/
def H8 : Nat := 9259542123273814144
theorem and_or {x y : Nat} (h : (x ||| y) &&& H8 = 0) : x &&& H8 = 0 ∧ y &&& H8 = 0 := by
  have key : ∀ i, ((x.testBit i || y.testBit i) && H8.testBit i) = false := fun i => by
    have := congrArg (fun n => n.testBit i) h
    simpa [Nat.testBit_and, Nat.testBit_or] using this
  constructor <;> apply Nat.eq_of_testBit_eq <;> intro i <;> have k := key i <;> rw [Nat.testBit_and, Nat.zero_testBit] <;> revert k <;> cases x.testBit i <;> cases y.testBit i <;> cases H8.testBit i <;> simp
theorem hi8 {s : List UInt8} (hs : 8 ≤ s.length) (h : W8 s &&& H8 = 0) : ∀ x ∈ s.take 8, x.toNat < 128 := by
  rcases s with _ | ⟨b0, _ | ⟨b1, _ | ⟨b2, _ | ⟨b3, _ | ⟨b4, _ | ⟨b5, _ | ⟨b6, _ | ⟨b7, t⟩⟩⟩⟩⟩⟩⟩⟩
  all_goals first | (simp only [List.length_cons, List.length_nil] at hs; omega) | skip
  have e : W8 (b0 :: b1 :: b2 :: b3 :: b4 :: b5 :: b6 :: b7 :: t) = b0.toNat + b1.toNat * 2 ^ 8 + b2.toNat * 2 ^ 16 + b3.toNat * 2 ^ 24 + b4.toNat * 2 ^ 32 + b5.toNat * 2 ^ 40 + b6.toNat * 2 ^ 48 + b7.toNat * 2 ^ 56 := rfl
  rw [e] at h
  generalize hw : b0.toNat + b1.toNat * 2 ^ 8 + b2.toNat * 2 ^ 16 + b3.toNat * 2 ^ 24 + b4.toNat * 2 ^ 32 + b5.toNat * 2 ^ 40 + b6.toNat * 2 ^ 48 + b7.toNat * 2 ^ 56 = w at h
  have key : ∀ i, H8.testBit i = true → w / 2 ^ i % 2 = 0 := fun i hi => by
    have this : (w &&& H8).testBit i = (0 : Nat).testBit i := by rw [h]
    rw [Nat.testBit_and, hi, Bool.and_true, Nat.zero_testBit, Nat.testBit_eq_decide_div_mod_eq, decide_eq_false_iff_not] at this
    rcases Nat.mod_two_eq_zero_or_one (w / 2 ^ i) with g | g
    · exact g
    · exact absurd g this
  have k0 := key 7 (by decide)
  have k1 := key 15 (by decide)
  have k2 := key 23 (by decide)
  have k3 := key 31 (by decide)
  have k4 := key 39 (by decide)
  have k5 := key 47 (by decide)
  have k6 := key 55 (by decide)
  have k7 := key 63 (by decide)
  have h0 := b0.toNat_lt
  have h1 := b1.toNat_lt
  have h2 := b2.toNat_lt
  have h3 := b3.toNat_lt
  have h4 := b4.toNat_lt
  have h5 := b5.toNat_lt
  have h6 := b6.toNat_lt
  have h7 := b7.toNat_lt
  simp only [List.take_succ_cons, List.take_zero, List.mem_cons, List.not_mem_nil, or_false]
  rintro x (rfl | rfl | rfl | rfl | rfl | rfl | rfl | rfl)
  all_goals omega

/-- Is a text of whole letters? -/
def vf : Nat → List UInt8 → Bool
  | 0, _ => true
  | _ + 1, [] => true
  | k + 1, c :: t => if c.toNat < 128 then vf k t else if (Utf8.decode (txt (c :: t)) 0).2 = 1 then false else vf k ((c :: t).drop (Utf8.decode (txt (c :: t)) 0).2)
theorem vf_eq : ∀ (k m : Nat) (s : List UInt8), s.length ≤ k → s.length ≤ m → vf k s = vf m s
  | 0, m, s, hk, hm => by
    obtain rfl : s = [] := List.eq_nil_of_length_eq_zero (by omega)
    cases m <;> rfl
  | k + 1, 0, s, hk, hm => by
    obtain rfl : s = [] := List.eq_nil_of_length_eq_zero (by omega)
    rfl
  | k + 1, m + 1, [], hk, hm => rfl
  | k + 1, m + 1, c :: t, hk, hm => by
    simp only [List.length_cons] at hk hm
    have hp := dec_pos (txt (c :: t)) 0
    simp only [vf]
    rw [vf_eq k m t (by omega) (by omega), vf_eq k m ((c :: t).drop (Utf8.decode (txt (c :: t)) 0).2) (by simp; omega) (by simp; omega)]
def val (s : List UInt8) : Bool := vf s.length s
theorem val_nil : val [] = true := rfl
theorem val_cons (c : UInt8) (t : List UInt8) : val (c :: t) = if c.toNat < 128 then val t else if (Utf8.decode (txt (c :: t)) 0).2 = 1 then false else val ((c :: t).drop (Utf8.decode (txt (c :: t)) 0).2) := by
  have hp := dec_pos (txt (c :: t)) 0
  show vf (t.length + 1) (c :: t) = _
  simp only [vf]
  rw [vf_eq t.length ((c :: t).drop (Utf8.decode (txt (c :: t)) 0).2).length ((c :: t).drop (Utf8.decode (txt (c :: t)) 0).2) (by simp; omega) (Nat.le_refl _)]
  rfl
theorem val_drop : ∀ (n : Nat) (s : List UInt8), (∀ x ∈ s.take n, x.toNat < 128) → val s = val (s.drop n)
  | 0, s, _ => by simp
  | n + 1, [], _ => by simp
  | n + 1, c :: t, h => by
    rw [val_cons, if_pos (h c (by simp)), List.drop_succ_cons]
    exact val_drop n t fun x hx => h x (by simp [hx])
end Go.Proofs.YtbbafeocmchlnaaDoor
