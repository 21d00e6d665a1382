/- Letters: what the model's decoding says, by a letter's first byte; bits. -/
import Derived.Test.YtbbafeocmchlnaaDoorLibE
set_option linter.unusedVariables false
set_option linter.unusedSimpArgs false
set_option maxRecDepth 100000
namespace Go.Proofs.YtbbafeocmchlnaaDoor
open Go Go.Den Go.Proofs

theorem getb (s : List UInt8) (i : Nat) : (txt s).get! i = s.getD i 0 := by
  show (txt s).data[i]! = s.getD i 0
  rcases Nat.lt_or_ge i s.length with h | h
  · simp [txt, h]
  · rw [getElem!_neg _ _ (by simpa [txt] using h), List.getD_eq_getElem?_getD, List.getElem?_eq_none h]
    rfl

def bad1 : Nat × Nat := (65533, 1)
/-- The model's decoding of a text's first letter. -/
theorem dec_unf (s : List UInt8) : Utf8.decode (txt s) 0 = (
  let at' (k : Nat) : Nat := (s.getD k 0).toNat
  let cont (k : Nat) : Bool := decide (k < s.length) && at' k / 64 == 2
  let b0 := at' 0
  if b0 < 0x80 then (b0, 1)
  else if b0 / 32 == 6 && cont 1 then
    let c := (b0 % 32) * 64 + at' 1 % 64
    if c ≥ 0x80 then (c, 2) else bad1
  else if b0 / 16 == 14 && cont 1 && cont 2 then
    let c := (b0 % 16) * 4096 + (at' 1 % 64) * 64 + at' 2 % 64
    if c ≥ 0x800 && Utf8.valid c then (c, 3) else bad1
  else if b0 / 8 == 30 && cont 1 && cont 2 && cont 3 then
    let c := (b0 % 8) * 262144 + (at' 1 % 64) * 4096 + (at' 2 % 64) * 64 + at' 3 % 64
    if c ≥ 0x10000 && Utf8.valid c then (c, 4) else bad1
  else bad1) := by
  unfold Utf8.decode
  simp only [getb, txt_size, Nat.zero_add]
  rfl
section
variable {c b1 b2 b3 : UInt8} {t : List UInt8}
theorem d1 (h : c.toNat < 128) : Utf8.decode (txt (c :: t)) 0 = (c.toNat, 1) := by
  rw [dec_unf]
  simp [h]
theorem d1x (h0 : 128 ≤ c.toNat) (h : c.toNat < 194 ∨ 244 < c.toNat) : Utf8.decode (txt (c :: t)) 0 = bad1 := by
  have hc := c.toNat_lt
  rw [dec_unf]
  dsimp only
  simp only [List.getD_cons_zero]
  rw [if_neg (by omega)]
  split
  · rename_i h1
    rw [if_neg]
    simp at h1 ⊢
    omega
  · split
    · rename_i h1
      simp at h1
      omega
    · split
      · rename_i h1
        rw [if_neg]
        simp [Utf8.valid] at h1 ⊢
        omega
      · rfl
theorem d2x (h0 : 194 ≤ c.toNat) (h1 : c.toNat ≤ 223) (h : t = [] ∨ ∃ b r, t = b :: r ∧ (b.toNat < 128 ∨ 191 < b.toNat)) : Utf8.decode (txt (c :: t)) 0 = bad1 := by
  rw [dec_unf]
  dsimp only
  simp only [List.getD_cons_zero]
  rw [if_neg (by omega), if_neg, if_neg (by simp; omega), if_neg (by simp; omega)]
  rcases h with rfl | ⟨b, r, rfl, h⟩
  · simp
  · simp
    omega
theorem d2 (h0 : 194 ≤ c.toNat) (h1 : c.toNat ≤ 223) (g0 : 128 ≤ b1.toNat) (g1 : b1.toNat ≤ 191) : Utf8.decode (txt (c :: b1 :: t)) 0 = ((c.toNat % 32) * 64 + b1.toNat % 64, 2) := by
  rw [dec_unf]
  dsimp only
  simp only [List.getD_cons_zero, List.getD_cons_succ]
  rw [if_neg (by omega), if_pos (by simp; omega), if_pos (by omega)]
theorem d3x (h0 : 224 ≤ c.toNat) (h1 : c.toNat ≤ 239) (h : t.length < 2 ∨ ∃ x y r, t = x :: y :: r ∧ (x.toNat < 128 ∨ 191 < x.toNat ∨ (c.toNat = 224 ∧ x.toNat < 160) ∨ (c.toNat = 237 ∧ 159 < x.toNat) ∨ y.toNat < 128 ∨ 191 < y.toNat)) : Utf8.decode (txt (c :: t)) 0 = bad1 := by
  rw [dec_unf]
  dsimp only
  simp only [List.getD_cons_zero]
  rw [if_neg (by omega), if_neg (by simp; omega)]
  rcases h with h | ⟨x, y, r, rfl, h⟩
  · rw [if_neg (by simp; omega), if_neg (by simp; omega)]
  · simp only [List.getD_cons_zero, List.getD_cons_succ]
    split
    · rename_i h2
      rw [if_neg]
      simp [Utf8.valid] at h2 ⊢
      omega
    · rw [if_neg (by simp; omega)]
theorem d3 (h0 : 224 ≤ c.toNat) (h1 : c.toNat ≤ 239) (g0 : 128 ≤ b1.toNat) (g1 : b1.toNat ≤ 191) (a : c.toNat = 224 → 160 ≤ b1.toNat) (b : c.toNat = 237 → b1.toNat ≤ 159) (k0 : 128 ≤ b2.toNat) (k1 : b2.toNat ≤ 191) :
    Utf8.decode (txt (c :: b1 :: b2 :: t)) 0 = ((c.toNat % 16) * 4096 + (b1.toNat % 64) * 64 + b2.toNat % 64, 3) := by
  rw [dec_unf]
  dsimp only
  simp only [List.getD_cons_zero, List.getD_cons_succ]
  rw [if_neg (by omega), if_neg (by simp; omega), if_pos (by simp; omega), if_pos]
  simp [Utf8.valid]
  omega
theorem d4x (h0 : 240 ≤ c.toNat) (h1 : c.toNat ≤ 244) (h : t.length < 3 ∨ ∃ x y z r, t = x :: y :: z :: r ∧ (x.toNat < 128 ∨ 191 < x.toNat ∨ (c.toNat = 240 ∧ x.toNat < 144) ∨ (c.toNat = 244 ∧ 143 < x.toNat) ∨ y.toNat < 128 ∨ 191 < y.toNat ∨ z.toNat < 128 ∨ 191 < z.toNat)) : Utf8.decode (txt (c :: t)) 0 = bad1 := by
  rw [dec_unf]
  dsimp only
  simp only [List.getD_cons_zero]
  rw [if_neg (by omega), if_neg (by simp; omega), if_neg (by simp; omega)]
  rcases h with h | ⟨x, y, z, r, rfl, h⟩
  · rw [if_neg (by simp; omega)]
  · simp only [List.getD_cons_zero, List.getD_cons_succ]
    split
    · rename_i h2
      rw [if_neg]
      simp [Utf8.valid] at h2 ⊢
      omega
    · rfl
theorem d4 (h0 : 240 ≤ c.toNat) (h1 : c.toNat ≤ 244) (g0 : 128 ≤ b1.toNat) (g1 : b1.toNat ≤ 191) (a : c.toNat = 240 → 144 ≤ b1.toNat) (b : c.toNat = 244 → b1.toNat ≤ 143) (k0 : 128 ≤ b2.toNat) (k1 : b2.toNat ≤ 191) (l0 : 128 ≤ b3.toNat) (l1 : b3.toNat ≤ 191) :
    Utf8.decode (txt (c :: b1 :: b2 :: b3 :: t)) 0 = ((c.toNat % 8) * 262144 + (b1.toNat % 64) * 4096 + (b2.toNat % 64) * 64 + b3.toNat % 64, 4) := by
  rw [dec_unf]
  dsimp only
  simp only [List.getD_cons_zero, List.getD_cons_succ]
  rw [if_neg (by omega), if_neg (by simp; omega), if_neg (by simp; omega), if_pos (by simp; omega), if_pos]
  simp [Utf8.valid]
  omega
end

/-! Bits of numbers with a sign. -/
theorem wrap_s {k : IntKind} (n : Nat) (hn : n < 2 ^ (k.bits - 1)) : k.wrap (n : Int) = n := by
  unfold IntKind.wrap
  cases k <;> simp [IntKind.signed, IntKind.bits] at hn ⊢ <;> omega
theorem ior_s {k : IntKind} {a b : Nat} (ha : a < 2 ^ (k.bits - 1)) (hb : b < 2 ^ (k.bits - 1)) : ior k a b = ((a ||| b : Nat) : Int) := by
  have h2 : 2 ^ (k.bits - 1) ≤ 2 ^ k.bits := Nat.pow_le_pow_right (by decide) (by omega)
  unfold ior
  rw [ofInt_nat, ofInt_nat, BitVec.toNat_or, BitVec.toNat_ofNat, BitVec.toNat_ofNat, Nat.mod_eq_of_lt (Nat.lt_of_lt_of_le ha h2), Nat.mod_eq_of_lt (Nat.lt_of_lt_of_le hb h2)]
  exact wrap_s _ (Nat.or_lt_two_pow ha hb)
theorem ishl_s {k : IntKind} {a b : Nat} (h : a * 2 ^ b < 2 ^ (k.bits - 1)) (hb : b ≤ k.bits) : ishl k a b = ((a * 2 ^ b : Nat) : Int) := by
  unfold ishl
  have : min (b : Int).toNat k.bits = b := by simp; omega
  rw [this]
  have e : ((a : Int) * 2 ^ b) = ((a * 2 ^ b : Nat) : Int) := by simp
  rw [e]
  exact wrap_s _ h
theorem low {c : UInt8} (m i : Nat) (hm : m = 2 ^ i - 1) (hi : i ≤ 8) : IntKind.i32.wrap (iand .u8 (c.toNat : Int) ((m : Nat) : Int)) = ((c.toNat % 2 ^ i : Nat) : Int) := by
  have hp : 2 ^ i ≤ 2 ^ 8 := Nat.pow_le_pow_right (by decide) hi
  have hc := c.toNat_lt
  rw [iand_nat (k := .u8) rfl (by simpa [IntKind.bits] using hc) (by simp only [IntKind.bits]; have := Nat.two_pow_pos i; omega), hm, Nat.and_two_pow_sub_one_eq_mod]
  refine wrap_s _ ?_
  have : c.toNat % 2 ^ i < 2 ^ i := Nat.mod_lt _ (Nat.two_pow_pos i)
  simp only [IntKind.bits]
  omega
theorem low3 (c : UInt8) : IntKind.i32.wrap (iand .u8 (c.toNat : Int) 7) = ((c.toNat % 8 : Nat) : Int) := low 7 3 rfl (by decide)
theorem low4 (c : UInt8) : IntKind.i32.wrap (iand .u8 (c.toNat : Int) 15) = ((c.toNat % 16 : Nat) : Int) := low 15 4 rfl (by decide)
theorem low5 (c : UInt8) : IntKind.i32.wrap (iand .u8 (c.toNat : Int) 31) = ((c.toNat % 32 : Nat) : Int) := low 31 5 rfl (by decide)
theorem low6 (c : UInt8) : IntKind.i32.wrap (iand .u8 (c.toNat : Int) 63) = ((c.toNat % 64 : Nat) : Int) := low 63 6 rfl (by decide)
theorem sh6 {a : Nat} (h : a < 64 * 64) : ishl .i32 (a : Int) 6 = ((a * 64 : Nat) : Int) := ishl_s (k := .i32) (b := 6) (by simp [IntKind.bits]; omega) (by decide)
theorem sh12 {a : Nat} (h : a < 64 * 64) : ishl .i32 (a : Int) 12 = ((a * 4096 : Nat) : Int) := ishl_s (k := .i32) (b := 12) (by simp [IntKind.bits]; omega) (by decide)
theorem sh18 {a : Nat} (h : a < 64) : ishl .i32 (a : Int) 18 = ((a * 262144 : Nat) : Int) := ishl_s (k := .i32) (b := 18) (by simp [IntKind.bits]; omega) (by decide)
theorem or6 {a b : Nat} (h : b < 64) (ha : a < 2 ^ 20) : ior .i32 ((a * 64 : Nat) : Int) (b : Int) = ((a * 64 + b : Nat) : Int) := by
  rw [ior_s (by simp [IntKind.bits]; omega) (by simp [IntKind.bits]; omega), Nat.or_comm, show a * 64 = a * 2 ^ 6 from rfl, or_add (by omega), Nat.add_comm]
theorem or12 {a b : Nat} (h : b < 4096) (ha : a < 2 ^ 18) : ior .i32 ((a * 4096 : Nat) : Int) (b : Int) = ((a * 4096 + b : Nat) : Int) := by
  rw [ior_s (by simp [IntKind.bits]; omega) (by simp [IntKind.bits]; omega), Nat.or_comm, show a * 4096 = a * 2 ^ 12 from rfl, or_add (by omega), Nat.add_comm]
theorem or18 {a b : Nat} (h : b < 262144) (ha : a < 2 ^ 12) : ior .i32 ((a * 262144 : Nat) : Int) (b : Int) = ((a * 262144 + b : Nat) : Int) := by
  rw [ior_s (by simp [IntKind.bits]; omega) (by simp [IntKind.bits]; omega), Nat.or_comm, show a * 262144 = a * 2 ^ 18 from rfl, or_add (by omega), Nat.add_comm]
theorem v2 (c b : UInt8) : ior .i32 (ishl .i32 (IntKind.i32.wrap (iand .u8 (c.toNat : Int) 31)) 6) (IntKind.i32.wrap (iand .u8 (b.toNat : Int) 63)) = (((c.toNat % 32) * 64 + b.toNat % 64 : Nat) : Int) := by
  rw [low5, low6, sh6 (by omega), or6 (by omega) (by omega)]
theorem v3 (c b d : UInt8) : ior .i32 (ior .i32 (ishl .i32 (IntKind.i32.wrap (iand .u8 (c.toNat : Int) 15)) 12) (ishl .i32 (IntKind.i32.wrap (iand .u8 (b.toNat : Int) 63)) 6)) (IntKind.i32.wrap (iand .u8 (d.toNat : Int) 63)) = (((c.toNat % 16) * 4096 + (b.toNat % 64) * 64 + d.toNat % 64 : Nat) : Int) := by
  rw [low4, low6, low6, sh12 (by omega), sh6 (by omega), or12 (by omega) (by omega)]
  have e : c.toNat % 16 * 4096 + b.toNat % 64 * 64 = (c.toNat % 16 * 64 + b.toNat % 64) * 64 := by omega
  rw [e, or6 (by omega) (by omega)]
theorem v4 (c b d f : UInt8) : ior .i32 (ior .i32 (ior .i32 (ishl .i32 (IntKind.i32.wrap (iand .u8 (c.toNat : Int) 7)) 18) (ishl .i32 (IntKind.i32.wrap (iand .u8 (b.toNat : Int) 63)) 12)) (ishl .i32 (IntKind.i32.wrap (iand .u8 (d.toNat : Int) 63)) 6)) (IntKind.i32.wrap (iand .u8 (f.toNat : Int) 63)) = (((c.toNat % 8) * 262144 + (b.toNat % 64) * 4096 + (d.toNat % 64) * 64 + f.toNat % 64 : Nat) : Int) := by
  rw [low3, low6, low6, low6, sh18 (by omega), sh12 (by omega), sh6 (by omega), or18 (by omega) (by omega)]
  have e : c.toNat % 8 * 262144 + b.toNat % 64 * 4096 = (c.toNat % 8 * 64 + b.toNat % 64) * 4096 := by omega
  rw [e, or12 (by omega) (by omega)]
  have e : (c.toNat % 8 * 64 + b.toNat % 64) * 4096 + d.toNat % 64 * 64 = (c.toNat % 8 * 4096 + b.toNat % 64 * 64 + d.toNat % 64) * 64 := by omega
  rw [e, or6 (by omega) (by omega)]
end Go.Proofs.YtbbafeocmchlnaaDoor
