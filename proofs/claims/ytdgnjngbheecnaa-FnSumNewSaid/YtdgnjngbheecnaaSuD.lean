/- Checksums: base64, there and back, as lists. -/
import Derived.Test.YtdgnjngbheecnaaSuC
set_option linter.unusedVariables false
set_option linter.unusedSimpArgs false
set_option maxRecDepth 100000
namespace Go.Proofs.Ytdgnjngbheecnaa
open Go Go.Den Go.Proofs

/-- The first p of these; zeros for the rest. -/
def upto (T : List UInt8) (p : Nat) : List UInt8 := T.take p ++ List.replicate (T.length - p) 0
theorem upto_length (T : List UInt8) (p : Nat) : (upto T p).length = T.length := by simp [upto]; omega
theorem upto_zero (T : List UInt8) : upto T 0 = List.replicate T.length 0 := by simp [upto]
theorem upto_all (T : List UInt8) : upto T T.length = T := by simp [upto]
theorem upto_get (T : List UInt8) (p q : Nat) (hq : q < T.length) : (upto T p)[q]? = some (if q < p then T[q] else 0) := by
  unfold upto
  by_cases h : q < p
  · rw [List.getElem?_append_left (by simp; omega)]
    simp [h, hq]
  · rw [List.getElem?_append_right (by simp; omega)]
    rw [if_neg h, List.getElem?_replicate, if_pos (by simp; omega)]
theorem upto_set (T : List UInt8) (p : Nat) (c : UInt8) (h : T[p]? = some c) : (upto T p).set p c = upto T (p + 1) := by
  have hp : p < T.length := (List.getElem?_eq_some_iff.1 h).1
  apply List.ext_getElem?
  intro q
  by_cases hq : q < T.length
  · rw [upto_get T (p + 1) q hq, List.getElem?_set]
    by_cases e : p = q
    · subst e
      rw [if_pos rfl, if_pos (by rw [upto_length]; exact hp), if_pos (by omega), ← (List.getElem?_eq_some_iff.1 h).2]
    · rw [if_neg e, upto_get T p q hq]
      by_cases h1 : q < p
      · rw [if_pos h1, if_pos (by omega)]
      · rw [if_neg h1, if_neg (by omega)]
  · rw [List.getElem?_eq_none (by rw [List.length_set, upto_length]; omega), List.getElem?_eq_none (by rw [upto_length]; omega)]
theorem upto_set0 (T : List UInt8) (p q : Nat) (h : p ≤ q) : (upto T p).set q 0 = upto T p := by
  apply List.ext_getElem?
  intro r
  rw [List.getElem?_set]
  by_cases e : q = r
  · subst e
    rw [if_pos rfl]
    by_cases hq : q < T.length
    · rw [if_pos (by rw [upto_length]; exact hq), upto_get T p q hq, if_neg (by omega)]
    · rw [if_neg (by rw [upto_length]; exact hq), List.getElem?_eq_none (by rw [upto_length]; omega)]
  · rw [if_neg e]

theorem b64n_get (s : List UInt8) : ∀ (m j k : Nat), j < m → k < 4 → (b64n s m)[4 * j + k]? = some (sgk (nv s (3 * j) 3) (s.length - 3 * j) k)
  | 0, j, k, h, _ => by omega
  | m + 1, j, k, h, hk => by
    have hl := b64n_length s m
    rw [b64n_succ]
    by_cases hj : j < m
    · rw [List.getElem?_append_left (by omega)]
      exact b64n_get s m j k hj hk
    · obtain rfl : j = m := by omega
      rw [List.getElem?_append_right (by omega), hl, show 4 * j + k - 4 * j = k by omega]
      simp [quad, List.getElem?_range, hk]
theorem b64_length (s : List UInt8) : (b64 s).length = 4 * ((s.length + 2) / 3) := b64n_length s _
theorem b64_get (s : List UInt8) (j k : Nat) (hj : 3 * j < s.length) (hk : k < 4) : (b64 s)[4 * j + k]? = some (sgk (nv s (3 * j) 3) (s.length - 3 * j) k) := b64n_get s _ j k (by omega) hk

/-- What is decoded: zeros at the end, up to a whole group. -/
def pad3 (s : List UInt8) : List UInt8 := s ++ List.replicate (3 * ((s.length + 2) / 3) - s.length) 0
theorem pad3_length (s : List UInt8) : (pad3 s).length = 3 * ((s.length + 2) / 3) := by simp [pad3]; omega
theorem pad3_get (s : List UInt8) (q : Nat) (hq : q < 3 * ((s.length + 2) / 3)) : (pad3 s)[q]? = some (s.getD q 0) := by
  unfold pad3
  by_cases h : q < s.length
  · rw [List.getElem?_append_left h]
    simp [h, List.getD]
  · rw [List.getElem?_append_right (by omega)]
    rw [List.getElem?_replicate, if_pos (by omega)]
    simp [List.getD, h]
theorem pad3_take (s : List UInt8) : (pad3 s).take s.length = s := by simp [pad3]
theorem dm_back : ∀ i : Fin 64, (dm 64)[(alph.getD i.val 0).toNat]? = some (UInt8.ofNat i.val) ∧ alph.getD i.val 0 ≠ 61 := by decide +kernel
theorem dm_pad : (dm 64)[61]? = some 255 := by decide +kernel
theorem nv3 (s : List UInt8) (i : Nat) : nv s i 3 = (s.getD i 0).toNat * 65536 + (s.getD (i + 1) 0).toNat * 256 + (s.getD (i + 2) 0).toNat := by
  simp only [nv, Nat.add_zero]
  omega
theorem six (v : Nat) (h : v < 16777216) : ((v / 2 ^ 18 % 64 * 64 + v / 2 ^ 12 % 64) * 64 + v / 2 ^ 6 % 64) * 64 + v / 2 ^ 0 % 64 = v := by omega
/-- A sign of six bits more. -/
theorem orstep {K : IntKind} (hK : K.signed = false) (A n s : Nat) (hn : n < 64) (hs : s + 6 ≤ K.bits) (hA : A * 2 ^ (s + 6) < 2 ^ K.bits) : ior K ((A * 2 ^ (s + 6) : Nat) : Int) ((n * 2 ^ s : Nat) : Int) = (((A * 64 + n) * 2 ^ s : Nat) : Int) := by
  have h2 : n * 2 ^ s < 2 ^ (s + 6) := by
    rw [Nat.pow_add]
    have := Nat.mul_lt_mul_of_pos_right hn (Nat.two_pow_pos s)
    omega
  have h1 : 2 ^ (s + 6) ≤ 2 ^ K.bits := Nat.pow_le_pow_right (by omega) hs
  rw [ior_nat hK hA (Nat.lt_of_lt_of_le h2 h1), Nat.or_comm, or_add h2]
  have e : 2 ^ (s + 6) = 64 * 2 ^ s := by rw [Nat.pow_add]; omega
  rw [e, Nat.add_mul, Nat.mul_assoc, Nat.add_comm]
end Go.Proofs.Ytdgnjngbheecnaa
