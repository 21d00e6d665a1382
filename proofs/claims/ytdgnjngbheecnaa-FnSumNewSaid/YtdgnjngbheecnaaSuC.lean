/- Checksums: base64 by the reference. -/
import Derived.Test.YtdgnjngbheecnaaSuB
import Derived.Test.YtdgnjngbheecnaaLibE
set_option linter.unusedVariables false
set_option linter.unusedSimpArgs false
set_option maxRecDepth 100000
namespace Go.Proofs.Ytdgnjngbheecnaa
open Go Go.Den Go.Proofs

theorem wrap_s {k : IntKind} (n : Nat) (hn : n < 2 ^ (k.bits - 1)) : k.wrap (n : Int) = n := by
  unfold IntKind.wrap
  cases k <;> simp [IntKind.signed, IntKind.bits] at hn ⊢ <;> omega
theorem ior_s {k : IntKind} {a b : Nat} (ha : a < 2 ^ (k.bits - 1)) (hb : b < 2 ^ (k.bits - 1)) : ior k a b = ((a ||| b : Nat) : Int) := by
  have hk : 2 ^ (k.bits - 1) < 2 ^ k.bits := Nat.pow_lt_pow_right (by decide) (by cases k <;> decide)
  unfold ior
  rw [ofInt_nat, ofInt_nat, BitVec.toNat_or, BitVec.toNat_ofNat, BitVec.toNat_ofNat, Nat.mod_eq_of_lt (Nat.lt_trans ha hk), Nat.mod_eq_of_lt (Nat.lt_trans hb hk)]
  exact wrap_s _ (Nat.or_lt_two_pow ha hb)
theorem iand_s {k : IntKind} {a b : Nat} (ha : a < 2 ^ (k.bits - 1)) (hb : b < 2 ^ (k.bits - 1)) : iand k a b = ((a &&& b : Nat) : Int) := by
  have hk : 2 ^ (k.bits - 1) < 2 ^ k.bits := Nat.pow_lt_pow_right (by decide) (by cases k <;> decide)
  unfold iand
  rw [ofInt_nat, ofInt_nat, BitVec.toNat_and, BitVec.toNat_ofNat, BitVec.toNat_ofNat, Nat.mod_eq_of_lt (Nat.lt_trans ha hk), Nat.mod_eq_of_lt (Nat.lt_trans hb hk)]
  exact wrap_s _ (Nat.and_lt_two_pow _ hb)
theorem ishl_s {k : IntKind} {a b : Nat} (h : a * 2 ^ b < 2 ^ (k.bits - 1)) (hb : b ≤ k.bits) : ishl k a b = ((a * 2 ^ b : Nat) : Int) := by
  unfold ishl
  have : min (b : Int).toNat k.bits = b := by simp; omega
  rw [this]
  have e : ((a : Int) * 2 ^ b) = ((a * 2 ^ b : Nat) : Int) := by simp
  rw [e]
  exact wrap_s _ h

/-- So many bytes from i on, as a number; what is not there is 0. -/
def nv (s : List UInt8) (i : Nat) : Nat → Nat
  | 0 => 0
  | k + 1 => nv s i k * 256 + (s.getD (i + k) 0).toNat
theorem nv_lt (s : List UInt8) (i : Nat) : ∀ k, nv s i k < 256 ^ k
  | 0 => by simp [nv]
  | k + 1 => by
    have h1 := nv_lt s i k
    have h2 := (s.getD (i + k) 0).toNat_lt
    rw [nv, Nat.pow_succ]
    omega
theorem nv3_lt (s : List UInt8) (i : Nat) : nv s i 3 < 16777216 := nv_lt s i 3
/-- A sign of a group of four. -/
def sgk (n left k : Nat) : UInt8 := if k ≤ left then alph.getD (n / 2 ^ (18 - 6 * k) % 64) 0 else 61
def quad (s : List UInt8) (j : Nat) : List UInt8 := (List.range 4).map (sgk (nv s (3 * j) 3) (s.length - 3 * j))
def b64n (s : List UInt8) (m : Nat) : List UInt8 := (List.range m).flatMap (quad s)
def b64 (s : List UInt8) : List UInt8 := b64n s ((s.length + 2) / 3)
theorem quad_length (s : List UInt8) (j : Nat) : (quad s j).length = 4 := by simp [quad]
theorem b64n_succ (s : List UInt8) (m : Nat) : b64n s (m + 1) = b64n s m ++ quad s m := by simp [b64n, List.range_succ]
theorem b64n_length (s : List UInt8) : ∀ m, (b64n s m).length = 4 * m
  | 0 => rfl
  | m + 1 => by rw [b64n_succ, List.length_append, b64n_length s m, quad_length]; omega
theorem quad_take (s : List UInt8) (j k : Nat) (hk : k < 4) : (quad s j).take (k + 1) = (quad s j).take k ++ [sgk (nv s (3 * j) 3) (s.length - 3 * j) k] := by
  rw [List.take_add_one, List.getElem?_eq_getElem (by rw [quad_length]; exact hk)]
  simp [quad]

theorem ok18 {G : Nat → DV} (h : List Blk) (s : List UInt8) (hs : s.length ≤ 1000) : Ok Try.prog G 18 [.fz 1 (bts s)] h (.p (.string (txt (b64 s)))) h := by
  refine Ok_by Try.func18 c18_ok r18_ok 58 rfl ?_
  simp [c18, r18]
  refine VV_fam (fun x : Nat × DV × List Blk => ⟨fr 59 [(0, .fz 1 (bts s)), (3, x.2.1), (4, .p (.int .i64 ((3 * x.1 : Nat) : Int)))], x.2.2⟩)
    (fun x => 3 * x.1 ≤ s.length + 2 ∧ Own h 1 x.2.2 x.2.1 (bts (b64n s x.1))) (fun x => s.length + 3 - 3 * x.1) (0, .p (.slice none 0 0), h) ⟨by simp, Own.nil⟩ (Wk.fits (by simp)) ?_
  rintro ⟨j, d, h1⟩ ⟨hj, ho⟩ B hb he hr
  simp only at hj ho
  simp
  refine CC_by (fun hc => ?_) (fun hc => ?_)
  · have hc : 3 * j < s.length := by simp at hc; omega
    have hleft : IntKind.i64.wrap ((s.length : Int) - 3 * (j : Int)) = ((s.length - 3 * j : Nat) : Int) := by simp [IntKind.wrap, IntKind.bits, IntKind.signed]; omega
    have hw3 : IntKind.i64.wrap (3 * (j : Int) + 3) = 3 * ((j : Int) + 1) := by simp [IntKind.wrap, IntKind.bits, IntKind.signed]; omega
    simp [hleft]
    refine VV_fam (fun k : Nat => ⟨fr 59 [(0, .fz 1 (bts s)), (3, d), (4, .p (.int .i64 ((3 * j : Nat) : Int))), (5, .p (.int .i64 (nv s (3 * j) k))), (6, .p (.int .i64 (s.length - 3 * j : Nat))), (7, .p (.int .i64 k))], h1⟩)
      (fun k => k ≤ 3) (fun k => 3 - k) 0 (by simp) (Wk.fits (by simp [nv])) ?_
    · intro k hk B2 hb2 he2 hr2
      simp
      refine CC_by (fun hc2 => ?_) (fun hc2 => ?_)
      · have hc2 : k < 3 := by simp at hc2; omega
        have hN := nv_lt s (3 * j) k
        have hp : 256 ^ k ≤ 65536 := Nat.le_trans (Nat.pow_le_pow_right (n := 256) (by decide) (show k ≤ 2 by omega)) (by decide)
        have hsh : ishl .i64 (nv s (3 * j) k : Int) 8 = ((nv s (3 * j) k * 256 : Nat) : Int) := ishl_s (k := .i64) (b := 8) (by simp [IntKind.bits]; omega) (by decide)
        have hwk : IntKind.i64.wrap ((k : Int) + 1) = ((k + 1 : Nat) : Int) := wrap_succ (n := 3) hc2 (by omega)
        by_cases hin : k < s.length - 3 * j
        · have hin2 : 3 * j + k < s.length := by omega
          have hix : IntKind.i64.wrap (3 * (j : Int) + (k : Int)) = ((3 * j + k : Nat) : Int) := by simp [IntKind.wrap, IntKind.bits, IntKind.signed]; omega
          have hgd : s.getD (3 * j + k) 0 = s[3 * j + k] := by simp [List.getD, hin2]
          have hbt := s[3 * j + k].toNat_lt
          have hwb : IntKind.i64.wrap (s[3 * j + k].toNat : Int) = (s[3 * j + k].toNat : Int) := wrap_s _ (by simp [IntKind.bits]; omega)
          have hor : ior .i64 ((nv s (3 * j) k * 256 : Nat) : Int) (s[3 * j + k].toNat : Int) = ((nv s (3 * j) (k + 1) : Nat) : Int) := by
            rw [ior_s (by simp [IntKind.bits]; omega) (by simp [IntKind.bits]; omega), Nat.or_comm, show nv s (3 * j) k * 256 = nv s (3 * j) k * 2 ^ 8 from rfl, or_add (by omega), nv, hgd, Nat.add_comm]
          simp at hsh hor
          have hti : (3 * (j : Int) + (k : Int)).toNat = 3 * j + k := by omega
          have e0 : (0 : Int) ≤ 3 * (j : Int) + (k : Int) := by omega
          have e1 : 3 * (j : Int) + (k : Int) < (s.length : Int) := by omega
          simp [hsh, hin, hix, hwk, hti, e0, e1, bts_get hin2, hwb, hor]
          refine hb2 _ (k + 1) (Wk.fits (by simp)) (by omega) (by omega)
        · have hin2 : ¬ 3 * j + k < s.length := by omega
          have hgd : s.getD (3 * j + k) 0 = 0 := by simp [List.getD, hin2]
          have hnv : nv s (3 * j) (k + 1) = nv s (3 * j) k * 256 := by rw [nv, hgd]; rfl
          simp at hsh
          simp [hsh, hin, hwk]
          refine hb2 _ (k + 1) (Wk.fits (by simp [hnv])) (by omega) (by omega)
      · have hc2 : k = 3 := by simp at hc2; omega
        subst hc2
        simp
        refine he2 _ _ ?_
        simp
        refine VV_fam (fun x : Nat × DV × List Blk => ⟨fr 59 [(0, .fz 1 (bts s)), (3, x.2.1), (4, .p (.int .i64 ((3 * j : Nat) : Int))), (5, .p (.int .i64 (nv s (3 * j) 3))), (6, .p (.int .i64 (s.length - 3 * j : Nat))), (8, .p (.int .i64 x.1))], x.2.2⟩)
          (fun x => x.1 ≤ 4 ∧ Own h 1 x.2.2 x.2.1 (bts (b64n s j ++ (quad s j).take x.1))) (fun x => 4 - x.1) (0, d, h1) ⟨by simp, by simpa using ho⟩ (Wk.fits (by simp)) ?_
        rintro ⟨k, d2, h2⟩ ⟨hk, ho2⟩ B3 hb3 he3 hr3
        simp only at hk ho2
        simp
        refine CC_by (fun hc3 => ?_) (fun hc3 => ?_)
        · have hc3 : k < 4 := by simp at hc3; omega
          have hwk : IntKind.i64.wrap ((k : Int) + 1) = ((k + 1 : Nat) : Int) := wrap_succ (n := 4) hc3 (by omega)
          have hqt := quad_take s j k hc3
          have hVl := nv3_lt s (3 * j)
          have hql : (List.take k (quad s j)).length = k := by rw [List.length_take, quad_length]; omega
          have hbl : (bts (b64n s j ++ List.take k (quad s j))).length = 4 * j + k := by rw [bts_length, List.length_append, b64n_length, hql]
          generalize hV : nv s (3 * j) 3 = V at *
          simp
          refine CC_by (fun hc4 => ?_) (fun hc4 => ?_)
          · have hc4 : k ≤ s.length - 3 * j := by simpa using hc4
            have w1 : IntKind.i64.wrap (6 * (k : Int)) = 6 * (k : Int) := by simp [IntKind.wrap, IntKind.bits, IntKind.signed]; omega
            have w2 : IntKind.i64.wrap (18 - 6 * (k : Int)) = ((18 - 6 * k : Nat) : Int) := by simp [IntKind.wrap, IntKind.bits, IntKind.signed]; omega
            have w3 : ishr .i64 (V : Int) ((18 - 6 * k : Nat) : Int) = ((V / 2 ^ (18 - 6 * k) : Nat) : Int) := ishr_nat (by simp [IntKind.bits]; omega)
            have hd : V / 2 ^ (18 - 6 * k) < 16777216 := Nat.lt_of_le_of_lt (Nat.div_le_self _ _) hVl
            have w4 : iand .i64 ((V / 2 ^ (18 - 6 * k) : Nat) : Int) 63 = ((V / 2 ^ (18 - 6 * k) % 64 : Nat) : Int) := by
              have := iand_s (k := .i64) (a := V / 2 ^ (18 - 6 * k)) (b := 63) (by simp [IntKind.bits]; omega) (by simp [IntKind.bits])
              rw [show ((63 : Nat) : Int) = 63 from rfl] at this
              rw [this, show (63 : Nat) = 2 ^ 6 - 1 from rfl, Nat.and_two_pow_sub_one_eq_mod]
            have hk2 : sgk V (s.length - 3 * j) k = alph.getD (V / 2 ^ (18 - 6 * k) % 64) 0 := by rw [sgk, if_pos hc4]
            have hm : V / 2 ^ (18 - 6 * k) % 64 < 64 := Nat.mod_lt _ (by decide)
            generalize V / 2 ^ (18 - 6 * k) % 64 = r at *
            generalize V / 2 ^ (18 - 6 * k) = M at *
            have hal := alph_length
            have hlit : (⟨#[65, 66, 67, 68, 69, 70, 71, 72, 73, 74, 75, 76, 77, 78, 79, 80, 81, 82, 83, 84, 85, 86, 87, 88, 89, 90, 97, 98, 99, 100, 101, 102, 103, 104, 105, 106, 107, 108, 109, 110, 111, 112, 113, 114, 115, 116, 117, 118, 119, 120, 121, 122, 48, 49, 50, 51, 52, 53, 54, 55, 56, 57, 43, 47]⟩ : ByteArray) = txt alph := rfl
            generalize alph = al at *
            simp only [hlit]
            have hr2 : r < al.length := by omega
            have hgd : al.getD r 0 = al[r] := by simp [List.getD, hr2]
            rw [hgd] at hk2
            simp [w1, w2, w3, w4, hr2, byteD]
            refine AA_lit1 ho2 (by rw [hbl]; omega) fun d' h' ho' _ _ => ?_
            simp [hwk]
            refine hb3 _ (k + 1, d', h') (Wk.fits (by simp)) ⟨by simp; omega, ?_⟩ (by simp; omega)
            simp only
            rw [hqt, hk2, ← List.append_assoc, ← bts_push]
            exact ho'
          · have hc4 : ¬ k ≤ s.length - 3 * j := by simpa using hc4
            have hk2 : sgk V (s.length - 3 * j) k = 61 := by rw [sgk, if_neg hc4]
            simp
            refine AA_lit1 ho2 (by rw [hbl]; omega) fun d' h' ho' _ _ => ?_
            simp [hwk]
            refine hb3 _ (k + 1, d', h') (Wk.fits (by simp)) ⟨by simp; omega, ?_⟩ (by simp; omega)
            simp only
            rw [hqt, hk2, ← List.append_assoc, ← bts_push]
            exact ho'
        · have hc3 : k = 4 := by simp at hc3; omega
          subst hc3
          have ho3 : Own h 1 h2 d2 (bts (b64n s (j + 1))) := by
            rw [b64n_succ]
            have : (quad s j).take 4 = quad s j := List.take_of_length_le (by rw [quad_length]; omega)
            rw [this] at ho2
            exact ho2
          simp
          refine he3 _ _ ?_
          simp [hw3]
          refine hb _ (j + 1, d2, h2) (Wk.fits (by simp)) ⟨by simp; omega, ho3⟩ (by simp; omega)
  · have hc : s.length ≤ 3 * j := by simp at hc; omega
    simp
    refine he _ _ ?_
    have hjj : j = (s.length + 2) / 3 := by omega
    rw [hjj] at ho
    simp [ho.bytes]
    exact WkV.ofPure ho.pre rfl
end Go.Proofs.Ytdgnjngbheecnaa
