/- Durations as texts: digits written from the end of a row of 32 bytes. -/
import Derived.Test.YtbbafeocmchlnaaCodD
set_option linter.unusedVariables false
set_option linter.unusedSimpArgs false
set_option maxRecDepth 100000
namespace Go.Proofs.Ytbbafeocmchlnaa
open Go Go.Den Go.Proofs

/-- So many bytes that aren't written yet, the text behind them. -/
def bufL (k : Nat) (out : List UInt8) : List DV := bts (List.replicate k 0 ++ out)
theorem bufL_length (k : Nat) (out : List UInt8) : (bufL k out).length = k + out.length := by simp [bufL]
theorem bufPut (j : Nat) (x : UInt8) (out : List UInt8) : List.take j (bufL (j + 1) out) ++ DV.p (.int .u8 x.toNat) :: List.drop (j + 1) (bufL (j + 1) out) = bufL j (x :: out) := by
  have e1 : (List.replicate (j + 1) (0 : UInt8) ++ out).take j = List.replicate j 0 := by
    rw [List.take_append_of_le_length (by simp), List.take_replicate]; congr 1; omega
  have e2 : (List.replicate (j + 1) (0 : UInt8) ++ out).drop (j + 1) = out := by
    rw [List.drop_append_of_le_length (by simp)]; simp
  unfold bufL bts
  rw [← List.map_take, ← List.map_drop, e1, e2]
  simp [byteD]
def bufB (k : Nat) (out : List UInt8) : Blk := .cells 32 [.agg (bufL k out)]

theorem dgN (n : Nat) : (dg n).toNat = 48 + n % 10 := by
  have key : ∀ d : Fin 10, (UInt8.ofNat (48 + d.val)).toNat = 48 + d.val := by decide
  exact key ⟨n % 10, Nat.mod_lt _ (by decide)⟩
theorem dgW (n : Nat) : IntKind.u8.wrap (IntKind.u8.wrap ((n : Int) % 10) + 48) = ((dg n).toNat : Int) := by
  rw [dgN]
  simp [IntKind.wrap, IntKind.bits, IntKind.signed]
  omega

theorem ok177 {G : Nat → DV} (h : List Blk) (b k v : Nat) (out : List UInt8) (hk : k + out.length = 32) (hv : v < 18446744073709551616) (hd : (dig v).length ≤ k) (hb : h[b]? = some (bufB k out)) :
    Ok Try.prog G 177 [.sa false 1 b 0 0 k 32 1, .p (.int .u64 v)] h (.p (.int .i64 (k - (dig v).length : Nat))) (h.set b (bufB (k - (dig v).length) (dig v ++ out))) := by
  refine Ok_by Try.func177 c177_ok r177_ok 27 rfl ?_
  have hblt : b < h.length := (List.getElem?_eq_some_iff.1 hb).1
  have hd0 : dig 0 = [48] := by rw [dig_lt (by decide)]; decide
  by_cases h0 : v = 0
  · subst h0
    rw [hd0] at hd ⊢
    simp at hd
    obtain ⟨j, rfl⟩ : ∃ j, k = j + 1 := ⟨k - 1, by omega⟩
    have hw : IntKind.i64.wrap (j : Int) = j := by simp [IntKind.wrap, IntKind.bits, IntKind.signed]; omega
    have hl := bufL_length (j + 1) out
    have hp := bufPut j 48 out
    simp at hp
    simp [c177, r177, bufB] at hb ⊢
    simp [hw, hb, hp]
    refine ⟨by omega, .refl⟩
  · have hv0 : ((v : Int) == 0) = false := by simp; omega
    simp [c177, r177, hv0]
    refine VV_fam (fun x : Nat × List UInt8 × Nat => ⟨fr 29 [(0, .sa false 1 b 0 0 k 32 1), (1, .p (.int .u64 x.1)), (5, .p (.int .i64 x.2.2))], h.set b (bufB x.2.2 (x.2.1 ++ out))⟩)
      (fun x => x.2.2 + x.2.1.length = k ∧ x.1 < 18446744073709551616 ∧ dig v = (if x.1 = 0 then [] else dig x.1) ++ x.2.1) (fun x => x.1) (v, [], k)
      ⟨by simp, hv, by simp [h0]⟩ ?_ ?_
    · have : h.set b (bufB k ([] ++ out)) = h := set_same (by simpa using hb)
      simp only [this]
      exact Wk.fits (by simp)
    · rintro ⟨n, ds, w⟩ ⟨hw, hn, hdv⟩ B hb' he hr
      simp only at hw hn hdv
      simp
      refine CC_by (fun h1 => ?_) (fun h1 => ?_)
      · have h1 : 0 < n := by simpa using h1
        rw [if_neg (by omega), dig_next n] at hdv
        have hl2 := congrArg List.length hdv
        simp at hl2
        obtain ⟨j, rfl⟩ : ∃ j, w = j + 1 := ⟨w - 1, by omega⟩
        have hwj : IntKind.i64.wrap (j : Int) = j := by simp [IntKind.wrap, IntKind.bits, IntKind.signed]; omega
        have e1 : (n : Int).tmod 10 = (n : Int) % 10 := Int.tmod_eq_emod_of_nonneg (by omega)
        have e3 : (n : Int).tdiv 10 = (n : Int) / 10 := Int.tdiv_eq_ediv_of_nonneg (by omega)
        have hwd : IntKind.u64.wrap ((n : Int) / 10) = (n : Int) / 10 := by simp [IntKind.wrap, IntKind.bits, IntKind.signed]; omega
        have hp := bufPut j (dg n) (ds ++ out)
        simp [hwj, e1, e3, hwd, dgW, bufB, hblt, hp]
        refine ⟨by omega, by omega, ?_⟩
        refine hb' _ (n / 10, dg n :: ds, j) ?_ ⟨by simp; omega, by omega, ?_⟩ (by simp; omega)
        · refine Wk.fitsE ?_ ?_
          · simp [bufB]
          · simp
        · rw [hdv]; simp
      · have h1 : n = 0 := by simp at h1; omega
        subst h1
        simp at hdv
        simp
        refine he _ _ ?_
        simp
        have : k - (dig v).length = w := by rw [hdv]; omega
        rw [this, hdv]
        exact .refl

/-- A fraction's digits, from the last one on, none of the zeros at the end. -/
def frS : Nat → Nat → Bool → List UInt8 → Bool × List UInt8
  | 0, _, pr, acc => (pr, acc)
  | p + 1, v, pr, acc => frS p (v / 10) (pr || decide (v % 10 ≠ 0)) (if (pr || decide (v % 10 ≠ 0)) = true then dg v :: acc else acc)
theorem frS_len : ∀ (p v : Nat) (pr : Bool) (acc : List UInt8), acc.length ≤ (frS p v pr acc).2.length ∧ (frS p v pr acc).2.length ≤ acc.length + p
  | 0, v, pr, acc => by simp [frS]
  | p + 1, v, pr, acc => by
    have := frS_len p (v / 10) (pr || decide (v % 10 ≠ 0)) (if (pr || decide (v % 10 ≠ 0)) = true then dg v :: acc else acc)
    simp only [frS]
    split at this <;> simp_all <;> omega
def fracT (p v : Nat) : List UInt8 := if (frS p v false []).1 = true then 46 :: (frS p v false []).2 else (frS p v false []).2
theorem fracT_len (p v : Nat) : (fracT p v).length ≤ p + 1 := by
  have := (frS_len p v false []).2
  unfold fracT
  split <;> simp at this ⊢ <;> omega

theorem ok176 {G : Nat → DV} (h : List Blk) (b k v p : Nat) (out : List UInt8) (Q : Nat) (hQ : Q = v / 10 ^ p) (hk : k + out.length = 32) (hv : v < 18446744073709551616) (hd : p + 1 ≤ k) (hb : h[b]? = some (bufB k out)) :
    Ok Try.prog G 176 [.sa false 1 b 0 0 k 32 1, .p (.int .u64 v), .p (.int .i64 p)] h (.tup [.p (.int .i64 (k - (fracT p v).length : Nat)), .p (.int .u64 Q)]) (h.set b (bufB (k - (fracT p v).length) (fracT p v ++ out))) := by
  refine Ok_by Try.func176 c176_ok r176_ok 42 rfl ?_
  have hblt : b < h.length := (List.getElem?_eq_some_iff.1 hb).1
  simp [c176, r176]
  refine VV_fam (fun x : Nat × Nat × Bool × List UInt8 × Nat => ⟨fr 45 [(0, .sa false 1 b 0 0 k 32 1), (1, .p (.int .u64 x.2.1)), (2, .p (.int .i64 p)), (8, .p (.int .i64 x.2.2.2.2)), (9, .p (.bool x.2.2.1)), (10, .p (.int .i64 x.1))], h.set b (bufB x.2.2.2.2 (x.2.2.2.1 ++ out))⟩)
    (fun x => x.1 ≤ p ∧ x.2.1 < 18446744073709551616 ∧ x.2.2.2.2 + x.2.2.2.1.length = k ∧ x.2.2.2.1.length ≤ x.1 ∧ frS p v false [] = frS (p - x.1) x.2.1 x.2.2.1 x.2.2.2.1 ∧ Q = x.2.1 / 10 ^ (p - x.1)) (fun x => p - x.1) (0, v, false, [], k)
    ⟨by simp, hv, by simp, by simp, by simp, by simpa using hQ⟩ ?_ ?_
  · have : h.set b (bufB k ([] ++ out)) = h := set_same (by simpa using hb)
    simp only [this]
    exact Wk.fits (by simp)
  · rintro ⟨i, n, pr, acc, w⟩ ⟨hi, hn, hw, hac, hS, hq⟩ B hb' he hr
    simp only at hi hn hw hac hS hq
    simp
    refine CC_by (fun h1 => ?_) (fun h1 => ?_)
    · have h1 : i < p := by simpa using h1
      obtain ⟨q, hq1⟩ : ∃ q, p - i = q + 1 := ⟨p - i - 1, by omega⟩
      rw [hq1] at hS hq
      have hpi : p - (i + 1) = q := by omega
      have e1 : (n : Int).tmod 10 = (n : Int) % 10 := Int.tmod_eq_emod_of_nonneg (by omega)
      have e3 : (n : Int).tdiv 10 = (n : Int) / 10 := Int.tdiv_eq_ediv_of_nonneg (by omega)
      have hwd : IntKind.u64.wrap ((n : Int) / 10) = (n : Int) / 10 := by simp [IntKind.wrap, IntKind.bits, IntKind.signed]; omega
      have hwi : IntKind.i64.wrap ((i : Int) + 1) = ((i + 1 : Nat) : Int) := wrap_succ (n := p) h1 (by omega)
      have hq2 : Q = n / 10 / 10 ^ q := by rw [hq, Nat.div_div_eq_div_mul, Nat.pow_succ, Nat.mul_comm]
      obtain ⟨j, rfl⟩ : ∃ j, w = j + 1 := ⟨w - 1, by omega⟩
      have hwj : IntKind.i64.wrap (j : Int) = j := by simp [IntKind.wrap, IntKind.bits, IntKind.signed]; omega
      have hp := bufPut j (dg n) (acc ++ out)
      have hne : ((n : Int) % 10 != 0) = decide (n % 10 ≠ 0) := by
        by_cases hz : n % 10 = 0
        · have : (n : Int) % 10 = 0 := by omega
          simp [this, hz]
        · have : (n : Int) % 10 ≠ 0 := by omega
          simp [this, hz]
      simp only [frS] at hS
      have step1 : ∀ (pr' : Bool), (pr || decide (n % 10 ≠ 0)) = pr' → pr' = true → frS p v false [] = frS q (n / 10) true (dg n :: acc) := by
        intro pr' h1 h2
        subst h2
        rw [hS, h1]; simp
      have step2 : (pr || decide (n % 10 ≠ 0)) = false → frS p v false [] = frS q (n / 10) false acc := by
        intro h1
        rw [hS, h1]; simp
      have go1 : (pr || decide (n % 10 ≠ 0)) = true → ∀ t, fits t (fr 45 [(0, .sa false 1 b 0 0 k 32 1), (1, .p (.int .u64 (n / 10 : Nat))), (2, .p (.int .i64 p)), (8, .p (.int .i64 j)), (9, .p (.bool true)), (10, .p (.int .i64 (i + 1 : Nat)))]) true → B .nrm ⟨t, h.set b (bufB j (dg n :: (acc ++ out)))⟩ := by
        intro hpr t hf
        refine hb' _ (i + 1, n / 10, true, dg n :: acc, j) (Wk.fits hf) ⟨by omega, by (show n / 10 < _; omega), by simp; omega, by simp; omega, ?_, ?_⟩ (by simp; omega)
        · rw [hpi]; exact step1 true hpr rfl
        · rw [hpi]; exact hq2
      have go2 : (pr || decide (n % 10 ≠ 0)) = false → ∀ t, fits t (fr 45 [(0, .sa false 1 b 0 0 k 32 1), (1, .p (.int .u64 (n / 10 : Nat))), (2, .p (.int .i64 p)), (8, .p (.int .i64 (j + 1 : Nat))), (9, .p (.bool false)), (10, .p (.int .i64 (i + 1 : Nat)))]) true → B .nrm ⟨t, h.set b (bufB (j + 1) (acc ++ out))⟩ := by
        intro hpr t hf
        refine hb' _ (i + 1, n / 10, false, acc, j + 1) (Wk.fits hf) ⟨by omega, by (show n / 10 < _; omega), by simp; omega, by simp; omega, ?_, ?_⟩ (by simp; omega)
        · rw [hpi]; exact step2 hpr
        · rw [hpi]; exact hq2
      cases pr with
      | true =>
        simp [e1, e3, hwd, hwi, hwj, dgW, bufB, hblt, hp]
        refine ⟨by omega, by omega, ?_⟩
        refine go1 (by simp) _ ?_
        simp
      | false =>
        cases hz : decide (n % 10 ≠ 0)
        · have hz2 : ((n : Int) % 10 != 0) = false := by rw [hne]; exact hz
          simp [e1, e3, hwd, hwi, hz2]
          refine go2 (by simp; simpa using hz) _ ?_
          simp
        · have hz2 : ((n : Int) % 10 != 0) = true := by rw [hne]; exact hz
          simp [e1, e3, hwd, hwi, hz2, hwj, dgW, bufB, hblt, hp]
          refine ⟨by omega, by omega, ?_⟩
          refine go1 (by simp; simpa using hz) _ ?_
          simp
    · have h1 : i = p := by simp at h1; omega
      subst h1
      simp [frS] at hS hq
      simp
      refine he _ _ ?_
      simp
      cases pr with
      | true =>
        obtain ⟨j, rfl⟩ : ∃ j, w = j + 1 := ⟨w - 1, by omega⟩
        have hwj : IntKind.i64.wrap (j : Int) = j := by simp [IntKind.wrap, IntKind.bits, IntKind.signed]; omega
        have hp := bufPut j 46 (acc ++ out)
        simp at hp
        have hf : fracT i v = 46 :: acc := by simp [fracT, hS]
        simp [hwj, bufB, hblt, hp, hf, hq]
        refine ⟨by omega, by omega, ?_⟩
        have : k - (acc.length + 1) = j := by omega
        rw [this]
        exact .refl
      | false =>
        have hf : fracT i v = acc := by simp [fracT, hS]
        simp [hf, hq]
        have : k - acc.length = w := by omega
        rw [this]
        exact .refl
end Go.Proofs.Ytbbafeocmchlnaa
