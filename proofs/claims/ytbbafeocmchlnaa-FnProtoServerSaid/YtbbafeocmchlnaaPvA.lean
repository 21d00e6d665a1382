/- Versions: numbers as texts. -/
import Derived.Test.YtbbafeocmchlnaaCodV
set_option linter.unusedVariables false
set_option linter.unusedSimpArgs false
set_option maxRecDepth 100000
namespace Go.Proofs.Ytbbafeocmchlnaa
open Go Go.Den Go.Proofs

def dg (n : Nat) : UInt8 := UInt8.ofNat (48 + n % 10)
/-- A number's digits. -/
def dig (n : Nat) : List UInt8 := if h : n < 10 then [dg n] else dig (n / 10) ++ [dg n]
termination_by n
decreasing_by omega
theorem dig_lt {n : Nat} (h : n < 10) : dig n = [dg n] := by rw [dig]; simp [h]
theorem dig_ge {n : Nat} (h : 10 ≤ n) : dig n = dig (n / 10) ++ [dg n] := by rw [dig]; simp [Nat.not_lt.2 h]
theorem dig_next (n : Nat) : dig n = (if n / 10 = 0 then [] else dig (n / 10)) ++ [dg n] := by
  by_cases h : n < 10
  · rw [dig_lt h, if_pos (by omega)]; rfl
  · rw [dig_ge (by omega), if_neg (by omega)]

theorem digitAt (n : Nat) : ([48, 49, 50, 51, 52, 53, 54, 55, 56, 57, 97, 98, 99, 100, 101, 102, 103, 104, 105, 106, 107, 108, 109, 110, 111, 112, 113, 114, 115, 116, 117, 118, 119, 120, 121, 122] : List UInt8)[n % 10]?.getD 0 = dg n := by
  have key : ∀ d : Fin 10, ([48, 49, 50, 51, 52, 53, 54, 55, 56, 57, 97, 98, 99, 100, 101, 102, 103, 104, 105, 106, 107, 108, 109, 110, 111, 112, 113, 114, 115, 116, 117, 118, 119, 120, 121, 122] : List UInt8)[d.val]?.getD 0 = UInt8.ofNat (48 + d.val) := by decide
  exact key ⟨n % 10, Nat.mod_lt _ (by decide)⟩

theorem ok107 {G : Nat → DV} (h : List Blk) (n0 : Nat) (hn : n0 < 18446744073709551616) : Ok Try.prog G 107 [.p (.int .u64 n0), .p (.int .i64 10)] h (.p (.string (txt (dig n0)))) h := by
  refine Ok_by Try.func107 c107_ok r107_ok 34 rfl ?_
  have w10 : IntKind.u64.wrap 10 = 10 := by decide
  have h20 : n0 < 10 ^ 20 := by
    have : (18446744073709551616 : Nat) < 10 ^ 20 := by decide
    omega
  simp [c107, r107]
  refine VV_fam (fun x : Nat × List UInt8 × Nat => ⟨fr 36 [(0, .p (.int .u64 x.1)), (1, .p (.int .i64 10)), (5, .ptr h.length 0 0 1), (6, .p (.int .i64 x.2.2))], h ++ [.cells 64 [.agg (List.replicate x.2.2 (.p (.int .u8 0)) ++ bts x.2.1)]]⟩)
    (fun x => x.2.2 + x.2.1.length = 64 ∧ x.2.1.length ≤ 20 ∧ ((x.2.1 = [] ∧ x.1 = n0) ∨ (x.2.1 ≠ [] ∧ dig n0 = (if x.1 = 0 then [] else dig x.1) ++ x.2.1)) ∧ x.1 < 10 ^ (20 - x.2.1.length)) (fun x => 20 - x.2.1.length) (n0, [], 64)
    ⟨rfl, by simp, .inl ⟨rfl, rfl⟩, h20⟩ (Wk.fits (by simp)) ?_
  rintro ⟨n, ds, k⟩ ⟨hk, hl, hd, hlt⟩ B hb he hr
  simp only at hk hl hd hlt
  obtain ⟨j, rfl⟩ : ∃ j, k = j + 1 := ⟨k - 1, by omega⟩
  have hnn : n < 18446744073709551616 := by
    rcases hd with ⟨_, rfl⟩ | ⟨hne, _⟩
    · exact hn
    · have h1 : 1 ≤ ds.length := List.length_pos_iff.2 hne
      have h2 : 10 ^ (20 - ds.length) ≤ 10 ^ 19 := Nat.pow_le_pow_right (by decide) (by omega)
      have h3 : (10 : Nat) ^ 19 = 10000000000000000000 := by decide
      omega
  have hwj : IntKind.i64.wrap (j : Int) = j := by simp [IntKind.wrap, IntKind.bits, IntKind.signed]; omega
  have hwd : IntKind.u64.wrap ((n : Int) / 10) = (n : Int) / 10 := by simp [IntKind.wrap, IntKind.bits, IntKind.signed]; omega
  have hj64 : j < 64 := by omega
  have hjj : ((j : Int) < 64) := by omega
  have e1 : (n : Int).tmod 10 = (n : Int) % 10 := Int.tmod_eq_emod_of_nonneg (by omega)
  have e2 : ((n : Int) % 10).toNat = n % 10 := by omega
  have e3 : (n : Int).tdiv 10 = (n : Int) / 10 := Int.tdiv_eq_ediv_of_nonneg (by omega)
  have e6 : 0 ≤ (n : Int) % 10 := by omega
  have e7 : (n : Int) % 10 < 36 := by omega
  have e4 : List.take j (List.replicate (j + 1) (DV.p (Value.int .u8 0)) ++ bts ds) = List.replicate j (DV.p (Value.int .u8 0)) := by
    rw [List.take_append_of_le_length (by simp), List.take_replicate]
    congr 1; omega
  have e4' : List.take j (DV.p (Value.int .u8 0) :: (List.replicate j (DV.p (Value.int .u8 0)) ++ bts ds)) = List.replicate j (DV.p (Value.int .u8 0)) := by
    rw [← List.cons_append, ← List.replicate_succ]; exact e4
  have e8 : ∀ x : UInt8, DV.p (Value.int .u8 x.toNat) :: bts ds = bts (x :: ds) := fun x => rfl
  have e5 : List.drop (j + 1) (List.replicate (j + 1) (DV.p (Value.int .u8 0)) ++ bts ds) = bts ds := by
    rw [List.drop_append_of_le_length (by simp), List.drop_replicate]; simp
  have hd2 : ds.length < 20 → dig n0 = (if n / 10 = 0 then [] else dig (n / 10)) ++ dg n :: ds ∨ n = 0 ∧ ds ≠ [] := by
    intro _
    rcases hd with ⟨rfl, rfl⟩ | ⟨hne, hd⟩
    · left; rw [dig_next]
    · by_cases h0 : n = 0
      · exact .inr ⟨h0, hne⟩
      · left
        rw [if_neg h0, dig_next n] at hd
        rw [hd]; simp
  have hlt2 : ds.length < 20 → n / 10 < 10 ^ (20 - (ds.length + 1)) := by
    intro hl
    have : 10 ^ (20 - ds.length) = 10 ^ (20 - (ds.length + 1)) * 10 := by rw [← Nat.pow_succ]; congr 1; omega
    omega
  simp
  have key : (ds = [] ∨ 0 < n) → ds.length < 20 := by
    rintro (rfl | h0)
    · simp
    · rcases Nat.lt_or_ge ds.length 20 with h1 | h1
      · exact h1
      · rw [show 20 - ds.length = 0 by omega] at hlt
        omega
  cases hq : ((j : Int) + 1 == 64)
  · have hne : ds ≠ [] := fun h => by subst h; simp at hk hq; omega
    simp
    refine CC_by (fun h1 => ?_) (fun h1 => ?_)
    · have h0 : 0 < n := by simpa using h1
      have hls := key (.inr h0)
      simp [hwj, hwd, e1, e2, e3, e4', e5, e6, e7, hj64, hjj, digitAt, byteD, w10, e8]
      refine ⟨by omega, hb _ (n / 10, dg n :: ds, j) (Wk.fits (by simp)) ⟨by simp; omega, by simp; omega, .inr ⟨by simp, ?_⟩, ?_⟩ (by simp; omega)⟩
      · exact (hd2 hls).resolve_right (by omega)
      · simpa using hlt2 hls
    · have h0 : n = 0 := by simp at h1; omega
      subst h0
      have hfin : dig n0 = ds := by
        rcases hd with ⟨h, _⟩ | ⟨_, h⟩
        · exact absurd h hne
        · simpa using h
      simp
      refine he _ _ ?_
      have hjl : ((j : Int) + 1 ≤ 64) := by omega
      have eA : ∀ a, (DV.p (Value.int .u8 0) :: (List.replicate j (DV.p (Value.int .u8 0)) ++ bts ds))[j + 1 + a]? = (bts ds)[a]? := by
        intro a
        rw [← List.cons_append, ← List.replicate_succ, List.getElem?_append_right (by simp)]
        simp
      have eM : List.map (fun x => (bts ds)[x]?.getD .any) (List.range (63 - j)) = bts ds := by
        apply List.ext_getElem
        · simp; omega
        · intro i h1 h2
          simp at h1 h2
          simp [h2]
      simp [hjl, eA, eM]
      rw [hfin]
      exact WkV.ofPure (by simp) rfl
  · have hnil : ds = [] := by simp at hq; exact List.eq_nil_of_length_eq_zero (by omega)
    have hls := key (.inl hnil)
    simp [hwj, hwd, e1, e2, e3, e4', e5, e6, e7, hj64, hjj, digitAt, byteD, w10, e8]
    refine ⟨by omega, hb _ (n / 10, dg n :: ds, j) (Wk.fits (by simp)) ⟨by simp; omega, by simp; omega, .inr ⟨by simp, ?_⟩, ?_⟩ (by simp; omega)⟩
    · exact (hd2 hls).resolve_right (fun h => h.2 hnil)
    · simpa using hlt2 hls


theorem utf8_digit (n : Nat) : Utf8.encode (48 + (n : Int) % 10) = txt [dg n] := by
  have key : ∀ d : Fin 10, Utf8.encode (48 + (d.val : Int)) = txt [UInt8.ofNat (48 + d.val)] := by decide +kernel
  have := key ⟨n % 10, Nat.mod_lt _ (by decide)⟩
  have e : ((n : Int) % 10) = ((n % 10 : Nat) : Int) := by omega
  rw [e]
  exact this

theorem ok33 {G : Nat → DV} (h : List Blk) (n0 : Nat) (hn : n0 < 18446744073709551616) : Ok Try.prog G 33 [.p (.int .u64 n0)] h (.p (.string (txt (dig n0)))) h := by
  refine Ok_by Try.func33 c33_ok r33_ok 22 rfl ?_
  have E : ∀ n : Nat, n < 18446744073709551616 → (n : Int).tmod 10 = (n : Int) % 10 ∧ (n : Int).tdiv 10 = (n : Int) / 10 ∧ IntKind.u64.wrap ((n : Int) / 10) = (n : Int) / 10 ∧ IntKind.u64.wrap (48 + (n : Int) % 10) = 48 + (n : Int) % 10 ∧ IntKind.i32.wrap (48 + (n : Int) % 10) = 48 + (n : Int) % 10 := by
    intro n hn
    refine ⟨Int.tmod_eq_emod_of_nonneg (by omega), Int.tdiv_eq_ediv_of_nonneg (by omega), ?_, ?_, ?_⟩ <;> (simp [IntKind.wrap, IntKind.bits, IntKind.signed]; omega)
  obtain ⟨e1, e2, e3, e4, e5⟩ := E n0 hn
  have h0a : n0 / 10 < 18446744073709551616 := by omega
  have h0b : n0 / 10 < 10 ^ (20 - 1) := by
    have : (10 : Nat) ^ (20 - 1) = 10000000000000000000 := by decide
    omega
  simp [c33, r33, e1, e2, e3, e4, e5, utf8_digit]
  refine VV_fam (fun x : Nat × List UInt8 => ⟨fr 23 [(0, .p (.int .u64 x.1)), (3, .p (.string (txt x.2)))], h⟩)
    (fun x => x.1 < 18446744073709551616 ∧ dig n0 = (if x.1 = 0 then [] else dig x.1) ++ x.2 ∧ x.2.length ≤ 20 ∧ x.1 < 10 ^ (20 - x.2.length)) (fun x => x.1) (n0 / 10, [dg n0])
    ⟨h0a, dig_next n0, by simp, h0b⟩ (Wk.fits (by simp)) ?_
  rintro ⟨n, ds⟩ ⟨hn', hd, hlen, hlt⟩ B hb he hr
  simp only at hn' hd hlen hlt
  obtain ⟨e1, e2, e3, e4, e5⟩ := E n hn'
  simp
  refine CC_by (fun h1 => ?_) (fun h1 => ?_)
  · have h0 : 0 < n := by simpa using h1
    have hls : ds.length < 20 := by
      rcases Nat.lt_or_ge ds.length 20 with h1 | h1
      · exact h1
      · rw [show 20 - ds.length = 0 by omega] at hlt
        omega
    have hlt2 : n / 10 < 10 ^ (20 - (ds.length + 1)) := by
      have : 10 ^ (20 - ds.length) = 10 ^ (20 - (ds.length + 1)) * 10 := by rw [← Nat.pow_succ]; congr 1; omega
      omega
    simp [e1, e2, e3, e4, e5, utf8_digit]
    refine ⟨by omega, hb _ (n / 10, dg n :: ds) (Wk.fits (by simp)) ⟨by simp; omega, ?_, by simp; omega, by simpa using hlt2⟩ (by simp; omega)⟩
    rw [if_neg (by omega), dig_next n] at hd
    rw [hd]
    simp
  · have h0 : n = 0 := by simp at h1; omega
    subst h0
    simp at hd
    simp
    refine he _ _ ?_
    simp [hd]

end Go.Proofs.Ytbbafeocmchlnaa
