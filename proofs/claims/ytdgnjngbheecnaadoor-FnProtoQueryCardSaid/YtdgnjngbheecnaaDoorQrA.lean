/- The reference's reader: numbers, bytes, texts. -/
import Derived.Test.YtdgnjngbheecnaaDoorQwE
set_option linter.unusedVariables false
set_option linter.unusedSimpArgs false
set_option maxRecDepth 100000
set_option maxHeartbeats 4000000
namespace Go.Proofs.YtdgnjngbheecnaaDoor
open Go Go.Den Go.Proofs

/-- What is left to read, and whether something didn't fit. -/
def inD (s : List UInt8) (bad : Bool) : DV := .agg [.p (.string (txt s)), .p (.bool bad)]

theorem ok37 {G : Nat → DV} (h : List Blk) (ib : Nat) (a rest : List UInt8) (hl : a.length + rest.length ≤ 10000000) (hh : h[ib]? = some (.cells 2 [inD (a ++ rest) false])) : Ok Tryd.prog G 37 [.ptr ib 0 0 1, .p (.int .u64 a.length)] h (.p (.string (txt a))) (h.set ib (.cells 2 [inD rest false])) := by
  refine Ok_by Tryd.func37 c37_ok r37_ok 37 rfl ?_
  have hib : ib < h.length := (List.getElem?_eq_some_iff.1 hh).1
  have w1 : IntKind.u64.wrap ((a.length : Int) + (rest.length : Int)) = ((a.length + rest.length : Nat) : Int) := by
    have := wrap_u (k := .u64) rfl (a.length + rest.length) (by simp [IntKind.bits]; omega)
    simpa using this
  have d1 : decide ((a.length : Int) + (rest.length : Int) < (a.length : Int)) = false := by simp; omega
  have e1 : ∀ X, (h.set ib X)[ib]? = some X := fun X => List.getElem?_set_self hib
  simp [c37, r37, hh, inD, w1, d1, e1]
  refine ⟨by omega, ?_⟩
  rw [show ((a.length : Int) + (rest.length : Int)).toNat = (a ++ rest).length by simp; omega, List.take_length, List.drop_left]
  exact .refl
theorem ok36 {G : Nat → DV} (h : List Blk) (ib n : Nat) (rest : List UInt8) (hn : n < B64) (hl : rest.length ≤ 10000000) (hh : h[ib]? = some (.cells 2 [inD (uv n ++ rest) false])) : Ok Tryd.prog G 36 [.ptr ib 0 0 1] h (.p (.int .u64 n)) (h.set ib (.cells 2 [inD rest false])) := by
  refine Ok_by Tryd.func36 c36_ok r36_ok 62 rfl ?_
  have hul := uv_length n hn
  simp [c36, r36]
  refine VV_fam (fun x : Nat × Nat × Nat × List UInt8 => ⟨fr 63 [(0, .ptr ib 0 0 1), (3, .p (.int .u64 x.2.1)), (6, .p (.int .i64 x.1))], h⟩)
    (fun x => x.1 ≤ 9 ∧ uv n = x.2.2.2 ++ uv x.2.2.1 ∧ x.2.2.2.length = x.1 ∧ x.2.1 + x.2.2.1 * 2 ^ (7 * x.1) = n ∧ x.2.1 < 2 ^ (7 * x.1) ∧ x.2.2.1 < 2 ^ (64 - 7 * x.1)) (fun x => 10 - x.1) (0, 0, n, [])
    ⟨by simp, rfl, rfl, by simp, by simp, by simpa [B64] using hn⟩ (Wk.fits (by simp)) ?_
  rintro ⟨i, a, m, pre⟩ ⟨hi, hu, hp, hs, ha, hm⟩ B hb he hr
  simp only at hi hu hp hs ha hm
  obtain ⟨c, tl, hc⟩ : ∃ c tl, uv m = c :: tl := by
    by_cases h1 : m < 128
    · exact ⟨_, _, uv_lt h1⟩
    · exact ⟨_, _, uv_ge (by omega)⟩
  have hS : uv n ++ rest = pre ++ c :: (tl ++ rest) := by rw [hu, hc]; simp
  rw [hS] at hh
  have hi10 : (i : Int) < 10 := by omega
  have hw : IntKind.i64.wrap ((i : Int) + 1) = ((i + 1 : Nat) : Int) := wrap_succ (n := 10) (by omega) (by omega)
  have d1 : decide ((pre.length : Int) + ((tl.length : Int) + (rest.length : Int) + 1) ≤ (pre.length : Int)) = false := by simp; omega
  have hc256 : c.toNat < 256 := c.toNat_lt
  have d2 : (i = 9 ∧ decide ((1 : Int) < (c.toNat : Int)) = false) ∨ ((i : Int) == 9) = false := by
    by_cases h9 : i = 9
    · left
      refine ⟨h9, ?_⟩
      subst h9
      have hm2 : m < 2 := by simpa using hm
      rw [uv_lt (by omega)] at hc
      injection hc with hc1 hc2
      subst hc1
      simp
      omega
    · right; simp; omega
  subst hp
  have hlt : (pre.length : Int) < (pre.length : Int) + ((tl.length : Int) + (rest.length : Int) + 1) := by omega
  obtain ⟨lo, hlo⟩ : ∃ lo, lo = c.toNat % 128 := ⟨_, rfl⟩
  have hlom : lo ≤ m := by
    by_cases h1 : m < 128
    · rw [uv_lt h1] at hc
      injection hc with hc1 hc2
      subst hc1
      rw [hlo]; simp; omega
    · rw [uv_ge (by omega)] at hc
      injection hc with hc1 hc2
      subst hc1
      rw [hlo]; simp; omega
  have hval : lo * 2 ^ (7 * pre.length) < 2 ^ 64 := by
    have h1 : lo * 2 ^ (7 * pre.length) ≤ m * 2 ^ (7 * pre.length) := Nat.mul_le_mul_right _ hlom
    have : n < 2 ^ 64 := by simpa [B64] using hn
    omega
  have w0 : iand .u8 (c.toNat : Int) 127 = (lo : Int) := by
    have := iand_nat (k := .u8) rfl (a := c.toNat) (b := 127) (by simpa [IntKind.bits] using hc256) (by decide)
    have e : c.toNat &&& 127 = lo := by rw [hlo]; exact Nat.and_two_pow_sub_one_eq_mod c.toNat 7
    rw [e] at this
    exact this
  have w7 : IntKind.i64.wrap (7 * (pre.length : Int)) = ((7 * pre.length : Nat) : Int) := by
    simp [IntKind.wrap, IntKind.bits, IntKind.signed]; omega
  have w1 : IntKind.u64.wrap (lo : Int) = (lo : Int) := wrap_u rfl _ (by simp [IntKind.bits]; omega)
  obtain ⟨V, hV⟩ : ∃ V, V = lo * 2 ^ (7 * pre.length) := ⟨_, rfl⟩
  have w2 : ishl .u64 (lo : Int) (7 * (pre.length : Int)) = (V : Int) := by
    rw [hV, show 7 * (pre.length : Int) = ((7 * pre.length : Nat) : Int) by omega]
    exact ishl_nat (k := .u64) rfl (a := lo) (b := 7 * pre.length) (by simpa [IntKind.bits] using hval) (by simp [IntKind.bits]; omega)
  have hp63 : 2 ^ (7 * pre.length) ≤ 2 ^ 63 := Nat.pow_le_pow_right (by decide) (by omega)
  have w3 : ior .u64 (a : Int) (V : Int) = ((a + V : Nat) : Int) := by
    rw [ior_nat rfl (by simp [IntKind.bits]; omega) (by rw [hV]; simpa [IntKind.bits] using hval), hV, or_add ha]
  have hib : ib < h.length := (List.getElem?_eq_some_iff.1 hh).1
  have e1 : ∀ X, (h.set ib X)[ib]? = some X := fun X => List.getElem?_set_self hib
  have fin1 : c.toNat < 128 → tl = [] ∧ a + V = n := by
    intro h3
    by_cases h1 : m < 128
    · rw [uv_lt h1] at hc
      injection hc with hc1 hc2
      refine ⟨hc2.symm, ?_⟩
      have : lo = m := by rw [hlo, ← hc1]; simp; omega
      rw [hV, this, hs]
    · rw [uv_ge (by omega)] at hc
      injection hc with hc1 hc2
      rw [← hc1] at h3
      simp at h3
      omega
  have fin2 : ¬ c.toNat < 128 → tl = uv (m / 128) ∧ a + V + m / 128 * 2 ^ (7 * (pre.length + 1)) = n ∧ a + V < 2 ^ (7 * (pre.length + 1)) ∧ m / 128 < 2 ^ (64 - 7 * (pre.length + 1)) ∧ pre.length < 9 := by
    intro h3
    by_cases h1 : m < 128
    · rw [uv_lt h1] at hc
      injection hc with hc1 hc2
      rw [← hc1] at h3
      simp at h3
      omega
    · rw [uv_ge (by omega)] at hc
      injection hc with hc1 hc2
      have hl1 : lo = m % 128 := by rw [hlo, ← hc1]; simp
      have hp9 : pre.length < 9 := by
        rcases Nat.lt_or_ge pre.length 9 with h | h
        · exact h
        · have : pre.length = 9 := by omega
          rw [this] at hm
          have : m < 2 := by simpa using hm
          omega
      have hp2 : 2 ^ (64 - 7 * pre.length) = 2 ^ (64 - 7 * (pre.length + 1)) * 128 := by
        have : 64 - 7 * pre.length = (64 - 7 * (pre.length + 1)) + 7 := by omega
        rw [this, Nat.pow_add]
      have e : 2 ^ (7 * (pre.length + 1)) = 128 * 2 ^ (7 * pre.length) := by rw [show 7 * (pre.length + 1) = 7 * pre.length + 7 by omega, Nat.pow_add, Nat.mul_comm]
      refine ⟨hc2.symm, ?_, ?_, ?_, hp9⟩
      · rw [e, hV, hl1, ← hs, Nat.add_assoc, ← Nat.mul_assoc, ← Nat.add_mul]
        congr 2
        omega
      · rw [e, hV]
        have h2 : lo ≤ 127 := by omega
        have h3 : lo * 2 ^ (7 * pre.length) ≤ 127 * 2 ^ (7 * pre.length) := Nat.mul_le_mul_right _ h2
        omega
      · omega
  have last : tl = [] → ((pre.length : Int) + ((tl.length : Int) + (rest.length : Int) + 1)).toNat = (pre ++ c :: (tl ++ rest)).length := fun h => by subst h; simp; omega
  rcases d2 with ⟨h9, d2⟩ | d2
  all_goals
    first
      | have h9' : ((pre.length : Int) == 9) = true := by simp; omega
        simp [hh, inD, hi10, hw, d1, h9', d2, byteD, hlt, w0, w7, w1, w2, w3]
      | simp [hh, inD, hi10, hw, d1, d2, byteD, hlt, w0, w7, w1, w2, w3]
    refine ⟨by omega, ?_⟩
    refine CC_by (fun h3 => ?_) (fun h3 => ?_)
    · obtain ⟨ht, hn2⟩ := fin1 (by simp at h3; omega)
      subst ht
      have hd : List.drop (pre.length + 1) (List.take ((pre.length : Int) + ((rest.length : Int) + 1)).toNat (pre ++ c :: rest)) = rest := by
        rw [List.take_of_length_le (by simp; omega), show pre ++ c :: rest = (pre ++ [c]) ++ rest by simp]
        exact List.drop_left' (by simp)
      have hn3 : (a : Int) + (V : Int) = (n : Int) := by omega
      simp [hh, inD, hw, e1]
      refine ⟨by omega, hr _ ?_⟩
      simp only [hd, hn3]
      simp
      exact .refl
    · obtain ⟨f1, f2, f3, f4, f5⟩ := fin2 (by simp at h3; omega)
      simp [hw]
      refine hb _ (pre.length + 1, a + V, m / 128, pre ++ [c]) (Wk.fits (by simp)) ⟨by omega, by rw [hu, hc, f1]; simp, by simp, f2, f3, f4⟩ (by simp; omega)
theorem ok34 {G : Nat → DV} (h : List Blk) (ib : Nat) (s rest : List UInt8) (hl : s.length + rest.length ≤ 10000000) (hh : h[ib]? = some (.cells 2 [inD (lng s ++ rest) false])) : Ok Tryd.prog G 34 [.ptr ib 0 0 1] h (.p (.string (txt s))) (h.set ib (.cells 2 [inD rest false])) := by
  refine Ok_by Tryd.func34 c34_ok r34_ok 6 rfl ?_
  have hib : ib < h.length := (List.getElem?_eq_some_iff.1 hh).1
  simp [c34, r34]
  refine FF_by (ok36 h ib s.length (s ++ rest) (by simp [B64]; omega) (by simp; omega) (by rw [hh]; simp [lng])) ?_
  simp
  refine FF_by (ok37 _ ib s rest hl (List.getElem?_set_self hib)) ?_
  simp
  exact .refl
theorem ok35c {G : Nat → DV} (h : List Blk) (ib : Nat) (c : UInt8) (rest : List UInt8) (hl : rest.length ≤ 1000000) (hh : h[ib]? = some (.cells 2 [inD ([c] ++ rest) false])) : Ok Tryd.prog G 35 [.ptr ib 0 0 1, .p (.int .u64 1)] h (.p (.int .u64 c.toNat)) (h.set ib (.cells 2 [inD rest false])) := by
  refine Ok_by Tryd.func35 c35_ok r35_ok 24 rfl ?_
  have w0 : IntKind.i64.wrap 0 = 0 := by decide
  have w1 : IntKind.i64.wrap (-1) = -1 := by decide
  have s0 : ishl .u64 0 8 = 0 := by decide
  have wc : IntKind.u64.wrap (c.toNat : Int) = c.toNat := wrap_u rfl _ (by have := c.toNat_lt; simp [IntKind.bits]; omega)
  have oc : ior .u64 0 (c.toNat : Int) = (c.toNat : Int) := by
    have := ior_nat (k := .u64) rfl (a := 0) (b := c.toNat) (by decide) (by have := c.toNat_lt; simp [IntKind.bits]; omega)
    simpa using this
  simp [c35, r35]
  refine FF_by (ok37 h ib [c] rest (by simp; omega) hh) ?_
  simp [w0]
  refine VV_unroll 2 ?_
  simp [w0, w1, s0, wc, oc, byteD, KON_blk_ext]
  exact .refl
theorem ok35z {G : Nat → DV} (h : List Blk) (ib : Nat) (rest : List UInt8) (hl : rest.length ≤ 1000000) (hh : h[ib]? = some (.cells 2 [inD (z8 ++ rest) false])) : Ok Tryd.prog G 35 [.ptr ib 0 0 1, .p (.int .u64 8)] h (.p (.int .u64 0)) (h.set ib (.cells 2 [inD rest false])) := by
  refine Ok_by Tryd.func35 c35_ok r35_ok 24 rfl ?_
  have w7 : IntKind.i64.wrap 7 = 7 := by decide
  have w6 : IntKind.i64.wrap 6 = 6 := by decide
  have w5 : IntKind.i64.wrap 5 = 5 := by decide
  have w4 : IntKind.i64.wrap 4 = 4 := by decide
  have w3 : IntKind.i64.wrap 3 = 3 := by decide
  have w2 : IntKind.i64.wrap 2 = 2 := by decide
  have w1' : IntKind.i64.wrap 1 = 1 := by decide
  have w0 : IntKind.i64.wrap 0 = 0 := by decide
  have w1 : IntKind.i64.wrap (-1) = -1 := by decide
  have s0 : ishl .u64 0 8 = 0 := by decide
  have wc : IntKind.u64.wrap 0 = 0 := by decide
  have oc : ior .u64 0 0 = 0 := by decide
  simp [c35, r35]
  refine FF_by (ok37 h ib z8 rest (by simp [z8]; omega) hh) ?_
  simp [w7, z8]
  refine VV_unroll 9 ?_
  simp [w7, w6, w5, w4, w3, w2, w1', w0, w1, s0, wc, oc, byteD, KON_blk_ext]
  exact .refl
end Go.Proofs.YtdgnjngbheecnaaDoor
