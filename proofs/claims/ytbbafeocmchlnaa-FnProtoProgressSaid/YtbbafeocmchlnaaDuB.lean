/- Durations as texts. -/
import Derived.Test.YtbbafeocmchlnaaDuA
import Derived.Test.YtbbafeocmchlnaaPvB
set_option linter.unusedVariables false
set_option linter.unusedSimpArgs false
set_option maxRecDepth 100000
namespace Go.Proofs.Ytbbafeocmchlnaa
open Go Go.Den Go.Proofs

theorem bufPutI (j c : Nat) (hc : c < 256) (out : List UInt8) : List.take j (bufL (j + 1) out) ++ DV.p (.int .u8 (c : Int)) :: List.drop (j + 1) (bufL (j + 1) out) = bufL j (UInt8.ofNat c :: out) := by
  have := bufPut j (UInt8.ofNat c) out
  rw [UInt8.toNat_ofNat_of_lt' hc] at this
  exact this
theorem dig_len : ∀ (k n : Nat), n < 10 ^ (k + 1) → (dig n).length ≤ k + 1 := by
  intro k
  induction k with
  | zero => intro n hn; rw [dig_lt (by simpa using hn)]; simp
  | succ k ih =>
    intro n hn
    by_cases h10 : n < 10
    · rw [dig_lt h10]; simp
    · rw [dig_ge (by omega)]
      have := ih (n / 10) (by rw [Nat.pow_succ] at hn; omega)
      simp; omega

/-- A duration's text, of so many nanoseconds. -/
def durT (n : Nat) : List UInt8 :=
  if n < 1000000000 then
    if n = 0 then [48, 115] else if n < 1000 then dig n ++ [110, 115] else if n < 1000000 then dig (n / 10 ^ 3) ++ (fracT 3 n ++ [194, 181, 115]) else dig (n / 10 ^ 6) ++ (fracT 6 n ++ [109, 115])
  else
    let s := n / 10 ^ 9
    let a := dig (s % 60) ++ (fracT 9 n ++ [115])
    if s / 60 = 0 then a else
      let b := dig (s / 60 % 60) ++ 109 :: a
      if s / 60 / 60 = 0 then b else dig (s / 60 / 60) ++ 104 :: b

theorem fracT0 (n : Nat) : fracT 0 n = [] := by simp [fracT, frS]
theorem mu_put : List.take 29 (bufL 31 [115]) ++ DV.p (.int .u8 194) :: DV.p (.int .u8 181) :: List.drop 31 (bufL 31 [115]) = bufL 29 [194, 181, 115] := by rfl

theorem ok151 {G : Nat → DV} (h : List Blk) (b n : Nat) (hn : n < 9223372036854775808) (hb : h[b]? = some (bufB 32 [])) :
    Ok Try.prog G 151 [.p (.int .i64 n), .ptr b 0 0 1] h (.p (.int .i64 (32 - (durT n).length : Nat))) (h.set b (bufB (32 - (durT n).length) (durT n))) ∧ (durT n).length ≤ 32 := by
  have hblt : b < h.length := (List.getElem?_eq_some_iff.1 hb).1
  have hset : ∀ X, (h.set b X)[b]? = some X := fun X => by rw [List.getElem?_set_self hblt]
  have hss : ∀ X Y, (h.set b X).set b Y = h.set b Y := fun X Y => by simp
  have hwu : IntKind.u64.wrap (n : Int) = n := by simp [IntKind.wrap, IntKind.bits, IntKind.signed]; omega
  have w31 : IntKind.i64.wrap 31 = 31 := by decide
  have w30 : IntKind.i64.wrap 30 = 30 := by decide
  have w29 : IntKind.i64.wrap 29 = 29 := by decide
  have hneg : decide ((n : Int) < 0) = false := by simp
  have hb0 : h[b]? = some (.cells 32 [.agg (bufL 32 [])]) := hb
  have l32 : (bufL 32 []).length = 32 := by simp [bufL_length]
  have l31 : (bufL 31 [115]).length = 32 := by simp [bufL_length]
  have p31 := bufPutI 31 115 (by decide) []
  by_cases h9 : n < 1000000000
  · have h9' : decide ((n : Int) < 1000000000) = true := by simp; omega
    by_cases h0 : n = 0
    · subst h0
      have p30 := bufPutI 30 48 (by decide) [115]
      simp at p31 p30
      refine ⟨?_, by simp [durT]⟩
      refine Ok_by Try.func151 c151_ok r151_ok 132 rfl ?_
      have wu0 : IntKind.u64.wrap 0 = 0 := by decide
      simp [c151, r151, wu0, w31, w30, hb0, hset, hss, p31, p30, durT]
      exact .refl
    · have h0' : ((n : Int) == 0) = false := by simp; omega
      by_cases h3 : n < 1000
      · have h3' : decide ((n : Int) < 1000) = true := by simp; omega
        have p30 := bufPutI 30 110 (by decide) [115]
        simp at p31 p30
        have hd := dig_len 2 n (by omega)
        have hT : durT n = dig n ++ [110, 115] := by simp [durT, h9, h0, h3]
        refine ⟨?_, by rw [hT]; simp; omega⟩
        refine Ok_by Try.func151 c151_ok r151_ok 132 rfl ?_
        simp [c151, r151, hwu, hneg, h9', h0', h3', w31, w30, hb0, hset, hss, p31, p30]
        refine FF_by (ok176 _ b 30 n 0 [110, 115] n (by simp) (by simp) (by omega) (by omega) (hset _)) ?_
        simp [fracT0, hset, hss, bufB]
        refine FF_by (ok177 _ b 30 n [110, 115] (by simp) (by omega) (by omega) (hset _)) ?_
        have e : 32 - (durT n).length = 30 - (dig n).length := by rw [hT]; simp
        simp [hss, bufB]
        rw [e, hT]
        exact .refl
      · have h3' : decide ((n : Int) < 1000) = false := by simp; omega
        by_cases h6 : n < 1000000
        · have h6' : decide ((n : Int) < 1000000) = true := by simp; omega
          obtain ⟨Q, hQ⟩ : ∃ Q, Q = n / 10 ^ 3 := ⟨_, rfl⟩
          have hd := dig_len 2 Q (by omega)
          have hf := fracT_len 3 n
          have hT : durT n = dig Q ++ (fracT 3 n ++ [194, 181, 115]) := by rw [hQ]; simp [durT, h9, h0, h3, h6]
          refine ⟨?_, by rw [hT]; simp at hd ⊢; omega⟩
          refine Ok_by Try.func151 c151_ok r151_ok 132 rfl ?_
          simp at p31
          have mu := mu_put
          simp [c151, r151, hwu, hneg, h9', h0', h3', h6', w31, w30, w29, hb0, hset, hss, p31, l31, elemsOf, bytesD, bts, byteD, mu, DV.one]
          refine FF_by (ok176 _ b 29 n 3 [194, 181, 115] Q hQ (by simp) (by omega) (by omega) (hset _)) ?_
          simp [hset, hss, bufB]
          refine ⟨by omega, ?_⟩
          refine FF_by (ok177 _ b (29 - (fracT 3 n).length) Q (fracT 3 n ++ [194, 181, 115]) (by simp; omega) (by omega) (by omega) (hset _)) ?_
          have e : 32 - (durT n).length = 29 - (fracT 3 n).length - (dig Q).length := by rw [hT]; simp; omega
          simp [hss, bufB]
          rw [e, hT]
          exact .refl
        · have h6' : decide ((n : Int) < 1000000) = false := by simp; omega
          have p30 := bufPutI 30 109 (by decide) [115]
          simp at p31 p30
          obtain ⟨Q, hQ⟩ : ∃ Q, Q = n / 10 ^ 6 := ⟨_, rfl⟩
          have hd := dig_len 2 Q (by omega)
          have hf := fracT_len 6 n
          have hT : durT n = dig Q ++ (fracT 6 n ++ [109, 115]) := by rw [hQ]; simp [durT, h9, h0, h3, h6]
          refine ⟨?_, by rw [hT]; simp at hd ⊢; omega⟩
          refine Ok_by Try.func151 c151_ok r151_ok 132 rfl ?_
          simp [c151, r151, hwu, hneg, h9', h0', h3', h6', w31, w30, hb0, hset, hss, p31, p30]
          refine FF_by (ok176 _ b 30 n 6 [109, 115] Q hQ (by simp) (by omega) (by omega) (hset _)) ?_
          simp [hset, hss, bufB]
          refine ⟨by omega, ?_⟩
          refine FF_by (ok177 _ b (30 - (fracT 6 n).length) Q (fracT 6 n ++ [109, 115]) (by simp; omega) (by omega) (by omega) (hset _)) ?_
          have e : 32 - (durT n).length = 30 - (fracT 6 n).length - (dig Q).length := by rw [hT]; simp; omega
          simp [hss, bufB]
          rw [e, hT]
          exact .refl
  · have h9' : decide ((n : Int) < 1000000000) = false := by simp; omega
    obtain ⟨S, hS⟩ : ∃ S, S = n / 10 ^ 9 := ⟨_, rfl⟩
    obtain ⟨f, hf⟩ : ∃ f, f = fracT 9 n := ⟨_, rfl⟩
    have hfl : f.length ≤ 10 := by rw [hf]; exact fracT_len 9 n
    obtain ⟨M, hM⟩ : ∃ M, M = S % 60 := ⟨_, rfl⟩
    obtain ⟨S1, hS1⟩ : ∃ S1, S1 = S / 60 := ⟨_, rfl⟩
    obtain ⟨M1, hM1⟩ : ∃ M1, M1 = S1 % 60 := ⟨_, rfl⟩
    obtain ⟨S2, hS2⟩ : ∃ S2, S2 = S1 / 60 := ⟨_, rfl⟩
    have hdM := dig_len 1 M (by omega)
    have hdM1 := dig_len 1 M1 (by omega)
    have hdS2 := dig_len 6 S2 (by omega)
    have e1 : (S : Int).tmod 60 = (M : Int) := by rw [Int.tmod_eq_emod_of_nonneg (by omega)]; omega
    have e2 : (S : Int).tdiv 60 = (S1 : Int) := by rw [Int.tdiv_eq_ediv_of_nonneg (by omega)]; omega
    have e3 : (S1 : Int).tmod 60 = (M1 : Int) := by rw [Int.tmod_eq_emod_of_nonneg (by omega)]; omega
    have e4 : (S1 : Int).tdiv 60 = (S2 : Int) := by rw [Int.tdiv_eq_ediv_of_nonneg (by omega)]; omega
    have wS1 : IntKind.u64.wrap (S1 : Int) = S1 := by simp [IntKind.wrap, IntKind.bits, IntKind.signed]; omega
    have wS2 : IntKind.u64.wrap (S2 : Int) = S2 := by simp [IntKind.wrap, IntKind.bits, IntKind.signed]; omega
    simp at p31
    have wu0 : IntKind.u64.wrap 0 = 0 := by decide
    have hT : durT n = if S1 = 0 then dig M ++ (f ++ [115]) else if S2 = 0 then dig M1 ++ 109 :: (dig M ++ (f ++ [115])) else dig S2 ++ 104 :: (dig M1 ++ 109 :: (dig M ++ (f ++ [115]))) := by
      unfold durT
      rw [if_neg h9]
      simp only [← hS, ← hS1, ← hM, ← hM1, ← hS2, ← hf]
    by_cases g1 : S1 = 0
    · rw [if_pos g1] at hT
      refine ⟨?_, by rw [hT]; simp at hdM ⊢; omega⟩
      refine Ok_by Try.func151 c151_ok r151_ok 132 rfl ?_
      simp [c151, r151, hwu, hneg, h9', w31, hb0, hset, hss, p31]
      refine FF_by (ok176 _ b 31 n 9 [115] S hS (by simp) (by omega) (by omega) (hset _)) ?_
      rw [← hf]
      simp [hset, hss, bufB, e1]
      refine ⟨by omega, ?_⟩
      refine FF_by (ok177 _ b (31 - f.length) M (f ++ [115]) (by simp; omega) (by omega) (by omega) (hset _)) ?_
      have e : 32 - (durT n).length = 31 - f.length - (dig M).length := by rw [hT]; simp; omega
      simp [hss, bufB, e2, wS1, g1, wu0]
      rw [e, hT]
      exact .refl
    · rw [if_neg g1] at hT
      obtain ⟨j, hj⟩ : ∃ j, 31 - f.length - (dig M).length = j + 1 := ⟨31 - f.length - (dig M).length - 1, by omega⟩
      have pj := bufPutI j 109 (by decide) (dig M ++ (f ++ [115]))
      have wj : IntKind.i64.wrap (j : Int) = j := by simp [IntKind.wrap, IntKind.bits, IntKind.signed]; omega
      simp at pj
      have hg1 : 0 < S1 := by omega
      by_cases g2 : S2 = 0
      · rw [if_pos g2] at hT
        refine ⟨?_, by rw [hT]; simp at hdM hdM1 ⊢; omega⟩
        refine Ok_by Try.func151 c151_ok r151_ok 132 rfl ?_
        simp [c151, r151, hwu, hneg, h9', w31, hb0, hset, hss, p31]
        refine FF_by (ok176 _ b 31 n 9 [115] S hS (by simp) (by omega) (by omega) (hset _)) ?_
        rw [← hf]
        simp [hset, hss, bufB, e1]
        refine ⟨by omega, ?_⟩
        refine FF_by (ok177 _ b (31 - f.length) M (f ++ [115]) (by simp; omega) (by omega) (by omega) (hset _)) ?_
        rw [hj]
        simp [hss, hset, bufB, e2, wS1, hg1, wj, pj, e3]
        refine ⟨by omega, by omega, by omega, ?_⟩
        refine FF_by (ok177 _ b j M1 (109 :: (dig M ++ (f ++ [115]))) (by simp; omega) (by omega) (by omega) (hset _)) ?_
        have e : 32 - (durT n).length = j - (dig M1).length := by rw [hT]; simp; omega
        simp [hss, bufB, e4, wS2, g2, wu0]
        rw [e, hT]
        exact .refl
      · rw [if_neg g2] at hT
        have hg2 : 0 < S2 := by omega
        obtain ⟨j2, hj2⟩ : ∃ j2, j - (dig M1).length = j2 + 1 := ⟨j - (dig M1).length - 1, by omega⟩
        have pj2 := bufPutI j2 104 (by decide) (dig M1 ++ 109 :: (dig M ++ (f ++ [115])))
        have wj2 : IntKind.i64.wrap (j2 : Int) = j2 := by simp [IntKind.wrap, IntKind.bits, IntKind.signed]; omega
        simp at pj2
        refine ⟨?_, by rw [hT]; simp at hdM hdM1 hdS2 ⊢; omega⟩
        refine Ok_by Try.func151 c151_ok r151_ok 132 rfl ?_
        simp [c151, r151, hwu, hneg, h9', w31, hb0, hset, hss, p31]
        refine FF_by (ok176 _ b 31 n 9 [115] S hS (by simp) (by omega) (by omega) (hset _)) ?_
        rw [← hf]
        simp [hset, hss, bufB, e1]
        refine ⟨by omega, ?_⟩
        refine FF_by (ok177 _ b (31 - f.length) M (f ++ [115]) (by simp; omega) (by omega) (by omega) (hset _)) ?_
        rw [hj]
        simp [hss, hset, bufB, e2, wS1, hg1, wj, pj, e3]
        refine ⟨by omega, by omega, by omega, ?_⟩
        refine FF_by (ok177 _ b j M1 (109 :: (dig M ++ (f ++ [115]))) (by simp; omega) (by omega) (by omega) (hset _)) ?_
        rw [hj2]
        simp [hss, hset, bufB, e4, wS2, hg2, wj2, pj2]
        refine ⟨by omega, by omega, by omega, ?_⟩
        refine FF_by (ok177 _ b j2 S2 (104 :: (dig M1 ++ 109 :: (dig M ++ (f ++ [115])))) (by simp; omega) (by omega) (by omega) (hset _)) ?_
        have e : 32 - (durT n).length = j2 - (dig S2).length := by rw [hT]; simp; omega
        simp [hss, bufB]
        rw [e, hT]
        exact .refl

theorem ok118 {G : Nat → DV} (h : List Blk) (n : Nat) (hn : n < 9223372036854775808) : Ok Try.prog G 118 [.p (.int .i64 n)] h (.p (.string (txt (durT n)))) h := by
  refine Ok_by Try.func118 c118_ok r118_ok 9 rfl ?_
  have hk := (ok151 (G := G) (h ++ [bufB 32 []]) h.length n hn (by simp))
  obtain ⟨hk, hl⟩ := hk
  have e0 : bufB 32 [] = .cells 32 [.agg (List.replicate 32 (.p (.int .u8 0)))] := rfl
  rw [e0] at hk
  simp [c118, r118]
  refine FF_by hk ?_
  have hl2 : (bufL (32 - (durT n).length) (durT n)).length = 32 := by rw [bufL_length]; omega
  simp [bufB]
  have hm : 32 - (32 - (durT n).length) = (durT n).length := by omega
  have hg : ∀ a, a < (durT n).length → (bufL (32 - (durT n).length) (durT n))[32 - (durT n).length + a]? = (bts (durT n))[a]? := by
    intro a ha
    simp only [bufL, bts, List.map_append]
    rw [List.getElem?_append_right (by simp)]
    simp
  have hmap : (List.range (durT n).length).map (fun j => (bufL (32 - (durT n).length) (durT n))[32 - (durT n).length + j]?.getD .any) = bts (durT n) := by
    apply List.ext_getElem
    · simp
    · intro i h1 h2
      simp at h1
      simp [hg i h1, h1, bts]
  rw [hm, hmap]
  refine ⟨by omega, fun a ha => ?_, ?_⟩
  · rw [hg a ha]
    have ha2 : a < (bts (durT n)).length := by simpa using ha
    rw [List.getElem?_eq_getElem ha2, bts_getElem]
    simp [isByte]
    have := (durT n)[a].toNat_lt
    omega
  · have : strOf (bts (durT n)) = txt (durT n) := by rw [strOf_bts]; rfl
    rw [this]
    exact WkV.ofPure (by simp) rfl
end Go.Proofs.Ytbbafeocmchlnaa
