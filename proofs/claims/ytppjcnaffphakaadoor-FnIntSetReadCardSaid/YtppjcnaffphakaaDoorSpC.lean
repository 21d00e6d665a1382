/- The reference's writer of MessagePack: a number, a list's head. -/
import Derived.Test.YtppjcnaffphakaaDoorSpB
set_option linter.unusedVariables false
set_option linter.unusedSimpArgs false
set_option maxRecDepth 100000
set_option maxHeartbeats 4000000
namespace Go.Proofs.YtppjcnaffphakaaDoor
open Go Go.Den Go.Proofs

theorem candI_1 (n : Int) : candI n 1 = candI n 0 ++ (if -128 ≤ n ∧ n < 128 then [[208] ++ beB 1 (u64 n)] else []) ++ (if 0 ≤ n ∧ n < 256 then [[204] ++ beB 1 (u64 n)] else []) := by simp [candI]
theorem candI_2 (n : Int) : candI n 2 = candI n 1 ++ (if -32768 ≤ n ∧ n < 32768 then [[209] ++ beB 2 (u64 n)] else []) ++ (if 0 ≤ n ∧ n < 65536 then [[205] ++ beB 2 (u64 n)] else []) := by rw [candI]; simp
theorem candI_3 (n : Int) : candI n 3 = candI n 2 ++ (if -2147483648 ≤ n ∧ n < 2147483648 then [[210] ++ beB 4 (u64 n)] else []) ++ (if 0 ≤ n ∧ n < 4294967296 then [[206] ++ beB 4 (u64 n)] else []) := by rw [candI]; simp
theorem candI_4 (n : Int) : candI n 4 = candI n 3 ++ (if True then [[211] ++ beB 8 (u64 n)] else []) ++ (if 0 ≤ n then [[207] ++ beB 8 (u64 n)] else []) := by rw [candI]; simp

theorem ok9 {G : Nat → DV} (h : List Blk) (n : Int) (way : Nat) (hn : I64 n) (hway : way < 9223372036854775808) :
    Ok Tryd.prog G 9 [.p (.int .i64 n), .p (.int .i64 way)] h (.p (.string (txt (nthWay (candI n 4) way)))) h := by
  refine Ok_by Tryd.func9 c9_ok r9_ok 90 rfl ?_
  rw [c9_cut]
  have rest : ∀ (d : DV) (h1 : List Blk) (t : List DV), Own h 1 h1 d (txs (candI n 0)) → fits t (fr 92 [(0, .p (.int .i64 n)), (1, .p (.int .i64 way)), (5, d), (21, .p (.int .i64 0))]) true →
      VV Tryd.prog G h (.loop c9L0) ⟨t, h1⟩ [.blk 0, .seq (.seq (.rg [⟨(some 85), .mov (.t 5), none⟩,
      ⟨(some 86), .mov (.t 1), none⟩,
      ⟨(some 87), .mov (.t 5), none⟩,
      ⟨(some 88), .lenl (.t 87), none⟩,
      ⟨(some 89), .bin .rem (.t 86) (.t 88), none⟩,
      ⟨(some 90), .iaddr 1 (.t 85) (.t 89), none⟩,
      ⟨(some 91), .load false 1 (.t 90), none⟩,
      ⟨(some 4), .mov (.t 91), none⟩])
    .ret)] (RR h r9 (.p (.string (txt (nthWay (candI n 4) way)))) h) := fun d h1 t ho hf => by
    refine VV_fam (fun q : Nat × DV × List Blk => ⟨fr 92 [(0, .p (.int .i64 n)), (1, .p (.int .i64 way)), (5, q.2.1), (21, .p (.int .i64 q.1))], q.2.2⟩)
      (fun q => q.1 ≤ 4 ∧ Own h 1 q.2.2 q.2.1 (txs (candI n q.1))) (fun q => 4 - q.1) (0, d, h1) ⟨by simp, ho⟩ (Wk.fits hf) ?_
    rintro ⟨i, d, h1⟩ ⟨hi, ho⟩ B hbk he hr
    simp only at hi ho
    have hl := candI_length n i
    by_cases hi4 : i < 4
    · have h4 : i = 0 ∨ i = 1 ∨ i = 2 ∨ i = 3 := by omega
      rcases h4 with rfl | rfl | rfl | rfl
      · exact round0 h n way hn d h1 _ (by omega) ho B fun d' h2 L' ho' hL' t hf => hbk _ (1, d', h2) (Wk.fits hf) ⟨by dsimp only; omega, by dsimp only; rw [candI_1, ← hL']; exact ho'⟩ (by dsimp only; omega)
      · exact round1 h n way hn d h1 _ (by omega) ho B fun d' h2 L' ho' hL' t hf => hbk _ (2, d', h2) (Wk.fits hf) ⟨by dsimp only; omega, by dsimp only; rw [candI_2, ← hL']; exact ho'⟩ (by dsimp only; omega)
      · exact round2 h n way hn d h1 _ (by omega) ho B fun d' h2 L' ho' hL' t hf => hbk _ (3, d', h2) (Wk.fits hf) ⟨by dsimp only; omega, by dsimp only; rw [candI_3, ← hL']; exact ho'⟩ (by dsimp only; omega)
      · exact round3 h n way hn d h1 _ (by omega) ho B fun d' h2 L' ho' hL' t hf => hbk _ (4, d', h2) (Wk.fits hf) ⟨by dsimp only; omega, by dsimp only; rw [candI_4, ← hL']; exact ho'⟩ (by dsimp only; omega)
    · have : i = 4 := by omega
      subst this
      simp [c9L0]
      refine he _ _ ?_
      simp [r9]
      have hp := ho.pre
      have hpos : 0 < (candI n 4).length := List.length_pos_iff.2 (candI_ne n)
      rcases ho.2 with ⟨_, hnil⟩ | ⟨b, rfl, hb1, hb2⟩
      · have : (txs (candI n 4)).length = 0 := by rw [hnil]; rfl
        rw [txs_length] at this
        omega
      · have e7 : way % (candI n 4).length < (candI n 4).length := Nat.mod_lt _ hpos
        have e8 := txs_get e7
        have e10 : nthWay (candI n 4) way = (candI n 4)[way % (candI n 4).length] := by
          unfold nthWay
          rw [List.getElem?_eq_getElem e7]
          rfl
        have e6 : (way : Int) % ((candI n 4).length : Int) = ((way % (candI n 4).length : Nat) : Int) := by simp
        rw [e10]
        generalize hj : way % (candI n 4).length = j at e6 e7 e8 ⊢
        have e9 : (way : Int).tmod ((candI n 4).length : Int) = (j : Int) := by rw [Int.tmod_eq_emod_of_nonneg (by omega), e6]
        have e11 : ¬ ((candI n 4).length : Int) = 0 := by omega
        have e13 : ¬ (candI n 4) = [] := candI_ne n
        simp [hb2, e9, e8, e11, e13, e7]
        exact WkV.ofPure hp rfl
  have w8 : IntKind.u8.wrap n = ((UInt8.ofNat (n % 256).toNat).toNat : Int) := by
    simp [IntKind.wrap, IntKind.bits, IntKind.signed]; omega
  have isb : ∀ c : UInt8, isByte (.p (.int .u8 c.toNat)) = true := fun c => isByte_bts (l := [c]) _ (by simp [bts, byteD])
  have sOf : ∀ c : UInt8, strOf [.p (.int .u8 c.toNat)] = txt [c] := fun c => strOf_bts [c]
  by_cases hA : -32 ≤ n ∧ n < 128
  · have e0 : candI n 0 = [[UInt8.ofNat (n % 256).toNat]] := by rw [candI, if_pos hA]
    obtain ⟨hA, hB⟩ := hA
    generalize UInt8.ofNat (n % 256).toNat = c0 at w8 e0
    simp [hA, hB, w8, isb, sOf]
    refine AA_own (h1 := h) (els := txs []) (Own.nil' (by simp)) (ys := txs [[c0]]) (by simp [elemsOf, txs, strs]) (by simp) ?_
    intro d h1 ho hle hothers
    simp
    exact rest d h1 _ (by rw [e0]; simpa [txs] using ho) (by simp)
  · have e0 : candI n 0 = [] := by rw [candI, if_neg hA]
    by_cases hC : -32 ≤ n
    · have hB : ¬ n < 128 := fun hb => hA ⟨hC, hb⟩
      simp [hC, hB]
      exact rest _ h _ (by rw [e0]; exact Own.nil) (by simp)
    · simp [hC]
      exact rest _ h _ (by rw [e0]; exact Own.nil) (by simp)
theorem ok8 {G : Nat → DV} (hG : GZ G) (h : List Blk) (n way : Nat) (hn : n < 16) (hway : way < 9223372036854775808) : Ok Tryd.prog G 8 [.p (.int .i64 n), .p (.int .i64 way)] h (.p (.string (txt (nthWay (headsL n) way)))) h := by
  refine Ok_by Tryd.func8 c8_ok r8_ok 7 rfl ?_
  simp [c8, r8]
  have e : headsL n = hcand n 144 [220, 221] 2 := by
    have h1 : n ≤ 15 := by omega
    have h2 : n < 256 ^ 2 := by rw [pow_lits.2.1]; omega
    simp [headsL, heads, hcand, h1, h2, List.range_succ]
  rw [e]
  refine FF_by (Ok.lend hG (ok15 hG [] n 144 15 way [220, 221] (.inl ⟨rfl, hn⟩) (by omega) (by omega) (.inl rfl) hway) (.cons .p (.cons .p (.cons .p (.cons (.sl (els := bts [220, 221]) (by simp [bts, byteD]) (by simp) bts_plain) (.cons .p .nil))))) rfl) ?_
  simp
end Go.Proofs.YtppjcnaffphakaaDoor
