/- The package's writer of MessagePack: heads, numbers. -/
import Derived.Test.YtppjcnaffphakaaGreatDoorSpT
import Derived.Test.YtppjcnaffphakaaGreatDoorLibE
set_option linter.unusedVariables false
set_option linter.unusedSimpArgs false
set_option maxRecDepth 100000
set_option maxHeartbeats 4000000
namespace Go.Proofs.YtppjcnaffphakaaGreatDoor
open Go Go.Den Go.Proofs

def c71L0 : DC :=
  (.seq (.seq (.rg [⟨(some 10), .mov (.t 7), none⟩,
        ⟨(some 11), .bin .geq (.t 10) (.c (.p (.int .i64 0))), none⟩])
    (.cond (.t 11) .skip
    (.exit 0)))
    (.seq (.block 1 (.rg [⟨(some 14), .mov (.t 0), none⟩,
         ⟨(some 15), .mov (.t 1), none⟩,
         ⟨(some 16), .mov (.t 7), none⟩,
         ⟨(some 17), .bin .mul (.c (.p (.int .i64 8))) (.t 16), none⟩,
         ⟨(some 18), .bin .shr (.t 15) (.t 17), none⟩,
         ⟨(some 19), .cint .u8 (.t 18), none⟩,
         ⟨(some 20), .lit 1 [(.t 19)], none⟩,
         ⟨(some 21), .app 1 1 (.t 14) (.t 20), none⟩,
         ⟨(some 0), .mov (.t 21), none⟩]))
    (.rg [⟨(some 12), .mov (.t 7), none⟩,
        ⟨(some 13), .bin .sub (.t 12) (.c (.p (.int .i64 1))), none⟩,
        ⟨(some 7), .mov (.t 13), none⟩])))
theorem c71_cut : c71 =
  (.seq (.rg [⟨(some 6), .mov (.c (.p (.slice none 0 0))), none⟩])
    (.seq (.seq (.rg [⟨(some 8), .mov (.t 2), none⟩,
      ⟨(some 9), .bin .sub (.t 8) (.c (.p (.int .i64 1))), none⟩,
      ⟨(some 7), .mov (.t 9), none⟩])
    (.block 0 (.loop c71L0)))
    (.seq (.rg [⟨(some 22), .mov (.t 0), none⟩,
      ⟨(some 6), .mov (.t 22), none⟩])
    .ret))) := rfl


/-- What a writer leaves: the bytes behind those that were there. -/
def Wrote (h0 h : List Blk) (l : List UInt8) (v : DV) (h' : List Blk) : Prop := Own h0 1 h' v (bts l) ∧ h.length ≤ h'.length
theorem ok71 {G : Nat → DV} (h0 h : List Blk) (d : DV) (o : List UInt8) (n k : Nat) (ho : Own h0 1 h d (bts o)) (hn : n < 18446744073709551616) (hk : k ≤ 8) (hl : o.length ≤ 1000000) :
    OkR Tryz.prog G 71 [d, .p (.int .u64 n), .p (.int .i64 k)] h (Wrote h0 h (o ++ beB k n)) := by
  refine OkR_by Tryz.func71 c71_ok r71_ok 20 rfl ?_
  have w0 : IntKind.i64.wrap ((k : Int) - 1) = (k : Int) - 1 := by simp [IntKind.wrap, IntKind.bits, IntKind.signed]; omega
  generalize hR : Wrote h0 h (o ++ beB k n) = R
  rw [c71_cut]
  simp [r71, w0]
  refine VV_fam (fun q : Nat × DV × List Blk => ⟨fr 23 [(0, q.2.1), (1, .p (.int .u64 n)), (7, .p (.int .i64 ((k : Int) - 1 - (q.1 : Int))))], q.2.2⟩)
    (fun q => q.1 ≤ k ∧ Own h0 1 q.2.2 q.2.1 (bts (o ++ (beB k n).take q.1)) ∧ h.length ≤ q.2.2.length) (fun q => k - q.1) (0, d, h) ⟨by simp, by simpa using ho, Nat.le_refl _⟩ (Wk.fits (by simp)) ?_
  rintro ⟨j, d, h1⟩ ⟨hj, ho, hle⟩ B hbk he hr
  simp only at hj ho hle
  have hol : (bts (o ++ (beB k n).take j)).length ≤ 1000008 := by simp; omega
  by_cases hjk : j < k
  · have g1 : (j : Int) ≤ (k : Int) - 1 := by omega
    have e0 : (k : Int) - 1 - (j : Int) = ((k - 1 - j : Nat) : Int) := by omega
    have e3 : IntKind.i64.wrap (8 * ((k : Int) - 1 - (j : Int))) = 8 * ((k - 1 - j : Nat) : Int) := by rw [e0]; simp [IntKind.wrap, IntKind.bits, IntKind.signed]; omega
    have e4 : IntKind.i64.wrap ((k : Int) - 1 - (j : Int) - 1) = (k : Int) - 1 - ((j + 1 : Nat) : Int) := by simp [IntKind.wrap, IntKind.bits, IntKind.signed]; omega
    have hb : j < (beB k n).length := by simpa using hjk
    have e6 : IntKind.u8.wrap (ishr .u64 (n : Int) (8 * ((k - 1 - j : Nat) : Int))) = (((beB k n)[j]).toNat : Int) := by
      rw [beB_get, show 8 * ((k - 1 - j : Nat) : Int) = ((8 * (k - 1 - j) : Nat) : Int) by simp]
      have e7 : ishr .u64 (n : Int) ((8 * (k - 1 - j) : Nat) : Int) = ((n / 256 ^ (k - 1 - j) : Nat) : Int) := by
        unfold ishr
        rw [Int.toNat_natCast, Nat.min_eq_left (by simp [IntKind.bits]; omega)]
        rw [Int.fdiv_eq_ediv_of_nonneg _ (Int.le_of_lt (Int.pow_pos (by decide)))]
        have : ((2 : Int) ^ 8) = ((256 : Nat) : Int) := by decide
        rw [Int.pow_mul, this]
        exact_mod_cast rfl
      rw [e7]
      simp [IntKind.wrap, IntKind.bits, IntKind.signed]
    have e8 : bts (o ++ (beB k n).take j) ++ bts [(beB k n)[j]] = bts (o ++ (beB k n).take (j + 1)) := by
      rw [bts_append, List.take_succ_eq_append_getElem hb, List.append_assoc]
    generalize (beB k n)[j] = c at e6 e8
    simp [c71L0, g1, e3, e6]
    refine ⟨by omega, ?_⟩
    refine AA_own ho.push (ys := bts [c]) (by simp [elemsOf, bts, byteD]) (by simp at hol ⊢; omega) ?_
    intro d2 h2 ho2 hle2 _
    rw [e8] at ho2
    simp [e4]
    refine hbk _ (j + 1, d2, h2) ?_ ⟨hjk, ho2, by dsimp only; simp at hle2; omega⟩ (by dsimp only; omega)
    exact Wk.fits (by simp)
  · have : j = k := by omega
    subst this
    have g1 : ¬ (j : Int) ≤ (j : Int) - 1 := by omega
    simp [c71L0, g1]
    refine he _ _ ?_
    simp
    subst hR
    rw [List.take_of_length_le (by simp)] at ho
    exact REr_by _ _ WkV.refl ⟨ho, hle⟩
theorem ok54 {G : Nat → DV} (h0 h : List Blk) (d : DV) (o : List UInt8) (n : Nat) (ho : Own h0 1 h d (bts o)) (hn : n < 16) (hl : o.length ≤ 1000000) :
    OkR Tryz.prog G 54 [d, .p (.int .i64 n)] h (Wrote h0 h (o ++ [UInt8.ofNat (144 + n)])) := by
  refine OkR_by Tryz.func54 c54_ok r54_ok 27 rfl ?_
  have hnI : (n : Int) < 16 := by omega
  have w2 : IntKind.u8.wrap (n : Int) = n := by simp [IntKind.wrap, IntKind.bits, IntKind.signed]; omega
  have w3 : ior .u8 144 (n : Int) = ((UInt8.ofNat (144 + n)).toNat : Int) := by
    have k1 : ∀ m : Fin 16, ior .u8 144 (m.val : Int) = (((UInt8.ofNat (144 + m.val)).toNat : Nat) : Int) := by decide
    exact k1 ⟨n, hn⟩
  generalize UInt8.ofNat (144 + n) = c at w3
  simp [c54, r54, hnI, w2, w3]
  refine AA_own ho.push (ys := bts [c]) (by simp [elemsOf, bts, byteD]) (by simp; omega) ?_
  intro d2 h2 ho2 hle2 _
  rw [bts_append] at ho2
  simp
  exact REr_by _ _ WkV.refl ⟨ho2, by simp at hle2; omega⟩
def I64 (n : Int) : Prop := -9223372036854775808 ≤ n ∧ n ≤ 9223372036854775807
/-- A number as the package writes it. -/
def encI (n : Int) : List UInt8 :=
  if -32 ≤ n ∧ n < 128 then [UInt8.ofNat (n % 256).toNat] else if -128 ≤ n ∧ n < 128 then 208 :: beB 1 (u64 n) else if -32768 ≤ n ∧ n < 32768 then 209 :: beB 2 (u64 n)
    else if -2147483648 ≤ n ∧ n < 2147483648 then 210 :: beB 4 (u64 n) else 211 :: beB 8 (u64 n)
theorem encI_mem (n : Int) : encI n ∈ candI n 4 := by
  unfold encI
  split
  · rename_i h; simp [candI, h]
  · split
    · rename_i h1 h2; simp [candI, h1, h2]
    · split
      · rename_i h1 h2 h3; simp [candI, h1, h2, h3]
      · split
        · rename_i h1 h2 h3 h4; simp [candI, h1, h2, h3, h4]
        · simp [candI]
theorem ok55 {G : Nat → DV} (h0 h : List Blk) (d : DV) (o : List UInt8) (n : Int) (ho : Own h0 1 h d (bts o)) (hn : I64 n) (hl : o.length ≤ 900000) :
    OkR Tryz.prog G 55 [d, .p (.int .i64 n)] h (Wrote h0 h (o ++ encI n)) := by
  refine OkR_by Tryz.func55 c55_ok r55_ok 59 rfl ?_
  obtain ⟨hn1, hn2⟩ := hn
  have w8 : IntKind.u8.wrap n = ((UInt8.ofNat (n % 256).toNat).toNat : Int) := by simp [IntKind.wrap, IntKind.bits, IntKind.signed]; omega
  have w64 : IntKind.u64.wrap n = (u64 n : Int) := by simp [IntKind.wrap, IntKind.bits, IntKind.signed, u64]; omega
  have hu : u64 n < 18446744073709551616 := by unfold u64; omega
  by_cases a1 : -32 ≤ n ∧ n < 128
  · have e : encI n = [UInt8.ofNat (n % 256).toNat] := by rw [encI, if_pos a1]
    rw [e]
    generalize UInt8.ofNat (n % 256).toNat = c at w8
    simp [c55, r55, a1.1, a1.2, w8]
    refine AA_own ho.push (ys := bts [c]) (by simp [elemsOf, bts, byteD]) (by simp; omega) ?_
    intro d2 h2 ho2 hle2 _
    rw [bts_append] at ho2
    simp
    exact REr_by _ _ WkV.refl ⟨ho2, by simp at hle2; omega⟩
  have key : ∀ a b : Int, (¬ (a ≤ n ∧ n < b)) → (a ≤ n → ¬ n < b) := fun a b h h1 h2 => h ⟨h1, h2⟩
  by_cases a2 : -128 ≤ n ∧ n < 128
  · have e : encI n = 208 :: beB 1 (u64 n) := by rw [encI, if_neg a1, if_pos a2]
    have e2 : beB 1 (u64 n) = [UInt8.ofNat (n % 256).toNat] := by
      simp only [beB, List.nil_append]
      congr 1
      apply UInt8.toNat_inj.1
      simp [u64]
      omega
    rw [e, e2]
    generalize UInt8.ofNat (n % 256).toNat = c at w8
    have f1 : ¬ -32 ≤ n := by omega
    simp [c55, r55, f1, a2.1, a2.2, w8]
    refine AA_own ho.push (ys := bts [208, c]) (by simp [elemsOf, bts, byteD]) (by simp; omega) ?_
    intro d2 h2 ho2 hle2 _
    rw [bts_append] at ho2
    simp
    exact REr_by _ _ WkV.refl ⟨ho2, by simp at hle2; omega⟩
  by_cases a3 : -32768 ≤ n ∧ n < 32768
  · have e : encI n = 209 :: beB 2 (u64 n) := by rw [encI, if_neg a1, if_neg a2, if_pos a3]
    rw [e, show o ++ 209 :: beB 2 (u64 n) = (o ++ [209]) ++ beB 2 (u64 n) by simp]
    generalize hR : Wrote h0 h ((o ++ [209]) ++ beB 2 (u64 n)) = R
    rcases (by omega : n < 0 ∨ 0 ≤ n) with hs | hs
    all_goals
      first
        | (have f1 : ¬ -32 ≤ n := by omega
           have f2 : ¬ -128 ≤ n := by omega
           have f3 : True := trivial
           simp [c55, r55, f1, f2, f3, a3.1, a3.2, w64])
        | (have f1 : ¬ n < 128 := by omega
           have f2 : -32 ≤ n := by omega
           have f4 : -128 ≤ n := by omega
           have f5 : -32768 ≤ n := by omega
           have f3 : True := trivial
           simp [c55, r55, f1, f2, f4, f5, f3, a3.1, a3.2, w64])
      refine AA_own ho.push (ys := bts [209]) (by simp [elemsOf, bts, byteD]) (by simp; omega) ?_
      intro d2 h2 ho2 hle2 _
      rw [bts_append] at ho2
      simp [w64]
      refine FF_byR (ok71 h0 h2 d2 _ (u64 n) 2 ho2 hu (by omega) (by simp; omega)) ?_
      rintro v h3 ⟨ho3, hl3⟩
      simp
      subst hR
      exact REr_by _ _ WkV.refl ⟨ho3, by simp at hle2; omega⟩
  by_cases a4 : -2147483648 ≤ n ∧ n < 2147483648
  · have e : encI n = 210 :: beB 4 (u64 n) := by rw [encI, if_neg a1, if_neg a2, if_neg a3, if_pos a4]
    rw [e, show o ++ 210 :: beB 4 (u64 n) = (o ++ [210]) ++ beB 4 (u64 n) by simp]
    generalize hR : Wrote h0 h ((o ++ [210]) ++ beB 4 (u64 n)) = R
    rcases (by omega : n < 0 ∨ 0 ≤ n) with hs | hs
    all_goals
      first
        | (have f1 : ¬ -32 ≤ n := by omega
           have f2 : ¬ -128 ≤ n := by omega
           have f3 : ¬ -32768 ≤ n := by omega
           simp [c55, r55, f1, f2, f3, a4.1, a4.2, w64])
        | (have f1 : ¬ n < 128 := by omega
           have f2 : -32 ≤ n := by omega
           have f4 : -128 ≤ n := by omega
           have f5 : -32768 ≤ n := by omega
           have f3 : ¬ n < 32768 := by omega
           simp [c55, r55, f1, f2, f4, f5, f3, a4.1, a4.2, w64])
      refine AA_own ho.push (ys := bts [210]) (by simp [elemsOf, bts, byteD]) (by simp; omega) ?_
      intro d2 h2 ho2 hle2 _
      rw [bts_append] at ho2
      simp [w64]
      refine FF_byR (ok71 h0 h2 d2 _ (u64 n) 4 ho2 hu (by omega) (by simp; omega)) ?_
      rintro v h3 ⟨ho3, hl3⟩
      simp
      subst hR
      exact REr_by _ _ WkV.refl ⟨ho3, by simp at hle2; omega⟩
  have e : encI n = 211 :: beB 8 (u64 n) := by rw [encI, if_neg a1, if_neg a2, if_neg a3, if_neg a4]
  rw [e, show o ++ 211 :: beB 8 (u64 n) = (o ++ [211]) ++ beB 8 (u64 n) by simp]
  generalize hR : Wrote h0 h ((o ++ [211]) ++ beB 8 (u64 n)) = R
  rcases (by omega : n < 0 ∨ 0 ≤ n) with hs | hs
  all_goals
    first
      | (have f1 : ¬ -32 ≤ n := by omega
         have f2 : ¬ -128 ≤ n := by omega
         have f3 : ¬ -32768 ≤ n := by omega
         have f4 : ¬ -2147483648 ≤ n := by omega
         simp [c55, r55, f1, f2, f3, f4, w64])
      | (have f1 : ¬ n < 128 := by omega
         have f2 : -32 ≤ n := by omega
         have f3 : ¬ n < 32768 := by omega
         have f4 : -128 ≤ n := by omega
         have f5 : -32768 ≤ n := by omega
         have f6 : ¬ n < 2147483648 := by omega
         have f7 : -2147483648 ≤ n := by omega
         simp [c55, r55, f1, f2, f3, f4, f5, f6, f7, w64])
    refine AA_own ho.push (ys := bts [211]) (by simp [elemsOf, bts, byteD]) (by simp; omega) ?_
    intro d2 h2 ho2 hle2 _
    rw [bts_append] at ho2
    simp [w64]
    refine FF_byR (ok71 h0 h2 d2 _ (u64 n) 8 ho2 hu (by omega) (by simp; omega)) ?_
    rintro v h3 ⟨ho3, hl3⟩
    simp
    subst hR
    exact REr_by _ _ WkV.refl ⟨ho3, by simp at hle2; omega⟩
end Go.Proofs.YtppjcnaffphakaaGreatDoor
