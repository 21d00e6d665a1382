/- The reference's reader of MessagePack. -/
import Derived.Test.YtppjcnaffphakaaGreatDoorMwA
set_option linter.unusedVariables false
set_option linter.unusedSimpArgs false
set_option maxRecDepth 100000
set_option maxHeartbeats 4000000
namespace Go.Proofs.YtppjcnaffphakaaGreatDoor
open Go Go.Den Go.Proofs

/-- The reader: what is left; nothing was bad. -/
def prB (r : List UInt8) : Blk := .cells 2 [.agg [.p (.string (txt r)), .p (.bool false)]]
theorem ok64 {G : Nat → DV} (h : List Blk) (rb n : Nat) (r : List UInt8) (hb : h[rb]? = some (prB r)) (hn : n ≤ r.length) (hl : r.length ≤ 1000000) :
    Ok Tryz.prog G 64 [.ptr rb 0 0 1, .p (.int .i64 n)] h (.p (.string (txt (r.take n)))) (h.set rb (prB (r.drop n))) := by
  refine Ok_by Tryz.func64 c64_ok r64_ok 36 rfl ?_
  have hbl : rb < h.length := (List.getElem?_eq_some_iff.1 hb).1
  have n1 : ¬ (r.length : Int) < (n : Int) := by omega
  have n2 : (n : Int) ≤ (r.length : Int) := by omega
  simp only [prB] at hb
  simp [c64, r64, hb, n1, n2, hn, prB]

  exact WkV.refl
theorem ok57 {G : Nat → DV} (h : List Blk) (rb : Nat) (c : UInt8) (t : List UInt8) (hb : h[rb]? = some (prB (c :: t))) (hl : t.length ≤ 900000) :
    Ok Tryz.prog G 57 [.ptr rb 0 0 1] h (.p (.int .u8 c.toNat)) (h.set rb (prB t)) := by
  refine Ok_by Tryz.func57 c57_ok r57_ok 9 rfl ?_
  simp [c57, r57]
  refine FF_by (ok64 h rb 1 (c :: t) hb (by simp) (by simp; omega)) ?_
  simp [byteD]

  exact WkV.refl
theorem rset2 {h : List Blk} {b : Nat} {x y : Blk} : (h.set b x).set b y = h.set b y := by simp
theorem rget {h : List Blk} {b : Nat} {x : Blk} (hb : h[b]? = some x) (y : Blk) : (h.set b y)[b]? = some y := by
  have := (List.getElem?_eq_some_iff.1 hb).1
  simp [this]
theorem ok58 {G : Nat → DV} (h : List Blk) (rb k : Nat) (r : List UInt8) (hb : h[rb]? = some (prB r)) (hk : k ≤ 8) (hkr : k ≤ r.length) (hl : r.length ≤ 900000) :
    Ok Tryz.prog G 58 [.ptr rb 0 0 1, .p (.int .i64 k)] h (.p (.int .u64 (be (r.take k)))) (h.set rb (prB (r.drop k))) := by
  refine Ok_by Tryz.func58 c58_ok r58_ok 22 rfl ?_
  simp [c58, r58]
  refine FF_by (ok64 h rb k r hb hkr (by omega)) ?_
  generalize h.set rb (prB (r.drop k)) = H
  have hwl : (r.take k).length = k := by rw [List.length_take]; omega
  generalize r.take k = w at hwl ⊢
  subst hwl
  simp
  refine VV_fam (fun i : Nat => ⟨fr 24 [(5, .p (.int .u64 (be (w.take i)))), (11, .fz 1 (bts w)), (12, .p (.int .i64 w.length)), (13, .p (.int .i64 i))], H⟩)
    (fun i => i ≤ w.length) (fun i => w.length - i) 0 (by omega) (Wk.fits (by simp [be])) ?_
  intro i hi B hbk he hr
  simp
  refine CC_by (fun h2 => ?_) (fun h2 => ?_)
  · have hir : i < w.length := by simp at h2; omega
    have hlt := be_lt (w.take i)
    rw [List.length_take, Nat.min_eq_left (by omega)] at hlt
    have hp := pow256_le (i := i) (by omega)
    have e3 : IntKind.u64.wrap (w[i].toNat : Int) = (w[i].toNat : Int) := by
      have := w[i].toNat_lt
      simp [IntKind.wrap, IntKind.bits, IntKind.signed]; omega
    have e4 : IntKind.i64.wrap ((i : Int) + 1) = ((i + 1 : Nat) : Int) := wrap_succ hir (by omega)
    have e5 := shl_or (be (w.take i)) w[i] (by omega)
    have e6 : (bts w)[i]?.getD .any = .p (.int .u8 w[i].toNat) := bts_get hir
    simp [hir, e3, e4, e5, e6]
    refine hbk _ (i + 1) ?_ hir (by omega)
    rw [be_take_succ hir]
    exact Wk.fits (by simp)
  · have : i = w.length := by simp at h2; omega
    subst this
    simp
    refine he _ _ ?_
    simp
    exact WkV.refl
theorem ok33 {G : Nat → DV} (h : List Blk) (rb m : Nat) (t : List UInt8) (hb : h[rb]? = some (prB (UInt8.ofNat (144 + m) :: t))) (hm : m < 16) (hl : t.length ≤ 900000) :
    Ok Tryz.prog G 33 [.ptr rb 0 0 1] h (.p (.int .i64 m)) (h.set rb (prB t)) := by
  refine Ok_by Tryz.func33 c33_ok r33_ok 30 rfl ?_
  have ec : (UInt8.ofNat (144 + m)).toNat = 144 + m := by rw [UInt8.toNat_ofNat']; omega
  have a1 := and240 (UInt8.ofNat (144 + m))
  have a2 := and15 (UInt8.ofNat (144 + m))
  rw [ec] at a1 a2
  have c57 := ok57 (G := G) h rb _ t hb hl
  rw [ec] at c57
  have f1 : (((144 + m : Nat) : Int) == 192) = false := by simp; omega
  have f2 : (iand .u8 ((144 + m : Nat) : Int) 240 == 144) = true := by rw [a1]; simp; omega
  have f3 : iand .u8 ((144 + m : Nat) : Int) 15 = (m : Int) := by rw [a2]; omega
  have f4 : IntKind.i64.wrap (m : Int) = m := by simp [IntKind.wrap, IntKind.bits, IntKind.signed]; omega
  generalize (144 + m : Nat) = z at c57 f1 f2 f3
  simp [c33, r33]
  refine FF_by c57 ?_
  simp [f1, f2, f3, f4]
  exact WkV.refl
theorem ok34 {G : Nat → DV} (h : List Blk) (rb : Nat) (c : UInt8) (r t : List UInt8) (n : Int) (hb : h[rb]? = some (prB (c :: r))) (hr : readInt (c :: r) = some (n, t)) (hc : c.toNat < 204 ∨ 208 ≤ c.toNat) (hl : r.length ≤ 900000) :
    Ok Tryz.prog G 34 [.ptr rb 0 0 1] h (.p (.int .i64 n)) (h.set rb (prB t)) := by
  refine Ok_by Tryz.func34 c34_ok r34_ok 56 rfl ?_
  have hcl := c.toNat_lt
  have c57 := ok57 (G := G) h rb c r hb hl
  by_cases h1 : c.toNat < 128
  · have f1 : (c.toNat : Int) < 128 := by omega
    rw [readInt, if_pos h1] at hr
    cases hr
    simp [c34, r34]
    refine FF_by c57 ?_
    simp [f1, wrap8' c h1]
    exact WkV.refl
  by_cases h2 : 224 ≤ c.toNat
  · have f1 : ¬ (c.toNat : Int) < 128 := by omega
    have f2 : (224 : Int) ≤ (c.toNat : Int) := by omega
    rw [readInt, if_neg h1, if_pos h2] at hr
    cases hr
    simp [c34, r34]
    refine FF_by c57 ?_
    simp [f1, f2, wrap8 c h2]
    exact WkV.refl
  by_cases u208 : c.toNat = 208
  · have r0 : readInt (c :: r) = (numD 1 r).map fun x => (sext (8 * 1) x.1, x.2) := by rw [readInt, if_neg (by omega), if_neg (by omega), if_neg (by omega), if_pos (by omega), u208]
    rw [r0] at hr
    obtain ⟨x, h3, h4⟩ := Option.map_eq_some_iff.1 hr
    unfold numD at h3
    split at h3
    · cases h3
    rename_i hk
    cases h3
    cases h4
    have hbk := be_lt (r.take 1)
    rw [List.length_take, Nat.min_eq_left (by omega)] at hbk
    have hs := sext_sh 1 (by omega) (be (r.take 1)) hbk
    have c58 := ok58 (G := G) (h.set rb (prB r)) rb 1 r (rget hb _) (by omega) (by omega) (by omega)
    rw [rset2] at c58
    simp [c34, r34]
    refine FF_by c57 ?_
    simp [u208, show IntKind.u8.wrap 0 = 0 by decide, show ishl .i64 1 0 = 1 by decide]
    refine FF_by c58 ?_
    simp only [Nat.reduceMul, Nat.reduceSub] at hs
    simp [show IntKind.i64.wrap 8 = 8 by decide, show IntKind.i64.wrap 56 = 56 by decide, show IntKind.i64.wrap 0 = 0 by decide, hs]
    first | exact WkV.refl | (have hs' := hs; simp at hs'; simp [hs']; exact WkV.refl)
  by_cases u209 : c.toNat = 209
  · have r0 : readInt (c :: r) = (numD 2 r).map fun x => (sext (8 * 2) x.1, x.2) := by rw [readInt, if_neg (by omega), if_neg (by omega), if_neg (by omega), if_pos (by omega), u209]
    rw [r0] at hr
    obtain ⟨x, h3, h4⟩ := Option.map_eq_some_iff.1 hr
    unfold numD at h3
    split at h3
    · cases h3
    rename_i hk
    cases h3
    cases h4
    have hbk := be_lt (r.take 2)
    rw [List.length_take, Nat.min_eq_left (by omega)] at hbk
    have hs := sext_sh 2 (by omega) (be (r.take 2)) hbk
    have c58 := ok58 (G := G) (h.set rb (prB r)) rb 2 r (rget hb _) (by omega) (by omega) (by omega)
    rw [rset2] at c58
    simp [c34, r34]
    refine FF_by c57 ?_
    simp [u209, show IntKind.u8.wrap 1 = 1 by decide, show ishl .i64 1 1 = 2 by decide]
    refine FF_by c58 ?_
    simp only [Nat.reduceMul, Nat.reduceSub] at hs
    simp [show IntKind.i64.wrap 16 = 16 by decide, show IntKind.i64.wrap 48 = 48 by decide, show IntKind.i64.wrap 0 = 0 by decide, hs]
    first | exact WkV.refl | (have hs' := hs; simp at hs'; simp [hs']; exact WkV.refl)
  by_cases u210 : c.toNat = 210
  · have r0 : readInt (c :: r) = (numD 4 r).map fun x => (sext (8 * 4) x.1, x.2) := by rw [readInt, if_neg (by omega), if_neg (by omega), if_neg (by omega), if_pos (by omega), u210]
    rw [r0] at hr
    obtain ⟨x, h3, h4⟩ := Option.map_eq_some_iff.1 hr
    unfold numD at h3
    split at h3
    · cases h3
    rename_i hk
    cases h3
    cases h4
    have hbk := be_lt (r.take 4)
    rw [List.length_take, Nat.min_eq_left (by omega)] at hbk
    have hs := sext_sh 4 (by omega) (be (r.take 4)) hbk
    have c58 := ok58 (G := G) (h.set rb (prB r)) rb 4 r (rget hb _) (by omega) (by omega) (by omega)
    rw [rset2] at c58
    simp [c34, r34]
    refine FF_by c57 ?_
    simp [u210, show IntKind.u8.wrap 2 = 2 by decide, show ishl .i64 1 2 = 4 by decide]
    refine FF_by c58 ?_
    simp only [Nat.reduceMul, Nat.reduceSub] at hs
    simp [show IntKind.i64.wrap 32 = 32 by decide, show IntKind.i64.wrap 32 = 32 by decide, show IntKind.i64.wrap 0 = 0 by decide, hs]
    first | exact WkV.refl | (have hs' := hs; simp at hs'; simp [hs']; exact WkV.refl)
  by_cases u211 : c.toNat = 211
  · have r0 : readInt (c :: r) = (numD 8 r).map fun x => (sext (8 * 8) x.1, x.2) := by rw [readInt, if_neg (by omega), if_neg (by omega), if_neg (by omega), if_pos (by omega), u211]
    rw [r0] at hr
    obtain ⟨x, h3, h4⟩ := Option.map_eq_some_iff.1 hr
    unfold numD at h3
    split at h3
    · cases h3
    rename_i hk
    cases h3
    cases h4
    have hbk := be_lt (r.take 8)
    rw [List.length_take, Nat.min_eq_left (by omega)] at hbk
    have hs := sext_sh 8 (by omega) (be (r.take 8)) hbk
    have c58 := ok58 (G := G) (h.set rb (prB r)) rb 8 r (rget hb _) (by omega) (by omega) (by omega)
    rw [rset2] at c58
    simp [c34, r34]
    refine FF_by c57 ?_
    simp [u211, show IntKind.u8.wrap 3 = 3 by decide, show ishl .i64 1 3 = 8 by decide]
    refine FF_by c58 ?_
    simp only [Nat.reduceMul, Nat.reduceSub] at hs
    simp [show IntKind.i64.wrap 64 = 64 by decide, show IntKind.i64.wrap 0 = 0 by decide, show IntKind.i64.wrap 0 = 0 by decide, hs]
    first | exact WkV.refl | (have hs' := hs; simp at hs'; simp [hs']; exact WkV.refl)
  rw [readInt, if_neg h1, if_neg h2, if_neg (by omega), if_neg (by omega)] at hr
  cases hr
end Go.Proofs.YtppjcnaffphakaaGreatDoor
