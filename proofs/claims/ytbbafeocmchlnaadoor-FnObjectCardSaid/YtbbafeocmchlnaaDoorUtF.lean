/- Whether a text is of whole letters: the walk. -/
import Derived.Test.YtbbafeocmchlnaaDoorUtE
set_option linter.unusedVariables false
set_option linter.unusedSimpArgs false
set_option maxRecDepth 100000
namespace Go.Proofs.YtbbafeocmchlnaaDoor
open Go Go.Den Go.Proofs

/-- What is told of whether a text is of whole letters. -/
def VaR (s : List UInt8) (h : List Blk) (v : DV) (h' : List Blk) : Prop := HPre h h' ∧ v = .p (.bool (val s))
theorem VaR.no {s : List UInt8} {c : UInt8} {t : List UInt8} {h h1 h' : List Blk} (hv : val s = val (c :: t)) (hc : 128 ≤ c.toNat) (hd : Utf8.decode (txt (c :: t)) 0 = bad1) (h0 : HPre h h1) (hp : HPre h1 h') : VaR s h (.p (.bool false)) h' :=
  ⟨h0.trans hp, by rw [hv, val_cons, if_neg (by omega), hd]; rfl⟩
theorem val_step {s : List UInt8} {c : UInt8} {t : List UInt8} {r n : Nat} (hv : val s = val (c :: t)) (hc : 128 ≤ c.toNat) (hd : Utf8.decode (txt (c :: t)) 0 = (r, n + 2)) : val s = val ((c :: t).drop (n + 2)) := by
  rw [hv, val_cons, if_neg (by omega), hd]
  simp

set_option maxHeartbeats 8000000 in
theorem ok12 (h : List Blk) (s : List UInt8) (hl : s.length ≤ 2147483647) : OkR Tryd.prog GT 12 [.p (.string (txt s))] h (VaR s h) := by
  refine OkR_by Tryd.func12 c12_ok r12_ok 168 rfl ?_
  simp [c12, r12]
  refine VV_fam (fun x : List UInt8 × List Blk => ⟨fr 169 [(0, .p (.string (txt x.1)))], x.2⟩)
    (fun x => x.1.length ≤ s.length ∧ HPre h x.2 ∧ val s = val x.1) (fun x => x.1.length) (s, h) ⟨by simp, HPre.refl _, rfl⟩ (Wk.fits (by simp)) ?_
  rintro ⟨a, h1⟩ ⟨hla, hp1, hv⟩ B hb he hr
  simp only at hla hp1 hv
  rcases a with _ | ⟨c, t⟩
  · simp
    refine he _ _ ?_
    simp
    exact REr_by _ _ .refl ⟨hp1, by rw [hv, val_nil]; rfl⟩
  simp only [List.length_cons] at hla
  have hlt := c.toNat_lt
  have hpos : (0 : Int) < (t.length : Int) + 1 := by omega
  rcases Nat.lt_or_ge c.toNat 128 with hc | hc
  · have e : (c.toNat : Int) < 128 := by omega
    have hv2 : val s = val t := by rw [hv, val_cons, if_pos hc]
    have hle1 : (1 : Int) ≤ (t.length : Int) + 1 := by omega
    rcases Nat.lt_or_ge 8 t.length with g | g
    · have g' : (8 : Int) < (t.length : Int) := by omega
      simp [byteD, e, hpos, hle1, g']
      refine FF_by (ok17 h1 t (by omega) (by omega)) ?_
      have hand : ∀ w : Nat, w < 2 ^ 64 → iand .u64 (w : Int) 9259542123273814144 = ((w &&& H8 : Nat) : Int) := fun w hw => iand_nat (k := .u64) (b := H8) rfl hw (by decide)
      have hor : ∀ w v : Nat, w < 2 ^ 64 → v < 2 ^ 64 → ior .u64 (w : Int) (v : Int) = ((w ||| v : Nat) : Int) := fun w v hw hv => ior_nat (k := .u64) rfl hw hv
      have or_lt : ∀ w v : Nat, w < 2 ^ 64 → v < 2 ^ 64 → w ||| v < 2 ^ 64 := fun w v hw hv => Nat.or_lt_two_pow hw hv
      have b1 := W8_lt t
      obtain ⟨w1, hw1⟩ : ∃ w, w = W8 t &&& H8 := ⟨_, rfl⟩
      simp [hand _ b1, ← hw1]
      refine CC_by (fun k => ?_) (fun k => ?_)
      rotate_left
      · simp
        exact hb _ (t, h1) (Wk.fits (by simp)) ⟨by simp; omega, hp1, hv2⟩ (by simp)
      have k : w1 = 0 := by simpa using k
      rw [k] at hw1
      have hv3 : val s = val (t.drop 8) := by rw [hv2]; exact val_drop 8 t (hi8 (by omega) hw1.symm)
      have hle8 : (8 : Int) ≤ (t.length : Int) := by omega
      have hle8' : 8 ≤ t.length := by omega
      have hcast : (t.length : Int) - 8 = ((t.length - 8 : Nat) : Int) := by omega
      obtain ⟨u, hu⟩ : ∃ u, u = t.drop 8 := ⟨_, rfl⟩
      have hul : u.length = t.length - 8 := by rw [hu]; simp
      rw [← hu] at hv3
      simp [hle8, hle8', ← hu]
      rcases Nat.lt_or_ge 16 u.length with g2 | g2
      rotate_left
      · have g2' : ¬ (16 : Int) < (u.length : Int) := by omega
        simp [g2', Nat.not_lt.2 g2]
        exact hb _ (u, h1) (Wk.fits (by simp)) ⟨by simp; omega, hp1, hv3⟩ (by simp; omega)
      have g2' : (16 : Int) < (u.length : Int) := by omega
      simp [g2, g2']
      refine DF_by (ok17 h1 u (by omega) (by omega)) ?_
      have hle9 : (8 : Int) ≤ (u.length : Int) := by omega
      have hle9' : 8 ≤ u.length := by omega
      obtain ⟨u2, hu2⟩ : ∃ u2, u2 = u.drop 8 := ⟨_, rfl⟩
      have hul2 : u2.length = u.length - 8 := by rw [hu2]; simp
      simp [hle9, hle9', ← hu2]
      refine DF_by (ok17 h1 u2 (by omega) (by omega)) ?_
      have b2 := W8_lt u
      have b3 := W8_lt u2
      obtain ⟨w12, hw12⟩ : ∃ w, w = W8 u ||| W8 u2 := ⟨_, rfl⟩
      have b12 : w12 < 2 ^ 64 := by rw [hw12]; exact or_lt _ _ b2 b3
      obtain ⟨w2, hw2⟩ : ∃ w, w = w12 &&& H8 := ⟨_, rfl⟩
      have hor1 : ior .u64 ((W8 u : Nat) : Int) ((W8 u2 : Nat) : Int) = (w12 : Int) := by rw [hw12]; exact hor _ _ b2 b3
      have hand2 : iand .u64 (w12 : Int) 9259542123273814144 = (w2 : Int) := by rw [hw2]; exact hand _ b12
      simp [hor1, hand2]
      refine CC_by (fun k => ?_) (fun k => ?_)
      rotate_left
      · simp
        exact hb _ (u, h1) (Wk.fits (by simp)) ⟨by simp; omega, hp1, hv3⟩ (by simp; omega)
      have k : w2 = 0 := by simpa using k
      have hk := and_or (x := W8 u) (y := W8 u2) (by rw [← hw12, ← hw2]; exact k)
      have hv4 : val s = val (u.drop 16) := by
        have e1 := val_drop 8 u (hi8 (by omega) hk.1)
        have e2 := val_drop 8 u2 (hi8 (by omega) hk.2)
        rw [hv3, e1, ← hu2, e2, hu2, List.drop_drop]
      have hle16 : (16 : Int) ≤ (u.length : Int) := by omega
      have hle16' : 16 ≤ u.length := by omega
      simp [hle16, hle16']
      refine VV_fam (fun x : List UInt8 => ⟨fr 169 [(0, .p (.string (txt x)))], h1⟩)
        (fun x => x.length ≤ u.length ∧ val s = val x) (fun x => x.length) (u.drop 16) ⟨by simp, hv4⟩ (Wk.fits (by simp)) ?_
      rintro x ⟨hx, hvx⟩ B2 hb2 he2 hr2
      rcases Nat.lt_or_ge 32 x.length with g3 | g3
      rotate_left
      · have g3' : ¬ (32 : Int) < (x.length : Int) := by omega
        simp [g3', Nat.not_lt.2 g3]
        refine he2 _ _ ?_
        simp
        exact hb _ (x, h1) (Wk.fits (by simp)) ⟨by simp; omega, hp1, hvx⟩ (by simp; omega)
      have g3' : (32 : Int) < (x.length : Int) := by omega
      obtain ⟨x2, hx2⟩ : ∃ y, y = x.drop 8 := ⟨_, rfl⟩
      obtain ⟨x3, hx3⟩ : ∃ y, y = x.drop 16 := ⟨_, rfl⟩
      obtain ⟨x4, hx4⟩ : ∃ y, y = x.drop 24 := ⟨_, rfl⟩
      have l2 : x2.length = x.length - 8 := by rw [hx2]; simp
      have l3 : x3.length = x.length - 16 := by rw [hx3]; simp
      have l4 : x4.length = x.length - 24 := by rw [hx4]; simp
      have i8 : (8 : Int) ≤ (x.length : Int) := by omega
      have i16 : (16 : Int) ≤ (x.length : Int) := by omega
      have i24 : (24 : Int) ≤ (x.length : Int) := by omega
      have i32 : (32 : Int) ≤ (x.length : Int) := by omega
      have j8 : 8 ≤ x.length := by omega
      have j16 : 16 ≤ x.length := by omega
      have j24 : 24 ≤ x.length := by omega
      have j32 : 32 ≤ x.length := by omega
      simp [g3, g3']
      refine DF_by (ok17 h1 x (by omega) (by omega)) ?_
      simp [i8, j8, ← hx2]
      refine DF_by (ok17 h1 x2 (by omega) (by omega)) ?_
      simp [i16, j16, ← hx3]
      refine DF_by (ok17 h1 x3 (by omega) (by omega)) ?_
      simp [i24, j24, ← hx4]
      refine DF_by (ok17 h1 x4 (by omega) (by omega)) ?_
      have c1 := W8_lt x
      have c2 := W8_lt x2
      have c3 := W8_lt x3
      have c4 := W8_lt x4
      obtain ⟨wa, hwa⟩ : ∃ w, w = W8 x ||| W8 x2 := ⟨_, rfl⟩
      obtain ⟨wb, hwb⟩ : ∃ w, w = W8 x3 ||| W8 x4 := ⟨_, rfl⟩
      obtain ⟨wc, hwc⟩ : ∃ w, w = wa ||| wb := ⟨_, rfl⟩
      obtain ⟨wd, hwd⟩ : ∃ w, w = wc &&& H8 := ⟨_, rfl⟩
      have ca : wa < 2 ^ 64 := by rw [hwa]; exact or_lt _ _ c1 c2
      have cb : wb < 2 ^ 64 := by rw [hwb]; exact or_lt _ _ c3 c4
      have cc : wc < 2 ^ 64 := by rw [hwc]; exact or_lt _ _ ca cb
      have o1 : ior .u64 ((W8 x : Nat) : Int) ((W8 x2 : Nat) : Int) = (wa : Int) := by rw [hwa]; exact hor _ _ c1 c2
      have o2 : ior .u64 ((W8 x3 : Nat) : Int) ((W8 x4 : Nat) : Int) = (wb : Int) := by rw [hwb]; exact hor _ _ c3 c4
      have o3 : ior .u64 (wa : Int) (wb : Int) = (wc : Int) := by rw [hwc]; exact hor _ _ ca cb
      have o4 : iand .u64 (wc : Int) 9259542123273814144 = (wd : Int) := by rw [hwd]; exact hand _ cc
      simp [o1, o2, o3, o4]
      refine CC_by (fun k => ?_) (fun k => ?_)
      rotate_left
      · simp
        refine he2 _ _ ?_
        simp
        exact hb _ (x, h1) (Wk.fits (by simp)) ⟨by simp; omega, hp1, hvx⟩ (by simp; omega)
      have k : wd = 0 := by simpa using k
      have hk := and_or (x := wa) (y := wb) (by rw [← hwc, ← hwd]; exact k)
      have hka := and_or (x := W8 x) (y := W8 x2) (by rw [← hwa]; exact hk.1)
      have hkb := and_or (x := W8 x3) (y := W8 x4) (by rw [← hwb]; exact hk.2)
      have hv5 : val s = val (x.drop 32) := by
        have e1 := val_drop 8 x (hi8 (by omega) hka.1)
        have e2 := val_drop 8 x2 (hi8 (by omega) hka.2)
        have e3 := val_drop 8 x3 (hi8 (by omega) hkb.1)
        have e4 := val_drop 8 x4 (hi8 (by omega) hkb.2)
        rw [← hx2] at e1
        rw [hx2, List.drop_drop, ← hx3, ← hx2] at e2
        rw [hx3, List.drop_drop, ← hx4, ← hx3] at e3
        rw [hx4, List.drop_drop, ← hx4] at e4
        rw [hvx, e1, e2, e3, e4]
      simp [i32, j32]
      exact hb2 _ (x.drop 32) (Wk.fits (by simp)) ⟨by simp; omega, hv5⟩ (by simp; omega)
    · have g' : ¬ (8 : Int) < (t.length : Int) := by omega
      simp [byteD, e, hpos, hle1, g', Nat.not_lt.2 g]
      exact hb _ (t, h1) (Wk.fits (by simp)) ⟨by simp; omega, hp1, hv2⟩ (by simp)
  have e : ¬ (c.toNat : Int) < 128 := by omega
  have hfst := first_at ⟨c.toNat - 128, by omega⟩
  have e128 : c.toNat - 128 + 128 = c.toNat := by omega
  simp only [e128] at hfst
  have l256 : (Go.Pinned.utf8FirstZ.map fun n : Nat => DV.p (Value.int .u8 (n : Int))).length = 256 := by simp [first_len]
  have h256 : (c.toNat : Int) < 256 := by omega
  rcases hfst with ⟨hx, hr5⟩ | ⟨hx, hr5⟩ | ⟨hx, hr5⟩ | ⟨hx, hr5⟩ | ⟨hx, hr5⟩ | ⟨hx, hr5⟩ | ⟨hx, hr5⟩ | ⟨hx, hr5⟩
  · simp [byteD, e, GT, firstD, l256, first_len, h256, hx, accD, accL, show iand .u8 241 7 = 1 from by decide, show ishr .u8 241 4 = 15 from by decide, show IntKind.i64.wrap 1 = 1 from by decide, hpos]
    exact hr _ (by simp; exact REr_by _ _ .refl (VaR.no hv hc (d1x hc (by omega)) hp1 (HPre.append _ _)))
  · rcases t with _ | ⟨b1, t⟩
    · simp [byteD, e, GT, firstD, l256, first_len, h256, hx, accD, accL, show iand .u8 2 7 = 2 from by decide, show ishr .u8 2 4 = 0 from by decide, show IntKind.i64.wrap 2 = 2 from by decide]
      exact hr _ (by simp; exact REr_by _ _ .refl (VaR.no hv hc (d2x (by omega) (by omega) (by first | exact .inr ⟨_, _, rfl, by omega⟩ | exact .inl (by simp))) hp1 (HPre.append _ _)))
    simp only [List.length_cons] at hla
    have p0 : (0 : Int) < (t.length : Int) + 1 + 1 := by omega
    have pn : ¬ (t.length : Int) + 1 + 1 < 2 := by omega
    have q1 : (1 : Int) < (t.length : Int) + 1 + 1 := by omega
    have qn : (2 : Int) ≤ (t.length : Int) + 1 + 1 := by omega
    have tn : ((t.length : Int) + 1 + 1).toNat = t.length + 1 + 1 := by omega
    rcases Nat.lt_or_ge b1.toNat 128 with u1 | u1
    · have w1 : (b1.toNat : Int) < 128 := by omega
      simp [byteD, e, GT, firstD, l256, first_len, h256, hx, accD, accL, show iand .u8 2 7 = 2 from by decide, show ishr .u8 2 4 = 0 from by decide, show IntKind.i64.wrap 2 = 2 from by decide, tn, p0, pn, qn, q1, w1]
      exact hr _ (by simp; exact REr_by _ _ .refl (VaR.no hv hc ((d2x (by omega) (by omega) (by first | exact .inr ⟨_, _, rfl, by omega⟩ | exact .inl (by simp)))) hp1 (HPre.append _ _)))
    have w1 : ¬ (b1.toNat : Int) < 128 := by omega
    rcases Nat.lt_or_ge 191 b1.toNat with x1 | x1
    · have y1 : (191 : Int) < (b1.toNat : Int) := by omega
      simp [byteD, e, GT, firstD, l256, first_len, h256, hx, accD, accL, show iand .u8 2 7 = 2 from by decide, show ishr .u8 2 4 = 0 from by decide, show IntKind.i64.wrap 2 = 2 from by decide, tn, p0, pn, qn, q1, w1, y1]
      exact hr _ (by simp; exact REr_by _ _ .refl (VaR.no hv hc ((d2x (by omega) (by omega) (by first | exact .inr ⟨_, _, rfl, by omega⟩ | exact .inl (by simp)))) hp1 (HPre.append _ _)))
    have y1 : ¬ (191 : Int) < (b1.toNat : Int) := by omega
    simp [byteD, e, GT, firstD, l256, first_len, h256, hx, accD, accL, show iand .u8 2 7 = 2 from by decide, show ishr .u8 2 4 = 0 from by decide, show IntKind.i64.wrap 2 = 2 from by decide, tn, p0, pn, qn, q1, w1, y1]
    exact hb _ (t, _) (Wk.fits (by simp)) ⟨by simp; omega, hp1.trans (HPre.append _ _), val_step (n := 0) hv hc (d2 (by omega) (by omega) (by omega) (by omega))⟩ (by simp; omega)
  · rcases t with _ | ⟨b1, t⟩
    · simp [byteD, e, GT, firstD, l256, first_len, h256, hx, accD, accL, show iand .u8 19 7 = 3 from by decide, show ishr .u8 19 4 = 1 from by decide, show IntKind.i64.wrap 3 = 3 from by decide]
      exact hr _ (by simp; exact REr_by _ _ .refl (VaR.no hv hc (d3x (by omega) (by omega) (by first | exact .inr ⟨_, _, _, rfl, by omega⟩ | exact .inl (by simp))) hp1 (HPre.append _ _)))
    rcases t with _ | ⟨b2, t⟩
    · simp [byteD, e, GT, firstD, l256, first_len, h256, hx, accD, accL, show iand .u8 19 7 = 3 from by decide, show ishr .u8 19 4 = 1 from by decide, show IntKind.i64.wrap 3 = 3 from by decide]
      exact hr _ (by simp; exact REr_by _ _ .refl (VaR.no hv hc (d3x (by omega) (by omega) (by first | exact .inr ⟨_, _, _, rfl, by omega⟩ | exact .inl (by simp))) hp1 (HPre.append _ _)))
    simp only [List.length_cons] at hla
    have p0 : (0 : Int) < (t.length : Int) + 1 + 1 + 1 := by omega
    have pn : ¬ (t.length : Int) + 1 + 1 + 1 < 3 := by omega
    have q1 : (1 : Int) < (t.length : Int) + 1 + 1 + 1 := by omega
    have q2 : (2 : Int) < (t.length : Int) + 1 + 1 + 1 := by omega
    have qn : (3 : Int) ≤ (t.length : Int) + 1 + 1 + 1 := by omega
    have tn : ((t.length : Int) + 1 + 1 + 1).toNat = t.length + 1 + 1 + 1 := by omega
    rcases Nat.lt_or_ge b1.toNat 160 with u1 | u1
    · have w1 : (b1.toNat : Int) < 160 := by omega
      simp [byteD, e, GT, firstD, l256, first_len, h256, hx, accD, accL, show iand .u8 19 7 = 3 from by decide, show ishr .u8 19 4 = 1 from by decide, show IntKind.i64.wrap 3 = 3 from by decide, tn, p0, pn, qn, q1, q2, w1]
      exact hr _ (by simp; exact REr_by _ _ .refl (VaR.no hv hc ((d3x (by omega) (by omega) (by first | exact .inr ⟨_, _, _, rfl, by omega⟩ | exact .inl (by simp)))) hp1 (HPre.append _ _)))
    have w1 : ¬ (b1.toNat : Int) < 160 := by omega
    rcases Nat.lt_or_ge 191 b1.toNat with x1 | x1
    · have y1 : (191 : Int) < (b1.toNat : Int) := by omega
      simp [byteD, e, GT, firstD, l256, first_len, h256, hx, accD, accL, show iand .u8 19 7 = 3 from by decide, show ishr .u8 19 4 = 1 from by decide, show IntKind.i64.wrap 3 = 3 from by decide, tn, p0, pn, qn, q1, q2, w1, y1]
      exact hr _ (by simp; exact REr_by _ _ .refl (VaR.no hv hc ((d3x (by omega) (by omega) (by first | exact .inr ⟨_, _, _, rfl, by omega⟩ | exact .inl (by simp)))) hp1 (HPre.append _ _)))
    have y1 : ¬ (191 : Int) < (b1.toNat : Int) := by omega
    rcases Nat.lt_or_ge b2.toNat 128 with u2 | u2
    · have w2 : (b2.toNat : Int) < 128 := by omega
      simp [byteD, e, GT, firstD, l256, first_len, h256, hx, accD, accL, show iand .u8 19 7 = 3 from by decide, show ishr .u8 19 4 = 1 from by decide, show IntKind.i64.wrap 3 = 3 from by decide, tn, p0, pn, qn, q1, q2, w1, y1, w2]
      exact hr _ (by simp; exact REr_by _ _ .refl (VaR.no hv hc ((d3x (by omega) (by omega) (by first | exact .inr ⟨_, _, _, rfl, by omega⟩ | exact .inl (by simp)))) hp1 (HPre.append _ _)))
    have w2 : ¬ (b2.toNat : Int) < 128 := by omega
    rcases Nat.lt_or_ge 191 b2.toNat with x2 | x2
    · have y2 : (191 : Int) < (b2.toNat : Int) := by omega
      simp [byteD, e, GT, firstD, l256, first_len, h256, hx, accD, accL, show iand .u8 19 7 = 3 from by decide, show ishr .u8 19 4 = 1 from by decide, show IntKind.i64.wrap 3 = 3 from by decide, tn, p0, pn, qn, q1, q2, w1, y1, w2, y2]
      exact hr _ (by simp; exact REr_by _ _ .refl (VaR.no hv hc ((d3x (by omega) (by omega) (by first | exact .inr ⟨_, _, _, rfl, by omega⟩ | exact .inl (by simp)))) hp1 (HPre.append _ _)))
    have y2 : ¬ (191 : Int) < (b2.toNat : Int) := by omega
    simp [byteD, e, GT, firstD, l256, first_len, h256, hx, accD, accL, show iand .u8 19 7 = 3 from by decide, show ishr .u8 19 4 = 1 from by decide, show IntKind.i64.wrap 3 = 3 from by decide, tn, p0, pn, qn, q1, q2, w1, y1, w2, y2]
    exact hb _ (t, _) (Wk.fits (by simp)) ⟨by simp; omega, hp1.trans (HPre.append _ _), val_step (n := 1) hv hc (d3 (by omega) (by omega) (by omega) (by omega) (by omega) (by omega) (by omega) (by omega))⟩ (by simp; omega)
  · rcases t with _ | ⟨b1, t⟩
    · simp [byteD, e, GT, firstD, l256, first_len, h256, hx, accD, accL, show iand .u8 3 7 = 3 from by decide, show ishr .u8 3 4 = 0 from by decide, show IntKind.i64.wrap 3 = 3 from by decide]
      exact hr _ (by simp; exact REr_by _ _ .refl (VaR.no hv hc (d3x (by omega) (by omega) (by first | exact .inr ⟨_, _, _, rfl, by omega⟩ | exact .inl (by simp))) hp1 (HPre.append _ _)))
    rcases t with _ | ⟨b2, t⟩
    · simp [byteD, e, GT, firstD, l256, first_len, h256, hx, accD, accL, show iand .u8 3 7 = 3 from by decide, show ishr .u8 3 4 = 0 from by decide, show IntKind.i64.wrap 3 = 3 from by decide]
      exact hr _ (by simp; exact REr_by _ _ .refl (VaR.no hv hc (d3x (by omega) (by omega) (by first | exact .inr ⟨_, _, _, rfl, by omega⟩ | exact .inl (by simp))) hp1 (HPre.append _ _)))
    simp only [List.length_cons] at hla
    have p0 : (0 : Int) < (t.length : Int) + 1 + 1 + 1 := by omega
    have pn : ¬ (t.length : Int) + 1 + 1 + 1 < 3 := by omega
    have q1 : (1 : Int) < (t.length : Int) + 1 + 1 + 1 := by omega
    have q2 : (2 : Int) < (t.length : Int) + 1 + 1 + 1 := by omega
    have qn : (3 : Int) ≤ (t.length : Int) + 1 + 1 + 1 := by omega
    have tn : ((t.length : Int) + 1 + 1 + 1).toNat = t.length + 1 + 1 + 1 := by omega
    rcases Nat.lt_or_ge b1.toNat 128 with u1 | u1
    · have w1 : (b1.toNat : Int) < 128 := by omega
      simp [byteD, e, GT, firstD, l256, first_len, h256, hx, accD, accL, show iand .u8 3 7 = 3 from by decide, show ishr .u8 3 4 = 0 from by decide, show IntKind.i64.wrap 3 = 3 from by decide, tn, p0, pn, qn, q1, q2, w1]
      exact hr _ (by simp; exact REr_by _ _ .refl (VaR.no hv hc ((d3x (by omega) (by omega) (by first | exact .inr ⟨_, _, _, rfl, by omega⟩ | exact .inl (by simp)))) hp1 (HPre.append _ _)))
    have w1 : ¬ (b1.toNat : Int) < 128 := by omega
    rcases Nat.lt_or_ge 191 b1.toNat with x1 | x1
    · have y1 : (191 : Int) < (b1.toNat : Int) := by omega
      simp [byteD, e, GT, firstD, l256, first_len, h256, hx, accD, accL, show iand .u8 3 7 = 3 from by decide, show ishr .u8 3 4 = 0 from by decide, show IntKind.i64.wrap 3 = 3 from by decide, tn, p0, pn, qn, q1, q2, w1, y1]
      exact hr _ (by simp; exact REr_by _ _ .refl (VaR.no hv hc ((d3x (by omega) (by omega) (by first | exact .inr ⟨_, _, _, rfl, by omega⟩ | exact .inl (by simp)))) hp1 (HPre.append _ _)))
    have y1 : ¬ (191 : Int) < (b1.toNat : Int) := by omega
    rcases Nat.lt_or_ge b2.toNat 128 with u2 | u2
    · have w2 : (b2.toNat : Int) < 128 := by omega
      simp [byteD, e, GT, firstD, l256, first_len, h256, hx, accD, accL, show iand .u8 3 7 = 3 from by decide, show ishr .u8 3 4 = 0 from by decide, show IntKind.i64.wrap 3 = 3 from by decide, tn, p0, pn, qn, q1, q2, w1, y1, w2]
      exact hr _ (by simp; exact REr_by _ _ .refl (VaR.no hv hc ((d3x (by omega) (by omega) (by first | exact .inr ⟨_, _, _, rfl, by omega⟩ | exact .inl (by simp)))) hp1 (HPre.append _ _)))
    have w2 : ¬ (b2.toNat : Int) < 128 := by omega
    rcases Nat.lt_or_ge 191 b2.toNat with x2 | x2
    · have y2 : (191 : Int) < (b2.toNat : Int) := by omega
      simp [byteD, e, GT, firstD, l256, first_len, h256, hx, accD, accL, show iand .u8 3 7 = 3 from by decide, show ishr .u8 3 4 = 0 from by decide, show IntKind.i64.wrap 3 = 3 from by decide, tn, p0, pn, qn, q1, q2, w1, y1, w2, y2]
      exact hr _ (by simp; exact REr_by _ _ .refl (VaR.no hv hc ((d3x (by omega) (by omega) (by first | exact .inr ⟨_, _, _, rfl, by omega⟩ | exact .inl (by simp)))) hp1 (HPre.append _ _)))
    have y2 : ¬ (191 : Int) < (b2.toNat : Int) := by omega
    simp [byteD, e, GT, firstD, l256, first_len, h256, hx, accD, accL, show iand .u8 3 7 = 3 from by decide, show ishr .u8 3 4 = 0 from by decide, show IntKind.i64.wrap 3 = 3 from by decide, tn, p0, pn, qn, q1, q2, w1, y1, w2, y2]
    exact hb _ (t, _) (Wk.fits (by simp)) ⟨by simp; omega, hp1.trans (HPre.append _ _), val_step (n := 1) hv hc (d3 (by omega) (by omega) (by omega) (by omega) (by omega) (by omega) (by omega) (by omega))⟩ (by simp; omega)
  · rcases t with _ | ⟨b1, t⟩
    · simp [byteD, e, GT, firstD, l256, first_len, h256, hx, accD, accL, show iand .u8 35 7 = 3 from by decide, show ishr .u8 35 4 = 2 from by decide, show IntKind.i64.wrap 3 = 3 from by decide]
      exact hr _ (by simp; exact REr_by _ _ .refl (VaR.no hv hc (d3x (by omega) (by omega) (by first | exact .inr ⟨_, _, _, rfl, by omega⟩ | exact .inl (by simp))) hp1 (HPre.append _ _)))
    rcases t with _ | ⟨b2, t⟩
    · simp [byteD, e, GT, firstD, l256, first_len, h256, hx, accD, accL, show iand .u8 35 7 = 3 from by decide, show ishr .u8 35 4 = 2 from by decide, show IntKind.i64.wrap 3 = 3 from by decide]
      exact hr _ (by simp; exact REr_by _ _ .refl (VaR.no hv hc (d3x (by omega) (by omega) (by first | exact .inr ⟨_, _, _, rfl, by omega⟩ | exact .inl (by simp))) hp1 (HPre.append _ _)))
    simp only [List.length_cons] at hla
    have p0 : (0 : Int) < (t.length : Int) + 1 + 1 + 1 := by omega
    have pn : ¬ (t.length : Int) + 1 + 1 + 1 < 3 := by omega
    have q1 : (1 : Int) < (t.length : Int) + 1 + 1 + 1 := by omega
    have q2 : (2 : Int) < (t.length : Int) + 1 + 1 + 1 := by omega
    have qn : (3 : Int) ≤ (t.length : Int) + 1 + 1 + 1 := by omega
    have tn : ((t.length : Int) + 1 + 1 + 1).toNat = t.length + 1 + 1 + 1 := by omega
    rcases Nat.lt_or_ge b1.toNat 128 with u1 | u1
    · have w1 : (b1.toNat : Int) < 128 := by omega
      simp [byteD, e, GT, firstD, l256, first_len, h256, hx, accD, accL, show iand .u8 35 7 = 3 from by decide, show ishr .u8 35 4 = 2 from by decide, show IntKind.i64.wrap 3 = 3 from by decide, tn, p0, pn, qn, q1, q2, w1]
      exact hr _ (by simp; exact REr_by _ _ .refl (VaR.no hv hc ((d3x (by omega) (by omega) (by first | exact .inr ⟨_, _, _, rfl, by omega⟩ | exact .inl (by simp)))) hp1 (HPre.append _ _)))
    have w1 : ¬ (b1.toNat : Int) < 128 := by omega
    rcases Nat.lt_or_ge 159 b1.toNat with x1 | x1
    · have y1 : (159 : Int) < (b1.toNat : Int) := by omega
      simp [byteD, e, GT, firstD, l256, first_len, h256, hx, accD, accL, show iand .u8 35 7 = 3 from by decide, show ishr .u8 35 4 = 2 from by decide, show IntKind.i64.wrap 3 = 3 from by decide, tn, p0, pn, qn, q1, q2, w1, y1]
      exact hr _ (by simp; exact REr_by _ _ .refl (VaR.no hv hc ((d3x (by omega) (by omega) (by first | exact .inr ⟨_, _, _, rfl, by omega⟩ | exact .inl (by simp)))) hp1 (HPre.append _ _)))
    have y1 : ¬ (159 : Int) < (b1.toNat : Int) := by omega
    rcases Nat.lt_or_ge b2.toNat 128 with u2 | u2
    · have w2 : (b2.toNat : Int) < 128 := by omega
      simp [byteD, e, GT, firstD, l256, first_len, h256, hx, accD, accL, show iand .u8 35 7 = 3 from by decide, show ishr .u8 35 4 = 2 from by decide, show IntKind.i64.wrap 3 = 3 from by decide, tn, p0, pn, qn, q1, q2, w1, y1, w2]
      exact hr _ (by simp; exact REr_by _ _ .refl (VaR.no hv hc ((d3x (by omega) (by omega) (by first | exact .inr ⟨_, _, _, rfl, by omega⟩ | exact .inl (by simp)))) hp1 (HPre.append _ _)))
    have w2 : ¬ (b2.toNat : Int) < 128 := by omega
    rcases Nat.lt_or_ge 191 b2.toNat with x2 | x2
    · have y2 : (191 : Int) < (b2.toNat : Int) := by omega
      simp [byteD, e, GT, firstD, l256, first_len, h256, hx, accD, accL, show iand .u8 35 7 = 3 from by decide, show ishr .u8 35 4 = 2 from by decide, show IntKind.i64.wrap 3 = 3 from by decide, tn, p0, pn, qn, q1, q2, w1, y1, w2, y2]
      exact hr _ (by simp; exact REr_by _ _ .refl (VaR.no hv hc ((d3x (by omega) (by omega) (by first | exact .inr ⟨_, _, _, rfl, by omega⟩ | exact .inl (by simp)))) hp1 (HPre.append _ _)))
    have y2 : ¬ (191 : Int) < (b2.toNat : Int) := by omega
    simp [byteD, e, GT, firstD, l256, first_len, h256, hx, accD, accL, show iand .u8 35 7 = 3 from by decide, show ishr .u8 35 4 = 2 from by decide, show IntKind.i64.wrap 3 = 3 from by decide, tn, p0, pn, qn, q1, q2, w1, y1, w2, y2]
    exact hb _ (t, _) (Wk.fits (by simp)) ⟨by simp; omega, hp1.trans (HPre.append _ _), val_step (n := 1) hv hc (d3 (by omega) (by omega) (by omega) (by omega) (by omega) (by omega) (by omega) (by omega))⟩ (by simp; omega)
  · rcases t with _ | ⟨b1, t⟩
    · simp [byteD, e, GT, firstD, l256, first_len, h256, hx, accD, accL, show iand .u8 52 7 = 4 from by decide, show ishr .u8 52 4 = 3 from by decide, show IntKind.i64.wrap 4 = 4 from by decide]
      exact hr _ (by simp; exact REr_by _ _ .refl (VaR.no hv hc (d4x (by omega) (by omega) (by first | exact .inr ⟨_, _, _, _, rfl, by omega⟩ | exact .inl (by simp))) hp1 (HPre.append _ _)))
    rcases t with _ | ⟨b2, t⟩
    · simp [byteD, e, GT, firstD, l256, first_len, h256, hx, accD, accL, show iand .u8 52 7 = 4 from by decide, show ishr .u8 52 4 = 3 from by decide, show IntKind.i64.wrap 4 = 4 from by decide]
      exact hr _ (by simp; exact REr_by _ _ .refl (VaR.no hv hc (d4x (by omega) (by omega) (by first | exact .inr ⟨_, _, _, _, rfl, by omega⟩ | exact .inl (by simp))) hp1 (HPre.append _ _)))
    rcases t with _ | ⟨b3, t⟩
    · simp [byteD, e, GT, firstD, l256, first_len, h256, hx, accD, accL, show iand .u8 52 7 = 4 from by decide, show ishr .u8 52 4 = 3 from by decide, show IntKind.i64.wrap 4 = 4 from by decide]
      exact hr _ (by simp; exact REr_by _ _ .refl (VaR.no hv hc (d4x (by omega) (by omega) (by first | exact .inr ⟨_, _, _, _, rfl, by omega⟩ | exact .inl (by simp))) hp1 (HPre.append _ _)))
    simp only [List.length_cons] at hla
    have p0 : (0 : Int) < (t.length : Int) + 1 + 1 + 1 + 1 := by omega
    have pn : ¬ (t.length : Int) + 1 + 1 + 1 + 1 < 4 := by omega
    have q1 : (1 : Int) < (t.length : Int) + 1 + 1 + 1 + 1 := by omega
    have q2 : (2 : Int) < (t.length : Int) + 1 + 1 + 1 + 1 := by omega
    have q3 : (3 : Int) < (t.length : Int) + 1 + 1 + 1 + 1 := by omega
    have qn : (4 : Int) ≤ (t.length : Int) + 1 + 1 + 1 + 1 := by omega
    have tn : ((t.length : Int) + 1 + 1 + 1 + 1).toNat = t.length + 1 + 1 + 1 + 1 := by omega
    rcases Nat.lt_or_ge b1.toNat 144 with u1 | u1
    · have w1 : (b1.toNat : Int) < 144 := by omega
      simp [byteD, e, GT, firstD, l256, first_len, h256, hx, accD, accL, show iand .u8 52 7 = 4 from by decide, show ishr .u8 52 4 = 3 from by decide, show IntKind.i64.wrap 4 = 4 from by decide, tn, p0, pn, qn, q1, q2, q3, w1]
      exact hr _ (by simp; exact REr_by _ _ .refl (VaR.no hv hc ((d4x (by omega) (by omega) (by first | exact .inr ⟨_, _, _, _, rfl, by omega⟩ | exact .inl (by simp)))) hp1 (HPre.append _ _)))
    have w1 : ¬ (b1.toNat : Int) < 144 := by omega
    rcases Nat.lt_or_ge 191 b1.toNat with x1 | x1
    · have y1 : (191 : Int) < (b1.toNat : Int) := by omega
      simp [byteD, e, GT, firstD, l256, first_len, h256, hx, accD, accL, show iand .u8 52 7 = 4 from by decide, show ishr .u8 52 4 = 3 from by decide, show IntKind.i64.wrap 4 = 4 from by decide, tn, p0, pn, qn, q1, q2, q3, w1, y1]
      exact hr _ (by simp; exact REr_by _ _ .refl (VaR.no hv hc ((d4x (by omega) (by omega) (by first | exact .inr ⟨_, _, _, _, rfl, by omega⟩ | exact .inl (by simp)))) hp1 (HPre.append _ _)))
    have y1 : ¬ (191 : Int) < (b1.toNat : Int) := by omega
    rcases Nat.lt_or_ge b2.toNat 128 with u2 | u2
    · have w2 : (b2.toNat : Int) < 128 := by omega
      simp [byteD, e, GT, firstD, l256, first_len, h256, hx, accD, accL, show iand .u8 52 7 = 4 from by decide, show ishr .u8 52 4 = 3 from by decide, show IntKind.i64.wrap 4 = 4 from by decide, tn, p0, pn, qn, q1, q2, q3, w1, y1, w2]
      exact hr _ (by simp; exact REr_by _ _ .refl (VaR.no hv hc ((d4x (by omega) (by omega) (by first | exact .inr ⟨_, _, _, _, rfl, by omega⟩ | exact .inl (by simp)))) hp1 (HPre.append _ _)))
    have w2 : ¬ (b2.toNat : Int) < 128 := by omega
    rcases Nat.lt_or_ge 191 b2.toNat with x2 | x2
    · have y2 : (191 : Int) < (b2.toNat : Int) := by omega
      simp [byteD, e, GT, firstD, l256, first_len, h256, hx, accD, accL, show iand .u8 52 7 = 4 from by decide, show ishr .u8 52 4 = 3 from by decide, show IntKind.i64.wrap 4 = 4 from by decide, tn, p0, pn, qn, q1, q2, q3, w1, y1, w2, y2]
      exact hr _ (by simp; exact REr_by _ _ .refl (VaR.no hv hc ((d4x (by omega) (by omega) (by first | exact .inr ⟨_, _, _, _, rfl, by omega⟩ | exact .inl (by simp)))) hp1 (HPre.append _ _)))
    have y2 : ¬ (191 : Int) < (b2.toNat : Int) := by omega
    rcases Nat.lt_or_ge b3.toNat 128 with u3 | u3
    · have w3 : (b3.toNat : Int) < 128 := by omega
      simp [byteD, e, GT, firstD, l256, first_len, h256, hx, accD, accL, show iand .u8 52 7 = 4 from by decide, show ishr .u8 52 4 = 3 from by decide, show IntKind.i64.wrap 4 = 4 from by decide, tn, p0, pn, qn, q1, q2, q3, w1, y1, w2, y2, w3]
      exact hr _ (by simp; exact REr_by _ _ .refl (VaR.no hv hc ((d4x (by omega) (by omega) (by first | exact .inr ⟨_, _, _, _, rfl, by omega⟩ | exact .inl (by simp)))) hp1 (HPre.append _ _)))
    have w3 : ¬ (b3.toNat : Int) < 128 := by omega
    rcases Nat.lt_or_ge 191 b3.toNat with x3 | x3
    · have y3 : (191 : Int) < (b3.toNat : Int) := by omega
      simp [byteD, e, GT, firstD, l256, first_len, h256, hx, accD, accL, show iand .u8 52 7 = 4 from by decide, show ishr .u8 52 4 = 3 from by decide, show IntKind.i64.wrap 4 = 4 from by decide, tn, p0, pn, qn, q1, q2, q3, w1, y1, w2, y2, w3, y3]
      exact hr _ (by simp; exact REr_by _ _ .refl (VaR.no hv hc ((d4x (by omega) (by omega) (by first | exact .inr ⟨_, _, _, _, rfl, by omega⟩ | exact .inl (by simp)))) hp1 (HPre.append _ _)))
    have y3 : ¬ (191 : Int) < (b3.toNat : Int) := by omega
    simp [byteD, e, GT, firstD, l256, first_len, h256, hx, accD, accL, show iand .u8 52 7 = 4 from by decide, show ishr .u8 52 4 = 3 from by decide, show IntKind.i64.wrap 4 = 4 from by decide, tn, p0, pn, qn, q1, q2, q3, w1, y1, w2, y2, w3, y3]
    exact hb _ (t, _) (Wk.fits (by simp)) ⟨by simp; omega, hp1.trans (HPre.append _ _), val_step (n := 2) hv hc (d4 (by omega) (by omega) (by omega) (by omega) (by omega) (by omega) (by omega) (by omega) (by omega) (by omega))⟩ (by simp; omega)
  · rcases t with _ | ⟨b1, t⟩
    · simp [byteD, e, GT, firstD, l256, first_len, h256, hx, accD, accL, show iand .u8 4 7 = 4 from by decide, show ishr .u8 4 4 = 0 from by decide, show IntKind.i64.wrap 4 = 4 from by decide]
      exact hr _ (by simp; exact REr_by _ _ .refl (VaR.no hv hc (d4x (by omega) (by omega) (by first | exact .inr ⟨_, _, _, _, rfl, by omega⟩ | exact .inl (by simp))) hp1 (HPre.append _ _)))
    rcases t with _ | ⟨b2, t⟩
    · simp [byteD, e, GT, firstD, l256, first_len, h256, hx, accD, accL, show iand .u8 4 7 = 4 from by decide, show ishr .u8 4 4 = 0 from by decide, show IntKind.i64.wrap 4 = 4 from by decide]
      exact hr _ (by simp; exact REr_by _ _ .refl (VaR.no hv hc (d4x (by omega) (by omega) (by first | exact .inr ⟨_, _, _, _, rfl, by omega⟩ | exact .inl (by simp))) hp1 (HPre.append _ _)))
    rcases t with _ | ⟨b3, t⟩
    · simp [byteD, e, GT, firstD, l256, first_len, h256, hx, accD, accL, show iand .u8 4 7 = 4 from by decide, show ishr .u8 4 4 = 0 from by decide, show IntKind.i64.wrap 4 = 4 from by decide]
      exact hr _ (by simp; exact REr_by _ _ .refl (VaR.no hv hc (d4x (by omega) (by omega) (by first | exact .inr ⟨_, _, _, _, rfl, by omega⟩ | exact .inl (by simp))) hp1 (HPre.append _ _)))
    simp only [List.length_cons] at hla
    have p0 : (0 : Int) < (t.length : Int) + 1 + 1 + 1 + 1 := by omega
    have pn : ¬ (t.length : Int) + 1 + 1 + 1 + 1 < 4 := by omega
    have q1 : (1 : Int) < (t.length : Int) + 1 + 1 + 1 + 1 := by omega
    have q2 : (2 : Int) < (t.length : Int) + 1 + 1 + 1 + 1 := by omega
    have q3 : (3 : Int) < (t.length : Int) + 1 + 1 + 1 + 1 := by omega
    have qn : (4 : Int) ≤ (t.length : Int) + 1 + 1 + 1 + 1 := by omega
    have tn : ((t.length : Int) + 1 + 1 + 1 + 1).toNat = t.length + 1 + 1 + 1 + 1 := by omega
    rcases Nat.lt_or_ge b1.toNat 128 with u1 | u1
    · have w1 : (b1.toNat : Int) < 128 := by omega
      simp [byteD, e, GT, firstD, l256, first_len, h256, hx, accD, accL, show iand .u8 4 7 = 4 from by decide, show ishr .u8 4 4 = 0 from by decide, show IntKind.i64.wrap 4 = 4 from by decide, tn, p0, pn, qn, q1, q2, q3, w1]
      exact hr _ (by simp; exact REr_by _ _ .refl (VaR.no hv hc ((d4x (by omega) (by omega) (by first | exact .inr ⟨_, _, _, _, rfl, by omega⟩ | exact .inl (by simp)))) hp1 (HPre.append _ _)))
    have w1 : ¬ (b1.toNat : Int) < 128 := by omega
    rcases Nat.lt_or_ge 191 b1.toNat with x1 | x1
    · have y1 : (191 : Int) < (b1.toNat : Int) := by omega
      simp [byteD, e, GT, firstD, l256, first_len, h256, hx, accD, accL, show iand .u8 4 7 = 4 from by decide, show ishr .u8 4 4 = 0 from by decide, show IntKind.i64.wrap 4 = 4 from by decide, tn, p0, pn, qn, q1, q2, q3, w1, y1]
      exact hr _ (by simp; exact REr_by _ _ .refl (VaR.no hv hc ((d4x (by omega) (by omega) (by first | exact .inr ⟨_, _, _, _, rfl, by omega⟩ | exact .inl (by simp)))) hp1 (HPre.append _ _)))
    have y1 : ¬ (191 : Int) < (b1.toNat : Int) := by omega
    rcases Nat.lt_or_ge b2.toNat 128 with u2 | u2
    · have w2 : (b2.toNat : Int) < 128 := by omega
      simp [byteD, e, GT, firstD, l256, first_len, h256, hx, accD, accL, show iand .u8 4 7 = 4 from by decide, show ishr .u8 4 4 = 0 from by decide, show IntKind.i64.wrap 4 = 4 from by decide, tn, p0, pn, qn, q1, q2, q3, w1, y1, w2]
      exact hr _ (by simp; exact REr_by _ _ .refl (VaR.no hv hc ((d4x (by omega) (by omega) (by first | exact .inr ⟨_, _, _, _, rfl, by omega⟩ | exact .inl (by simp)))) hp1 (HPre.append _ _)))
    have w2 : ¬ (b2.toNat : Int) < 128 := by omega
    rcases Nat.lt_or_ge 191 b2.toNat with x2 | x2
    · have y2 : (191 : Int) < (b2.toNat : Int) := by omega
      simp [byteD, e, GT, firstD, l256, first_len, h256, hx, accD, accL, show iand .u8 4 7 = 4 from by decide, show ishr .u8 4 4 = 0 from by decide, show IntKind.i64.wrap 4 = 4 from by decide, tn, p0, pn, qn, q1, q2, q3, w1, y1, w2, y2]
      exact hr _ (by simp; exact REr_by _ _ .refl (VaR.no hv hc ((d4x (by omega) (by omega) (by first | exact .inr ⟨_, _, _, _, rfl, by omega⟩ | exact .inl (by simp)))) hp1 (HPre.append _ _)))
    have y2 : ¬ (191 : Int) < (b2.toNat : Int) := by omega
    rcases Nat.lt_or_ge b3.toNat 128 with u3 | u3
    · have w3 : (b3.toNat : Int) < 128 := by omega
      simp [byteD, e, GT, firstD, l256, first_len, h256, hx, accD, accL, show iand .u8 4 7 = 4 from by decide, show ishr .u8 4 4 = 0 from by decide, show IntKind.i64.wrap 4 = 4 from by decide, tn, p0, pn, qn, q1, q2, q3, w1, y1, w2, y2, w3]
      exact hr _ (by simp; exact REr_by _ _ .refl (VaR.no hv hc ((d4x (by omega) (by omega) (by first | exact .inr ⟨_, _, _, _, rfl, by omega⟩ | exact .inl (by simp)))) hp1 (HPre.append _ _)))
    have w3 : ¬ (b3.toNat : Int) < 128 := by omega
    rcases Nat.lt_or_ge 191 b3.toNat with x3 | x3
    · have y3 : (191 : Int) < (b3.toNat : Int) := by omega
      simp [byteD, e, GT, firstD, l256, first_len, h256, hx, accD, accL, show iand .u8 4 7 = 4 from by decide, show ishr .u8 4 4 = 0 from by decide, show IntKind.i64.wrap 4 = 4 from by decide, tn, p0, pn, qn, q1, q2, q3, w1, y1, w2, y2, w3, y3]
      exact hr _ (by simp; exact REr_by _ _ .refl (VaR.no hv hc ((d4x (by omega) (by omega) (by first | exact .inr ⟨_, _, _, _, rfl, by omega⟩ | exact .inl (by simp)))) hp1 (HPre.append _ _)))
    have y3 : ¬ (191 : Int) < (b3.toNat : Int) := by omega
    simp [byteD, e, GT, firstD, l256, first_len, h256, hx, accD, accL, show iand .u8 4 7 = 4 from by decide, show ishr .u8 4 4 = 0 from by decide, show IntKind.i64.wrap 4 = 4 from by decide, tn, p0, pn, qn, q1, q2, q3, w1, y1, w2, y2, w3, y3]
    exact hb _ (t, _) (Wk.fits (by simp)) ⟨by simp; omega, hp1.trans (HPre.append _ _), val_step (n := 2) hv hc (d4 (by omega) (by omega) (by omega) (by omega) (by omega) (by omega) (by omega) (by omega) (by omega) (by omega))⟩ (by simp; omega)
  · rcases t with _ | ⟨b1, t⟩
    · simp [byteD, e, GT, firstD, l256, first_len, h256, hx, accD, accL, show iand .u8 68 7 = 4 from by decide, show ishr .u8 68 4 = 4 from by decide, show IntKind.i64.wrap 4 = 4 from by decide]
      exact hr _ (by simp; exact REr_by _ _ .refl (VaR.no hv hc (d4x (by omega) (by omega) (by first | exact .inr ⟨_, _, _, _, rfl, by omega⟩ | exact .inl (by simp))) hp1 (HPre.append _ _)))
    rcases t with _ | ⟨b2, t⟩
    · simp [byteD, e, GT, firstD, l256, first_len, h256, hx, accD, accL, show iand .u8 68 7 = 4 from by decide, show ishr .u8 68 4 = 4 from by decide, show IntKind.i64.wrap 4 = 4 from by decide]
      exact hr _ (by simp; exact REr_by _ _ .refl (VaR.no hv hc (d4x (by omega) (by omega) (by first | exact .inr ⟨_, _, _, _, rfl, by omega⟩ | exact .inl (by simp))) hp1 (HPre.append _ _)))
    rcases t with _ | ⟨b3, t⟩
    · simp [byteD, e, GT, firstD, l256, first_len, h256, hx, accD, accL, show iand .u8 68 7 = 4 from by decide, show ishr .u8 68 4 = 4 from by decide, show IntKind.i64.wrap 4 = 4 from by decide]
      exact hr _ (by simp; exact REr_by _ _ .refl (VaR.no hv hc (d4x (by omega) (by omega) (by first | exact .inr ⟨_, _, _, _, rfl, by omega⟩ | exact .inl (by simp))) hp1 (HPre.append _ _)))
    simp only [List.length_cons] at hla
    have p0 : (0 : Int) < (t.length : Int) + 1 + 1 + 1 + 1 := by omega
    have pn : ¬ (t.length : Int) + 1 + 1 + 1 + 1 < 4 := by omega
    have q1 : (1 : Int) < (t.length : Int) + 1 + 1 + 1 + 1 := by omega
    have q2 : (2 : Int) < (t.length : Int) + 1 + 1 + 1 + 1 := by omega
    have q3 : (3 : Int) < (t.length : Int) + 1 + 1 + 1 + 1 := by omega
    have qn : (4 : Int) ≤ (t.length : Int) + 1 + 1 + 1 + 1 := by omega
    have tn : ((t.length : Int) + 1 + 1 + 1 + 1).toNat = t.length + 1 + 1 + 1 + 1 := by omega
    rcases Nat.lt_or_ge b1.toNat 128 with u1 | u1
    · have w1 : (b1.toNat : Int) < 128 := by omega
      simp [byteD, e, GT, firstD, l256, first_len, h256, hx, accD, accL, show iand .u8 68 7 = 4 from by decide, show ishr .u8 68 4 = 4 from by decide, show IntKind.i64.wrap 4 = 4 from by decide, tn, p0, pn, qn, q1, q2, q3, w1]
      exact hr _ (by simp; exact REr_by _ _ .refl (VaR.no hv hc ((d4x (by omega) (by omega) (by first | exact .inr ⟨_, _, _, _, rfl, by omega⟩ | exact .inl (by simp)))) hp1 (HPre.append _ _)))
    have w1 : ¬ (b1.toNat : Int) < 128 := by omega
    rcases Nat.lt_or_ge 143 b1.toNat with x1 | x1
    · have y1 : (143 : Int) < (b1.toNat : Int) := by omega
      simp [byteD, e, GT, firstD, l256, first_len, h256, hx, accD, accL, show iand .u8 68 7 = 4 from by decide, show ishr .u8 68 4 = 4 from by decide, show IntKind.i64.wrap 4 = 4 from by decide, tn, p0, pn, qn, q1, q2, q3, w1, y1]
      exact hr _ (by simp; exact REr_by _ _ .refl (VaR.no hv hc ((d4x (by omega) (by omega) (by first | exact .inr ⟨_, _, _, _, rfl, by omega⟩ | exact .inl (by simp)))) hp1 (HPre.append _ _)))
    have y1 : ¬ (143 : Int) < (b1.toNat : Int) := by omega
    rcases Nat.lt_or_ge b2.toNat 128 with u2 | u2
    · have w2 : (b2.toNat : Int) < 128 := by omega
      simp [byteD, e, GT, firstD, l256, first_len, h256, hx, accD, accL, show iand .u8 68 7 = 4 from by decide, show ishr .u8 68 4 = 4 from by decide, show IntKind.i64.wrap 4 = 4 from by decide, tn, p0, pn, qn, q1, q2, q3, w1, y1, w2]
      exact hr _ (by simp; exact REr_by _ _ .refl (VaR.no hv hc ((d4x (by omega) (by omega) (by first | exact .inr ⟨_, _, _, _, rfl, by omega⟩ | exact .inl (by simp)))) hp1 (HPre.append _ _)))
    have w2 : ¬ (b2.toNat : Int) < 128 := by omega
    rcases Nat.lt_or_ge 191 b2.toNat with x2 | x2
    · have y2 : (191 : Int) < (b2.toNat : Int) := by omega
      simp [byteD, e, GT, firstD, l256, first_len, h256, hx, accD, accL, show iand .u8 68 7 = 4 from by decide, show ishr .u8 68 4 = 4 from by decide, show IntKind.i64.wrap 4 = 4 from by decide, tn, p0, pn, qn, q1, q2, q3, w1, y1, w2, y2]
      exact hr _ (by simp; exact REr_by _ _ .refl (VaR.no hv hc ((d4x (by omega) (by omega) (by first | exact .inr ⟨_, _, _, _, rfl, by omega⟩ | exact .inl (by simp)))) hp1 (HPre.append _ _)))
    have y2 : ¬ (191 : Int) < (b2.toNat : Int) := by omega
    rcases Nat.lt_or_ge b3.toNat 128 with u3 | u3
    · have w3 : (b3.toNat : Int) < 128 := by omega
      simp [byteD, e, GT, firstD, l256, first_len, h256, hx, accD, accL, show iand .u8 68 7 = 4 from by decide, show ishr .u8 68 4 = 4 from by decide, show IntKind.i64.wrap 4 = 4 from by decide, tn, p0, pn, qn, q1, q2, q3, w1, y1, w2, y2, w3]
      exact hr _ (by simp; exact REr_by _ _ .refl (VaR.no hv hc ((d4x (by omega) (by omega) (by first | exact .inr ⟨_, _, _, _, rfl, by omega⟩ | exact .inl (by simp)))) hp1 (HPre.append _ _)))
    have w3 : ¬ (b3.toNat : Int) < 128 := by omega
    rcases Nat.lt_or_ge 191 b3.toNat with x3 | x3
    · have y3 : (191 : Int) < (b3.toNat : Int) := by omega
      simp [byteD, e, GT, firstD, l256, first_len, h256, hx, accD, accL, show iand .u8 68 7 = 4 from by decide, show ishr .u8 68 4 = 4 from by decide, show IntKind.i64.wrap 4 = 4 from by decide, tn, p0, pn, qn, q1, q2, q3, w1, y1, w2, y2, w3, y3]
      exact hr _ (by simp; exact REr_by _ _ .refl (VaR.no hv hc ((d4x (by omega) (by omega) (by first | exact .inr ⟨_, _, _, _, rfl, by omega⟩ | exact .inl (by simp)))) hp1 (HPre.append _ _)))
    have y3 : ¬ (191 : Int) < (b3.toNat : Int) := by omega
    simp [byteD, e, GT, firstD, l256, first_len, h256, hx, accD, accL, show iand .u8 68 7 = 4 from by decide, show ishr .u8 68 4 = 4 from by decide, show IntKind.i64.wrap 4 = 4 from by decide, tn, p0, pn, qn, q1, q2, q3, w1, y1, w2, y2, w3, y3]
    exact hb _ (t, _) (Wk.fits (by simp)) ⟨by simp; omega, hp1.trans (HPre.append _ _), val_step (n := 2) hv hc (d4 (by omega) (by omega) (by omega) (by omega) (by omega) (by omega) (by omega) (by omega) (by omega) (by omega))⟩ (by simp; omega)
end Go.Proofs.YtbbafeocmchlnaaDoor
