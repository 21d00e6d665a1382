/- Checksums: base64's Decode. -/
import Derived.Test.YtdgnjngbheecnaaSuG
set_option linter.unusedVariables false
set_option linter.unusedSimpArgs false
set_option maxRecDepth 100000
namespace Go.Proofs.Ytdgnjngbheecnaa
open Go Go.Den Go.Proofs

theorem upto_pad (s : List UInt8) : upto (pad3 s) s.length = pad3 s := by
  rw [upto, pad3_take, pad3_length]; rfl
theorem pad3_getD (s : List UInt8) (q : Nat) : (pad3 s).getD q 0 = s.getD q 0 := by
  by_cases h : q < 3 * ((s.length + 2) / 3)
  · rw [List.getD_eq_getElem?_getD, pad3_get s q h]; rfl
  · simp only [List.getD_eq_getElem?_getD]
    rw [List.getElem?_eq_none (by rw [pad3_length]; omega), List.getElem?_eq_none (by omega)]
/-- The signs of a whole group. -/
theorem grp (s : List UInt8) (L : List DV) (hL : ∀ r, r < 64 → L[64 + (alph.getD r 0).toNat]? = some (.p (.int .u8 r))) (j : Nat) (h : 3 * j + 3 ≤ s.length) : ∀ k, k < 4 → ∃ (r : Nat) (c : UInt8), r < 64 ∧ r = nv s (3 * j) 3 / 2 ^ (18 - 6 * k) % 64 ∧ (bts (b64 s))[4 * j + k]? = some (.p (.int .u8 c.toNat)) ∧ L[64 + c.toNat]? = some (.p (.int .u8 r)) ∧ (c.toNat : Int) < 256 ∧ 64 + c.toNat ≤ 321 := fun k hk => by
  have hm : nv s (3 * j) 3 / 2 ^ (18 - 6 * k) % 64 < 64 := Nat.mod_lt _ (by decide)
  have hb := (alph.getD (nv s (3 * j) 3 / 2 ^ (18 - 6 * k) % 64) 0).toNat_lt
  refine ⟨_, alph.getD (nv s (3 * j) 3 / 2 ^ (18 - 6 * k) % 64) 0, hm, rfl, ?_, hL _ hm, by omega, by omega⟩
  rw [bts, List.getElem?_map, b64_get s j k (by omega) hk, sgk, if_pos (by omega)]
  rfl
theorem bytes6 (a b c d e f v : Nat) (ha : a < 256) (hb : b < 256) (hc : c < 256) (hd : d < 256) (he : e < 256) (hf : f < 256) (hv : v = ((a * 65536 + b * 256 + c) * 16777216 + (d * 65536 + e * 256 + f)) * 65536) :
    a = v / 2 ^ 56 % 256 ∧ b = v / 2 ^ 48 % 256 ∧ c = v / 2 ^ 40 % 256 ∧ d = v / 2 ^ 32 % 256 ∧ e = v / 2 ^ 24 % 256 ∧ f = v / 2 ^ 16 % 256 := by
  refine ⟨?_, ?_, ?_, ?_, ?_, ?_⟩ <;> omega
theorem bytes3 (a b c v : Nat) (ha : a < 256) (hb : b < 256) (hc : c < 256) (hv : v = (a * 65536 + b * 256 + c) * 256) :
    a = v / 2 ^ 24 % 256 ∧ b = v / 2 ^ 16 % 256 ∧ c = v / 2 ^ 8 % 256 := by
  refine ⟨?_, ?_, ?_⟩ <;> omega
theorem bytes4 (T : List UInt8) (n V1 v : Nat) (hV1 : V1 = (T.getD n 0).toNat * 65536 + (T.getD (n + 1) 0).toNat * 256 + (T.getD (n + 2) 0).toNat) (hv2 : v = V1 * 256) :
    ∀ k, k < 3 → (T.getD (n + k) 0).toNat = v / 2 ^ (24 - 8 * k) % 256 := by
  intro k hk
  have hbt := fun k => (T.getD k 0).toNat_lt
  obtain ⟨z0, z1, z2⟩ := bytes3 _ _ _ v (hbt n) (hbt (n + 1)) (hbt (n + 2)) (by rw [hv2, hV1])
  match k, hk with
  | 0, _ => exact z0
  | 1, _ => exact z1
  | 2, _ => exact z2
theorem bytes8 (T : List UInt8) (n V1 V2 v : Nat) (hV1 : V1 = (T.getD n 0).toNat * 65536 + (T.getD (n + 1) 0).toNat * 256 + (T.getD (n + 2) 0).toNat) (hV2 : V2 = (T.getD (n + 3) 0).toNat * 65536 + (T.getD (n + 3 + 1) 0).toNat * 256 + (T.getD (n + 3 + 2) 0).toNat) (hv2 : v = (V1 * 16777216 + V2) * 65536) :
    ∀ k, k < 6 → (T.getD (n + k) 0).toNat = v / 2 ^ (56 - 8 * k) % 256 := by
  intro k hk
  simp only [Nat.add_assoc, Nat.reduceAdd] at hV2
  have hbt := fun k => (T.getD k 0).toNat_lt
  obtain ⟨z0, z1, z2, z3, z4, z5⟩ := bytes6 _ _ _ _ _ _ v (hbt n) (hbt (n + 1)) (hbt (n + 2)) (hbt (n + 3)) (hbt (n + 4)) (hbt (n + 5)) (by rw [hv2, hV1, hV2]; omega)
  match k, hk with
  | 0, _ => exact z0
  | 1, _ => exact z1
  | 2, _ => exact z2
  | 3, _ => exact z3
  | 4, _ => exact z4
  | 5, _ => exact z5
set_option maxHeartbeats 4000000 in
theorem ok136 (h : List Blk) (e d sb : Nat) (s : List UInt8) (hs : s.length ≤ 1000) (he : h[e]? = some (encB (dm 64))) (hd : h[d]? = some (.cells 1 (bts (upto (pad3 s) 0)))) (hsb : h[sb]? = some (.cells 1 (bts (b64 s)))) (hed : e ≠ d) (hsd : sb ≠ d) :
    Ok Try.prog GB 136 [.ptr e 0 0 1, .sl d 0 (pad3 s).length (pad3 s).length, .sl sb 0 (b64 s).length (b64 s).length] h (.tup [.p (.int .i64 s.length), .p .nilIface]) (h.set d (.cells 1 (bts (pad3 s)))) := by
  refine Ok_by Try.func136 c136_ok r136_ok 244 rfl ?_
  have hdl : d < h.length := (List.getElem?_eq_some_iff.1 hd).1
  have hG : GB 0 = .p (.pointer (some ⟨0, 0, none⟩)) := by simp [GB]
  have he0 := he
  obtain ⟨hL, L125, L320, L321, hLl⟩ := dm_get _ rfl
  rw [encB] at he
  have hgr := grp s _ hL
  have hTl := pad3_length s
  have hSl := b64_length s
  have hTg := pad3_getD s
  have hup := upto_pad s
  have hcs : ∀ j k, 3 * j < s.length → k < 4 → (b64 s)[4 * j + k]? = some (sgk (nv s (3 * j) 3) (s.length - 3 * j) k) := b64_get s
  generalize hLe : (bts alph ++ (bts (dm 64) ++ [DV.p (.int .i32 61), .p (.bool false)])) = L at *
  generalize pad3 s = T at *
  generalize b64 s = S at *
  generalize hM : (s.length + 2) / 3 = M at *
  have hse : ∀ X, (h.set d X)[e]? = some (.cells 322 [.agg L]) := fun X => by
    rw [List.getElem?_set_ne (Ne.symm hed), he]
  have hsd2 : ∀ X, (h.set d X)[d]? = some X := fun X => by simp [hdl]
  have hss : ∀ X, (h.set d X)[sb]? = some (.cells 1 (bts S)) := fun X => by
    rw [List.getElem?_set_ne (Ne.symm hsd), hsb]
  have hup0 : h.set d (.cells 1 (bts (upto T 0))) = h := set_same hd
  simp [c136, r136]
  refine CC_by (fun hc => ?_) (fun hc => ?_)
  · have hc : S.length = 0 := by simpa using hc
    have hs0 : s.length = 0 := by omega
    have hT0 : upto T 0 = T := by rw [← hup, hs0]; rw [hs0] at hup; rw [hup, hup]
    rw [← hT0, hup0]
    simp [hs0]
  · have hS0 : S.length ≠ 0 := fun h0 => by simp [h0] at hc
    have hM1 : 1 ≤ M := by omega
    simp [he, isNilD, hLl]
    refine VV_fam (fun x : Nat × Nat × Nat => ⟨fr 247 [(0, .ptr e 0 0 1), (1, .sl d 0 T.length T.length), (2, .sl sb 0 S.length S.length), (6, .p (.int .i64 (x.2.2 : Nat))), (7, .p .nilIface), (8, .p (.int .i64 (x.2.1 : Nat)))], h.set d (.cells 1 (bts (upto T x.2.2)))⟩)
      (fun x => x.2.1 = 4 * x.1 ∧ x.2.2 = 3 * x.1 ∧ x.1 < M) (fun x => M - x.1) (0, 0, 0) ⟨rfl, rfl, by omega⟩ (Wk.fitsE hup0.symm (by simp)) ?_
    rintro ⟨j, si, n⟩ ⟨hsi, hn, hj⟩ B hb he' hr
    simp only at hsi hn hj
    have w1 : IntKind.i64.wrap ((S.length : Int) - (si : Int)) = ((S.length - si : Nat) : Int) := by simp [IntKind.wrap, IntKind.bits, IntKind.signed]; omega
    have w2 : IntKind.i64.wrap ((T.length : Int) - (n : Int)) = ((T.length - n : Nat) : Int) := by simp [IntKind.wrap, IntKind.bits, IntKind.signed]; omega
    by_cases hg : j + 3 ≤ M
    · have z1 : (8 : Int) ≤ ((S.length - si : Nat) : Int) := by omega
      have z2 : (8 : Int) ≤ ((T.length - n : Nat) : Int) := by omega
      have w3 : IntKind.i64.wrap ((si : Int) + 8) = (si : Int) + 8 := by simp [IntKind.wrap, IntKind.bits, IntKind.signed]; omega
      have w4 : IntKind.i64.wrap ((n : Int) + 6) = ((n + 6 : Nat) : Int) := by simp [IntKind.wrap, IntKind.bits, IntKind.signed]; omega
      have t8 : ((si : Int) + 8).toNat = si + 8 := by omega
      have t8' : (si : Int) ≤ (si : Int) + 8 := by omega
      have t8b : (si : Int) + 8 ≤ (S.length : Int) := by omega
      have hV1 := nv3 s (3 * j)
      have hV2 := nv3 s (3 * (j + 1))
      have hl1 := nv3_lt s (3 * j)
      have hl2 := nv3_lt s (3 * (j + 1))
      have gA := hgr j (by omega)
      have gB' := hgr (j + 1) (by omega)
      simp only [← hTg, show 3 * (j + 1) = n + 3 by omega, show 3 * j = n by omega, show 4 * (j + 1) = si + 4 by omega, show 4 * j = si by omega] at hV1 hV2 hl1 hl2 gA gB'
      generalize nv s n 3 = V1 at *
      generalize nv s (n + 3) 3 = V2 at *
      obtain ⟨r0, c0, hr0, e0, x0, l0, i0, k0⟩ := gA 0 (by decide)
      obtain ⟨r1, c1, hr1, e1, x1, l1, i1, k1⟩ := gA 1 (by decide)
      obtain ⟨r2, c2, hr2, e2, x2, l2, i2, k2⟩ := gA 2 (by decide)
      obtain ⟨r3, c3, hr3, e3, x3, l3, i3, k3⟩ := gA 3 (by decide)
      obtain ⟨r4, c4, hr4, e4, x4, l4, i4, k4⟩ := gB' 0 (by decide)
      obtain ⟨r5, c5, hr5, e5, x5, l5, i5, k5⟩ := gB' 1 (by decide)
      obtain ⟨r6, c6, hr6, e6, x6, l6, i6, k6⟩ := gB' 2 (by decide)
      obtain ⟨r7, c7, hr7, e7, x7, l7, i7, k7⟩ := gB' 3 (by decide)
      rw [Nat.add_zero] at x0
      have x1 : (bts S)[si + 1]? = some (.p (.int .u8 c1.toNat)) := by simpa only [Nat.add_assoc, Nat.reduceAdd] using x1
      have x2 : (bts S)[si + 2]? = some (.p (.int .u8 c2.toNat)) := by simpa only [Nat.add_assoc, Nat.reduceAdd] using x2
      have x3 : (bts S)[si + 3]? = some (.p (.int .u8 c3.toNat)) := by simpa only [Nat.add_assoc, Nat.reduceAdd] using x3
      have x4 : (bts S)[si + 4]? = some (.p (.int .u8 c4.toNat)) := by simpa only [Nat.add_assoc, Nat.reduceAdd] using x4
      have x5 : (bts S)[si + 5]? = some (.p (.int .u8 c5.toNat)) := by simpa only [Nat.add_assoc, Nat.reduceAdd] using x5
      have x6 : (bts S)[si + 6]? = some (.p (.int .u8 c6.toNat)) := by simpa only [Nat.add_assoc, Nat.reduceAdd] using x6
      have x7 : (bts S)[si + 7]? = some (.p (.int .u8 c7.toNat)) := by simpa only [Nat.add_assoc, Nat.reduceAdd] using x7
      have hv : ∃ v : Nat, v = (((((((r0 * 64 + r1) * 64 + r2) * 64 + r3) * 64 + r4) * 64 + r5) * 64 + r6) * 64 + r7) * 65536 := ⟨_, rfl⟩
      obtain ⟨v, hv⟩ := hv
      have hv2 : v = (V1 * 16777216 + V2) * 65536 := by
        have s1 := six V1 hl1
        have s2 := six V2 hl2
        simp only [Nat.mul_zero, Nat.sub_zero, Nat.mul_one, Nat.reduceMul, Nat.reduceSub] at e0 e1 e2 e3 e4 e5 e6 e7
        rw [← e0, ← e1, ← e2, ← e3] at s1
        rw [← e4, ← e5, ← e6, ← e7] at s2
        rw [hv, ← s1, ← s2]
        omega
      simp [w1, w2, z1, z2, w3, t8, t8', t8b, hss, hse, isNilD, hLl, bts_length, x0, l0, i0, k0, x1, l1, i1, k1, x2, l2, i2, k2, x3, l3, i3, k3, x4, l4, i4, k4, x5, l5, i5, k5, x6, l6, i6, k6, x7, l7, i7, k7]
      refine DF_by (ok151 _ r0 r1 r2 r3 r4 r5 r6 r7 v hr0 hr1 hr2 hr3 hr4 hr5 hr6 hr7 hv) ?_
      have nT : (n : Int) ≤ (T.length : Int) := by omega
      have hbt := fun k => (T.getD k 0).toNat_lt
      simp [hG, hsd2, upto_length, nT]
      refine DF_by (ok152 _ d n (T.length - n) v T (hsd2 _) (by omega) (by omega) (bytes8 T n V1 V2 v hV1 hV2 hv2) (by omega) (by omega)) ?_
      simp [w3, w4]
      refine hb _ (j + 2, si + 8, n + 6) (Wk.fits (by simp)) ⟨by simp only; omega, by simp only; omega, by simp only; omega⟩ (by simp only; omega)
    · have z2 : decide ((8 : Int) ≤ ((T.length - n : Nat) : Int)) = false := by simp; omega
      cases z3 : decide ((8 : Int) ≤ ((S.length - si : Nat) : Int))
      · simp [w1, w2, z2, z3]
        refine he' _ _ ?_
        simp
        refine VV_fam (fun x : Nat × Nat × Nat => ⟨fr 247 [(0, .ptr e 0 0 1), (1, .sl d 0 T.length T.length), (2, .sl sb 0 S.length S.length), (6, .p (.int .i64 (x.2.2 : Nat))), (7, .p .nilIface), (8, .p (.int .i64 (x.2.1 : Nat)))], h.set d (.cells 1 (bts (upto T x.2.2)))⟩)
          (fun x => x.2.1 = 4 * x.1 ∧ x.2.2 = 3 * x.1 ∧ x.1 < M ∧ M ≤ x.1 + 2) (fun x => M - x.1) (j, si, n) ⟨hsi, hn, hj, by simp only; omega⟩ (Wk.fits (by simp)) ?_
        clear hn hsi hj w1 w2 z2 z3 hb hr hg he'
        clear hup0
        clear B
        rintro ⟨j, si, n⟩ ⟨hsi, hn, hj, hj2⟩ B2 hb2 he2 hr2
        simp only at hsi hn hj hj2
        have w1 : IntKind.i64.wrap ((S.length : Int) - (si : Int)) = ((S.length - si : Nat) : Int) := by simp [IntKind.wrap, IntKind.bits, IntKind.signed]; omega
        have w2 : IntKind.i64.wrap ((T.length : Int) - (n : Int)) = ((T.length - n : Nat) : Int) := by simp [IntKind.wrap, IntKind.bits, IntKind.signed]; omega
        have z1 : (4 : Int) ≤ ((S.length - si : Nat) : Int) := by omega
        have nT : (n : Int) ≤ (T.length : Int) := by omega
        by_cases hg : j + 2 ≤ M
        · have z2 : (4 : Int) ≤ ((T.length - n : Nat) : Int) := by omega
          have w3 : IntKind.i64.wrap ((si : Int) + 4) = (si : Int) + 4 := by simp [IntKind.wrap, IntKind.bits, IntKind.signed]; omega
          have w4 : IntKind.i64.wrap ((n : Int) + 3) = ((n + 3 : Nat) : Int) := by simp [IntKind.wrap, IntKind.bits, IntKind.signed]; omega
          have t8 : ((si : Int) + 4).toNat = si + 4 := by omega
          have t8' : (si : Int) ≤ (si : Int) + 4 := by omega
          have t8b : (si : Int) + 4 ≤ (S.length : Int) := by omega
          have hV1 := nv3 s (3 * j)
          have hl1 := nv3_lt s (3 * j)
          have gA := hgr j (by omega)
          simp only [← hTg, show 3 * j = n by omega, show 4 * j = si by omega] at hV1 hl1 gA
          generalize nv s n 3 = V1 at *
          obtain ⟨r0, c0, hr0, e0, x0, l0, i0, k0⟩ := gA 0 (by decide)
          obtain ⟨r1, c1, hr1, e1, x1, l1, i1, k1⟩ := gA 1 (by decide)
          obtain ⟨r2, c2, hr2, e2, x2, l2, i2, k2⟩ := gA 2 (by decide)
          obtain ⟨r3, c3, hr3, e3, x3, l3, i3, k3⟩ := gA 3 (by decide)
          rw [Nat.add_zero] at x0
          obtain ⟨v, hv⟩ : ∃ v : Nat, v = (((r0 * 64 + r1) * 64 + r2) * 64 + r3) * 256 := ⟨_, rfl⟩
          have hv2 : v = V1 * 256 := by
            have s1 := six V1 hl1
            simp only [Nat.mul_zero, Nat.sub_zero, Nat.mul_one, Nat.reduceMul, Nat.reduceSub] at e0 e1 e2 e3
            rw [← e0, ← e1, ← e2, ← e3] at s1
            rw [hv, ← s1]
          simp [w1, w2, z1, z2, w3, t8, t8', t8b, hss, hse, isNilD, hLl, bts_length, x0, l0, i0, k0, x1, l1, i1, k1, x2, l2, i2, k2, x3, l3, i3, k3]
          refine DF_by (ok154 _ r0 r1 r2 r3 v hr0 hr1 hr2 hr3 hv) ?_
          simp [hG, hsd2, upto_length, nT]
          refine DF_by (ok155 _ d n (T.length - n) v T (hsd2 _) (by omega) (by omega) (bytes4 T n V1 v hV1 hv2) (by omega)) ?_
          simp [w3, w4]
          refine hb2 _ (j + 1, si + 4, n + 3) (Wk.fits (by simp)) ⟨by simp only; omega, by simp only; omega, by simp only; omega, by simp only; omega⟩ (by simp only; omega)
        · have z2 : decide ((4 : Int) ≤ ((T.length - n : Nat) : Int)) = false := by simp; omega
          simp [w1, w2, z1, z2]
          refine he2 _ _ ?_
          simp
          have hlast : S.length = si + 4 := by omega
          have hTn : T.length = n + 3 := by omega
          have b1 : (si : Int) < (S.length : Int) := by omega
          have d3 : T.length - n = 3 := by omega
          have hc4 := hcs j
          have hV := nv3 s (3 * j)
          simp only [← hTg, show 3 * j = n by omega, show 4 * j = si by omega] at hc4 hV
          obtain ⟨l, hl, hl2, hcall⟩ : ∃ l : Nat, n + l = s.length ∧ l ≤ 3 ∧ Ok Try.prog GB 153 [.ptr e 0 0 1, .sl d n 3 T.length, .sl sb 0 S.length S.length, .p (.int .i64 si)] (h.set d (.cells 1 (bts (upto T n)))) (.tup [.p (.int .i64 S.length), .p (.int .i64 l), .p .nilIface]) (h.set d (.cells 1 (bts (upto T (n + l))))) := by
            have hset : ∀ X Y, (h.set d X).set d Y = h.set d Y := fun X Y => by simp
            have hE : ∀ X, (h.set d X)[e]? = some (encB (dm 64)) := fun X => by rw [List.getElem?_set_ne (Ne.symm hed), he0]
            rcases (show s.length = n + 1 ∨ s.length = n + 2 ∨ s.length = n + 3 by omega) with hx | hx | hx
            · refine ⟨1, hx.symm, by decide, ?_⟩
              have := ok153_1 (G := GB) (h.set d (.cells 1 (bts (upto T n)))) e d sb n si (nv s n 3) T S (hE _) (hsd2 _) (hss _) hed hsd hTn hlast (by omega) (fun k hk => by rw [hc4 k (by omega) hk, show s.length - n = 1 by omega]) hV (by rw [hTg]; simp [List.getD, show ¬ n + 1 < s.length by omega]) (by rw [hTg]; simp [List.getD, show ¬ n + 2 < s.length by omega])
              rwa [hset] at this
            · refine ⟨2, hx.symm, by decide, ?_⟩
              have := ok153_2 (G := GB) (h.set d (.cells 1 (bts (upto T n)))) e d sb n si (nv s n 3) T S (hE _) (hsd2 _) (hss _) hed hsd hTn hlast (by omega) (fun k hk => by rw [hc4 k (by omega) hk, show s.length - n = 2 by omega]) hV (by rw [hTg]; simp [List.getD, show ¬ n + 2 < s.length by omega])
              rwa [hset] at this
            · refine ⟨3, hx.symm, by decide, ?_⟩
              have := ok153_3 (G := GB) (h.set d (.cells 1 (bts (upto T n)))) e d sb n si (nv s n 3) T S (hE _) (hsd2 _) (hss _) hed hsd hTn hlast (by omega) (fun k hk => by rw [hc4 k (by omega) hk, show s.length - n = 3 by omega]) hV
              rwa [hset] at this
          have w5 : IntKind.i64.wrap ((n : Int) + (l : Int)) = (s.length : Int) := by rw [← hl]; simp [IntKind.wrap, IntKind.bits, IntKind.signed]; omega
          refine VV_unroll 2 ?_
          simp [b1, hsd2, upto_length, nT, d3]
          refine FF_by hcall ?_
          simp [isNilD, w5, hl, hup]
          exact WkV.refl
      · simp [w1, w2, z2, z3]
        refine he' _ _ ?_
        simp
        refine VV_fam (fun x : Nat × Nat × Nat => ⟨fr 247 [(0, .ptr e 0 0 1), (1, .sl d 0 T.length T.length), (2, .sl sb 0 S.length S.length), (6, .p (.int .i64 (x.2.2 : Nat))), (7, .p .nilIface), (8, .p (.int .i64 (x.2.1 : Nat)))], h.set d (.cells 1 (bts (upto T x.2.2)))⟩)
          (fun x => x.2.1 = 4 * x.1 ∧ x.2.2 = 3 * x.1 ∧ x.1 < M ∧ M ≤ x.1 + 2) (fun x => M - x.1) (j, si, n) ⟨hsi, hn, hj, by simp only; omega⟩ (Wk.fits (by simp)) ?_
        clear hn hsi hj w1 w2 z2 z3 hb hr hg he'
        clear hup0
        clear B
        rintro ⟨j, si, n⟩ ⟨hsi, hn, hj, hj2⟩ B2 hb2 he2 hr2
        simp only at hsi hn hj hj2
        have w1 : IntKind.i64.wrap ((S.length : Int) - (si : Int)) = ((S.length - si : Nat) : Int) := by simp [IntKind.wrap, IntKind.bits, IntKind.signed]; omega
        have w2 : IntKind.i64.wrap ((T.length : Int) - (n : Int)) = ((T.length - n : Nat) : Int) := by simp [IntKind.wrap, IntKind.bits, IntKind.signed]; omega
        have z1 : (4 : Int) ≤ ((S.length - si : Nat) : Int) := by omega
        have nT : (n : Int) ≤ (T.length : Int) := by omega
        by_cases hg : j + 2 ≤ M
        · have z2 : (4 : Int) ≤ ((T.length - n : Nat) : Int) := by omega
          have w3 : IntKind.i64.wrap ((si : Int) + 4) = (si : Int) + 4 := by simp [IntKind.wrap, IntKind.bits, IntKind.signed]; omega
          have w4 : IntKind.i64.wrap ((n : Int) + 3) = ((n + 3 : Nat) : Int) := by simp [IntKind.wrap, IntKind.bits, IntKind.signed]; omega
          have t8 : ((si : Int) + 4).toNat = si + 4 := by omega
          have t8' : (si : Int) ≤ (si : Int) + 4 := by omega
          have t8b : (si : Int) + 4 ≤ (S.length : Int) := by omega
          have hV1 := nv3 s (3 * j)
          have hl1 := nv3_lt s (3 * j)
          have gA := hgr j (by omega)
          simp only [← hTg, show 3 * j = n by omega, show 4 * j = si by omega] at hV1 hl1 gA
          generalize nv s n 3 = V1 at *
          obtain ⟨r0, c0, hr0, e0, x0, l0, i0, k0⟩ := gA 0 (by decide)
          obtain ⟨r1, c1, hr1, e1, x1, l1, i1, k1⟩ := gA 1 (by decide)
          obtain ⟨r2, c2, hr2, e2, x2, l2, i2, k2⟩ := gA 2 (by decide)
          obtain ⟨r3, c3, hr3, e3, x3, l3, i3, k3⟩ := gA 3 (by decide)
          rw [Nat.add_zero] at x0
          obtain ⟨v, hv⟩ : ∃ v : Nat, v = (((r0 * 64 + r1) * 64 + r2) * 64 + r3) * 256 := ⟨_, rfl⟩
          have hv2 : v = V1 * 256 := by
            have s1 := six V1 hl1
            simp only [Nat.mul_zero, Nat.sub_zero, Nat.mul_one, Nat.reduceMul, Nat.reduceSub] at e0 e1 e2 e3
            rw [← e0, ← e1, ← e2, ← e3] at s1
            rw [hv, ← s1]
          simp [w1, w2, z1, z2, w3, t8, t8', t8b, hss, hse, isNilD, hLl, bts_length, x0, l0, i0, k0, x1, l1, i1, k1, x2, l2, i2, k2, x3, l3, i3, k3]
          refine DF_by (ok154 _ r0 r1 r2 r3 v hr0 hr1 hr2 hr3 hv) ?_
          simp [hG, hsd2, upto_length, nT]
          refine DF_by (ok155 _ d n (T.length - n) v T (hsd2 _) (by omega) (by omega) (bytes4 T n V1 v hV1 hv2) (by omega)) ?_
          simp [w3, w4]
          refine hb2 _ (j + 1, si + 4, n + 3) (Wk.fits (by simp)) ⟨by simp only; omega, by simp only; omega, by simp only; omega, by simp only; omega⟩ (by simp only; omega)
        · have z2 : decide ((4 : Int) ≤ ((T.length - n : Nat) : Int)) = false := by simp; omega
          simp [w1, w2, z1, z2]
          refine he2 _ _ ?_
          simp
          have hlast : S.length = si + 4 := by omega
          have hTn : T.length = n + 3 := by omega
          have b1 : (si : Int) < (S.length : Int) := by omega
          have d3 : T.length - n = 3 := by omega
          have hc4 := hcs j
          have hV := nv3 s (3 * j)
          simp only [← hTg, show 3 * j = n by omega, show 4 * j = si by omega] at hc4 hV
          obtain ⟨l, hl, hl2, hcall⟩ : ∃ l : Nat, n + l = s.length ∧ l ≤ 3 ∧ Ok Try.prog GB 153 [.ptr e 0 0 1, .sl d n 3 T.length, .sl sb 0 S.length S.length, .p (.int .i64 si)] (h.set d (.cells 1 (bts (upto T n)))) (.tup [.p (.int .i64 S.length), .p (.int .i64 l), .p .nilIface]) (h.set d (.cells 1 (bts (upto T (n + l))))) := by
            have hset : ∀ X Y, (h.set d X).set d Y = h.set d Y := fun X Y => by simp
            have hE : ∀ X, (h.set d X)[e]? = some (encB (dm 64)) := fun X => by rw [List.getElem?_set_ne (Ne.symm hed), he0]
            rcases (show s.length = n + 1 ∨ s.length = n + 2 ∨ s.length = n + 3 by omega) with hx | hx | hx
            · refine ⟨1, hx.symm, by decide, ?_⟩
              have := ok153_1 (G := GB) (h.set d (.cells 1 (bts (upto T n)))) e d sb n si (nv s n 3) T S (hE _) (hsd2 _) (hss _) hed hsd hTn hlast (by omega) (fun k hk => by rw [hc4 k (by omega) hk, show s.length - n = 1 by omega]) hV (by rw [hTg]; simp [List.getD, show ¬ n + 1 < s.length by omega]) (by rw [hTg]; simp [List.getD, show ¬ n + 2 < s.length by omega])
              rwa [hset] at this
            · refine ⟨2, hx.symm, by decide, ?_⟩
              have := ok153_2 (G := GB) (h.set d (.cells 1 (bts (upto T n)))) e d sb n si (nv s n 3) T S (hE _) (hsd2 _) (hss _) hed hsd hTn hlast (by omega) (fun k hk => by rw [hc4 k (by omega) hk, show s.length - n = 2 by omega]) hV (by rw [hTg]; simp [List.getD, show ¬ n + 2 < s.length by omega])
              rwa [hset] at this
            · refine ⟨3, hx.symm, by decide, ?_⟩
              have := ok153_3 (G := GB) (h.set d (.cells 1 (bts (upto T n)))) e d sb n si (nv s n 3) T S (hE _) (hsd2 _) (hss _) hed hsd hTn hlast (by omega) (fun k hk => by rw [hc4 k (by omega) hk, show s.length - n = 3 by omega]) hV
              rwa [hset] at this
          have w5 : IntKind.i64.wrap ((n : Int) + (l : Int)) = (s.length : Int) := by rw [← hl]; simp [IntKind.wrap, IntKind.bits, IntKind.signed]; omega
          refine VV_unroll 2 ?_
          simp [b1, hsd2, upto_length, nT, d3]
          refine FF_by hcall ?_
          simp [isNilD, w5, hl, hup]
          exact WkV.refl
end Go.Proofs.Ytdgnjngbheecnaa

