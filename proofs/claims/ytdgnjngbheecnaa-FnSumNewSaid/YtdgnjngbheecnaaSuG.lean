/- Checksums: base64's decodeQuantum. -/
import Derived.Test.YtdgnjngbheecnaaSuF
set_option linter.unusedVariables false
set_option linter.unusedSimpArgs false
set_option maxRecDepth 100000
namespace Go.Proofs.Ytdgnjngbheecnaa
open Go Go.Den Go.Proofs

theorem set_up2 (T : List UInt8) (p : Nat) (a b : UInt8) (ha : T[p]? = some a) (hb : T[p + 1]? = some b) : ((upto T p).set (p + 1) b).set p a = upto T (p + 2) := by
  rw [List.set_comm _ _ (by omega), upto_set T p a ha, upto_set T (p + 1) b hb]
theorem set_up3 (T : List UInt8) (p : Nat) (a b c : UInt8) (ha : T[p]? = some a) (hb : T[p + 1]? = some b) (hc : T[p + 2]? = some c) : (((upto T p).set (p + 2) c).set (p + 1) b).set p a = upto T (p + 3) := by
  rw [List.set_comm _ _ (by omega), List.set_comm (i := p + 2) _ _ (by omega), List.set_comm (i := p + 2) _ _ (by omega), upto_set T p a ha, upto_set T (p + 1) b hb, upto_set T (p + 2) c hc]
theorem or6 (a b c d : Nat) (ha : a < 64) (hb : b < 64) (hc : c < 64) (hd : d < 64) : ior .u64 (ior .u64 (ior .u64 (ishl .u64 (a : Int) 18) (ishl .u64 (b : Int) 12)) (ishl .u64 (c : Int) 6)) (d : Int) = (((((a * 64 + b) * 64 + c) * 64 + d : Nat)) : Int) := by
  obtain ⟨y1, i1, j1⟩ := shK .u64 rfl a 18 ha (by decide)
  obtain ⟨y2, i2, j2⟩ := shK .u64 rfl b 12 hb (by decide)
  obtain ⟨y3, i3, j3⟩ := shK .u64 rfl c 6 hc (by decide)
  obtain ⟨z2, k2, l2⟩ := orK .u64 rfl a b 12 y1 y2 hb (by decide) (by simp only [IntKind.bits]; omega) i1 i2
  obtain ⟨z3, k3, l3⟩ := orK .u64 rfl _ c 6 z2 y3 hc (by decide) (by simp only [IntKind.bits]; omega) k2 i3
  obtain ⟨z4, k4, l4⟩ := orK .u64 rfl _ d 0 z3 d hd (by decide) (by simp only [IntKind.bits]; omega) k3 (by simp)
  replace j1 : ishl .u64 (a : Int) 18 = (y1 : Int) := j1
  replace j2 : ishl .u64 (b : Int) 12 = (y2 : Int) := j2
  replace j3 : ishl .u64 (c : Int) 6 = (y3 : Int) := j3
  rw [j1, j2, j3, l2, l3, l4, k4]
  simp
theorem dm_get (D : List DV) (hD : D = bts alph ++ (bts (dm 64) ++ [DV.p (.int .i32 61), .p (.bool false)])) : (∀ r, r < 64 → D[64 + (alph.getD r 0).toNat]? = some (.p (.int .u8 r))) ∧ D[125]? = some (.p (.int .u8 255)) ∧ D[320]? = some (.p (.int .i32 61)) ∧ D[321]? = some (.p (.bool false)) ∧ D.length = 322 := by
  have ha : (bts alph).length = 64 := by rw [bts_length, alph_length]
  have hd : (bts (dm 64)).length = 256 := by rw [bts_length, dm_length]
  subst hD
  refine ⟨fun r hr => ?_, ?_, ?_, ?_, by simp [ha, hd]⟩
  · have h1 := (dm_back ⟨r, hr⟩).1
    simp only at h1
    have h2 := (alph.getD r 0).toNat_lt
    rw [List.getElem?_append_right (by omega), List.getElem?_append_left (by omega), ha, show 64 + (alph.getD r 0).toNat - 64 = (alph.getD r 0).toNat by omega, bts, List.getElem?_map, h1]
    have : (UInt8.ofNat r).toNat = r := by simp; omega
    simp only [Option.map_some, byteD, this]
  · rw [List.getElem?_append_right (by omega), List.getElem?_append_left (by omega), ha, bts, List.getElem?_map, dm_pad]
    rfl
  · rw [List.getElem?_append_right (by omega), List.getElem?_append_right (by omega), ha, hd]
    rfl
  · rw [List.getElem?_append_right (by omega), List.getElem?_append_right (by omega), ha, hd]
    rfl
theorem ok153_1 {G : Nat → DV} (h : List Blk) (e d sb p si V : Nat) (T S : List UInt8) (he : h[e]? = some (encB (dm 64))) (hd : h[d]? = some (.cells 1 (bts (upto T p)))) (hsb : h[sb]? = some (.cells 1 (bts S))) (hed : e ≠ d) (hsd : sb ≠ d)
    (hp : T.length = p + 3) (hS : S.length = si + 4) (hsi : S.length ≤ 4000) (hc : ∀ k, k < 4 → S[si + k]? = some (sgk V 1 k)) (hV : V = (T.getD p 0).toNat * 65536 + (T.getD (p + 1) 0).toNat * 256 + (T.getD (p + 2) 0).toNat) (hz1 : T.getD (p + 1) 0 = 0) (hz2 : T.getD (p + 2) 0 = 0) :
    Ok Try.prog G 153 [.ptr e 0 0 1, .sl d p 3 T.length, .sl sb 0 S.length S.length, .p (.int .i64 si)] h (.tup [.p (.int .i64 S.length), .p (.int .i64 1), .p .nilIface]) (h.set d (.cells 1 (bts (upto T (p + 1))))) := by
  refine Ok_by Try.func153 c153_ok r153_ok 246 rfl ?_
  have hdl : d < h.length := (List.getElem?_eq_some_iff.1 hd).1
  have hVl : V < 16777216 := by
    have h0 := (T.getD p 0).toNat_lt
    have h1 := (T.getD (p + 1) 0).toNat_lt
    have h2 := (T.getD (p + 2) 0).toNat_lt
    omega
  have hk : ∀ k, k < 2 → ∃ (r : Nat) (c : UInt8), r < 64 ∧ r = V / 2 ^ (18 - 6 * k) % 64 ∧ c = alph.getD r 0 ∧ S[si + k]? = some c := fun k hk => by
    refine ⟨V / 2 ^ (18 - 6 * k) % 64, _, Nat.mod_lt _ (by decide), rfl, rfl, ?_⟩
    rw [hc k (by omega), sgk, if_pos (by omega)]
  have hq : ∀ k, k < 4 → 2 ≤ k → S[si + k]? = some 61 := fun k hk hk2 => by
    rw [hc k hk, sgk, if_neg (by omega)]
  obtain ⟨hL, L125, L320, L321, hLl⟩ := dm_get _ rfl
  rw [encB] at he
  generalize (bts alph ++ (bts (dm 64) ++ [DV.p (.int .i32 61), .p (.bool false)])) = L at *
  obtain ⟨r0, c0, hr0, e0, a0, t0⟩ := hk 0 (by decide)
  obtain ⟨r1, c1, hr1, e1, a1, t1⟩ := hk 1 (by decide)
  have l0 := hL r0 hr0
  rw [← a0] at l0
  have b0 := c0.toNat_lt
  have l1 := hL r1 hr1
  rw [← a1] at l1
  have b1 := c1.toNat_lt
  obtain ⟨_, L125⟩ := List.getElem?_eq_some_iff.1 L125
  obtain ⟨_, L320⟩ := List.getElem?_eq_some_iff.1 L320
  obtain ⟨_, L321⟩ := List.getElem?_eq_some_iff.1 L321
  have t2 := hq 2 (by decide) (by decide)
  have t3 := hq 3 (by decide) (by decide)
  have x0 : (bts S)[si + 0]? = some (.p (.int .u8 c0.toNat)) := by rw [bts, List.getElem?_map, t0]; rfl
  rw [Nat.add_zero] at x0
  have x1 : (bts S)[si + 1]? = some (.p (.int .u8 c1.toNat)) := by rw [bts, List.getElem?_map, t1]; rfl
  have x2 : (bts S)[si + 2]? = some (.p (.int .u8 (61 : UInt8).toNat)) := by rw [bts, List.getElem?_map, t2]; rfl
  rw [show (((61 : UInt8).toNat : Nat) : Int) = 61 from rfl] at x2
  have x3 : (bts S)[si + 3]? = some (.p (.int .u8 (61 : UInt8).toNat)) := by rw [bts, List.getElem?_map, t3]; rfl
  rw [show (((61 : UInt8).toNat : Nat) : Int) = 61 from rfl] at x3
  have hor := or6 r0 r1 0 0 hr0 hr1 (by decide) (by decide)
  rw [hz1, hz2] at hV
  simp only [show (0 : UInt8).toNat = 0 from rfl, Nat.zero_mul, Nat.add_zero] at hV
  rw [show ((r0 * 64 + r1) * 64 + 0) * 64 + 0 = V by omega] at hor
  simp only [show ((0 : Nat) : Int) = 0 from rfl] at hor
  have y0 : IntKind.u8.wrap (ishr .u64 (V : Int) 16) = ((T.getD p 0).toNat : Int) := by
    have := byteAt (K := .u64) V 16 (by decide)
    rw [show V / 2 ^ 16 % 256 = (T.getD p 0).toNat by have := (T.getD p 0).toNat_lt; have := (T.getD (p + 1) 0).toNat_lt; have := (T.getD (p + 2) 0).toNat_lt; omega] at this
    exact this
  have T0 : T[p]? = some (T.getD p 0) := by simp [List.getD, show p < T.length by omega]
  have hup := upto_set T p _ T0
  generalize T.getD p 0 = v0 at *
  have g0 : (bts (upto T p))[p]? = some (.p (.int .u8 0)) := by rw [bts, List.getElem?_map, upto_get T _ _ (by omega), if_neg (by omega)]; rfl
  have hul := upto_length T p
  have hug : ∀ q, p ≤ q → q < p + 3 → (upto T p)[q]? = some 0 := fun q h1 h2 => by rw [upto_get T _ _ (by omega), if_neg (by omega)]
  have s0 : (bts (upto T p)).set p (.p (.int .u8 v0.toNat)) = bts (upto T (p + 1)) := by
    rw [← hup]
    exact bts_set _ _ _
  have hd2 : ∀ x : List Blk, (h ++ x)[d]? = some (.cells 1 (bts (upto T p))) := fun x => get_pre hd x
  have he2 : ∀ x : List Blk, (h ++ x)[e]? = some (.cells 322 [.agg L]) := fun x => get_pre he x
  have hb2 : ∀ x : List Blk, (h ++ x)[sb]? = some (.cells 1 (bts S)) := fun x => get_pre hsb x
  have hs2 : ∀ (x : List Blk) y, (h ++ x).set d y = h.set d y ++ x := fun x y => List.set_append_left _ _ hdl
  have hd3 : ∀ (x : List Blk) y, (h.set d y ++ x)[d]? = some y := fun x y => by rw [List.getElem?_append_left (by simpa using hdl)]; simp [hdl]
  have he3 : ∀ (x : List Blk) y, (h.set d y ++ x)[e]? = some (.cells 322 [.agg L]) := fun x y => by
    refine get_pre ?_ x
    rw [List.getElem?_set_ne (Ne.symm hed)]; exact he
  have hs3 : ∀ (x : List Blk) y z, (h.set d y ++ x).set d z = h.set d z ++ x := fun x y z => by rw [List.set_append_left _ _ (by simpa using hdl)]; simp
  have hn3 : ∀ (x : List Blk) y z, (h.set d y ++ x).set h.length z = h.set d y ++ x.set 0 z := fun x y z => by rw [List.set_append_right _ _ (by simp)]; simp
  have hn4 : ∀ (x : List Blk) y, (h.set d y ++ x)[h.length]? = x[0]? := fun x y => by rw [List.getElem?_append_right (by simp)]; simp
  have wz : IntKind.u64.wrap 0 = 0 := rfl
  have wp : IntKind.i32.wrap 61 = 61 := rfl
  have wr1 : IntKind.i64.wrap 1 = 1 := rfl
  have wr2 : IntKind.i64.wrap 2 = 2 := rfl
  have wr3 : IntKind.i64.wrap 3 = 3 := rfl
  have wr4 : IntKind.i64.wrap 4 = 4 := rfl
  have wi : ∀ k : Nat, k < 4 → IntKind.i64.wrap (((si + k : Nat) : Int) + 1) = ((si + (k + 1) : Nat) : Int) := fun k hk => wrap_succ (n := S.length) (by omega) (by omega)
  have w0 : IntKind.i64.wrap ((si : Int) + 1) = (si : Int) + 1 := wi 0 (by decide)
  have o0 : (si : Int) < (S.length : Int) := by omega
  have n0 : ((S.length : Int) == (si : Int)) = false := by simp; omega
  have w1 : IntKind.i64.wrap (((si : Int) + 1) + 1) = (si : Int) + 2 := wi 1 (by decide)
  have q1 : ((si : Int) + 1).toNat = si + 1 := by omega
  have p1 : (0 : Int) ≤ (si : Int) + 1 := by omega
  have o1 : ((si : Int) + 1) < (S.length : Int) := by omega
  have n1 : ((S.length : Int) == ((si : Int) + 1)) = false := by simp; omega
  have w2 : IntKind.i64.wrap (((si : Int) + 2) + 1) = (si : Int) + 3 := wi 2 (by decide)
  have q2 : ((si : Int) + 2).toNat = si + 2 := by omega
  have p2 : (0 : Int) ≤ (si : Int) + 2 := by omega
  have o2 : ((si : Int) + 2) < (S.length : Int) := by omega
  have n2 : ((S.length : Int) == ((si : Int) + 2)) = false := by simp; omega
  have w3 : IntKind.i64.wrap (((si : Int) + 3) + 1) = (si : Int) + 4 := wi 3 (by decide)
  have q3 : ((si : Int) + 3).toNat = si + 3 := by omega
  have p3 : (0 : Int) ≤ (si : Int) + 3 := by omega
  have o3 : ((si : Int) + 3) < (S.length : Int) := by omega
  have n3 : ((S.length : Int) == ((si : Int) + 3)) = false := by simp; omega
  have o4 : ¬ ((si : Int) + 4 < (S.length : Int)) := by omega
  have eS : (si : Int) + 4 = (S.length : Int) := by omega
  have nS3 : ((si : Int) + 3 == (S.length : Int)) = false := by simp; omega
  have f0 : ((r0 : Int) != 255) = true := by simp; omega
  have h0 : (c0.toNat : Int) < 256 := by omega
  have k0 : 64 + c0.toNat ≤ 321 := by omega
  have u0 : IntKind.u64.wrap (r0 : Int) = (r0 : Int) := w64 r0 hr0
  have f1 : ((r1 : Int) != 255) = true := by simp; omega
  have h1 : (c1.toNat : Int) < 256 := by omega
  have k1 : 64 + c1.toNat ≤ 321 := by omega
  have u1 : IntKind.u64.wrap (r1 : Int) = (r1 : Int) := w64 r1 hr1
  simp [c153, r153, KON_blk_ext, hd2, he2, hb2, hs2, hd3, he3, hs3, hn3, hn4, wz, wp, wr1, wr2, wr3, wr4, isNilD, upto_length, L125, L320, L321, hLl, hor, eS, nS3, o4, hul, w0, w1, w2, w3, q1, q2, q3, p1, p2, p3, o0, o1, o2, o3, n0, n1, n2, n3, x0, x1, x2, x3, l0, l1, f0, h0, k0, u0, f1, h1, k1, u1, y0, s0, g0]
  refine VV_unroll 5 ?_
  simp [KON_blk_ext, hd2, he2, hb2, hs2, hd3, he3, hs3, hn3, hn4, wz, wp, wr1, wr2, wr3, wr4, isNilD, upto_length, L125, L320, L321, hLl, hor, eS, nS3, o4, hul, w0, w1, w2, w3, q1, q2, q3, p1, p2, p3, o0, o1, o2, o3, n0, n1, n2, n3, x0, x1, x2, x3, l0, l1, f0, h0, k0, u0, f1, h1, k1, u1, y0, s0, g0]
  refine VV_unroll 1 ?_
  simp [KON_blk_ext, hd2, he2, hb2, hs2, hd3, he3, hs3, hn3, hn4, wz, wp, wr1, wr2, wr3, wr4, isNilD, upto_length, L125, L320, L321, hLl, hor, eS, nS3, o4, hul, w0, w1, w2, w3, q1, q2, q3, p1, p2, p3, o0, o1, o2, o3, n0, n1, n2, n3, x0, x1, x2, x3, l0, l1, f0, h0, k0, u0, f1, h1, k1, u1, y0, s0, g0]
  refine VV_unroll 1 ?_
  simp [KON_blk_ext, hd2, he2, hb2, hs2, hd3, he3, hs3, hn3, hn4, wz, wp, wr1, wr2, wr3, wr4, isNilD, upto_length, L125, L320, L321, hLl, hor, eS, nS3, o4, hul, w0, w1, w2, w3, q1, q2, q3, p1, p2, p3, o0, o1, o2, o3, n0, n1, n2, n3, x0, x1, x2, x3, l0, l1, f0, h0, k0, u0, f1, h1, k1, u1, y0, s0, g0]
  refine WkV.drop ?_ (fun hh => hh.set wf_bts) ?_ <;> simp
theorem ok153_2 {G : Nat → DV} (h : List Blk) (e d sb p si V : Nat) (T S : List UInt8) (he : h[e]? = some (encB (dm 64))) (hd : h[d]? = some (.cells 1 (bts (upto T p)))) (hsb : h[sb]? = some (.cells 1 (bts S))) (hed : e ≠ d) (hsd : sb ≠ d)
    (hp : T.length = p + 3) (hS : S.length = si + 4) (hsi : S.length ≤ 4000) (hc : ∀ k, k < 4 → S[si + k]? = some (sgk V 2 k)) (hV : V = (T.getD p 0).toNat * 65536 + (T.getD (p + 1) 0).toNat * 256 + (T.getD (p + 2) 0).toNat) (hz2 : T.getD (p + 2) 0 = 0) :
    Ok Try.prog G 153 [.ptr e 0 0 1, .sl d p 3 T.length, .sl sb 0 S.length S.length, .p (.int .i64 si)] h (.tup [.p (.int .i64 S.length), .p (.int .i64 2), .p .nilIface]) (h.set d (.cells 1 (bts (upto T (p + 2))))) := by
  refine Ok_by Try.func153 c153_ok r153_ok 246 rfl ?_
  have hdl : d < h.length := (List.getElem?_eq_some_iff.1 hd).1
  have hVl : V < 16777216 := by
    have h0 := (T.getD p 0).toNat_lt
    have h1 := (T.getD (p + 1) 0).toNat_lt
    have h2 := (T.getD (p + 2) 0).toNat_lt
    omega
  have hk : ∀ k, k < 3 → ∃ (r : Nat) (c : UInt8), r < 64 ∧ r = V / 2 ^ (18 - 6 * k) % 64 ∧ c = alph.getD r 0 ∧ S[si + k]? = some c := fun k hk => by
    refine ⟨V / 2 ^ (18 - 6 * k) % 64, _, Nat.mod_lt _ (by decide), rfl, rfl, ?_⟩
    rw [hc k (by omega), sgk, if_pos (by omega)]
  have hq : ∀ k, k < 4 → 3 ≤ k → S[si + k]? = some 61 := fun k hk hk2 => by
    rw [hc k hk, sgk, if_neg (by omega)]
  obtain ⟨hL, L125, L320, L321, hLl⟩ := dm_get _ rfl
  rw [encB] at he
  generalize (bts alph ++ (bts (dm 64) ++ [DV.p (.int .i32 61), .p (.bool false)])) = L at *
  obtain ⟨r0, c0, hr0, e0, a0, t0⟩ := hk 0 (by decide)
  obtain ⟨r1, c1, hr1, e1, a1, t1⟩ := hk 1 (by decide)
  obtain ⟨r2, c2, hr2, e2, a2, t2⟩ := hk 2 (by decide)
  have l0 := hL r0 hr0
  rw [← a0] at l0
  have b0 := c0.toNat_lt
  have l1 := hL r1 hr1
  rw [← a1] at l1
  have b1 := c1.toNat_lt
  have l2 := hL r2 hr2
  rw [← a2] at l2
  have b2 := c2.toNat_lt
  obtain ⟨_, L125⟩ := List.getElem?_eq_some_iff.1 L125
  obtain ⟨_, L320⟩ := List.getElem?_eq_some_iff.1 L320
  obtain ⟨_, L321⟩ := List.getElem?_eq_some_iff.1 L321
  have t3 := hq 3 (by decide) (by decide)
  have x0 : (bts S)[si + 0]? = some (.p (.int .u8 c0.toNat)) := by rw [bts, List.getElem?_map, t0]; rfl
  rw [Nat.add_zero] at x0
  have x1 : (bts S)[si + 1]? = some (.p (.int .u8 c1.toNat)) := by rw [bts, List.getElem?_map, t1]; rfl
  have x2 : (bts S)[si + 2]? = some (.p (.int .u8 c2.toNat)) := by rw [bts, List.getElem?_map, t2]; rfl
  have x3 : (bts S)[si + 3]? = some (.p (.int .u8 (61 : UInt8).toNat)) := by rw [bts, List.getElem?_map, t3]; rfl
  rw [show (((61 : UInt8).toNat : Nat) : Int) = 61 from rfl] at x3
  have hor := or6 r0 r1 r2 0 hr0 hr1 hr2 (by decide)
  rw [hz2] at hV
  simp only [show (0 : UInt8).toNat = 0 from rfl, Nat.add_zero] at hV
  rw [show ((r0 * 64 + r1) * 64 + r2) * 64 + 0 = V by omega] at hor
  simp only [show ((0 : Nat) : Int) = 0 from rfl] at hor
  have y0 : IntKind.u8.wrap (ishr .u64 (V : Int) 16) = ((T.getD p 0).toNat : Int) := by
    have := byteAt (K := .u64) V 16 (by decide)
    rw [show V / 2 ^ 16 % 256 = (T.getD p 0).toNat by have := (T.getD p 0).toNat_lt; have := (T.getD (p + 1) 0).toNat_lt; have := (T.getD (p + 2) 0).toNat_lt; omega] at this
    exact this
  have y1 : IntKind.u8.wrap (ishr .u64 (V : Int) 8) = ((T.getD (p + 1) 0).toNat : Int) := by
    have := byteAt (K := .u64) V 8 (by decide)
    rw [show V / 2 ^ 8 % 256 = (T.getD (p + 1) 0).toNat by have := (T.getD p 0).toNat_lt; have := (T.getD (p + 1) 0).toNat_lt; have := (T.getD (p + 2) 0).toNat_lt; omega] at this
    exact this
  have T0 : T[p]? = some (T.getD p 0) := by simp [List.getD, show p < T.length by omega]
  have T1 : T[p + 1]? = some (T.getD (p + 1) 0) := by simp [List.getD, show (p + 1) < T.length by omega]
  have hup := set_up2 T p _ _ T0 T1
  generalize T.getD p 0 = v0 at *
  generalize T.getD (p + 1) 0 = v1 at *
  have g0 : (bts (upto T p))[p + 1]? = some (.p (.int .u8 0)) := by rw [bts, List.getElem?_map, upto_get T _ _ (by omega), if_neg (by omega)]; rfl
  have hul := upto_length T p
  have hug : ∀ q, p ≤ q → q < p + 3 → (upto T p)[q]? = some 0 := fun q h1 h2 => by rw [upto_get T _ _ (by omega), if_neg (by omega)]
  have s0 : (bts (upto T p)).set (p + 1) (.p (.int .u8 v1.toNat)) = bts ((upto T p).set (p + 1) v1) := bts_set _ _ _
  have g1 : (bts ((upto T p).set (p + 1) v1))[p]? = some (.p (.int .u8 0)) := by rw [bts, List.getElem?_map]; simp [List.getElem?_set, hug, byteD]
  have s1 : (bts ((upto T p).set (p + 1) v1)).set p (.p (.int .u8 v0.toNat)) = bts (upto T (p + 2)) := by
    rw [← hup]
    exact bts_set _ _ _
  have hd2 : ∀ x : List Blk, (h ++ x)[d]? = some (.cells 1 (bts (upto T p))) := fun x => get_pre hd x
  have he2 : ∀ x : List Blk, (h ++ x)[e]? = some (.cells 322 [.agg L]) := fun x => get_pre he x
  have hb2 : ∀ x : List Blk, (h ++ x)[sb]? = some (.cells 1 (bts S)) := fun x => get_pre hsb x
  have hs2 : ∀ (x : List Blk) y, (h ++ x).set d y = h.set d y ++ x := fun x y => List.set_append_left _ _ hdl
  have hd3 : ∀ (x : List Blk) y, (h.set d y ++ x)[d]? = some y := fun x y => by rw [List.getElem?_append_left (by simpa using hdl)]; simp [hdl]
  have he3 : ∀ (x : List Blk) y, (h.set d y ++ x)[e]? = some (.cells 322 [.agg L]) := fun x y => by
    refine get_pre ?_ x
    rw [List.getElem?_set_ne (Ne.symm hed)]; exact he
  have hs3 : ∀ (x : List Blk) y z, (h.set d y ++ x).set d z = h.set d z ++ x := fun x y z => by rw [List.set_append_left _ _ (by simpa using hdl)]; simp
  have hn3 : ∀ (x : List Blk) y z, (h.set d y ++ x).set h.length z = h.set d y ++ x.set 0 z := fun x y z => by rw [List.set_append_right _ _ (by simp)]; simp
  have hn4 : ∀ (x : List Blk) y, (h.set d y ++ x)[h.length]? = x[0]? := fun x y => by rw [List.getElem?_append_right (by simp)]; simp
  have wz : IntKind.u64.wrap 0 = 0 := rfl
  have wp : IntKind.i32.wrap 61 = 61 := rfl
  have wr1 : IntKind.i64.wrap 1 = 1 := rfl
  have wr2 : IntKind.i64.wrap 2 = 2 := rfl
  have wr3 : IntKind.i64.wrap 3 = 3 := rfl
  have wr4 : IntKind.i64.wrap 4 = 4 := rfl
  have wi : ∀ k : Nat, k < 4 → IntKind.i64.wrap (((si + k : Nat) : Int) + 1) = ((si + (k + 1) : Nat) : Int) := fun k hk => wrap_succ (n := S.length) (by omega) (by omega)
  have w0 : IntKind.i64.wrap ((si : Int) + 1) = (si : Int) + 1 := wi 0 (by decide)
  have o0 : (si : Int) < (S.length : Int) := by omega
  have n0 : ((S.length : Int) == (si : Int)) = false := by simp; omega
  have w1 : IntKind.i64.wrap (((si : Int) + 1) + 1) = (si : Int) + 2 := wi 1 (by decide)
  have q1 : ((si : Int) + 1).toNat = si + 1 := by omega
  have p1 : (0 : Int) ≤ (si : Int) + 1 := by omega
  have o1 : ((si : Int) + 1) < (S.length : Int) := by omega
  have n1 : ((S.length : Int) == ((si : Int) + 1)) = false := by simp; omega
  have w2 : IntKind.i64.wrap (((si : Int) + 2) + 1) = (si : Int) + 3 := wi 2 (by decide)
  have q2 : ((si : Int) + 2).toNat = si + 2 := by omega
  have p2 : (0 : Int) ≤ (si : Int) + 2 := by omega
  have o2 : ((si : Int) + 2) < (S.length : Int) := by omega
  have n2 : ((S.length : Int) == ((si : Int) + 2)) = false := by simp; omega
  have w3 : IntKind.i64.wrap (((si : Int) + 3) + 1) = (si : Int) + 4 := wi 3 (by decide)
  have q3 : ((si : Int) + 3).toNat = si + 3 := by omega
  have p3 : (0 : Int) ≤ (si : Int) + 3 := by omega
  have o3 : ((si : Int) + 3) < (S.length : Int) := by omega
  have n3 : ((S.length : Int) == ((si : Int) + 3)) = false := by simp; omega
  have o4 : ¬ ((si : Int) + 4 < (S.length : Int)) := by omega
  have eS : (si : Int) + 4 = (S.length : Int) := by omega
  have nS3 : ((si : Int) + 3 == (S.length : Int)) = false := by simp; omega
  have f0 : ((r0 : Int) != 255) = true := by simp; omega
  have h0 : (c0.toNat : Int) < 256 := by omega
  have k0 : 64 + c0.toNat ≤ 321 := by omega
  have u0 : IntKind.u64.wrap (r0 : Int) = (r0 : Int) := w64 r0 hr0
  have f1 : ((r1 : Int) != 255) = true := by simp; omega
  have h1 : (c1.toNat : Int) < 256 := by omega
  have k1 : 64 + c1.toNat ≤ 321 := by omega
  have u1 : IntKind.u64.wrap (r1 : Int) = (r1 : Int) := w64 r1 hr1
  have f2 : ((r2 : Int) != 255) = true := by simp; omega
  have h2 : (c2.toNat : Int) < 256 := by omega
  have k2 : 64 + c2.toNat ≤ 321 := by omega
  have u2 : IntKind.u64.wrap (r2 : Int) = (r2 : Int) := w64 r2 hr2
  simp [c153, r153, KON_blk_ext, hd2, he2, hb2, hs2, hd3, he3, hs3, hn3, hn4, wz, wp, wr1, wr2, wr3, wr4, isNilD, upto_length, L125, L320, L321, hLl, hor, eS, nS3, o4, hul, w0, w1, w2, w3, q1, q2, q3, p1, p2, p3, o0, o1, o2, o3, n0, n1, n2, n3, x0, x1, x2, x3, l0, l1, l2, f0, h0, k0, u0, f1, h1, k1, u1, f2, h2, k2, u2, y0, y1, s0, s1, g0, g1]
  refine VV_unroll 5 ?_
  simp [KON_blk_ext, hd2, he2, hb2, hs2, hd3, he3, hs3, hn3, hn4, wz, wp, wr1, wr2, wr3, wr4, isNilD, upto_length, L125, L320, L321, hLl, hor, eS, nS3, o4, hul, w0, w1, w2, w3, q1, q2, q3, p1, p2, p3, o0, o1, o2, o3, n0, n1, n2, n3, x0, x1, x2, x3, l0, l1, l2, f0, h0, k0, u0, f1, h1, k1, u1, f2, h2, k2, u2, y0, y1, s0, s1, g0, g1]
  refine VV_unroll 1 ?_
  simp [KON_blk_ext, hd2, he2, hb2, hs2, hd3, he3, hs3, hn3, hn4, wz, wp, wr1, wr2, wr3, wr4, isNilD, upto_length, L125, L320, L321, hLl, hor, eS, nS3, o4, hul, w0, w1, w2, w3, q1, q2, q3, p1, p2, p3, o0, o1, o2, o3, n0, n1, n2, n3, x0, x1, x2, x3, l0, l1, l2, f0, h0, k0, u0, f1, h1, k1, u1, f2, h2, k2, u2, y0, y1, s0, s1, g0, g1]
  refine WkV.drop ?_ (fun hh => hh.set wf_bts) ?_ <;> simp
theorem ok153_3 {G : Nat → DV} (h : List Blk) (e d sb p si V : Nat) (T S : List UInt8) (he : h[e]? = some (encB (dm 64))) (hd : h[d]? = some (.cells 1 (bts (upto T p)))) (hsb : h[sb]? = some (.cells 1 (bts S))) (hed : e ≠ d) (hsd : sb ≠ d)
    (hp : T.length = p + 3) (hS : S.length = si + 4) (hsi : S.length ≤ 4000) (hc : ∀ k, k < 4 → S[si + k]? = some (sgk V 3 k)) (hV : V = (T.getD p 0).toNat * 65536 + (T.getD (p + 1) 0).toNat * 256 + (T.getD (p + 2) 0).toNat) :
    Ok Try.prog G 153 [.ptr e 0 0 1, .sl d p 3 T.length, .sl sb 0 S.length S.length, .p (.int .i64 si)] h (.tup [.p (.int .i64 S.length), .p (.int .i64 3), .p .nilIface]) (h.set d (.cells 1 (bts (upto T (p + 3))))) := by
  refine Ok_by Try.func153 c153_ok r153_ok 246 rfl ?_
  have hdl : d < h.length := (List.getElem?_eq_some_iff.1 hd).1
  have hVl : V < 16777216 := by
    have h0 := (T.getD p 0).toNat_lt
    have h1 := (T.getD (p + 1) 0).toNat_lt
    have h2 := (T.getD (p + 2) 0).toNat_lt
    omega
  have hk : ∀ k, k < 4 → ∃ (r : Nat) (c : UInt8), r < 64 ∧ r = V / 2 ^ (18 - 6 * k) % 64 ∧ c = alph.getD r 0 ∧ S[si + k]? = some c := fun k hk => by
    refine ⟨V / 2 ^ (18 - 6 * k) % 64, _, Nat.mod_lt _ (by decide), rfl, rfl, ?_⟩
    rw [hc k (by omega), sgk, if_pos (by omega)]
  obtain ⟨hL, L125, L320, L321, hLl⟩ := dm_get _ rfl
  rw [encB] at he
  generalize (bts alph ++ (bts (dm 64) ++ [DV.p (.int .i32 61), .p (.bool false)])) = L at *
  obtain ⟨r0, c0, hr0, e0, a0, t0⟩ := hk 0 (by decide)
  obtain ⟨r1, c1, hr1, e1, a1, t1⟩ := hk 1 (by decide)
  obtain ⟨r2, c2, hr2, e2, a2, t2⟩ := hk 2 (by decide)
  obtain ⟨r3, c3, hr3, e3, a3, t3⟩ := hk 3 (by decide)
  have l0 := hL r0 hr0
  rw [← a0] at l0
  have b0 := c0.toNat_lt
  have l1 := hL r1 hr1
  rw [← a1] at l1
  have b1 := c1.toNat_lt
  have l2 := hL r2 hr2
  rw [← a2] at l2
  have b2 := c2.toNat_lt
  have l3 := hL r3 hr3
  rw [← a3] at l3
  have b3 := c3.toNat_lt
  obtain ⟨_, L125⟩ := List.getElem?_eq_some_iff.1 L125
  obtain ⟨_, L320⟩ := List.getElem?_eq_some_iff.1 L320
  obtain ⟨_, L321⟩ := List.getElem?_eq_some_iff.1 L321
  have x0 : (bts S)[si + 0]? = some (.p (.int .u8 c0.toNat)) := by rw [bts, List.getElem?_map, t0]; rfl
  rw [Nat.add_zero] at x0
  have x1 : (bts S)[si + 1]? = some (.p (.int .u8 c1.toNat)) := by rw [bts, List.getElem?_map, t1]; rfl
  have x2 : (bts S)[si + 2]? = some (.p (.int .u8 c2.toNat)) := by rw [bts, List.getElem?_map, t2]; rfl
  have x3 : (bts S)[si + 3]? = some (.p (.int .u8 c3.toNat)) := by rw [bts, List.getElem?_map, t3]; rfl
  have hor := or6 r0 r1 r2 r3 hr0 hr1 hr2 hr3
  rw [show ((r0 * 64 + r1) * 64 + r2) * 64 + r3 = V by omega] at hor
  have y0 : IntKind.u8.wrap (ishr .u64 (V : Int) 16) = ((T.getD p 0).toNat : Int) := by
    have := byteAt (K := .u64) V 16 (by decide)
    rw [show V / 2 ^ 16 % 256 = (T.getD p 0).toNat by have := (T.getD p 0).toNat_lt; have := (T.getD (p + 1) 0).toNat_lt; have := (T.getD (p + 2) 0).toNat_lt; omega] at this
    exact this
  have y1 : IntKind.u8.wrap (ishr .u64 (V : Int) 8) = ((T.getD (p + 1) 0).toNat : Int) := by
    have := byteAt (K := .u64) V 8 (by decide)
    rw [show V / 2 ^ 8 % 256 = (T.getD (p + 1) 0).toNat by have := (T.getD p 0).toNat_lt; have := (T.getD (p + 1) 0).toNat_lt; have := (T.getD (p + 2) 0).toNat_lt; omega] at this
    exact this
  have y2 : IntKind.u8.wrap (ishr .u64 (V : Int) 0) = ((T.getD (p + 2) 0).toNat : Int) := by
    have := byteAt (K := .u64) V 0 (by decide)
    rw [show V / 2 ^ 0 % 256 = (T.getD (p + 2) 0).toNat by have := (T.getD p 0).toNat_lt; have := (T.getD (p + 1) 0).toNat_lt; have := (T.getD (p + 2) 0).toNat_lt; omega] at this
    exact this
  have T0 : T[p]? = some (T.getD p 0) := by simp [List.getD, show p < T.length by omega]
  have T1 : T[p + 1]? = some (T.getD (p + 1) 0) := by simp [List.getD, show (p + 1) < T.length by omega]
  have T2 : T[p + 2]? = some (T.getD (p + 2) 0) := by simp [List.getD, show (p + 2) < T.length by omega]
  have hup := set_up3 T p _ _ _ T0 T1 T2
  generalize T.getD p 0 = v0 at *
  generalize T.getD (p + 1) 0 = v1 at *
  generalize T.getD (p + 2) 0 = v2 at *
  have g0 : (bts (upto T p))[p + 2]? = some (.p (.int .u8 0)) := by rw [bts, List.getElem?_map, upto_get T _ _ (by omega), if_neg (by omega)]; rfl
  have hul := upto_length T p
  have hug : ∀ q, p ≤ q → q < p + 3 → (upto T p)[q]? = some 0 := fun q h1 h2 => by rw [upto_get T _ _ (by omega), if_neg (by omega)]
  have s0 : (bts (upto T p)).set (p + 2) (.p (.int .u8 v2.toNat)) = bts ((upto T p).set (p + 2) v2) := bts_set _ _ _
  have g1 : (bts ((upto T p).set (p + 2) v2))[p + 1]? = some (.p (.int .u8 0)) := by rw [bts, List.getElem?_map]; simp [List.getElem?_set, hug, byteD]
  have s1 : (bts ((upto T p).set (p + 2) v2)).set (p + 1) (.p (.int .u8 v1.toNat)) = bts (((upto T p).set (p + 2) v2).set (p + 1) v1) := bts_set _ _ _
  have g2 : (bts (((upto T p).set (p + 2) v2).set (p + 1) v1))[p]? = some (.p (.int .u8 0)) := by rw [bts, List.getElem?_map]; simp [List.getElem?_set, hug, byteD]
  have s2 : (bts (((upto T p).set (p + 2) v2).set (p + 1) v1)).set p (.p (.int .u8 v0.toNat)) = bts (upto T (p + 3)) := by
    rw [← hup]
    exact bts_set _ _ _
  have hd2 : ∀ x : List Blk, (h ++ x)[d]? = some (.cells 1 (bts (upto T p))) := fun x => get_pre hd x
  have he2 : ∀ x : List Blk, (h ++ x)[e]? = some (.cells 322 [.agg L]) := fun x => get_pre he x
  have hb2 : ∀ x : List Blk, (h ++ x)[sb]? = some (.cells 1 (bts S)) := fun x => get_pre hsb x
  have hs2 : ∀ (x : List Blk) y, (h ++ x).set d y = h.set d y ++ x := fun x y => List.set_append_left _ _ hdl
  have hd3 : ∀ (x : List Blk) y, (h.set d y ++ x)[d]? = some y := fun x y => by rw [List.getElem?_append_left (by simpa using hdl)]; simp [hdl]
  have he3 : ∀ (x : List Blk) y, (h.set d y ++ x)[e]? = some (.cells 322 [.agg L]) := fun x y => by
    refine get_pre ?_ x
    rw [List.getElem?_set_ne (Ne.symm hed)]; exact he
  have hs3 : ∀ (x : List Blk) y z, (h.set d y ++ x).set d z = h.set d z ++ x := fun x y z => by rw [List.set_append_left _ _ (by simpa using hdl)]; simp
  have hn3 : ∀ (x : List Blk) y z, (h.set d y ++ x).set h.length z = h.set d y ++ x.set 0 z := fun x y z => by rw [List.set_append_right _ _ (by simp)]; simp
  have hn4 : ∀ (x : List Blk) y, (h.set d y ++ x)[h.length]? = x[0]? := fun x y => by rw [List.getElem?_append_right (by simp)]; simp
  have wz : IntKind.u64.wrap 0 = 0 := rfl
  have wp : IntKind.i32.wrap 61 = 61 := rfl
  have wr1 : IntKind.i64.wrap 1 = 1 := rfl
  have wr2 : IntKind.i64.wrap 2 = 2 := rfl
  have wr3 : IntKind.i64.wrap 3 = 3 := rfl
  have wr4 : IntKind.i64.wrap 4 = 4 := rfl
  have wi : ∀ k : Nat, k < 4 → IntKind.i64.wrap (((si + k : Nat) : Int) + 1) = ((si + (k + 1) : Nat) : Int) := fun k hk => wrap_succ (n := S.length) (by omega) (by omega)
  have w0 : IntKind.i64.wrap ((si : Int) + 1) = (si : Int) + 1 := wi 0 (by decide)
  have o0 : (si : Int) < (S.length : Int) := by omega
  have n0 : ((S.length : Int) == (si : Int)) = false := by simp; omega
  have w1 : IntKind.i64.wrap (((si : Int) + 1) + 1) = (si : Int) + 2 := wi 1 (by decide)
  have q1 : ((si : Int) + 1).toNat = si + 1 := by omega
  have p1 : (0 : Int) ≤ (si : Int) + 1 := by omega
  have o1 : ((si : Int) + 1) < (S.length : Int) := by omega
  have n1 : ((S.length : Int) == ((si : Int) + 1)) = false := by simp; omega
  have w2 : IntKind.i64.wrap (((si : Int) + 2) + 1) = (si : Int) + 3 := wi 2 (by decide)
  have q2 : ((si : Int) + 2).toNat = si + 2 := by omega
  have p2 : (0 : Int) ≤ (si : Int) + 2 := by omega
  have o2 : ((si : Int) + 2) < (S.length : Int) := by omega
  have n2 : ((S.length : Int) == ((si : Int) + 2)) = false := by simp; omega
  have w3 : IntKind.i64.wrap (((si : Int) + 3) + 1) = (si : Int) + 4 := wi 3 (by decide)
  have q3 : ((si : Int) + 3).toNat = si + 3 := by omega
  have p3 : (0 : Int) ≤ (si : Int) + 3 := by omega
  have o3 : ((si : Int) + 3) < (S.length : Int) := by omega
  have n3 : ((S.length : Int) == ((si : Int) + 3)) = false := by simp; omega
  have o4 : ¬ ((si : Int) + 4 < (S.length : Int)) := by omega
  have eS : (si : Int) + 4 = (S.length : Int) := by omega
  have nS3 : ((si : Int) + 3 == (S.length : Int)) = false := by simp; omega
  have f0 : ((r0 : Int) != 255) = true := by simp; omega
  have h0 : (c0.toNat : Int) < 256 := by omega
  have k0 : 64 + c0.toNat ≤ 321 := by omega
  have u0 : IntKind.u64.wrap (r0 : Int) = (r0 : Int) := w64 r0 hr0
  have f1 : ((r1 : Int) != 255) = true := by simp; omega
  have h1 : (c1.toNat : Int) < 256 := by omega
  have k1 : 64 + c1.toNat ≤ 321 := by omega
  have u1 : IntKind.u64.wrap (r1 : Int) = (r1 : Int) := w64 r1 hr1
  have f2 : ((r2 : Int) != 255) = true := by simp; omega
  have h2 : (c2.toNat : Int) < 256 := by omega
  have k2 : 64 + c2.toNat ≤ 321 := by omega
  have u2 : IntKind.u64.wrap (r2 : Int) = (r2 : Int) := w64 r2 hr2
  have f3 : ((r3 : Int) != 255) = true := by simp; omega
  have h3 : (c3.toNat : Int) < 256 := by omega
  have k3 : 64 + c3.toNat ≤ 321 := by omega
  have u3 : IntKind.u64.wrap (r3 : Int) = (r3 : Int) := w64 r3 hr3
  simp [c153, r153, KON_blk_ext, hd2, he2, hb2, hs2, hd3, he3, hs3, hn3, hn4, wz, wp, wr1, wr2, wr3, wr4, isNilD, upto_length, L125, L320, L321, hLl, hor, eS, nS3, o4, hul, w0, w1, w2, w3, q1, q2, q3, p1, p2, p3, o0, o1, o2, o3, n0, n1, n2, n3, x0, x1, x2, x3, l0, l1, l2, l3, f0, h0, k0, u0, f1, h1, k1, u1, f2, h2, k2, u2, f3, h3, k3, u3, y0, y1, y2, s0, s1, s2, g0, g1, g2]
  refine VV_unroll 5 ?_
  simp [KON_blk_ext, hd2, he2, hb2, hs2, hd3, he3, hs3, hn3, hn4, wz, wp, wr1, wr2, wr3, wr4, isNilD, upto_length, L125, L320, L321, hLl, hor, eS, nS3, o4, hul, w0, w1, w2, w3, q1, q2, q3, p1, p2, p3, o0, o1, o2, o3, n0, n1, n2, n3, x0, x1, x2, x3, l0, l1, l2, l3, f0, h0, k0, u0, f1, h1, k1, u1, f2, h2, k2, u2, f3, h3, k3, u3, y0, y1, y2, s0, s1, s2, g0, g1, g2]
  refine WkV.drop ?_ (fun hh => hh.set wf_bts) ?_ <;> simp
end Go.Proofs.Ytdgnjngbheecnaa
