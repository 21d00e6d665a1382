/- Checksums: base64's Encode. -/
import Derived.Test.YtdgnjngbheecnaaSuD
set_option linter.unusedVariables false
set_option linter.unusedSimpArgs false
set_option maxRecDepth 100000
namespace Go.Proofs.Ytdgnjngbheecnaa
open Go Go.Den Go.Proofs

theorem enc_get (d : List UInt8) (r : Nat) (hr : r < 64) : (bts alph ++ (bts d ++ [DV.p (.int .i32 61), .p (.bool false)]))[r]? = some (.p (.int .u8 (alph.getD r 0).toNat)) := by
  have := alph_length
  rw [List.getElem?_append_left (by simp [bts]; omega)]
  have h : r < alph.length := by omega
  simp [bts, h, byteD, List.getD]
theorem set_same {h : List Blk} {d : Nat} {x : Blk} (hx : h[d]? = some x) : h.set d x = h := by
  obtain ⟨h1, h2⟩ := List.getElem?_eq_some_iff.1 hx
  rw [← h2]
  exact List.set_getElem_self h1
/-- Six bits of a number. -/
theorem six_at (V k : Nat) (hV : V < 16777216) (hk : k ≤ 18) : iand .u64 (ishr .u64 (V : Int) (k : Int)) 63 = ((V / 2 ^ k % 64 : Nat) : Int) := by
  have hd : V / 2 ^ k < 16777216 := Nat.lt_of_le_of_lt (Nat.div_le_self _ _) hV
  have h1 : ishr .u64 (V : Int) (k : Int) = ((V / 2 ^ k : Nat) : Int) := ishr_nat (by simp [IntKind.bits]; omega)
  have h2 := iand_nat (k := .u64) rfl (a := V / 2 ^ k) (b := 63) (by simp [IntKind.bits]; omega) (by simp [IntKind.bits])
  rw [h1, show (63 : Int) = ((63 : Nat) : Int) from rfl, h2, show (63 : Nat) = 2 ^ 6 - 1 from rfl, Nat.and_two_pow_sub_one_eq_mod]
theorem or3 (a b c : Nat) (ha : a < 256) (hb : b < 256) (hc : c < 256) : ior .u64 (ior .u64 (ishl .u64 (a : Int) 16) (ishl .u64 (b : Int) 8)) (c : Int) = ((a * 65536 + b * 256 + c : Nat) : Int) := by
  have h1 : ishl .u64 (a : Int) 16 = ((a * 2 ^ 16 : Nat) : Int) := ishl_nat (k := .u64) (b := 16) rfl (by simp [IntKind.bits]; omega) (by decide)
  have h2 : ishl .u64 (b : Int) 8 = ((b * 2 ^ 8 : Nat) : Int) := ishl_nat (k := .u64) (b := 8) rfl (by simp [IntKind.bits]; omega) (by decide)
  have h3 : a * 2 ^ 16 ||| b * 2 ^ 8 = (a * 256 + b) * 2 ^ 8 := by
    rw [Nat.or_comm, or_add (by omega)]; omega
  rw [h1, h2, ior_nat rfl (by simp [IntKind.bits]; omega) (by simp [IntKind.bits]; omega), h3, ior_nat rfl (by simp [IntKind.bits]; omega) (by simp [IntKind.bits]; omega), Nat.or_comm, or_add (by omega)]
  congr 1
  omega
theorem or2 (a b : Nat) (ha : a < 256) (hb : b < 256) : ior .u64 (ishl .u64 (a : Int) 16) (ishl .u64 (b : Int) 8) = ((a * 65536 + b * 256 : Nat) : Int) := by
  have h1 : ishl .u64 (a : Int) 16 = ((a * 2 ^ 16 : Nat) : Int) := ishl_nat (k := .u64) (b := 16) rfl (by simp [IntKind.bits]; omega) (by decide)
  have h2 : ishl .u64 (b : Int) 8 = ((b * 2 ^ 8 : Nat) : Int) := ishl_nat (k := .u64) (b := 8) rfl (by simp [IntKind.bits]; omega) (by decide)
  have h3 : a * 2 ^ 16 ||| b * 2 ^ 8 = (a * 256 + b) * 2 ^ 8 := by
    rw [Nat.or_comm, or_add (by omega)]; omega
  rw [h1, h2, ior_nat rfl (by simp [IntKind.bits]; omega) (by simp [IntKind.bits]; omega), h3]
  congr 1
  omega
theorem drop3 (s : List UInt8) (i : Nat) (h : i + 3 ≤ s.length) : s.drop i = s.getD i 0 :: s.getD (i + 1) 0 :: s.getD (i + 2) 0 :: s.drop (i + 3) := by
  rw [List.drop_eq_getElem_cons (by omega), List.drop_eq_getElem_cons (i := i + 1) (by omega), List.drop_eq_getElem_cons (i := i + 2) (by omega)]
  simp [List.getD, show i < s.length by omega, show i + 1 < s.length by omega, show i + 2 < s.length by omega]
theorem bts_cons (a : UInt8) (l : List UInt8) : bts (a :: l) = .p (.int .u8 a.toNat) :: bts l := rfl
theorem ok138 {G : Nat → DV} (h : List Blk) (e d : Nat) (s : List UInt8) (hs : s.length ≤ 1000) (D : List UInt8) (hD : D.length = 256) (he : h[e]? = some (encB D)) (hd : h[d]? = some (.cells 1 (bts (List.replicate (b64 s).length 0)))) (hed : e ≠ d) :
    Ok Try.prog G 138 [.ptr e 0 0 1, .sl d 0 (b64 s).length (b64 s).length, .fz 1 (bts s)] h (.tup []) (h.set d (.cells 1 (bts (b64 s)))) := by
  have hT := b64_get s
  have hTl := b64_length s
  have hN : (b64 s).length ≤ 4000 := by omega
  generalize b64 s = T at *
  have hup0 : h.set d (.cells 1 (bts (upto T 0))) = h := set_same (by rw [upto_zero]; exact hd)
  have hdl : d < h.length := (List.getElem?_eq_some_iff.1 hd).1
  have hse : ∀ X, (h.set d X)[e]? = some (.cells 322 [.agg (bts alph ++ (bts D ++ [.p (.int .i32 61), .p (.bool false)]))]) := fun X => by
    rw [List.getElem?_set_ne (Ne.symm hed), he]; rfl
  have hsd : ∀ X, (h.set d X)[d]? = some X := fun X => by simp [hdl]
  have hLg := enc_get D
  have hL320 : (bts alph ++ (bts D ++ [DV.p (.int .i32 61), .p (.bool false)]))[320]? = some (.p (.int .i32 61)) := by
    rw [List.getElem?_append_right (by simp [bts, alph_length]), List.getElem?_append_right (by simp [bts, alph_length, hD])]
    simp [bts, alph_length, hD]
  have hLl : (bts alph ++ (bts D ++ [DV.p (.int .i32 61), .p (.bool false)])).length = 66 + D.length := by simp [bts, alph_length]; omega
  generalize (bts alph ++ (bts D ++ [DV.p (.int .i32 61), .p (.bool false)])) = L at *
  refine Ok_by Try.func138 c138_ok r138_ok 183 rfl ?_
  simp [c138, r138]
  refine CC_by (fun hc => ?_) (fun hc => ?_)
  · have hc : s.length = 0 := by simpa using hc
    have hT0 : T = [] := List.eq_nil_of_length_eq_zero (by omega)
    subst hT0
    have e1 : h.set d (.cells 1 (bts [])) = h := set_same (by simpa using hd)
    rw [e1]
    simp
  · have hc : 0 < s.length := by simp at hc; exact List.length_pos_iff.2 hc
    have he' : h[e]? = some (Blk.cells 322 [DV.agg L]) := by have := hse (.cells 1 (bts (upto T 0))); rwa [hup0] at this
    simp [he', isNilD]
    refine VV_fam (fun j : Nat => ⟨fr 186 [(0, .ptr e 0 0 1), (1, .sl d (4 * j) (T.length - 4 * j) T.length), (2, .fz 1 (bts (s.drop (3 * j))))], h.set d (.cells 1 (bts (upto T (4 * j))))⟩)
      (fun j => 3 * j ≤ s.length) (fun j => s.length - 3 * j) 0 (by simp) (Wk.fitsE (h' := h.set d (.cells 1 (bts (upto T (4 * 0))))) hup0.symm (by simp)) ?_
    intro j hj B hb he hr
    simp
    refine CC_by (fun hc1 => ?_) (fun hc1 => ?_)
    · have hc1 : 3 * j + 3 ≤ s.length := by simp at hc1; omega
      have hTj := fun k => hT j k (by omega)
      have hnv := nv3 s (3 * j)
      have hVl := nv3_lt s (3 * j)
      generalize nv s (3 * j) 3 = V at *
      rw [drop3 s (3 * j) hc1]
      generalize s.getD (3 * j) 0 = a at *
      generalize s.getD (3 * j + 1) 0 = b at *
      generalize s.getD (3 * j + 2) 0 = c at *
      have ha := a.toNat_lt
      have hb' := b.toNat_lt
      have hc' := c.toNat_lt
      have wa : IntKind.u64.wrap (a.toNat : Int) = (a.toNat : Int) := wrap_u rfl _ (by simp [IntKind.bits]; omega)
      have wb : IntKind.u64.wrap (b.toNat : Int) = (b.toNat : Int) := wrap_u rfl _ (by simp [IntKind.bits]; omega)
      have wc : IntKind.u64.wrap (c.toNat : Int) = (c.toNat : Int) := wrap_u rfl _ (by simp [IntKind.bits]; omega)
      have hV := or3 a.toNat b.toNat c.toNat ha hb' hc'
      rw [← hnv] at hV
      have hgk : ∀ k, k < 4 → ∃ r : Nat, r < 64 ∧ iand .u64 (ishr .u64 (V : Int) (((18 - 6 * k : Nat)) : Int)) 63 = (r : Int) ∧ T[4 * j + k]? = some (alph.getD r 0) := fun k hk => by
        refine ⟨V / 2 ^ (18 - 6 * k) % 64, Nat.mod_lt _ (by decide), six_at V _ hVl (by omega), ?_⟩
        rw [hTj k hk, sgk, if_pos (by omega)]
      obtain ⟨r0, hr0, e0, t0⟩ := hgk 0 (by decide)
      obtain ⟨r1, hr1, e1, t1⟩ := hgk 1 (by decide)
      obtain ⟨r2, hr2, e2, t2⟩ := hgk 2 (by decide)
      obtain ⟨r3, hr3, e3, t3⟩ := hgk 3 (by decide)
      have e3 : iand .u64 (V : Int) 63 = (r3 : Int) := by rw [← e3, show ishr .u64 (V : Int) ((18 - 6 * 3 : Nat) : Int) = (V : Int) by simp [ishr]]
      simp at e0 e1 e2
      have l0 := hLg r0 hr0
      have l1 := hLg r1 hr1
      have l2 := hLg r2 hr2
      have l3 := hLg r3 hr3
      generalize alph.getD r0 0 = c0 at *
      generalize alph.getD r1 0 = c1 at *
      generalize alph.getD r2 0 = c2 at *
      generalize alph.getD r3 0 = c3 at *
      have hm : 4 * j + 4 ≤ T.length := by omega
      have hu : ∀ k, k < 4 → (bts (upto T (4 * j + k)))[4 * j + k]? = some (.p (.int .u8 0)) := fun k hk => by
        rw [bts, List.getElem?_map, upto_get T _ _ (by omega), if_neg (by omega)]; rfl
      have hst : ∀ k c, k < 4 → T[4 * j + k]? = some c → (bts (upto T (4 * j + k))).set (4 * j + k) (.p (.int .u8 c.toNat)) = bts (upto T (4 * j + (k + 1))) := fun k c hk hc => by
        have := bts_set (upto T (4 * j + k)) (4 * j + k) c
        rw [upto_set T _ c hc] at this
        exact this
      have s0 := hst 0 c0 (by decide) t0
      have s1 := hst 1 c1 (by decide) t1
      have s2 := hst 2 c2 (by decide) t2
      have s3 := hst 3 c3 (by decide) t3
      have u0 := hu 0 (by decide)
      have u1 := hu 1 (by decide)
      have u2 := hu 2 (by decide)
      have u3 := hu 3 (by decide)
      simp only [Nat.add_zero, Nat.zero_add, Nat.reduceAdd] at s0 s1 s2 s3 u0 u1 u2 u3
      have hq : ∃ q, q = s.length - (3 * j + 3) := ⟨_, rfl⟩
      obtain ⟨q, hq⟩ := hq
      obtain ⟨m, hm'⟩ : ∃ m, m = T.length - 4 * j := ⟨_, rfl⟩
      have q0 : (0 : Int) < (q : Int) + 1 + 1 + 1 := by omega
      have q1 : (1 : Int) < (q : Int) + 1 + 1 + 1 := by omega
      have q2 : (2 : Int) < (q : Int) + 1 + 1 + 1 := by omega
      have m0 : 0 < m := by omega
      have m1 : 1 < m := by omega
      have m2 : 2 < m := by omega
      have m3 : 3 < m := by omega
      have m3' : (3 : Int) < (m : Int) := by omega
      have r0i : (r0 : Int) < 64 := by omega
      have r1i : (r1 : Int) < 64 := by omega
      have r2i : (r2 : Int) < 64 := by omega
      have r3i : (r3 : Int) < 64 := by omega
      have m1' : (1 : Int) < (m : Int) := by omega
      have m2' : (2 : Int) < (m : Int) := by omega
      have m4' : (4 : Int) ≤ (m : Int) := by omega
      have q3 : (3 : Int) ≤ (q : Int) + 1 + 1 + 1 := by omega
      have q4 : ((q : Int) + 1 + 1 + 1).toNat - 3 = q := by omega
      have q5 : (s.drop (3 * j + 3)).take q = s.drop (3 * j + 3) := List.take_of_length_le (by rw [List.length_drop]; omega)
      have r0b : r0 ≤ 321 := by omega
      have r1b : r1 ≤ 321 := by omega
      have r2b : r2 ≤ 321 := by omega
      have r3b : r3 ≤ 321 := by omega
      have hm4 : T.length - (4 * j + 4) = m - 4 := by omega
      simp [m1', m2', m4', q3, q4, q5, r0b, r1b, r2b, r3b, bts_cons, hV, wa, wb, wc, e0, e1, e2, e3, hse, hsd, upto_length, ← hq, ← hm', q0, q1, q2, m0, m1, m2, m3, m3', l0, l1, l2, l3, isNilD, r0i, r1i, r2i, r3i, u0, u1, u2, u3, s0, s1, s2, s3]
      exact hb _ (j + 1) (Wk.fitsE (by simp [Nat.mul_add]) (by simp [Nat.mul_add, hm4])) (by omega) (by omega)
    · have hc1 : s.length < 3 * j + 3 := by simp at hc1; omega
      simp
      refine he _ _ ?_
      simp
      by_cases hc2 : s.length = 3 * j
      · have hc3 : ((s.length - 3 * j : Nat) : Int) = 0 := by omega
        have hTj : upto T (4 * j) = T := by rw [show 4 * j = T.length by omega, upto_all]
        simp [hc3, hTj]
        exact WkV.refl
      · have hj2 : 3 * j < s.length := by omega
        have hTj := fun k => hT j k hj2
        have hnv := nv3 s (3 * j)
        have hVl := nv3_lt s (3 * j)
        generalize nv s (3 * j) 3 = V at *
        have hTl2 : T.length = 4 * j + 4 := by omega
        obtain ⟨_, hpad⟩ := List.getElem?_eq_some_iff.1 hL320
        by_cases hc4 : s.length = 3 * j + 1
        · skip
          have hdr : s.drop (3 * j) = [s.getD (3 * j) 0] := by
            rw [List.drop_eq_getElem_cons hj2, List.drop_eq_nil_of_le (by omega)]
            simp [List.getD, hj2]
          rw [hdr]
          have hgk : ∀ k, k < 2 → ∃ (r : Nat) (c : UInt8), r < 64 ∧ iand .u64 (ishr .u64 (V : Int) (((18 - 6 * k : Nat)) : Int)) 63 = (r : Int) ∧ L[r]? = some (.p (.int .u8 (UInt8.toNat c))) ∧ T[4 * j + k]? = some c := fun k hk => by
            refine ⟨V / 2 ^ (18 - 6 * k) % 64, alph.getD (V / 2 ^ (18 - 6 * k) % 64) 0, Nat.mod_lt _ (by decide), six_at V _ hVl (by omega), hLg _ (Nat.mod_lt _ (by decide)), ?_⟩
            rw [hTj k (by omega), sgk, if_pos (by omega)]
          have hgp : ∀ k, k < 4 → 2 ≤ k → T[4 * j + k]? = some 61 := fun k hk hk2 => by
            rw [hTj k (by omega), sgk, if_neg (by omega)]
          have hu : ∀ k, k < 4 → (bts (upto T (4 * j + k)))[4 * j + k]? = some (.p (.int .u8 0)) := fun k hk => by
            rw [bts, List.getElem?_map, upto_get T _ _ (by omega), if_neg (by omega)]; rfl
          have hst : ∀ k c, k < 4 → T[4 * j + k]? = some c → (bts (upto T (4 * j + k))).set (4 * j + k) (.p (.int .u8 (UInt8.toNat c))) = bts (upto T (4 * j + (k + 1))) := fun k c hk hc => by
            have := bts_set (upto T (4 * j + k)) (4 * j + k) c
            rw [upto_set T _ c hc] at this
            exact this
          obtain ⟨r0, c0, hr0, e0, l0, t0⟩ := hgk 0 (by decide)
          obtain ⟨r1, c1, hr1, e1, l1, t1⟩ := hgk 1 (by decide)
          have t2 := hgp 2 (by decide) (by decide)
          have t3 := hgp 3 (by decide) (by decide)
          have s0 := hst 0 _ (by decide) t0
          have u0 := hu 0 (by decide)
          have s1 := hst 1 _ (by decide) t1
          have u1 := hu 1 (by decide)
          have s2 := hst 2 _ (by decide) t2
          have u2 := hu 2 (by decide)
          have s3 := hst 3 _ (by decide) t3
          have u3 := hu 3 (by decide)
          simp only [Nat.add_zero, Nat.zero_add, Nat.reduceAdd] at s0 s1 s2 s3 u0 u1 u2 u3
          simp at e0 e1
          rw [show ((61 : UInt8).toNat : Int) = 61 from rfl] at s2
          rw [show ((61 : UInt8).toNat : Int) = 61 from rfl] at s3
          have r0i : (r0 : Int) < 64 := by omega
          have r0b : r0 ≤ 321 := by omega
          have r1i : (r1 : Int) < 64 := by omega
          have r1b : r1 ≤ 321 := by omega
          have hl0 : ((s.length - 3 * j : Nat) : Int) = 1 := by omega
          have hm : T.length - 4 * j = 4 := by omega
          have hup4 : upto T (4 * j + 4) = T := by rw [← hTl2, upto_all]
          have wa : IntKind.u64.wrap ((s.getD (3 * j) 0).toNat : Int) = ((s.getD (3 * j) 0).toNat : Int) := wrap_u rfl _ (by have := (s.getD (3 * j) 0).toNat_lt; simp only [IntKind.bits]; omega)
          have hz1 : s.getD (3 * j + 1) 0 = 0 := by simp [List.getD, show ¬ 3 * j + 1 < s.length by omega]
          have hz2 : s.getD (3 * j + 2) 0 = 0 := by simp [List.getD, show ¬ 3 * j + 2 < s.length by omega]
          have hV : ishl .u64 ((s.getD (3 * j) 0).toNat : Int) 16 = (V : Int) := by
            rw [show ishl .u64 ((s.getD (3 * j) 0).toNat : Int) 16 = (((s.getD (3 * j) 0).toNat * 2 ^ 16 : Nat) : Int) from ishl_nat (k := .u64) (b := 16) rfl (by have := (s.getD (3 * j) 0).toNat_lt; simp only [IntKind.bits]; omega) (by decide), hnv, hz1, hz2]
            simp
          generalize s.getD (3 * j) 0 = a at *
          have hcp : IntKind.u8.wrap 61 = 61 := rfl
          simp [bts_cons, hse, hsd, upto_length, isNilD, hup4, hTl2, hLl, hD, hl0, hm, hV, hpad, hcp, wa, e0, l0, e1, l1, r0i, r0b, r1i, r1b, s0, u0, s1, u1, s2, u2, s3, u3]
          exact WkV.refl
        · have hc5 : s.length = 3 * j + 2 := by omega
          have hdr : s.drop (3 * j) = [s.getD (3 * j) 0, s.getD (3 * j + 1) 0] := by
            rw [List.drop_eq_getElem_cons hj2, List.drop_eq_getElem_cons (i := 3 * j + 1) (by omega), List.drop_eq_nil_of_le (by omega)]
            simp [List.getD, hj2, show 3 * j + 1 < s.length by omega]
          rw [hdr]
          have hgk : ∀ k, k < 3 → ∃ (r : Nat) (c : UInt8), r < 64 ∧ iand .u64 (ishr .u64 (V : Int) (((18 - 6 * k : Nat)) : Int)) 63 = (r : Int) ∧ L[r]? = some (.p (.int .u8 (UInt8.toNat c))) ∧ T[4 * j + k]? = some c := fun k hk => by
            refine ⟨V / 2 ^ (18 - 6 * k) % 64, alph.getD (V / 2 ^ (18 - 6 * k) % 64) 0, Nat.mod_lt _ (by decide), six_at V _ hVl (by omega), hLg _ (Nat.mod_lt _ (by decide)), ?_⟩
            rw [hTj k (by omega), sgk, if_pos (by omega)]
          have hgp : ∀ k, k < 4 → 3 ≤ k → T[4 * j + k]? = some 61 := fun k hk hk2 => by
            rw [hTj k (by omega), sgk, if_neg (by omega)]
          have hu : ∀ k, k < 4 → (bts (upto T (4 * j + k)))[4 * j + k]? = some (.p (.int .u8 0)) := fun k hk => by
            rw [bts, List.getElem?_map, upto_get T _ _ (by omega), if_neg (by omega)]; rfl
          have hst : ∀ k c, k < 4 → T[4 * j + k]? = some c → (bts (upto T (4 * j + k))).set (4 * j + k) (.p (.int .u8 (UInt8.toNat c))) = bts (upto T (4 * j + (k + 1))) := fun k c hk hc => by
            have := bts_set (upto T (4 * j + k)) (4 * j + k) c
            rw [upto_set T _ c hc] at this
            exact this
          obtain ⟨r0, c0, hr0, e0, l0, t0⟩ := hgk 0 (by decide)
          obtain ⟨r1, c1, hr1, e1, l1, t1⟩ := hgk 1 (by decide)
          obtain ⟨r2, c2, hr2, e2, l2, t2⟩ := hgk 2 (by decide)
          have t3 := hgp 3 (by decide) (by decide)
          have s0 := hst 0 _ (by decide) t0
          have u0 := hu 0 (by decide)
          have s1 := hst 1 _ (by decide) t1
          have u1 := hu 1 (by decide)
          have s2 := hst 2 _ (by decide) t2
          have u2 := hu 2 (by decide)
          have s3 := hst 3 _ (by decide) t3
          have u3 := hu 3 (by decide)
          simp only [Nat.add_zero, Nat.zero_add, Nat.reduceAdd] at s0 s1 s2 s3 u0 u1 u2 u3
          simp at e0 e1 e2
          rw [show ((61 : UInt8).toNat : Int) = 61 from rfl] at s3
          have r0i : (r0 : Int) < 64 := by omega
          have r0b : r0 ≤ 321 := by omega
          have r1i : (r1 : Int) < 64 := by omega
          have r1b : r1 ≤ 321 := by omega
          have r2i : (r2 : Int) < 64 := by omega
          have r2b : r2 ≤ 321 := by omega
          have hl0 : ((s.length - 3 * j : Nat) : Int) = 2 := by omega
          have hm : T.length - 4 * j = 4 := by omega
          have hup4 : upto T (4 * j + 4) = T := by rw [← hTl2, upto_all]
          have wa : IntKind.u64.wrap ((s.getD (3 * j) 0).toNat : Int) = ((s.getD (3 * j) 0).toNat : Int) := wrap_u rfl _ (by have := (s.getD (3 * j) 0).toNat_lt; simp only [IntKind.bits]; omega)
          have wb : IntKind.u64.wrap ((s.getD (3 * j + 1) 0).toNat : Int) = ((s.getD (3 * j + 1) 0).toNat : Int) := wrap_u rfl _ (by have := (s.getD (3 * j + 1) 0).toNat_lt; simp only [IntKind.bits]; omega)
          have hz2 : s.getD (3 * j + 2) 0 = 0 := by simp [List.getD, show ¬ 3 * j + 2 < s.length by omega]
          have hV := or2 (s.getD (3 * j) 0).toNat (s.getD (3 * j + 1) 0).toNat (s.getD (3 * j) 0).toNat_lt (s.getD (3 * j + 1) 0).toNat_lt
          rw [hz2] at hnv
          rw [show (s.getD (3 * j) 0).toNat * 65536 + (s.getD (3 * j + 1) 0).toNat * 256 = V by rw [hnv]; simp] at hV
          generalize s.getD (3 * j) 0 = a at *
          generalize s.getD (3 * j + 1) 0 = b at *
          have hcp : IntKind.u8.wrap 61 = 61 := rfl
          simp [bts_cons, hse, hsd, upto_length, isNilD, hup4, hTl2, hLl, hD, hl0, hm, hV, hpad, hcp, wa, wb, e0, l0, e1, l1, e2, l2, r0i, r0b, r1i, r1b, r2i, r2b, s0, u0, s1, u1, s2, u2, s3, u3]
          exact WkV.refl
end Go.Proofs.Ytdgnjngbheecnaa
