/- Checksums: base64's Decode: what is read at once. -/
import Derived.Test.YtdgnjngbheecnaaSuE
set_option linter.unusedVariables false
set_option linter.unusedSimpArgs false
set_option maxRecDepth 100000
namespace Go.Proofs.Ytdgnjngbheecnaa
open Go Go.Den Go.Proofs

theorem ior8 (a b : Nat) (ha : a < 64) (hb : b < 64) : ∃ x : Nat, x < 64 ∧ ior .u8 (a : Int) (b : Int) = (x : Int) :=
  ⟨a ||| b, Nat.or_lt_two_pow (n := 6) ha hb, ior_nat rfl (by simp [IntKind.bits]; omega) (by simp [IntKind.bits]; omega)⟩
theorem shK (K : IntKind) (hK : K.signed = false) (n k : Nat) (hn : n < 64) (hk : k + 6 ≤ K.bits) : ∃ y : Nat, y = n * 2 ^ k ∧ ishl K (n : Int) (k : Int) = (y : Int) := by
  refine ⟨_, rfl, ishl_nat hK ?_ (by omega)⟩
  have h1 := Nat.mul_lt_mul_of_pos_right hn (Nat.two_pow_pos k)
  have h2 : 2 ^ (k + 6) ≤ 2 ^ K.bits := Nat.pow_le_pow_right (by omega) hk
  have e : 2 ^ (k + 6) = 64 * 2 ^ k := by rw [Nat.pow_add]; omega
  omega
theorem orK (K : IntKind) (hK : K.signed = false) (A n s x y : Nat) (hn : n < 64) (hs : s + 6 ≤ K.bits) (hA : A * 2 ^ (s + 6) < 2 ^ K.bits) (hx : x = A * 2 ^ (s + 6)) (hy : y = n * 2 ^ s) : ∃ z : Nat, z = (A * 64 + n) * 2 ^ s ∧ ior K (x : Int) (y : Int) = (z : Int) := by
  subst hx hy
  exact ⟨_, rfl, orstep hK A n s hn hs hA⟩
theorem w64 (n : Nat) (hn : n < 64) : IntKind.u64.wrap (n : Int) = (n : Int) := wrap_u rfl _ (by simp only [IntKind.bits]; omega)
theorem ok151 {G : Nat → DV} (h : List Blk) (a b c d a' b' c' d' v : Nat) (ha : a < 64) (hb : b < 64) (hc : c < 64) (hd : d < 64) (ha' : a' < 64) (hb' : b' < 64) (hc' : c' < 64) (hd' : d' < 64)
    (hv : v = (((((((a * 64 + b) * 64 + c) * 64 + d) * 64 + a') * 64 + b') * 64 + c') * 64 + d') * 65536) :
    Ok Try.prog G 151 [.p (.int .u8 a), .p (.int .u8 b), .p (.int .u8 c), .p (.int .u8 d), .p (.int .u8 a'), .p (.int .u8 b'), .p (.int .u8 c'), .p (.int .u8 d')] h (.tup [.p (.int .u64 v), .p (.bool true)]) h := by
  refine Ok_by Try.func151 c151_ok r151_ok 57 rfl ?_
  obtain ⟨x1, g1, f1⟩ := ior8 a b ha hb
  obtain ⟨x2, g2, f2⟩ := ior8 x1 c g1 hc
  obtain ⟨x3, g3, f3⟩ := ior8 x2 d g2 hd
  obtain ⟨x4, g4, f4⟩ := ior8 x3 a' g3 ha'
  obtain ⟨x5, g5, f5⟩ := ior8 x4 b' g4 hb'
  obtain ⟨x6, g6, f6⟩ := ior8 x5 c' g5 hc'
  obtain ⟨x7, g7, f7⟩ := ior8 x6 d' g6 hd'
  have hne : ((x7 : Int) == 255) = false := by simp; omega
  obtain ⟨y1, i1, j1⟩ := shK .u64 rfl a 58 ha (by decide)
  obtain ⟨y2, i2, j2⟩ := shK .u64 rfl b 52 hb (by decide)
  obtain ⟨y3, i3, j3⟩ := shK .u64 rfl c 46 hc (by decide)
  obtain ⟨y4, i4, j4⟩ := shK .u64 rfl d 40 hd (by decide)
  obtain ⟨y5, i5, j5⟩ := shK .u64 rfl a' 34 ha' (by decide)
  obtain ⟨y6, i6, j6⟩ := shK .u64 rfl b' 28 hb' (by decide)
  obtain ⟨y7, i7, j7⟩ := shK .u64 rfl c' 22 hc' (by decide)
  obtain ⟨y8, i8, j8⟩ := shK .u64 rfl d' 16 hd' (by decide)
  obtain ⟨z2, k2, l2⟩ := orK .u64 rfl a b 52 y1 y2 hb (by decide) (by simp only [IntKind.bits]; omega) i1 i2
  obtain ⟨z3, k3, l3⟩ := orK .u64 rfl _ c 46 z2 y3 hc (by decide) (by simp only [IntKind.bits]; omega) k2 i3
  obtain ⟨z4, k4, l4⟩ := orK .u64 rfl _ d 40 z3 y4 hd (by decide) (by simp only [IntKind.bits]; omega) k3 i4
  obtain ⟨z5, k5, l5⟩ := orK .u64 rfl _ a' 34 z4 y5 ha' (by decide) (by simp only [IntKind.bits]; omega) k4 i5
  obtain ⟨z6, k6, l6⟩ := orK .u64 rfl _ b' 28 z5 y6 hb' (by decide) (by simp only [IntKind.bits]; omega) k5 i6
  obtain ⟨z7, k7, l7⟩ := orK .u64 rfl _ c' 22 z6 y7 hc' (by decide) (by simp only [IntKind.bits]; omega) k6 i7
  obtain ⟨z8, k8, l8⟩ := orK .u64 rfl _ d' 16 z7 y8 hd' (by decide) (by simp only [IntKind.bits]; omega) k7 i8
  obtain rfl : v = z8 := by rw [hv, k8]
  replace j1 : ishl .u64 (a : Int) 58 = (y1 : Int) := j1
  replace j2 : ishl .u64 (b : Int) 52 = (y2 : Int) := j2
  replace j3 : ishl .u64 (c : Int) 46 = (y3 : Int) := j3
  replace j4 : ishl .u64 (d : Int) 40 = (y4 : Int) := j4
  replace j5 : ishl .u64 (a' : Int) 34 = (y5 : Int) := j5
  replace j6 : ishl .u64 (b' : Int) 28 = (y6 : Int) := j6
  replace j7 : ishl .u64 (c' : Int) 22 = (y7 : Int) := j7
  replace j8 : ishl .u64 (d' : Int) 16 = (y8 : Int) := j8
  clear hv i1 i2 i3 i4 i5 i6 i7 i8 k2 k3 k4 k5 k6 k7 k8
  simp [c151, r151, f1, f2, f3, f4, f5, f6, f7, hne, w64, ha, hb, hc, hd, ha', hb', hc', hd', j1, j2, j3, j4, j5, j6, j7, j8, l2, l3, l4, l5, l6, l7, l8]
theorem w32 (n : Nat) (hn : n < 64) : IntKind.u32.wrap (n : Int) = (n : Int) := wrap_u rfl _ (by simp only [IntKind.bits]; omega)
theorem ok154 {G : Nat → DV} (h : List Blk) (a b c d v : Nat) (ha : a < 64) (hb : b < 64) (hc : c < 64) (hd : d < 64)
    (hv : v = (((a * 64 + b) * 64 + c) * 64 + d) * 256) :
    Ok Try.prog G 154 [.p (.int .u8 a), .p (.int .u8 b), .p (.int .u8 c), .p (.int .u8 d)] h (.tup [.p (.int .u32 v), .p (.bool true)]) h := by
  refine Ok_by Try.func154 c154_ok r154_ok 29 rfl ?_
  obtain ⟨x1, g1, f1⟩ := ior8 a b ha hb
  obtain ⟨x2, g2, f2⟩ := ior8 x1 c g1 hc
  obtain ⟨x3, g3, f3⟩ := ior8 x2 d g2 hd
  have hne : ((x3 : Int) == 255) = false := by simp; omega
  obtain ⟨y1, i1, j1⟩ := shK .u32 rfl a 26 ha (by decide)
  obtain ⟨y2, i2, j2⟩ := shK .u32 rfl b 20 hb (by decide)
  obtain ⟨y3, i3, j3⟩ := shK .u32 rfl c 14 hc (by decide)
  obtain ⟨y4, i4, j4⟩ := shK .u32 rfl d 8 hd (by decide)
  obtain ⟨z2, k2, l2⟩ := orK .u32 rfl a b 20 y1 y2 hb (by decide) (by simp only [IntKind.bits]; omega) i1 i2
  obtain ⟨z3, k3, l3⟩ := orK .u32 rfl _ c 14 z2 y3 hc (by decide) (by simp only [IntKind.bits]; omega) k2 i3
  obtain ⟨z4, k4, l4⟩ := orK .u32 rfl _ d 8 z3 y4 hd (by decide) (by simp only [IntKind.bits]; omega) k3 i4
  obtain rfl : v = z4 := by rw [hv, k4]
  replace j1 : ishl .u32 (a : Int) 26 = (y1 : Int) := j1
  replace j2 : ishl .u32 (b : Int) 20 = (y2 : Int) := j2
  replace j3 : ishl .u32 (c : Int) 14 = (y3 : Int) := j3
  replace j4 : ishl .u32 (d : Int) 8 = (y4 : Int) := j4
  clear hv i1 i2 i3 i4 k2 k3 k4
  simp [c154, r154, f1, f2, f3, hne, w32, ha, hb, hc, hd, j1, j2, j3, j4, l2, l3, l4]
/-- A byte of a number. -/
theorem byteAt {K : IntKind} (v k : Nat) (hk : k ≤ K.bits) : IntKind.u8.wrap (ishr K (v : Int) (k : Int)) = ((v / 2 ^ k % 256 : Nat) : Int) := by
  rw [ishr_nat hk]
  simp [IntKind.wrap, IntKind.bits, IntKind.signed]
theorem byteAt0 (v : Nat) : IntKind.u8.wrap (v : Int) = ((v % 256 : Nat) : Int) := by simp [IntKind.wrap, IntKind.bits, IntKind.signed]
theorem ok152 {G : Nat → DV} (h : List Blk) (d p m v : Nat) (T : List UInt8) (hd : h[d]? = some (.cells 1 (bts (upto T p)))) (hm : 8 ≤ m) (hp : p + 8 ≤ T.length)
    (hv : ∀ k, k < 6 → (T.getD (p + k) 0).toNat = v / 2 ^ (56 - 8 * k) % 256) (hv6 : v / 2 ^ 8 % 256 = 0) (hv7 : v % 256 = 0) :
    Ok Try.prog G 152 [.agg [], .sl d p m T.length, .p (.int .u64 v)] h (.tup []) (h.set d (.cells 1 (bts (upto T (p + 6))))) := by
  refine Ok_by Try.func152 c152_ok r152_ok 45 rfl ?_
  have hdl : d < h.length := (List.getElem?_eq_some_iff.1 hd).1
  have hu : ∀ j, j ≤ 6 → ∀ k, k < 8 → ∃ x, (bts (upto T (p + j)))[p + k]? = some (.p (.int .u8 x)) := fun j hj k hk => by
    rw [bts, List.getElem?_map, upto_get T _ _ (by omega)]; exact ⟨_, rfl⟩
  have hst : ∀ k, k < 6 → (bts (upto T (p + k))).set (p + k) (.p (.int .u8 (IntKind.u8.wrap (ishr .u64 (v : Int) ((56 - 8 * k : Nat) : Int))))) = bts (upto T (p + (k + 1))) := fun k hk => by
    have hlt : p + k < T.length := by omega
    have := bts_set (upto T (p + k)) (p + k) (T.getD (p + k) 0)
    rw [upto_set T _ _ (by simp [List.getD, hlt])] at this
    rw [byteAt _ _ (by simp only [IntKind.bits]; omega), ← hv k hk]
    exact this
  have hs6 : (bts (upto T (p + 6))).set (p + 6) (.p (.int .u8 (IntKind.u8.wrap (ishr .u64 (v : Int) ((8 : Nat) : Int))))) = bts (upto T (p + 6)) := by
    have := bts_set (upto T (p + 6)) (p + 6) 0
    rw [upto_set0 T _ _ (by omega)] at this
    rw [byteAt _ _ (by simp only [IntKind.bits]; omega), hv6]
    exact this
  have hs7 : (bts (upto T (p + 6))).set (p + 7) (.p (.int .u8 (IntKind.u8.wrap (v : Int)))) = bts (upto T (p + 6)) := by
    have := bts_set (upto T (p + 6)) (p + 7) 0
    rw [upto_set0 T _ _ (by omega)] at this
    rw [byteAt0, hv7]
    exact this
  have s0 := hst 0 (by decide)
  have s1 := hst 1 (by decide)
  have s2 := hst 2 (by decide)
  have s3 := hst 3 (by decide)
  have s4 := hst 4 (by decide)
  have s5 := hst 5 (by decide)
  simp only [Nat.reduceMul, Nat.reduceSub, Nat.add_zero, Nat.zero_add, Nat.reduceAdd] at s0 s1 s2 s3 s4 s5
  obtain ⟨_, u7⟩ := hu 0 (by decide) 7 (by decide)
  obtain ⟨_, u0⟩ := hu 0 (by decide) 0 (by decide)
  obtain ⟨_, u1⟩ := hu 1 (by decide) 1 (by decide)
  obtain ⟨_, u2⟩ := hu 2 (by decide) 2 (by decide)
  obtain ⟨_, u3⟩ := hu 3 (by decide) 3 (by decide)
  obtain ⟨_, u4⟩ := hu 4 (by decide) 4 (by decide)
  obtain ⟨_, u5⟩ := hu 5 (by decide) 5 (by decide)
  obtain ⟨_, u6⟩ := hu 6 (by decide) 6 (by decide)
  obtain ⟨_, u7'⟩ := hu 6 (by decide) 7 (by decide)
  simp only [Nat.add_zero] at u0 u7
  have hd2 : ∀ x : List Blk, (h ++ x)[d]? = some (.cells 1 (bts (upto T p))) := fun x => get_pre hd x
  have hs2 : ∀ (x : List Blk) y, (h ++ x).set d y = h.set d y ++ x := fun x y => List.set_append_left _ _ hdl
  have hd3 : ∀ (x : List Blk) y, (h.set d y ++ x)[d]? = some y := fun x y => by rw [List.getElem?_append_left (by simpa using hdl)]; simp [hdl]
  have hs3 : ∀ (x : List Blk) y z, (h.set d y ++ x).set d z = h.set d z ++ x := fun x y z => by rw [List.set_append_left _ _ (by simpa using hdl)]; simp
  have m0 : 0 < m := by omega
  have m1 : 1 < m := by omega
  have m2 : 2 < m := by omega
  have m3 : 3 < m := by omega
  have m4 : 4 < m := by omega
  have m5 : 5 < m := by omega
  have m6 : 6 < m := by omega
  have m7 : 7 < m := by omega
  have n1 : (1 : Int) < m := by omega
  have n2 : (2 : Int) < m := by omega
  have n3 : (3 : Int) < m := by omega
  have n4 : (4 : Int) < m := by omega
  have n5 : (5 : Int) < m := by omega
  have n6 : (6 : Int) < m := by omega
  have n7 : (7 : Int) < m := by omega
  replace s0 : (bts (upto T p)).set p (.p (.int .u8 (IntKind.u8.wrap (ishr .u64 (v : Int) 56)))) = bts (upto T (p + 1)) := s0
  replace s1 : (bts (upto T (p + 1))).set (p + 1) (.p (.int .u8 (IntKind.u8.wrap (ishr .u64 (v : Int) 48)))) = bts (upto T (p + 2)) := s1
  replace s2 : (bts (upto T (p + 2))).set (p + 2) (.p (.int .u8 (IntKind.u8.wrap (ishr .u64 (v : Int) 40)))) = bts (upto T (p + 3)) := s2
  replace s3 : (bts (upto T (p + 3))).set (p + 3) (.p (.int .u8 (IntKind.u8.wrap (ishr .u64 (v : Int) 32)))) = bts (upto T (p + 4)) := s3
  replace s4 : (bts (upto T (p + 4))).set (p + 4) (.p (.int .u8 (IntKind.u8.wrap (ishr .u64 (v : Int) 24)))) = bts (upto T (p + 5)) := s4
  replace s5 : (bts (upto T (p + 5))).set (p + 5) (.p (.int .u8 (IntKind.u8.wrap (ishr .u64 (v : Int) 16)))) = bts (upto T (p + 6)) := s5
  replace hs6 : (bts (upto T (p + 6))).set (p + 6) (.p (.int .u8 (IntKind.u8.wrap (ishr .u64 (v : Int) 8)))) = bts (upto T (p + 6)) := hs6
  simp [c152, r152, hd2, hs2, hd3, hs3, upto_length, m0, m1, m2, m3, m4, m5, m6, m7, n1, n2, n3, n4, n5, n6, n7, u0, u1, u2, u3, u4, u5, u6, u7, u7', s0, s1, s2, s3, s4, s5, hs6, hs7]
  exact WkV.drop (by simp) (fun hh => hh.set wf_bts) (by simp)
theorem ok155 {G : Nat → DV} (h : List Blk) (d p m v : Nat) (T : List UInt8) (hd : h[d]? = some (.cells 1 (bts (upto T p)))) (hm : 4 ≤ m) (hp : p + 4 ≤ T.length)
    (hv : ∀ k, k < 3 → (T.getD (p + k) 0).toNat = v / 2 ^ (24 - 8 * k) % 256) (hv3 : v % 256 = 0) :
    Ok Try.prog G 155 [.agg [], .sl d p m T.length, .p (.int .u32 v)] h (.tup []) (h.set d (.cells 1 (bts (upto T (p + 3))))) := by
  refine Ok_by Try.func155 c155_ok r155_ok 25 rfl ?_
  have hdl : d < h.length := (List.getElem?_eq_some_iff.1 hd).1
  have hu : ∀ j, j ≤ 3 → ∀ k, k < 4 → ∃ x, (bts (upto T (p + j)))[p + k]? = some (.p (.int .u8 x)) := fun j hj k hk => by
    rw [bts, List.getElem?_map, upto_get T _ _ (by omega)]; exact ⟨_, rfl⟩
  have hst : ∀ k, k < 3 → (bts (upto T (p + k))).set (p + k) (.p (.int .u8 (IntKind.u8.wrap (ishr .u32 (v : Int) ((24 - 8 * k : Nat) : Int))))) = bts (upto T (p + (k + 1))) := fun k hk => by
    have hlt : p + k < T.length := by omega
    have := bts_set (upto T (p + k)) (p + k) (T.getD (p + k) 0)
    rw [upto_set T _ _ (by simp [List.getD, hlt])] at this
    rw [byteAt _ _ (by simp only [IntKind.bits]; omega), ← hv k hk]
    exact this
  have hs7 : (bts (upto T (p + 3))).set (p + 3) (.p (.int .u8 (IntKind.u8.wrap (v : Int)))) = bts (upto T (p + 3)) := by
    have := bts_set (upto T (p + 3)) (p + 3) 0
    rw [upto_set0 T _ _ (by omega)] at this
    rw [byteAt0, hv3]
    exact this
  have s0 : (bts (upto T p)).set p (.p (.int .u8 (IntKind.u8.wrap (ishr .u32 (v : Int) 24)))) = bts (upto T (p + 1)) := hst 0 (by decide)
  have s1 : (bts (upto T (p + 1))).set (p + 1) (.p (.int .u8 (IntKind.u8.wrap (ishr .u32 (v : Int) 16)))) = bts (upto T (p + 2)) := hst 1 (by decide)
  have s2 : (bts (upto T (p + 2))).set (p + 2) (.p (.int .u8 (IntKind.u8.wrap (ishr .u32 (v : Int) 8)))) = bts (upto T (p + 3)) := hst 2 (by decide)
  obtain ⟨_, u7⟩ := hu 0 (by decide) 3 (by decide)
  obtain ⟨_, u0⟩ := hu 0 (by decide) 0 (by decide)
  obtain ⟨_, u1⟩ := hu 1 (by decide) 1 (by decide)
  obtain ⟨_, u2⟩ := hu 2 (by decide) 2 (by decide)
  obtain ⟨_, u7'⟩ := hu 3 (by decide) 3 (by decide)
  simp only [Nat.add_zero] at u0 u7
  have hd2 : ∀ x : List Blk, (h ++ x)[d]? = some (.cells 1 (bts (upto T p))) := fun x => get_pre hd x
  have hs2 : ∀ (x : List Blk) y, (h ++ x).set d y = h.set d y ++ x := fun x y => List.set_append_left _ _ hdl
  have hd3 : ∀ (x : List Blk) y, (h.set d y ++ x)[d]? = some y := fun x y => by rw [List.getElem?_append_left (by simpa using hdl)]; simp [hdl]
  have hs3 : ∀ (x : List Blk) y z, (h.set d y ++ x).set d z = h.set d z ++ x := fun x y z => by rw [List.set_append_left _ _ (by simpa using hdl)]; simp
  have m0 : 0 < m := by omega
  have m1 : 1 < m := by omega
  have m2 : 2 < m := by omega
  have m3 : 3 < m := by omega
  have n1 : (1 : Int) < m := by omega
  have n2 : (2 : Int) < m := by omega
  have n3 : (3 : Int) < m := by omega
  simp [c155, r155, hd2, hs2, hd3, hs3, upto_length, m0, m1, m2, m3, n1, n2, n3, u0, u1, u2, u7, u7', s0, s1, s2, hs7]
  exact WkV.drop (by simp) (fun hh => hh.set wf_bts) (by simp)
end Go.Proofs.Ytdgnjngbheecnaa
