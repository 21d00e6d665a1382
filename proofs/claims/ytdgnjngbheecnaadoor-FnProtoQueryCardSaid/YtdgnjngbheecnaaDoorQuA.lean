/- Numbers in sevens of bits; short texts (turned from another seat by mkpq.py) -/
import Derived.Test.YtdgnjngbheecnaaDoorQnA
set_option linter.unusedVariables false
set_option linter.unusedSimpArgs false
set_option maxRecDepth 100000
namespace Go.Proofs.YtdgnjngbheecnaaDoor
open Go Go.Den Go.Proofs



/-- A number in sevens of bits, the lowest first. -/
def uv (n : Nat) : List UInt8 := if h : n < 128 then [UInt8.ofNat n] else UInt8.ofNat (n % 128 + 128) :: uv (n / 128)
termination_by n
decreasing_by omega
theorem uv_lt {n : Nat} (h : n < 128) : uv n = [UInt8.ofNat n] := by rw [uv]; simp [h]
theorem uv_ge {n : Nat} (h : 128 ≤ n) : uv n = UInt8.ofNat (n % 128 + 128) :: uv (n / 128) := by rw [uv]; simp [Nat.not_lt.2 h]
theorem uv_length (n : Nat) (h : n < B64) : (uv n).length ≤ 10 := by
  have : ∀ k n, n < 128 ^ (k + 1) → (uv n).length ≤ k + 1 := by
    intro k
    induction k with
    | zero => intro n hn; rw [uv_lt (by simpa using hn)]; simp
    | succ k ih =>
      intro n hn
      by_cases h10 : n < 128
      · rw [uv_lt h10]; simp
      · rw [uv_ge (by omega)]
        have := ih (n / 128) (by rw [Nat.pow_succ] at hn; omega)
        simp; omega
  exact this 9 n (Nat.lt_trans h (by decide))

theorem w8 (n : Nat) : IntKind.u8.wrap (n : Int) = (n : Int) % 256 := by
  simp [IntKind.wrap, IntKind.bits, IntKind.signed]
theorem or128 (n : Nat) : ior .u8 ((n : Int) % 256) 128 = (n : Int) % 128 + 128 := by
  have key : ∀ d : Fin 256, ior .u8 ((d.val : Nat) : Int) 128 = ((d.val % 128 + 128 : Nat) : Int) := by decide +kernel
  have := key ⟨n % 256, Nat.mod_lt _ (by decide)⟩
  have e : (n : Int) % 256 = ((n % 256 : Nat) : Int) := by omega
  rw [e, this]
  simp only
  omega
theorem shr7 (n : Nat) : ishr .u64 (n : Int) 7 = (n : Int) / 128 := by
  simp [ishr, IntKind.bits]
  rw [Int.fdiv_eq_ediv_of_nonneg _ (by decide)]
theorem byteD_low {n : Nat} (h : n < 256) : DV.p (.int .u8 (n : Int)) = byteD (UInt8.ofNat n) := by
  simp [byteD, UInt8.toNat_ofNat, Nat.mod_eq_of_lt h]
theorem byte_hi (n : Nat) : DV.p (.int .u8 ((n : Int) % 128 + 128)) = byteD (UInt8.ofNat (n % 128 + 128)) := by
  have := byteD_low (n := n % 128 + 128) (by omega)
  simpa using this
theorem byte_mod (n : Nat) : DV.p (.int .u8 ((n : Int) % 256)) = byteD (UInt8.ofNat n) := by
  have := byteD_low (n := n % 256) (by omega)
  have e : UInt8.ofNat (n % 256) = UInt8.ofNat n := by
    apply UInt8.toNat_inj.1
    simp
  rw [e] at this
  simpa using this
theorem bts_snoc (l : List UInt8) (x : UInt8) : bts l ++ [byteD x] = bts (l ++ [x]) := by simp [bts]
theorem bts_cat (l m : List UInt8) : bts l ++ bts m = bts (l ++ m) := by simp [bts]

theorem ok40 {G : Nat → DV} (h : List Blk) (n0 : Nat) (hn : n0 < B64) : Ok Tryd.prog G 40 [.p (.int .u64 n0)] h (.p (.string (txt (uv n0)))) h := by
  refine Ok_by Tryd.func40 c40_ok r40_ok 19 rfl ?_
  simp [c40, r40]
  refine VV_fam (fun x : Nat × List UInt8 × DV × List Blk => ⟨fr 20 [(0, .p (.int .u64 x.1)), (3, x.2.2.1)], x.2.2.2⟩)
    (fun x => uv n0 = x.2.1 ++ uv x.1 ∧ Own h 1 x.2.2.2 x.2.2.1 (bts x.2.1)) (fun x => x.1) (n0, [], .p (.slice none 0 0), h)
    ⟨rfl, Own.nil⟩ (Wk.fits (by simp)) ?_
  rintro ⟨n, pre, d, h'⟩ ⟨hu, ho⟩ B hb he hr
  simp only at hu ho
  have hl := uv_length n0 hn
  rw [hu] at hl
  simp at hl
  simp [w8, or128, shr7]
  refine CC_by (fun h1 => ?_) (fun h1 => ?_)
  · have h1 : 128 ≤ n := by simp at h1; omega
    simp [w8, or128, shr7]
    refine AA_lit1 ho (by simp; omega) ?_
    intro d2 h2 ho2 _ _
    simp [shr7]
    refine hb _ (n / 128, pre ++ [UInt8.ofNat (n % 128 + 128)], d2, h2) (Wk.fits (by simp)) ⟨by rw [hu, uv_ge h1]; simp, ?_⟩ (by simp; omega)
    rw [byte_hi, bts_snoc] at ho2
    exact ho2
  · have h1 : n < 128 := by simp at h1; omega
    simp [w8, or128, shr7]
    refine he _ _ ?_
    simp [w8]
    refine AA_lit1 ho (by simp; omega) ?_
    intro d2 h2 ho2 _ _
    rw [byte_mod, bts_snoc] at ho2
    have hfin : pre ++ [UInt8.ofNat n] = uv n0 := by rw [hu, uv_lt h1]
    rw [hfin] at ho2
    simp [ho2.bytes]
    exact WkV.ofPure ho2.pre rfl


theorem Wk.fitsE {G : Nat → DV} {h0 h h' : List Blk} {t t' : List DV} (he : h = h') (hf : fits t t' true) : Wk G h0 ⟨t, h⟩ ⟨t', h'⟩ := he ▸ Wk.fits hf

theorem ok22 {G : Nat → DV} (h : List Blk) (l : List UInt8) (hl : l.length ≤ 1000000) : Ok Tryd.prog G 22 [.p (.string (txt l))] h (.p (.string (txt (uv l.length ++ l)))) h := by
  refine Ok_by Tryd.func22 c22_ok r22_ok 8 rfl ?_
  have hw : IntKind.u64.wrap (l.length : Int) = l.length := by simp [IntKind.wrap, IntKind.bits, IntKind.signed]; omega
  have := uv_length l.length (by simp [B64]; omega)
  simp [c22, r22, hw]
  refine FF_by (ok40 _ l.length (by simp [B64]; omega)) ?_
  simp
  omega

def arr10 (l : List UInt8) : Blk := .cells 10 [.agg (bts l ++ List.replicate (10 - l.length) (.p (.int .u8 0)))]
theorem ok93 {G : Nat → DV} (h : List Blk) (n0 : Nat) (hn : n0 < B64) : Ok Tryd.prog G 93 [.sa false 1 h.length 0 0 10 10 1, .p (.int .u64 n0)] (h ++ [arr10 []]) (.p (.int .i64 (uv n0).length)) (h ++ [arr10 (uv n0)]) := by
  refine Ok_by Tryd.func93 c93_ok r93_ok 23 rfl ?_
  simp [c93, r93]
  refine VV_fam (fun x : Nat × List UInt8 => ⟨fr 25 [(0, .sa false 1 h.length 0 0 10 10 1), (1, .p (.int .u64 x.1)), (5, .p (.int .i64 x.2.length))], h ++ [arr10 x.2]⟩)
    (fun x => uv n0 = x.2 ++ uv x.1) (fun x => x.1) (n0, [])
    rfl (Wk.fits (by simp)) ?_
  rintro ⟨n, pre⟩ hu B hb he hr
  simp only at hu
  have hl := uv_length n0 hn
  rw [hu] at hl
  simp at hl
  have hpos : 1 ≤ (uv n).length := by
    by_cases h1 : n < 128
    · rw [uv_lt h1]; simp
    · rw [uv_ge (by omega)]; simp
  have hlen : pre.length < 10 := by omega
  have hli : (pre.length : Int) < 10 := by omega
  have hw : IntKind.i64.wrap ((pre.length : Int) + 1) = ((pre.length + 1 : Nat) : Int) := wrap_succ (n := 10) hlen (by omega)
  have e1 : (bts pre ++ List.replicate (10 - pre.length) (DV.p (.int .u8 0))).take pre.length = bts pre := by
    rw [List.take_append_of_le_length (by simp), List.take_of_length_le (by simp)]
  have e2 : (bts pre ++ List.replicate (10 - pre.length) (DV.p (.int .u8 0))).drop (pre.length + 1) = List.replicate (9 - pre.length) (DV.p (.int .u8 0)) := by
    rw [List.drop_append, List.drop_of_length_le (by simp)]
    simp
    omega
  have e3a : bts pre ++ DV.p (.int .u8 ((n : Int) % 128 + 128)) :: List.replicate (9 - pre.length) (DV.p (.int .u8 0)) = bts (pre ++ [UInt8.ofNat (n % 128 + 128)]) ++ List.replicate (9 - pre.length) (DV.p (.int .u8 0)) := by
    rw [byte_hi]; simp [bts]
  have e3b : bts pre ++ DV.p (.int .u8 ((n : Int) % 256)) :: List.replicate (9 - pre.length) (DV.p (.int .u8 0)) = bts (pre ++ [UInt8.ofNat n]) ++ List.replicate (9 - pre.length) (DV.p (.int .u8 0)) := by
    rw [byte_mod]; simp [bts]
  simp [w8, or128, shr7]
  refine CC_by (fun h1 => ?_) (fun h1 => ?_)
  · have h1 : 128 ≤ n := by simp at h1; omega
    simp [w8, or128, shr7, arr10, hlen, hli, hw, e1, e2, e3a]
    refine ⟨by omega, ?_⟩
    refine hb _ (n / 128, pre ++ [UInt8.ofNat (n % 128 + 128)]) (Wk.fitsE (by simp [arr10]) (by simp)) (by simp only; rw [hu, uv_ge h1]; simp) (by simp; omega)
  · have h1 : n < 128 := by simp at h1; omega
    simp [w8, or128, shr7]
    refine he _ _ ?_
    have hfin : pre ++ [UInt8.ofNat n] = uv n0 := by rw [hu, uv_lt h1]
    have hfl : (uv n0).length = pre.length + 1 := by rw [← hfin]; simp
    simp [w8, arr10, hlen, hli, hw, e1, e2, e3b, hfl]
    refine ⟨by omega, ?_⟩
    rw [hfin]
    exact .refl




theorem gz : GZ (fun _ => DV.any) := .any
/-- The sum of texts' lengths. -/
def sumLen (l : List (List UInt8)) : Nat := (l.map List.length).sum
def txts (l : List (List UInt8)) : List DV := l.map fun s => .p (.string (txt s))
@[simp] theorem txts_length (l : List (List UInt8)) : (txts l).length = l.length := by simp [txts]
@[simp] theorem txts_plain {l : List (List UInt8)} : plainL (txts l) := plainL.map
@[simp] theorem txts_getElem {l : List (List UInt8)} {i : Nat} (h : i < (txts l).length) : (txts l)[i] = .p (.string (txt (l[i]'(by simpa using h)))) := by simp [txts]
theorem frzR_lit {h x : List Blk} {sz n : Nat} {l : List DV} (hn : n = l.length) (hl : plainL l) : FrzR (h ++ .cells sz l :: x) [] (.sl h.length 0 n n) (.fz sz l) := by
  subst hn
  exact FrzR.of0 1 (by rw [frz_sl (sz := sz) hl (by simp) (Nat.zero_le _) rfl]; simp)

theorem sumLen_nil : sumLen [] = 0 := by simp [sumLen]
theorem sumLen_snoc (l : List (List UInt8)) (s : List UInt8) : sumLen (l ++ [s]) = sumLen l + s.length := by simp [sumLen]
theorem sumLen_app (l m : List (List UInt8)) : sumLen (l ++ m) = sumLen l + sumLen m := by simp [sumLen]

theorem ok6 {G : Nat → DV} (h : List Blk) (l : List (List UInt8)) (hl : sumLen l ≤ 4611686018427387904) (hn : l.length ≤ 4611686018427387904) : Ok Tryd.prog G 6 [.fz 1 (txts l)] h (.p (.bool (decide (sumLen l ≤ 5000)))) h := by
  refine Ok_by Tryd.func6 c6_ok r6_ok 18 rfl ?_
  simp [c6, r6]
  refine VV_fam (fun i : Nat => ⟨fr 19 [(3, .p (.int .i64 (sumLen (l.take i)))), (6, .fz 1 (txts l)), (7, .p (.int .i64 l.length)), (8, .p (.int .i64 i))], h⟩)
    (fun i => i ≤ l.length) (fun i => l.length - i) 0 (Nat.zero_le _) (Wk.fits (by simp [sumLen_nil])) ?_
  intro i hi B hb he hr
  simp
  refine CC_by (fun h1 => ?_) (fun h1 => ?_)
  · have h1 : i < l.length := by simpa using h1
    have htk : l.take (i + 1) = l.take i ++ [l[i]] := by rw [List.take_add_one, List.getElem?_eq_getElem h1]; rfl
    have hs : sumLen (l.take (i + 1)) = sumLen (l.take i) + l[i].length := by rw [htk, sumLen_snoc]
    have hle : sumLen (l.take (i + 1)) ≤ sumLen l := by
      have := sumLen_app (l.take (i + 1)) (l.drop (i + 1))
      rw [List.take_append_drop] at this; omega
    have hw : IntKind.i64.wrap ((i : Int) + 1) = ((i + 1 : Nat) : Int) := wrap_succ (n := l.length) h1 (by omega)
    have hg : (txts l)[i]? = some (.p (.string (txt l[i]))) := by simp [txts, h1]
    have hw2 : IntKind.i64.wrap ((sumLen (l.take i) : Int) + (l[i].length : Int)) = (sumLen (l.take (i + 1)) : Int) := by
      simp [IntKind.wrap, IntKind.bits, IntKind.signed, hs]; omega
    simp [h1, hg, hw, hw2]
    refine hb _ (i + 1) (Wk.fits ?_) h1 (by omega)
    simp
  · have h1 : i = l.length := by simp at h1; omega
    subst h1
    simp
    refine he _ _ ?_
    have e : decide ((sumLen l : Int) ≤ 5000) = decide (sumLen l ≤ 5000) := by congr 1; apply propext; omega
    simp [e]

end Go.Proofs.YtdgnjngbheecnaaDoor
