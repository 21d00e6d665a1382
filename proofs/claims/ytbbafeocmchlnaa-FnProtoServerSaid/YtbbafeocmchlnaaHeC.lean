/- Handshakes: the law FnProtoHello. -/
import Derived.Test.YtbbafeocmchlnaaHeB
set_option linter.unusedVariables false
set_option linter.unusedSimpArgs false
set_option maxRecDepth 100000
namespace Go.Proofs.Ytbbafeocmchlnaa
open Go Go.Den Go.Proofs

def helD (p : Nat) (s : List UInt8) (a b c : Nat) : DV := .agg [.p (.int .u64 p), .p (.string (txt s)), .p (.int .u64 a), .p (.int .u64 b), .p (.int .u64 c)]
theorem ok53 {G : Nat → DV} (h : List Blk) (bb : Nat) (d : DV) (l s : List UInt8) (p a b c : Nat) (hp : p < B64) (ha : a < B64) (hb : b < B64) (hn : s.length ≤ 100000) (hl : l.length ≤ 1000000) (hs : BufS h bb d l) : OkR Try.prog G 53 [helD p s a b c, .ptr bb 0 0 1] h (BufP h bb d (l ++ (uv s.length ++ s) ++ uv a ++ uv b ++ uv p)) := by
  refine OkR_by Try.func53 c53_ok r53_ok 20 rfl ?_
  have hul := uv_length s.length (by simp [B64]; omega)
  have hua := uv_length a ha
  have hub := uv_length b hb
  simp [c53, r53, helD]
  refine FF_byR (ok100 _ bb d l s hn (by omega) hs.push) ?_
  rintro v h1 ⟨rfl, d1, k1, m1⟩
  have keep : ∀ {hh : List Blk} {dd : DV}, BufK (h ++ [.cells 5 [helD p s a b c]]) hh bb d dd → hh[h.length]? = some (.cells 5 [helD p s a b c]) := by
    intro hh dd m
    rw [m.old h.length (by simp) (Nat.ne_of_gt hs.lt) fun hi => Nat.lt_irrefl _ (hs.sl.lt hi)]
    simp
  have g1 := keep m1
  simp [g1, helD]
  refine FF_byR (ok101 _ bb d1 _ a ha (by simp; omega) k1) ?_
  rintro v h2 ⟨rfl, d2, k2, m2⟩
  have g2 := keep (m1.trans m2)
  simp [g2, helD]
  refine FF_byR (ok101 _ bb d2 _ b hb (by simp; omega) k2) ?_
  rintro v h3 ⟨rfl, d3, k3, m3⟩
  have g3 := keep ((m1.trans m2).trans m3)
  simp [g3, helD]
  refine FF_byR (ok101 _ bb d3 _ p hp (by simp; omega) k3) ?_
  rintro v h4 ⟨rfl, d4, k4, m4⟩
  simp
  exact REr_by _ _ .refl ⟨rfl, d4, by simpa using k4, (((m1.trans m2).trans m3).trans m4).pre⟩

theorem ok54 {G : Nat → DV} (h : List Blk) (s : List UInt8) (p a b c : Nat) (ha : a < B64) (hb : b < B64) (hc : c < B64) (hn : s.length ≤ 100000) : Ok Try.prog G 54 [helD p s a b c] h (.p (.string (txt (s ++ 32 :: verT a b c)))) h := by
  refine Ok_by Try.func54 c54_ok r54_ok 9 rfl ?_
  have la := dig_length a ha
  have lb := dig_length b hb
  have lc := dig_length c hc
  simp [c54, r54, helD]
  refine ⟨by omega, ?_⟩
  refine DF_by (ok70 _ a b c ha hb hc) ?_
  simp [verT]
  omega

theorem ok15 {G : Nat → DV} (h : List Blk) (s : List UInt8) (p a b c : Nat) (hp : p < B64) (ha : a < B64) (hb : b < B64) (hc : c < B64) (hn : s.length ≤ 100000) : Ok Try.prog G 15 [.p (.string (txt s)), verD a b c, .p (.int .u64 p)] h (.tup [.p (.string (txt (uv s.length ++ s ++ uv a ++ uv b ++ uv p))), .p (.string (txt (s ++ 32 :: verT a b c)))]) h := by
  refine Ok_by Try.func15 c15_ok r15_ok 23 rfl ?_
  simp [c15, r15, verD]
  refine FF_by (ok52 _ a b c) ?_
  simp [verD]
  have hs : BufS (h ++ [Blk.cells 3 [verD a b c], Blk.cells 5 [helD p s a b c], Blk.cells 1 [DV.agg [DV.p (Value.slice none 0 0)]]]) (h.length + 2) (.p (.slice none 0 0)) [] := ⟨by simp, .nil, fun h => h⟩
  refine FF_byR (ok53 _ _ _ _ s p a b c hp ha hb hn (by simp) hs) ?_
  rintro v h1 ⟨rfl, d1, k1, m1⟩
  have g1 : h1[h.length + 1]? = some (.cells 5 [helD p s a b c]) := by
    rw [m1.old _ (by simp) (by omega) fun h => h]; simp [helD]
  have hpre : HPre h h1 := by
    intro b k hk
    have hlt := (List.getElem?_eq_some_iff.1 hk).1
    rw [m1.old b (by simp; omega) (by omega) fun h => h, List.getElem?_append_left hlt]
    exact hk
  simp [k1.at_, k1.sl.slice, g1, helD]
  refine DF_by (ok54 _ s p a b c ha hb hc hn) ?_
  simp
  refine WkV.ofPure hpre ?_
  rfl

end Go.Proofs.Ytbbafeocmchlnaa
