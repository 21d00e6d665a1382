/- A buffer (turned from another seat by mkpq.py) -/
import Derived.Test.YtdgnjngbheecnaaDoorQuA
import Derived.Test.YtdgnjngbheecnaaDoorLibE
set_option linter.unusedVariables false
set_option linter.unusedSimpArgs false
set_option maxRecDepth 100000
namespace Go.Proofs.YtdgnjngbheecnaaDoor
open Go Go.Den Go.Proofs



theorem ok66 {G : Nat → DV} (h : List Blk) (bb : Nat) (d : DV) (l : List UInt8) (n : Nat) (hn : n < B64) (hl : l.length ≤ 100000000) (hs : BufS h bb d l) : OkR Tryd.prog G 66 [.ptr bb 0 0 1, .p (.int .u64 n)] h (BufP h bb d (l ++ uv n)) := by
  refine OkR_by Tryd.func66 c66_ok r66_ok 18 rfl ?_
  have hul := uv_length n hn
  have g : ∀ x, (h ++ [x])[bb]? = some (.cells 1 [.agg [d]]) := fun x => by rw [List.getElem?_append_left hs.lt]; exact hs.at_
  simp [c66, r66]
  refine FF_by (ok93 h n hn) ?_
  have fin : ∀ d' h', SlS 1 h' d' (bts l ++ bts (uv n)) → Keep (h ++ [arr10 (uv n)]) h' d d' → h'[bb]? = some (.cells 1 [.agg [d]]) ∧ BufP h bb d (l ++ uv n) (.tup []) (h'.set bb (.cells 1 [.agg [d']])) := by
    intro d' h' h1 h2
    obtain ⟨h3, h4⟩ := hs.push.store h1 h2
    refine ⟨by rw [h2.old bb (by have := hs.lt; simp; omega) hs.ne]; exact g _, rfl, d', h3, h4.pre⟩
  have hs' := hs
  rcases hs'.sl with ⟨h0, h1⟩ | ⟨b, h0, h1⟩
  all_goals
    try rw [bts_length] at h0
    subst h0
  all_goals
    simp [arr10, g]
    refine ⟨by omega, ?_⟩
    refine DA_slS (els := bts l) (ys := bts (uv n)) (hs.push (x := [.cells 10 [.agg (bts (uv n) ++ List.replicate (10 - (uv n).length) (.p (.int .u8 0)))]])).sl elems_sa (by simp; omega) ?_
    intro d' h' h1 h2
    obtain ⟨h3, h4⟩ := fin d' h' h1 h2
    rcases h1 with ⟨rfl, _⟩ | ⟨b', rfl, _⟩
    all_goals
      simp [h3]
      exact REr_by _ _ .refl (by simpa using h4)

theorem ok64 {G : Nat → DV} (h : List Blk) (bb : Nat) (d : DV) (l : List UInt8) (n : Nat) (hn : n ≤ 100000000) (hl : l.length ≤ 100000000) (hs : BufS h bb d l) : OkR Tryd.prog G 64 [.ptr bb 0 0 1, .p (.int .i64 n)] h (BufP h bb d (l ++ uv n)) := by
  refine OkR_by Tryd.func64 c64_ok r64_ok 6 rfl ?_
  have hw : IntKind.u64.wrap (n : Int) = n := by simp [IntKind.wrap, IntKind.bits, IntKind.signed]; omega
  simp [c64, r64, hw]
  refine FF_byR (ok66 h bb d l n (by simp [B64]; omega) hl hs) ?_
  rintro v h' ⟨rfl, d', h1, h2⟩
  simp
  exact REr_by _ _ .refl ⟨rfl, d', h1, h2⟩

theorem ok49 {G : Nat → DV} (h : List Blk) (bb : Nat) (d : DV) (l s : List UInt8) (hn : s.length ≤ 100000) (hl : l.length ≤ 10000000) (hs : BufS h bb d l) : OkR Tryd.prog G 49 [.ptr bb 0 0 1, .p (.string (txt s))] h (BufP h bb d (l ++ (uv s.length ++ s))) := by
  refine OkR_by Tryd.func49 c49_ok r49_ok 15 rfl ?_
  have hul := uv_length s.length (by simp [B64]; omega)
  simp [c49, r49]
  refine FF_byR (ok64 h bb d l s.length (by omega) (by omega) hs) ?_
  rintro v h' ⟨rfl, d1, k1, k2⟩
  have k1' := k1
  rcases k1'.sl with ⟨h0, h1⟩ | ⟨b, h0, h1⟩
  all_goals
    try simp only [bts_length, List.length_append] at h0
    subst h0
    simp [k1.at_]
    refine AA_slS (els := bts (l ++ uv s.length)) (ys := bts s) k1.sl (by simp [elemsOf, bytesD, bts]) (by simp; omega) ?_
    intro d' h2 h3 h4
    have h5 := (h4.old bb k1.lt k1.ne).trans k1.at_
    obtain ⟨k3, k4⟩ := k1.store h3 h4
    rcases h3 with ⟨rfl, _⟩ | ⟨b', rfl, _⟩
    all_goals
      simp [h5]
      refine REr_by _ _ .refl ⟨rfl, _, ?_, k2.trans (by simpa using k4)⟩
      simpa using k3

end Go.Proofs.YtdgnjngbheecnaaDoor
