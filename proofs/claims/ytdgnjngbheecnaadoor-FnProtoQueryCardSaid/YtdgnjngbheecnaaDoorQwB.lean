/- A buffer: bytes, truths, eight zeros. -/
import Derived.Test.YtdgnjngbheecnaaDoorQwA
set_option linter.unusedVariables false
set_option linter.unusedSimpArgs false
set_option maxRecDepth 100000
set_option maxHeartbeats 2000000
namespace Go.Proofs.YtdgnjngbheecnaaDoor
open Go Go.Den Go.Proofs

theorem ok79 {G : Nat → DV} (h : List Blk) (bb : Nat) (d : DV) (l : List UInt8) (c : UInt8) (v0 : DV) (hv0 : v0 = byteD c) (hl : l.length ≤ 10000000) (hs : BufS h bb d l) : OkR Tryd.prog G 79 [.ptr bb 0 0 1, v0] h (BufP h bb d (l ++ [c])) := by
  subst hv0
  refine OkR_by Tryd.func79 c79_ok r79_ok 12 rfl ?_
  have g : ∀ x, (h ++ [x])[bb]? = some (.cells 1 [.agg [d]]) := fun x => by rw [List.getElem?_append_left hs.lt]; exact hs.at_
  have k1' := hs
  rcases k1'.sl with ⟨h0, h1⟩ | ⟨b, h0, h1⟩
  all_goals
    try simp only [bts_length, List.length_append] at h0
    subst h0
    simp [c79, r79, hs.at_, g, byteD]
    refine AA_slS (els := bts l) (ys := [byteD c]) hs.push.sl (by simp [elemsOf, byteD]) (by simp; omega) ?_
    intro d' h2 h3 h4
    obtain ⟨h5, h6⟩ := hs.push.store (u := [c]) (by simpa [bts] using h3) h4
    have h7 := (h4.old bb (by have := hs.lt; simp; omega) hs.ne).trans (g _)
    rcases h3 with ⟨rfl, _⟩ | ⟨b', rfl, _⟩
    all_goals
      simp [h7]
      refine REr_by _ _ .refl ⟨rfl, _, ?_, (by simpa using h6.pre)⟩
      simpa using h5
theorem ok53 {G : Nat → DV} (h : List Blk) (bb : Nat) (d : DV) (l : List UInt8) (c : UInt8) (v0 : DV) (hv0 : v0 = byteD c) (hl : l.length ≤ 10000000) (hs : BufS h bb d l) : OkR Tryd.prog G 53 [.ptr bb 0 0 1, v0] h (BufP h bb d (l ++ [c])) := by
  subst hv0
  refine OkR_by Tryd.func53 c53_ok r53_ok 5 rfl ?_
  simp [c53, r53]
  refine FF_byR (ok79 h bb d l c _ rfl hl hs) ?_
  rintro v h' ⟨rfl, d', h1, h2⟩
  simp
  exact REr_by _ _ .refl ⟨rfl, d', h1, h2⟩
def ynB (b : Bool) : UInt8 := if b = true then 1 else 0
theorem ok54 {G : Nat → DV} (h : List Blk) (bb : Nat) (d : DV) (l : List UInt8) (b : Bool) (hl : l.length ≤ 10000000) (hs : BufS h bb d l) : OkR Tryd.prog G 54 [.ptr bb 0 0 1, .p (.bool b)] h (BufP h bb d (l ++ [ynB b])) := by
  refine OkR_by Tryd.func54 c54_ok r54_ok 7 rfl ?_
  simp [c54, r54]
  cases b
  · simp
    refine FF_byR (ok79 h bb d l 0 _ (by simp [byteD]) hl hs) ?_
    rintro v h' ⟨rfl, d', h1, h2⟩
    simp
    exact REr_by _ _ .refl ⟨rfl, d', by simpa [ynB] using h1, h2⟩
  · simp
    refine FF_byR (ok79 h bb d l 1 _ (by simp [byteD]) hl hs) ?_
    rintro v h' ⟨rfl, d', h1, h2⟩
    simp
    exact REr_by _ _ .refl ⟨rfl, d', by simpa [ynB] using h1, h2⟩
def z8 : List UInt8 := [0, 0, 0, 0, 0, 0, 0, 0]
def arr8 : Blk := .cells 8 [.agg (bts z8)]
theorem ok95 {G : Nat → DV} (h : List Blk) : Ok Tryd.prog G 95 [.agg [], .sa false 1 h.length 0 0 8 8 1, .p (.int .u64 0)] (h ++ [arr8]) (.tup []) (h ++ [arr8]) := by
  refine Ok_by Tryd.func95 c95_ok r95_ok 45 rfl ?_
  have e0 : IntKind.u8.wrap 0 = 0 := by decide
  have e1 : ishr IntKind.u64 0 8 = 0 := by decide
  have e2 : ishr IntKind.u64 0 16 = 0 := by decide
  have e3 : ishr IntKind.u64 0 24 = 0 := by decide
  have e4 : ishr IntKind.u64 0 32 = 0 := by decide
  have e5 : ishr IntKind.u64 0 40 = 0 := by decide
  have e6 : ishr IntKind.u64 0 48 = 0 := by decide
  have e7 : ishr IntKind.u64 0 56 = 0 := by decide
  simp [c95, r95, arr8, z8, bts, byteD, e0, e1, e2, e3, e4, e5, e6, e7]
  exact WkV.cut (by simp) (by simp) id (by simp)
theorem elems8 {h : List Blk} : elemsOf (h ++ [.cells 8 [.agg (bts z8)]]) 1 (.sa false 1 h.length 0 0 8 8 1) = some (bts z8) := by
  have := elems_sa (h := h) (x := []) (z := 8) (u := z8) (r := []) (c := 8)
  rw [List.append_nil] at this
  exact this
theorem ok92 {G : Nat → DV} (hg : G 1 = .fp (.agg [])) (h : List Blk) (bb : Nat) (d : DV) (l : List UInt8) (hl : l.length ≤ 10000000) (hs : BufS h bb d l) : OkR Tryd.prog G 92 [.ptr bb 0 0 1, .p (.int .u64 0)] h (BufP h bb d (l ++ z8)) := by
  refine OkR_by Tryd.func92 c92_ok r92_ok 17 rfl ?_
  have g : ∀ x, (h ++ [x])[bb]? = some (.cells 1 [.agg [d]]) := fun x => by rw [List.getElem?_append_left hs.lt]; exact hs.at_
  have fin : ∀ d' h', SlS 1 h' d' (bts l ++ bts z8) → Keep (h ++ [.cells 8 [.agg (bts z8)]]) h' d d' → h'[bb]? = some (.cells 1 [.agg [d]]) ∧ BufP h bb d (l ++ z8) (.tup []) (h'.set bb (.cells 1 [.agg [d']])) := by
    intro d' h' h1 h2
    obtain ⟨h3, h4⟩ := hs.push.store h1 h2
    refine ⟨by rw [h2.old bb (by have := hs.lt; simp; omega) hs.ne]; exact g _, rfl, d', h3, h4.pre⟩
  have hs' := hs
  rcases hs'.sl with ⟨h0, h1⟩ | ⟨b, h0, h1⟩
  all_goals
    try rw [bts_length] at h0
    subst h0
  all_goals
    simp [c92, r92, hg]
    refine DF_by (ok95 h) ?_
    simp [arr8, g]
    refine DA_slS (els := bts l) (ys := bts z8) (hs.push (x := [.cells 8 [.agg (bts z8)]])).sl elems8 (by simp [z8]; omega) ?_
    intro d' h' h1 h2
    obtain ⟨h3, h4⟩ := fin d' h' h1 h2
    rcases h1 with ⟨rfl, _⟩ | ⟨b', rfl, _⟩
    all_goals
      simp [h3]
      exact REr_by _ _ .refl (by simpa using h4)
theorem ok65 {G : Nat → DV} (hg : G 1 = .fp (.agg [])) (h : List Blk) (bb : Nat) (d : DV) (l : List UInt8) (hl : l.length ≤ 10000000) (hs : BufS h bb d l) : OkR Tryd.prog G 65 [.ptr bb 0 0 1, .p (.int .i64 0)] h (BufP h bb d (l ++ z8)) := by
  refine OkR_by Tryd.func65 c65_ok r65_ok 6 rfl ?_
  have e0 : IntKind.u64.wrap 0 = 0 := by decide
  simp [c65, r65, e0]
  refine FF_byR (ok92 hg h bb d l hl hs) ?_
  rintro v h' ⟨rfl, d', h1, h2⟩
  simp
  exact REr_by _ _ .refl ⟨rfl, d', h1, h2⟩
end Go.Proofs.YtdgnjngbheecnaaDoor
