/- The named type's methods. -/
import Derived.Test.YtdgnjngbheecnaaIsG
set_option linter.unusedVariables false
set_option linter.unusedSimpArgs false
set_option maxRecDepth 100000
set_option maxHeartbeats 4000000
namespace Go.Proofs.Ytdgnjngbheecnaa
open Go Go.Den Go.Proofs

theorem ok50 {G : Nat → DV} (h : List Blk) (l : List Int) (hl : l.length ≤ 1000) : Ok Try.prog G 50 [.fz 1 (ints l)] h (.mp h.length) (h ++ [.map (smap (l.foldl addNew []))]) := by
  refine Ok_by Try.func50 c50_ok r50_ok 4 rfl ?_
  simp [c50, r50]
  refine FF_by (ok111 h l hl) ?_
  simp
  exact .refl
theorem ok51n {G : Nat → DV} (hG : GZ G) (h : List Blk) (a : Nat) (ks : List Int) (ha : h[a]? = some (.map (smap ks))) (hl : ks.length ≤ 1000) : OkR Try.prog G 51 [.mp a] h (SetR h (· ∈ ks)) := by
  refine OkR_by Try.func51 c51_ok r51_ok 4 rfl ?_
  simp [c51, r51]
  refine FF_byR (ok112 hG h a ks ha hl) ?_
  intro v h' hr
  obtain ⟨ks', h1, h2, rfl, rfl⟩ := hr
  simp
  exact REr_by _ _ .refl ⟨ks', h1, h2, rfl, rfl⟩
theorem ok53 {G : Nat → DV} (h : List Blk) (b : Nat) (ks : List Int) (s : Int) (hb : h[b]? = some (.map (smap ks))) (hn : noIter h b) (hnk : ks.Nodup) :
    OkR Try.prog G 53 [.mp b, .p (.int .i64 s)] h fun v h' => ∃ ks', ks'.Nodup ∧ (∀ x, x ∈ ks' ↔ x ∈ ks ∧ x ≠ s) ∧ v = .tup [] ∧ h' = h.set b (.map (smap ks')) := by
  refine OkR_by Try.func53 c53_ok r53_ok 5 rfl ?_
  simp only [c53, r53]
  simp
  refine FF_byR (ok114 h b ks s hb hn hnk) ?_
  rintro v h' ⟨ks', h1, h2, rfl, rfl⟩
  simp
  exact REr_by (.tup []) _ .refl ⟨ks', h1, by simpa using h2, rfl, rfl⟩
theorem ok59 {G : Nat → DV} (hG : GZ G) (h : List Blk) (a : Nat) (ks : List Int) (ha : h[a]? = some (.map (smap ks))) (hl : ks.length ≤ 1000) (hnk : ks.Nodup) :
    Ok Try.prog G 59 [.mp a] h (.fz 1 (ints (setOf ks))) h := by
  refine Ok_by Try.func59 c59_ok r59_ok 4 rfl ?_
  simp [c59, r59]
  refine FF_by (ok118 hG h a ks ha hl hnk) ?_
  simp
theorem ok62 {G : Nat → DV} (hG : GZ G) (h : List Blk) (a b : Nat) (ks ls : List Int) (ha : h[a]? = some (.map (smap ks))) (hl : ks.length ≤ 1000) (hb : h[b]? = some (.map (smap ls))) (hll : ls.length ≤ 1000) :
    Ok Try.prog G 62 [.mp a, .mp b] h (.p (.bool (sameSet ks ls))) h := by
  refine Ok_by Try.func62 c62_ok r62_ok 6 rfl ?_
  simp [c62, r62]
  refine FF_by (ok121 hG h a b ks ls ha hl hb hll) ?_
  simp
theorem ok63 {G : Nat → DV} (h : List Blk) (b : Nat) (ks : List Int) (s : Int) (hb : h[b]? = some (.map (smap ks))) :
    Ok Try.prog G 63 [.mp b, .p (.int .i64 s)] h (.p (.bool (setHas ks s))) h := by
  refine Ok_by Try.func63 c63_ok r63_ok 6 rfl ?_
  simp [c63, r63]
  refine FF_by (ok122 h b ks s hb) ?_
  simp
theorem ok58n {G : Nat → DV} (hG : GZ G) (h : List Blk) (a b : Nat) (ks : List Int) (ha : h[a]? = some (.map (smap ks))) (hl : ks.length ≤ 1000) (ls : List Int) (hb : h[b]? = some (.map (smap ls))) (hll : ls.length ≤ 1000) :
    OkR Try.prog G 58 [.mp a, .mp b] h (SetR h fun y => y ∈ ks ∨ y ∈ ls) := by
  refine OkR_by Try.func58 c58_ok r58_ok 6 rfl ?_
  simp only [c58, r58]
  simp
  refine FF_byR (ok117n hG h a b ks ha hl ls hb hll) ?_
  intro v h' hr
  obtain ⟨ks', h1, h2, rfl, rfl⟩ := hr
  simp
  exact REr_by _ _ .refl ⟨ks', h1, by simpa using h2, rfl, rfl⟩
theorem ok60n {G : Nat → DV} (hG : GZ G) (h : List Blk) (a b : Nat) (ks : List Int) (ha : h[a]? = some (.map (smap ks))) (hl : ks.length ≤ 1000) (ls : List Int) (hb : h[b]? = some (.map (smap ls))) (hll : ls.length ≤ 1000) :
    OkR Try.prog G 60 [.mp a, .mp b] h (SetR h fun y => y ∈ ks ∧ y ∈ ls) := by
  refine OkR_by Try.func60 c60_ok r60_ok 6 rfl ?_
  simp only [c60, r60]
  simp
  refine FF_byR (ok119n hG h a b ks ha hl ls hb) ?_
  intro v h' hr
  obtain ⟨ks', h1, h2, rfl, rfl⟩ := hr
  simp
  exact REr_by _ _ .refl ⟨ks', h1, by simpa using h2, rfl, rfl⟩
theorem ok61n {G : Nat → DV} (hG : GZ G) (h : List Blk) (a b : Nat) (ks : List Int) (ha : h[a]? = some (.map (smap ks))) (hl : ks.length ≤ 1000) (ls : List Int) (hb : h[b]? = some (.map (smap ls))) (hll : ls.length ≤ 1000) :
    OkR Try.prog G 61 [.mp a, .mp b] h (SetR h fun y => y ∈ ks ∧ ¬ y ∈ ls) := by
  refine OkR_by Try.func61 c61_ok r61_ok 6 rfl ?_
  simp only [c61, r61]
  simp
  refine FF_byR (ok120n hG h a b ks ha hl ls hb) ?_
  intro v h' hr
  obtain ⟨ks', h1, h2, rfl, rfl⟩ := hr
  simp
  exact REr_by _ _ .refl ⟨ks', h1, by simpa using h2, rfl, rfl⟩
theorem ok54n {G : Nat → DV} (hG : GZ G) (h : List Blk) (a : Nat) (ks : List Int) (ha : h[a]? = some (.map (smap ks))) (hl : ks.length ≤ 1000) :
    OkR Try.prog G 54 [.mp a, .fn (.func 55) [] []] h (SetR h fun y => ∃ x, x ∈ ks ∧ y = bang x) := by
  refine OkR_by Try.func54 c54_ok r54_ok 6 rfl ?_
  simp only [c54, r54]
  simp
  refine FF_byR (ok115n hG h a ks ha hl) ?_
  intro v h' hr
  obtain ⟨ks', h1, h2, rfl, rfl⟩ := hr
  simp
  exact REr_by _ _ .refl ⟨ks', h1, by simpa using h2, rfl, rfl⟩
theorem ok56n {G : Nat → DV} (hG : GZ G) (h : List Blk) (a : Nat) (s : Int) (ks : List Int) (ha : h[a]? = some (.map (smap ks))) (hl : ks.length ≤ 1000) :
    OkR Try.prog G 56 [.mp a, .fn (.func 57) [] [], .p (.int .i64 s)] h (SetR h fun y => y ∈ ks ∧ begins y s = true) := by
  refine OkR_by Try.func56 c56_ok r56_ok 8 rfl ?_
  simp only [c56, r56]
  simp
  refine FF_byR (ok116n hG h a s ks ha hl) ?_
  intro v h' hr
  obtain ⟨ks', h1, h2, rfl, rfl⟩ := hr
  simp
  exact REr_by _ _ .refl ⟨ks', h1, by simpa using h2, rfl, rfl⟩
theorem ok50s {G : Nat → DV} (h : List Blk) (b0 : Nat) (l : List Int) (hb0 : h[b0]? = some (.cells 1 (ints l))) (hl : l.length ≤ 1000) : Ok Try.prog G 50 [.sl b0 0 l.length l.length] h (.mp h.length) (h ++ [.map (smap (l.foldl addNew []))]) := by
  refine Ok_by Try.func50 c50_ok r50_ok 4 rfl ?_
  simp [c50, r50]
  refine FF_by (ok111s h b0 l hb0 hl) ?_
  simp
  exact .refl

end Go.Proofs.Ytdgnjngbheecnaa
