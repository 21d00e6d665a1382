/- The named type's methods: as the generic ones. -/
import Derived.Test.YtdgnjngbheecnaaSoD
set_option linter.unusedVariables false
set_option linter.unusedSimpArgs false
set_option maxRecDepth 100000
namespace Go.Proofs.Ytdgnjngbheecnaa
open Go Go.Den Go.Proofs

theorem ok80 {G : Nat → DV} (h : List Blk) (l : List ByteArray) (hl : l.length ≤ 1000) : Ok Try.prog G 80 [.fz 1 (strs l)] h (.mp h.length) (h ++ [.map (smap (l.foldl addNew []))]) := by
  refine Ok_by Try.func80 c80_ok r80_ok 4 rfl ?_
  simp [c80, r80]
  refine FF_by (ok65 h l hl) ?_
  simp
  exact .refl
theorem ok81n {G : Nat → DV} (hG : GZ G) (h : List Blk) (a : Nat) (ks : List ByteArray) (ha : h[a]? = some (.map (smap ks))) (hl : ks.length ≤ 1000) : OkR Try.prog G 81 [.mp a] h (SetR h (· ∈ ks)) := by
  refine OkR_by Try.func81 c81_ok r81_ok 4 rfl ?_
  simp [c81, r81]
  refine FF_byR (ok66 hG h a ks ha hl) ?_
  intro v h' hr
  obtain ⟨ks', h1, h2, rfl, rfl⟩ := hr
  simp
  exact REr_by _ _ .refl ⟨ks', h1, h2, rfl, rfl⟩
theorem ok83 {G : Nat → DV} (h : List Blk) (b : Nat) (ks : List ByteArray) (s : ByteArray) (hb : h[b]? = some (.map (smap ks))) (hn : noIter h b) (hnk : ks.Nodup) :
    OkR Try.prog G 83 [.mp b, .p (.string s)] h fun v h' => ∃ ks', ks'.Nodup ∧ (∀ x, x ∈ ks' ↔ x ∈ ks ∧ x ≠ s) ∧ v = .tup [] ∧ h' = h.set b (.map (smap ks')) := by
  refine OkR_by Try.func83 c83_ok r83_ok 5 rfl ?_
  simp only [c83, r83]
  simp
  refine FF_byR (ok68 h b ks s hb hn hnk) ?_
  rintro v h' ⟨ks', h1, h2, rfl, rfl⟩
  simp
  exact REr_by (.tup []) _ .refl ⟨ks', h1, by simpa using h2, rfl, rfl⟩
theorem ok85 {G : Nat → DV} (hG : GZ G) (h : List Blk) (a : Nat) (ks : List ByteArray) (ha : h[a]? = some (.map (smap ks))) (hl : ks.length ≤ 1000) (hnk : ks.Nodup) :
    Ok Try.prog G 85 [.mp a] h (.fz 1 (strs (setOf ks))) h := by
  refine Ok_by Try.func85 c85_ok r85_ok 4 rfl ?_
  simp [c85, r85]
  refine FF_by (ok69 hG h a ks ha hl hnk) ?_
  simp
theorem ok88 {G : Nat → DV} (hG : GZ G) (h : List Blk) (a b : Nat) (ks ls : List ByteArray) (ha : h[a]? = some (.map (smap ks))) (hl : ks.length ≤ 1000) (hb : h[b]? = some (.map (smap ls))) (hll : ls.length ≤ 1000) :
    Ok Try.prog G 88 [.mp a, .mp b] h (.p (.bool (sameSet ks ls))) h := by
  refine Ok_by Try.func88 c88_ok r88_ok 6 rfl ?_
  simp [c88, r88]
  refine FF_by (ok73 hG h a b ks ls ha hl hb hll) ?_
  simp
theorem ok89 {G : Nat → DV} (h : List Blk) (b : Nat) (ks : List ByteArray) (s : ByteArray) (hb : h[b]? = some (.map (smap ks))) :
    Ok Try.prog G 89 [.mp b, .p (.string s)] h (.p (.bool (setHas ks s))) h := by
  refine Ok_by Try.func89 c89_ok r89_ok 6 rfl ?_
  simp [c89, r89]
  refine FF_by (ok74 h b ks s hb) ?_
  simp
theorem ok84n {G : Nat → DV} (hG : GZ G) (h : List Blk) (a b : Nat) (ks : List ByteArray) (ha : h[a]? = some (.map (smap ks))) (hl : ks.length ≤ 1000) (ls : List ByteArray) (hb : h[b]? = some (.map (smap ls))) (hll : ls.length ≤ 1000) :
    OkR Try.prog G 84 [.mp a, .mp b] h (SetR h fun y => y ∈ ks ∨ y ∈ ls) := by
  refine OkR_by Try.func84 c84_ok r84_ok 6 rfl ?_
  simp only [c84, r84]
  simp
  refine FF_byR (ok70n hG h a b ks ha hl ls hb hll) ?_
  intro v h' hr
  obtain ⟨ks', h1, h2, rfl, rfl⟩ := hr
  simp
  exact REr_by _ _ .refl ⟨ks', h1, by simpa using h2, rfl, rfl⟩
theorem ok86n {G : Nat → DV} (hG : GZ G) (h : List Blk) (a b : Nat) (ks : List ByteArray) (ha : h[a]? = some (.map (smap ks))) (hl : ks.length ≤ 1000) (ls : List ByteArray) (hb : h[b]? = some (.map (smap ls))) (hll : ls.length ≤ 1000) :
    OkR Try.prog G 86 [.mp a, .mp b] h (SetR h fun y => y ∈ ks ∧ y ∈ ls) := by
  refine OkR_by Try.func86 c86_ok r86_ok 6 rfl ?_
  simp only [c86, r86]
  simp
  refine FF_byR (ok71n hG h a b ks ha hl ls hb) ?_
  intro v h' hr
  obtain ⟨ks', h1, h2, rfl, rfl⟩ := hr
  simp
  exact REr_by _ _ .refl ⟨ks', h1, by simpa using h2, rfl, rfl⟩
theorem ok87n {G : Nat → DV} (hG : GZ G) (h : List Blk) (a b : Nat) (ks : List ByteArray) (ha : h[a]? = some (.map (smap ks))) (hl : ks.length ≤ 1000) (ls : List ByteArray) (hb : h[b]? = some (.map (smap ls))) (hll : ls.length ≤ 1000) :
    OkR Try.prog G 87 [.mp a, .mp b] h (SetR h fun y => y ∈ ks ∧ ¬ y ∈ ls) := by
  refine OkR_by Try.func87 c87_ok r87_ok 6 rfl ?_
  simp only [c87, r87]
  simp
  refine FF_byR (ok72n hG h a b ks ha hl ls hb) ?_
  intro v h' hr
  obtain ⟨ks', h1, h2, rfl, rfl⟩ := hr
  simp
  exact REr_by _ _ .refl ⟨ks', h1, by simpa using h2, rfl, rfl⟩
theorem ok91n {G : Nat → DV} (hG : GZ G) (h : List Blk) (a : Nat) (ks : List ByteArray) (ha : h[a]? = some (.map (smap ks))) (hl : ks.length ≤ 1000) (hk : ∀ k, k ∈ ks → k.size ≤ 1000) :
    OkR Try.prog G 91 [.mp a, .fn (.func 77) [] []] h (SetR h fun y => ∃ x, x ∈ ks ∧ y = bang x) := by
  refine OkR_by Try.func91 c91_ok r91_ok 6 rfl ?_
  simp only [c91, r91]
  simp
  refine FF_byR (ok76n hG h a ks ha hl hk) ?_
  intro v h' hr
  obtain ⟨ks', h1, h2, rfl, rfl⟩ := hr
  simp
  exact REr_by _ _ .refl ⟨ks', h1, by simpa using h2, rfl, rfl⟩
theorem ok92n {G : Nat → DV} (hG : GZ G) (h : List Blk) (a : Nat) (s : ByteArray) (ks : List ByteArray) (ha : h[a]? = some (.map (smap ks))) (hl : ks.length ≤ 1000) :
    OkR Try.prog G 92 [.mp a, .fn (.func 79) [] [], .p (.string s)] h (SetR h fun y => y ∈ ks ∧ begins y s = true) := by
  refine OkR_by Try.func92 c92_ok r92_ok 8 rfl ?_
  simp only [c92, r92]
  simp
  refine FF_byR (ok78n hG h a s ks ha hl) ?_
  intro v h' hr
  obtain ⟨ks', h1, h2, rfl, rfl⟩ := hr
  simp
  exact REr_by _ _ .refl ⟨ks', h1, by simpa using h2, rfl, rfl⟩
end Go.Proofs.Ytdgnjngbheecnaa
