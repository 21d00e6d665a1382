/- JSON: a set of numbers is written. -/
import Derived.Test.YtppjcnaffphakaaGreatDoorJwA
import Derived.Test.YtppjcnaffphakaaGreatDoorMwB
set_option linter.unusedVariables false
set_option linter.unusedSimpArgs false
set_option maxRecDepth 100000
set_option maxHeartbeats 4000000
namespace Go.Proofs.YtppjcnaffphakaaGreatDoor
open Go Go.Den Go.Proofs

theorem ok51 {G : Nat → DV} (h : List Blk) (l : List Int) (hl : l.length ≤ 1000) : Ok Tryz.prog G 51 [.fz 1 (ints l)] h (.mp h.length) (h ++ [.map (smap (l.foldl addNew []))]) := by
  refine Ok.wf fun hw => ?_
  refine Ok_by Tryz.func51 c51_ok r51_ok 19 rfl ?_
  simp [c51, r51]
  have hlm : l.length ≤ maxLen := by rw [maxLen_eq]; omega
  refine VV_fam (fun i : Nat => ⟨fr 20 [(0, .fz 1 (ints l)), (3, .mp h.length), (9, .fz 1 (ints l)), (10, .p (.int .i64 l.length)), (11, .p (.int .i64 i))], h ++ [.map (smap ((l.take i).foldl addNew []))]⟩)
    (fun i => i ≤ l.length) (l.length - ·) 0 (by simp) (Wk.fits (by simp)) ?_
  intro i hi B hbk he hr
  simp
  refine CC_by (fun h2 => ?_) (fun h2 => ?_)
  · have hi' : i < l.length := by simpa using h2
    simp [hi']
    refine FF_by (ok70 _ _ ((l.take i).foldl addNew []) _ (by simp) (noIter_push (hw.noIter (Nat.le_refl _)) (by simp))) ?_
    simp [wrap_succ hi' hlm]
    have hnext : (l.take (i + 1)).foldl addNew [] = addNew ((l.take i).foldl addNew []) l[i] := by rw [List.take_succ_eq_append_getElem hi', List.foldl_append]; rfl
    rw [← hnext]
    refine hbk _ (i + 1) (Wk.fits (by simp)) hi' (by omega)
  · have : i = l.length := by simp at h2; omega
    subst this
    simp
    refine he _ _ ?_
    simp
    exact .refl


theorem ok28 {G : Nat → DV} (h : List Blk) (l : List Int) (hl : l.length ≤ 1000) : Ok Tryz.prog G 28 [.fz 1 (ints l)] h (.mp h.length) (h ++ [.map (smap (l.foldl addNew []))]) := by
  refine Ok_by Tryz.func28 c28_ok r28_ok 4 rfl ?_
  simp [c28, r28]
  refine FF_by (ok51 h l hl) ?_
  simp
  exact .refl

theorem ok52 {G : Nat → DV} (h : List Blk) (ns : List Int) (hn : ∀ n, n ∈ ns → I64 n) (hN : ns.length ≤ 1000) :
    OkR Tryz.prog G 52 [.iface 90 (.fz 1 (ints ns))] h fun v h' => ∃ d', v = .tup [d', .p .nilIface] ∧ Own h 1 h' d' (bts (91 :: jnI ns ++ [93])) := by
  refine OkR_by Tryz.func52 c52_ok r52_ok 18 rfl ?_
  generalize hR : (fun (v : DV) (h' : List Blk) => ∃ d', v = .tup [d', .p .nilIface] ∧ Own h 1 h' d' (bts (91 :: jnI ns ++ [93]))) = R
  simp [c52, r52]
  refine IV_by (f := 193) (by kernel_rfl) (by kernel_rfl) ?_
  refine FF_byR (ok193 (h ++ [wB (.p (.slice none 0 0)) false]) h.length ns (by simp) hn hN) ?_
  rintro v h1 ⟨rfl, ⟨dk, ho⟩, hl1⟩
  have e : (h ++ [wB (.p (.slice none 0 0)) false]).set h.length (wB dk true) = h ++ [wB dk true] := by simp
  rw [e] at ho
  have g1 : h1[h.length]? = some (wB dk true) := ho.pre _ _ (by simp)
  simp only [wB] at g1
  simp [g1]
  subst hR
  exact REr_by _ _ WkV.refl ⟨dk, rfl, ho.base (HPre.append _ _)⟩
theorem ok29 {G : Nat → DV} (hG : GZ G) (h : List Blk) (a : Nat) (ks : List Int) (ha : h[a]? = some (.map (smap ks))) (hnk : ks.Nodup) (hl : ks.length ≤ 1000) (hI : ∀ k, k ∈ ks → I64 k) :
    OkR Tryz.prog G 29 [.mp a] h fun v h' => ∃ d', v = .tup [d', .p .nilIface] ∧ Own h 1 h' d' (bts (91 :: jnI (setOf ks) ++ [93])) := by
  refine OkR_by Tryz.func29 c29_ok r29_ok 9 rfl ?_
  generalize hR : (fun (v : DV) (h' : List Blk) => ∃ d', v = .tup [d', .p .nilIface] ∧ Own h 1 h' d' (bts (91 :: jnI (setOf ks) ++ [93]))) = R
  simp [c29, r29]
  refine FF_by (ok38 hG h a ks ha hl hnk) ?_
  simp
  have hsl := setOf_length ks
  refine FF_byR (ok52 h (setOf ks) (fun k hk => hI k (mem_setOf.1 hk)) (by omega)) ?_
  rintro v h1 ⟨d', rfl, ho⟩
  simp
  subst hR
  exact REr_by _ _ WkV.refl ⟨d', rfl, ho⟩
end Go.Proofs.YtppjcnaffphakaaGreatDoor
