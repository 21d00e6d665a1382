/- Faults: what the program reads. -/
import Derived.Test.YtdgnjngbheecnaaDoorFaH
set_option linter.unusedVariables false
set_option linter.unusedSimpArgs false
set_option maxRecDepth 100000
namespace Go.Proofs.YtdgnjngbheecnaaDoor
open Go Go.Den Go.Proofs

def ftZ : Ft := ⟨0, [], [], [], [], .p (.slice none 0 0)⟩
def exZ : Blk := .cells 7 [.agg [.p (.int .i32 0), .p (.string ⟨#[]⟩), .p (.string ⟨#[]⟩), .p (.string ⟨#[]⟩), .p (.string ⟨#[]⟩), .p (.slice none 0 0), .p (.bool false)]]
theorem frz_nest {h : List Blk} {n0 k : Nat} (tl : List Ft) : Den.frz h n0 (k + 1) (nestF tl) = some (nestF tl) := by
  unfold nestF
  split
  · exact frz_p
  · exact frz_fz (rdL_plain tl)
theorem frz_agg' {h : List Blk} {n0 k : Nat} {l : List DV} (hl : omap (Den.frz h n0 k) l = some l) : Den.frz h n0 (k + 1) (.agg l) = some (.agg l) := by
  rw [Den.frz]
  split
  · rfl
  · simp [hl]
theorem frz_tup' {h : List Blk} {n0 k : Nat} {l l' : List DV} (hl : omap (Den.frz h n0 k) l = some l') (he : l = l' := by rfl) : Den.frz h n0 (k + 1) (.tup l) = some (.tup l') := by
  subst he
  rw [Den.frz]
  split
  · rfl
  · simp [hl]
theorem ok9 (h : List Blk) (D : List UInt8) (f : Ft) (tl : List Ft) (W : List UInt8) (hl : tl.length ≤ 4) (hf : ∀ g ∈ f :: tl, g.okp) (hD : D.length < 140737488355328) (hp : D <+: ftsW (f :: tl) ++ W) :
    Ok Tryd.prog GT 9 [.p (.string (txt D))] h (if (ftsW (f :: tl)).length ≤ D.length then .tup [(rdF f (nestF tl)).d, .p (.int .i64 ((D.length - (ftsW (f :: tl)).length : Nat) : Int)), .p (.bool true)] else .tup [ftZ.d, .p (.int .i64 0), .p (.bool false)]) h := by
  refine Ok_by Tryd.func9 c9_ok r9_ok 15 rfl ?_
  simp [c9, r9]
  refine FF_by (ok24 _ D) ?_
  simp [rdBs]
  refine FF_byR (ok25 (h ++ rdFrame h.length (.cells 6 [ftZ.d]) _ D) (rdNew (h.length + 1) D) D [] (h.length + 4) (h.length + 3) rfl (f :: tl) W (by simp) (by simp; omega) hf hD hp (rdFrame_s h (.cells 6 [ftZ.d]) 7 _ D)) ?_
  rintro v h1 (⟨hle, rfl, R', l', b, s, q, hb, hbl, hbo⟩ | ⟨hlt, ⟨x, rfl⟩, R', r', l', X, s, q⟩)
  · obtain ⟨hp, hc6, hrb, hset⟩ := rdFrame_keep q
    have hx := s.x
    simp
    refine FF_by (ok26 h1 (h.length + 4) b f tl (fun g hg => (hf g hg).ok) hl hx hb) ?_
    simp
    refine FF_by (hrb ▸ ok27 h1 R' _ l' s.s) ?_
    simp [hc6, hset]
    refine ⟨rfl, rfl, ?_⟩
    rw [if_pos hle]
    refine WkV.frz 3 (HPre_set hp (Nat.le_refl _)) ?_
    have k1 : ∀ H : List Blk, Den.frz H h.length 2 (rdF f (nestF tl)).d = some (rdF f (nestF tl)).d := fun H => frz_agg' (by simp only [omap, frz_p, Option.bind_some, Option.map_some, rdF, frz_nest])
    refine frz_tup' (l' := [(rdF f (nestF tl)).d, .p (.int .i64 ((D.length - (ftsW (f :: tl)).length : Nat) : Int)), .p (.bool true)]) (h := h1.set h.length _) (k := 2) ?_ rfl
    simp only [omap, frz_p, Option.bind_some, Option.map_some]
    exact congrArg (fun o => Option.bind o _) (k1 _)
  · obtain ⟨hp, hc6, hrb, hset⟩ := rdFrame_keep q
    have hn : ¬ (ftsW (f :: tl)).length ≤ D.length := by omega
    simp [hc6, hset, hn]
    refine ⟨rfl, rfl, ?_⟩
    exact WkV.ofPure (HPre_set hp (Nat.le_refl _)) rfl
end Go.Proofs.YtdgnjngbheecnaaDoor
