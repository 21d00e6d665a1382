/- Notices: lists of them, as the machine holds them; two lists compared; do they fit. -/
import Derived.Test.YthkgekkpnldbmaaNfA
set_option linter.unusedVariables false
set_option linter.unusedSimpArgs false
set_option maxRecDepth 100000
set_option maxHeartbeats 4000000
namespace Go.Proofs.Ythkgekkpnldbmaa
open Go Go.Den Go.Proofs

def ntN (n : N) : DV := ntD n.k n.a n.b n.c n.d n.e n.ev n.p n.s
def nts (l : List N) : List DV := l.map ntN
@[simp] theorem nts_length (l : List N) : (nts l).length = l.length := by simp [nts]
@[simp] theorem nts_getElem {l : List N} {i : Nat} (h : i < (nts l).length) : (nts l)[i] = ntN (l[i]'(by simpa using h)) := by simp [nts]
theorem nts_push (l : List N) (n : N) : nts l ++ [ntN n] = nts (l ++ [n]) := by simp [nts]
end Go.Proofs.Ythkgekkpnldbmaa
namespace Go.Den
open Go
theorem WkV.ofR {h0 h : List Blk} {d d' : DV} (hp : HPre h0 h) (hf : FrzR h h0 d d') : WkV h0 d h d' h0 := by
  intro h0w e v he hr hv hl
  subst he
  obtain ⟨ev, hh⟩ := env_drop hr h0 (fun b k hb => .inl (hp b k hb))
  exact ⟨⟨e.ρ, h0, e.H⟩, rfl, rfl, hh h0w, hf e v rfl hr hv, ⟨Nat.le_refl _, Nat.le_refl _, ev.ro, fun b hb k' hk => ev.key b (Nat.lt_of_lt_of_le hb (Nat.le_refl _)) k' hk⟩⟩
theorem FrzR.tup {h h0 : List Blk} {l l' : List DV} (H : FrzL h h0 l l') : FrzR h h0 (.tup l) (.tup l') := fun e v he hr hv => by
  obtain ⟨h1, h2⟩ := H.tr
  cases hv with
  | tup hl g => exact .tup (h1.trans hl) fun i hi hi' => h2 i (by omega) hi e _ he hr (g i (by omega) hi')
end Go.Den
namespace Go.Proofs.Ythkgekkpnldbmaa
open Go Go.Den Go.Proofs
theorem frz_agg' {h : List Blk} {n0 k : Nat} {l : List DV} (hl : omap (Den.frz h n0 k) l = some l) : Den.frz h n0 (k + 1) (.agg l) = some (.agg l) := by
  show (if pureV (.agg l) = true then some (DV.agg l) else (omap (Den.frz h n0 k) l).map .agg) = _
  rw [hl]; split <;> rfl
theorem frz_fz' {h : List Blk} {n0 k sz : Nat} {l : List DV} (hl : omap (Den.frz h n0 k) l = some l) : Den.frz h n0 (k + 1) (.fz sz l) = some (.fz sz l) := by
  show (if pureV (.fz sz l) = true then some (DV.fz sz l) else (omap (Den.frz h n0 k) l).map (.fz sz)) = _
  rw [hl]; split <;> rfl
theorem frz_sl' {h : List Blk} {n0 k sz b : Nat} {l : List DV} (hl : omap (Den.frz h n0 k) l = some l) (hb : h[b]? = some (.cells sz l)) (hn : n0 ≤ b) : Den.frz h n0 (k + 1) (.sl b 0 l.length l.length) = some (.fz sz l) := by
  show (if pureV (.sl b 0 l.length l.length) = true then some (DV.sl b 0 l.length l.length) else if b < n0 then some (.sl b 0 l.length l.length) else match h[b]? with
      | some (.cells sz els) => if l.length = els.length then (omap (Den.frz h n0 k) (if 0 = 0 ∧ l.length = l.length then els else (els.drop 0).take l.length)).map (.fz sz) else none
      | _ => none) = _
  rw [if_neg (by simp [pureV]), if_neg (Nat.not_lt.2 hn), hb]
  simp only [if_true, and_self]
  rw [hl]; rfl
theorem frz_ntN {h : List Blk} {n0 k : Nat} (x : N) : Den.frz h n0 (k + 2) (ntN x) = some (ntN x) := by
  have hl : omap (Den.frz h n0 (k + 1)) [.p (.int .i64 x.k), .p (.string (S x.a)), .p (.string (S x.b)), .p (.string (S x.c)), .p (.string (S x.d)), .p (.string (S x.e)), .fz 1 (strs x.ev), .fz 1 (strs x.p), .fz 1 (strs x.s)] = some [.p (.int .i64 x.k), .p (.string (S x.a)), .p (.string (S x.b)), .p (.string (S x.c)), .p (.string (S x.d)), .p (.string (S x.e)), .fz 1 (strs x.ev), .fz 1 (strs x.p), .fz 1 (strs x.s)] := omap_self fun d hd => by
    simp only [List.mem_cons, List.not_mem_nil, or_false] at hd
    rcases hd with rfl | rfl | rfl | rfl | rfl | rfl | rfl | rfl | rfl <;> first | exact frz_p | exact frz_fz strs_plain
  exact frz_agg' hl
theorem frz_nts {h : List Blk} {n0 k : Nat} (l : List N) : omap (Den.frz h n0 (k + 2)) (nts l) = some (nts l) := omap_self fun d hd => by
  obtain ⟨x, _, rfl⟩ := List.mem_map.1 hd
  exact frz_ntN x
theorem frz_fzN {h : List Blk} {n0 k : Nat} (l : List N) : Den.frz h n0 (k + 3) (.fz 9 (nts l)) = some (.fz 9 (nts l)) := by
  exact frz_fz' (frz_nts l)
theorem Own.frzN {h0 h : List Blk} {d : DV} {l : List N} (ho : Own h0 9 h d (nts l)) (hw : HWF h0) : FrzR h h0 d (.fz 9 (nts l)) := by
  have hd : ∀ (b : Nat) (k : Blk), h0[b]? = some k → h[b]? = some k ∨ k = .dead := fun b k hb => .inl (ho.pre b k hb)
  rcases ho.2 with ⟨rfl, h1⟩ | ⟨b, rfl, h2, h3⟩
  · rw [h1]; exact .nil
  · refine FrzR.of 3 hd hw ?_
    exact frz_sl' (frz_nts l) h3 h2
theorem FrzR_nts {h0 h : List Blk} (l : List N) (hp : HPre h0 h) (hw : HWF h0) : FrzR h h0 (.fz 9 (nts l)) (.fz 9 (nts l)) := FrzR.of 3 (fun b k hb => .inl (hp b k hb)) hw (frz_fzN l)
/-- Texts of at most so many. -/
structure Few (n : N) : Prop where
  ev : n.ev.length ≤ 1000
  p : n.p.length ≤ 1000
  s : n.s.length ≤ 1000
theorem Good.few {n : N} (h : Good n) : Few n := ⟨by have := h.ev4; omega, by have := h.p1; omega, by have := h.s1; omega⟩
theorem ok8 {G : Nat → DV} (h : List Blk) (l : List N) (hl : l.length ≤ 1000) (hf : ∀ n ∈ l, Few n) : Ok Try.prog G 8 [.fz 9 (nts l), .fz 9 (nts l)] h (.p (.bool true)) h := by
  refine Ok_by Try.func8 c8_ok r8_ok 59 rfl ?_
  simp [c8, r8]
  refine VV_fam (fun x : Nat × List Blk => ⟨fr 61 [(1, .fz 9 (nts l)), (13, .fz 9 (nts l)), (14, .p (.int .i64 l.length)), (15, .p (.int .i64 x.1))], h ++ x.2⟩)
    (fun x => x.1 ≤ l.length) (fun x => l.length - x.1) (0, []) (Nat.zero_le _) (Wk.fitsE (List.append_nil h).symm (by simp)) ?_
  rintro ⟨i, hh⟩ hi B hb he hr
  simp only at hi
  simp
  refine CC_by (fun h2 => ?_) (fun h2 => ?_)
  · have hi' : i < l.length := by simpa using h2
    have hadd : IntKind.i64.wrap ((i : Int) + 1) = ((i + 1 : Nat) : Int) := wrap_succ hi' (by omega)
    obtain ⟨f1, f2, f3⟩ := hf l[i] (List.getElem_mem hi')
    simp [hi']
    generalize l[i] = n at f1 f2 f3 ⊢
    simp [ntN, ntD]
    refine FF_by (ok18 _ n.ev n.ev (by simp [maxLen_eq]; omega)) ?_
    simp
    refine FF_by (ok18 _ n.p n.p (by simp [maxLen_eq]; omega)) ?_
    simp
    refine FF_by (ok18 _ n.s n.s (by simp [maxLen_eq]; omega)) ?_
    simp [hadd]
    exact hb _ (i + 1, hh ++ [_, _]) (Wk.fitsE rfl (by simp)) hi' (by simp; omega)
  · simp
    refine he _ _ ?_
    simp
theorem ok8n {G : Nat → DV} (h : List Blk) (l l' : List N) (hl : l.length ≤ 1000) (hf : ∀ n ∈ l, Few n) (he : l = l') : Ok Try.prog G 8 [.fz 9 (nts l), .fz 9 (nts l')] h (.p (.bool true)) h := by
  subst he; exact ok8 h l hl hf
/-- A step, as the machine holds it. -/
def stD (kd : Int) (n : N) : DV := .agg [.p (.int .i64 kd), .p (.int .i64 n.k), .p (.string (S n.a)), .p (.string (S n.b)), .p (.string (S n.c)), .p (.string (S n.d)), .p (.string (S n.e)), .fz 1 (strs n.ev), .fz 1 (strs n.p), .fz 1 (strs n.s)]
def sts (l : List (Int × N)) : List DV := l.map fun x => stD x.1 x.2
@[simp] theorem sts_length (l : List (Int × N)) : (sts l).length = l.length := by simp [sts]
@[simp] theorem sts_getElem {l : List (Int × N)} {i : Nat} (h : i < (sts l).length) : (sts l)[i] = stD (l[i]'(by simpa using h)).1 (l[i]'(by simpa using h)).2 := by simp [sts]
theorem sts_push (l : List (Int × N)) (k : Int) (n : N) : sts l ++ [stD k n] = sts (l ++ [(k, n)]) := by simp [sts]
/-- Slices that a length can tell. -/
structure Len (n : N) : Prop where
  ev : n.ev.length ≤ maxLen
  p : n.p.length ≤ maxLen
  s : n.s.length ≤ maxLen
def fitsN (n : N) : Bool := fits9 n.a n.b n.c n.d n.e && (fits8 n.ev && (fits8 n.p && fits8 n.s))
theorem ok9 {G : Nat → DV} (h : List Blk) (kd : Int) (n : N) (hn : Len n) : Ok Try.prog G 9 [stD kd n] h (.p (.bool (fitsN n))) h := by
  refine Ok_by Try.func9 c9_ok r9_ok 6 rfl ?_
  simp [c9, r9, stD]
  refine FF_by (ok19 _ n.k n.a n.b n.c n.d n.e n.ev n.p n.s hn.ev hn.p hn.s) ?_
  show KK Try.prog G h _ _ _ _ _ (.p (.bool (fitsN n))) _
  cases fitsN n <;> simp
theorem ok4 {G : Nat → DV} (h : List Blk) (l : List (Int × N)) (hl : l.length ≤ maxLen) (hf : ∀ x ∈ l, Len x.2) : ∃ b, Ok Try.prog G 4 [.fz 10 (sts l)] h (.p (.bool b)) h ∧ (b = true → l.length ≤ 2147483647) := by
  by_cases hbig : l.length ≤ 2147483647
  · refine ⟨l.all fun x => fitsN x.2, ?_, fun _ => hbig⟩
    refine Ok_by Try.func4 c4_ok r4_ok 17 rfl ?_
    have h0 : ¬ (2147483647 < (l.length : Int)) := by omega
    simp [c4, r4, h0]
    refine VV_fam (fun x : Nat × List Blk => ⟨fr 18 [(8, .fz 10 (sts l)), (9, .p (.int .i64 l.length)), (10, .p (.int .i64 x.1))], h ++ x.2⟩)
      (fun x => x.1 ≤ l.length ∧ (l.take x.1).all (fun x => fitsN x.2) = true) (fun x => l.length - x.1) (0, []) (by simp) (Wk.fitsE (List.append_nil h).symm (by simp)) ?_
    rintro ⟨i, hh⟩ ⟨hi, hall⟩ B hb he hr
    simp only at hi hall
    simp
    refine CC_by (fun h2 => ?_) (fun h2 => ?_)
    · have hi' : i < l.length := by simpa using h2
      have hadd : IntKind.i64.wrap ((i : Int) + 1) = ((i + 1 : Nat) : Int) := wrap_succ hi' (by simp [maxLen_eq] at hl ⊢; omega)
      have hfi := hf l[i] (List.getElem_mem hi')
      have hmem : l[i] ∈ l := List.getElem_mem hi'
      have htk : l.take (i + 1) = l.take i ++ [l[i]] := List.take_succ_eq_append_getElem hi'
      simp [hi']
      generalize l[i] = x at hfi hmem htk ⊢
      have key := ok9 (G := G) (h ++ (hh ++ [Blk.cells 10 [stD x.1 x.2]])) x.1 x.2 hfi
      simp [stD] at key ⊢
      refine FF_by key ?_
      cases hx : fitsN x.2
      · simp
        refine hr _ ?_
        have : (l.all fun x => fitsN x.2) = false := by rw [List.all_eq_false]; exact ⟨x, hmem, by simp [hx]⟩
        simp only [this]
        simp
      · simp [hadd]
        exact hb _ (i + 1, hh ++ [_]) (Wk.fitsE rfl (by simp)) ⟨hi', by rw [htk, List.all_append, hall]; simp [hx]⟩ (by simp; omega)
    · have : i = l.length := by simp at h2; omega
      subst this
      rw [List.take_length] at hall
      simp
      refine he _ _ ?_
      simp [hall]
  · refine ⟨false, ?_, fun h => absurd h (by simp)⟩
    refine Ok_by Try.func4 c4_ok r4_ok 17 rfl ?_
    have h0 : (2147483647 < (l.length : Int)) := by omega
    simp [c4, r4, h0]
end Go.Proofs.Ythkgekkpnldbmaa
