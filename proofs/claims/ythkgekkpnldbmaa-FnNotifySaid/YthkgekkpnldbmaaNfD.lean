/- Configurations: slices of which a part is seen; ARNs as texts; small functions. -/
import Derived.Test.YthkgekkpnldbmaaNfC
set_option linter.unusedVariables false
set_option linter.unusedSimpArgs false
set_option maxRecDepth 100000
set_option maxHeartbeats 4000000
namespace Go.Den
open Go
/-- A slice in a block of its own: what is seen of it. -/
def Vs (sz : Nat) (h : List Blk) (d : DV) (L : List DV) : Prop :=
  (d = .p (.slice none 0 0) ∧ L = []) ∨ ∃ b els, d = .sl b 0 L.length els.length ∧ h[b]? = some (.cells sz els) ∧ els.take L.length = L
theorem Vs.nil {sz : Nat} {h : List Blk} : Vs sz h (.p (.slice none 0 0)) [] := .inl ⟨rfl, rfl⟩
theorem Vs.of {sz : Nat} {h h' : List Blk} {d : DV} {L : List DV} (ho : Vs sz h d L) (he : ∀ i, inBlk d i → h'[i]? = h[i]?) : Vs sz h' d L := by
  rcases ho with h1 | ⟨b, els, rfl, h2, h3⟩
  · exact .inl h1
  · exact .inr ⟨b, els, rfl, by rw [he b rfl, h2], h3⟩
theorem Own.toVs {sz : Nat} {h1 h : List Blk} {d : DV} {els : List DV} (ho : Own h1 sz h d els) : Vs sz h d els := by
  rcases ho.2 with ⟨rfl, rfl⟩ | ⟨b, rfl, h2, h3⟩
  · exact .nil
  · exact .inr ⟨b, els, rfl, h3, by simp⟩
theorem Vs.len {sz : Nat} {h : List Blk} {d : DV} {L : List DV} (ho : Vs sz h d L) : d = .p (.slice none 0 0) ∧ L = [] ∨ ∃ b els, d = .sl b 0 L.length els.length ∧ h[b]? = some (.cells sz els) ∧ L.length ≤ els.length ∧ ∀ i (hi : i < L.length) (hi' : i < els.length), els[i] = L[i] := by
  rcases ho with h1 | ⟨b, els, rfl, h2, h3⟩
  · exact .inl h1
  · have hle : L.length ≤ els.length := by have := congrArg List.length h3; simp at this; omega
    refine .inr ⟨b, els, rfl, h2, hle, fun i hi hi' => ?_⟩
    have : (els.take L.length)[i]'(by simp; omega) = L[i] := by simp only [h3]
    simpa using this
theorem Vs.elems {sz : Nat} {h : List Blk} {d : DV} {L : List DV} (ho : Vs sz h d L) : elemsOf h sz d = some L := by
  rcases ho with ⟨rfl, rfl⟩ | ⟨b, els, rfl, h2, h3⟩
  · rfl
  · have hle : L.length ≤ els.length := by have := congrArg List.length h3; simp at this; omega
    rw [elemsOf_sl]
    simp [h2, h3]
theorem vc_Vs {P : Program} {G : Nat → DV} {ev : Opd → DV} {sz bytes : Nat} {dx dy : DV} {x y : Opd} {h : List Blk} {K : DV → List Blk → Prop} {L ys : List DV} (hx : ev x = dx) (hy' : ev y = dy) (ho : Vs sz h dx L) (hy : elemsOf h sz dy = some ys) (hb : (L.length + ys.length) * bytes ≤ 140737488355328)
    (hK : ∀ d' h', Vs sz h' d' (L ++ ys) → Keep h h' dx d' → K d' h') : vcO P G (.app sz bytes x y) ev h K := by
  simp only [vcO, hx, hy', hy]
  rcases ho with ⟨rfl, rfl⟩ | ⟨b, els, rfl, h1, h3⟩
  · simp only [List.nil_append] at hK
    refine ⟨by simpa using hb, fun h2 => ?_, fun h2 => ?_⟩
    · subst h2
      exact hK _ _ .nil ⟨Nat.le_refl _, fun i h1 h2 => rfl, fun i h => .inl h⟩
    · refine hK _ _ (.inr ⟨h.length, ys, rfl, by simp, by simp⟩) ⟨by simp, fun i h1 h2 => by rw [List.getElem?_append_left h1], fun i h => .inr ?_⟩
      simp only [inBlk] at h
      omega
  · have hle : L.length ≤ els.length := by have := congrArg List.length h3; simp at this; omega
    have hlt : b < h.length := (List.getElem?_eq_some_iff.1 h1).1
    simp only [h1]
    refine ⟨trivial, trivial, hb, trivial, hle, ?_⟩
    have keep : ∀ X n x, Keep h (h.set b X) (.sl b 0 L.length els.length) (.sl b 0 n x) := fun X n x => ⟨by simp, fun i h2 h3 => by
      have h4 : b ≠ i := fun h => h3 h.symm
      rw [List.getElem?_set_ne h4], fun i h => .inl h⟩
    split
    · have e : (if L.length = els.length then els else els.take L.length) = L := by
        split
        · rename_i hh; rw [hh, List.take_length] at h3; exact h3
        · exact h3
      rw [e]
      refine hK _ _ (.inr ⟨b, L ++ ys, by simp, by simp [hlt], List.take_length⟩) (keep _ _ _)
    · rename_i hc
      have hc2 : L.length + ys.length ≤ els.length := Nat.le_of_not_lt fun h => hc (.inr h)
      rw [h3]
      have hl : (L ++ ys ++ els.drop (L.length + ys.length)).length = els.length := by simp; omega
      refine hK _ _ (.inr ⟨b, L ++ ys ++ els.drop (L.length + ys.length), by rw [hl]; simp, by simp [hlt], List.take_left⟩) (keep _ _ _)
section
variable {P : Program} {G : Nat → DV} {n : List Blk} {sz bytes : Nat} {dx dy : DV} {dst : Option Nat} {t : List DV} {h : List Blk} {st : List Fr} {Q : DX → St → Prop} {L ys : List DV}
theorem AA_Vs {l : List DOper} (ho : Vs sz h dx L) (hy : elemsOf h sz dy = some ys) (hb : (L.length + ys.length) * bytes ≤ 140737488355328)
    (hK : ∀ d' h', Vs sz h' d' (L ++ ys) → Keep h h' dx d' → KK P G n dst l t st Q d' h') : AA P G n sz bytes dx dy dst l t h st Q := ⟨vc_Vs rfl rfl ho hy hb hK⟩
theorem DA_Vs {fr : List Nat} {l : List DDOp} {Hs : List (List Blk)} (ho : Vs sz h dx L) (hy : elemsOf h sz dy = some ys) (hb : (L.length + ys.length) * bytes ≤ 140737488355328)
    (hK : ∀ d' h', Vs sz h' d' (L ++ ys) → Keep h h' dx d' → DH P G n dst fr l t Hs h st Q d' h') : DA P G n sz bytes dx dy dst fr l t Hs h st Q := ⟨vc_Vs rfl rfl ho hy hb hK⟩
end
end Go.Den
namespace Go.Proofs.Ythkgekkpnldbmaa
open Go Go.Den Go.Proofs
theorem ok43 {G : Nat → DV} (h : List Blk) (a b c d e : List UInt8) (ha : a.length ≤ 1000) (hb : b.length ≤ 1000) (hc : c.length ≤ 1000) (hd : d.length ≤ 1000) (he : e.length ≤ 1000) :
    Ok Try.prog G 43 [arnD a b c d e] h (.p (.string (S ([97, 114, 110, 58] ++ (a ++ 58 :: (b ++ 58 :: (c ++ 58 :: (d ++ 58 :: e)))))))) h := by
  refine Ok_by Try.func43 c43_ok r43_ok 21 rfl ?_
  simp [c43, r43, arnD]
  refine ⟨by omega, by omega, by omega, by omega, by omega, by omega, by omega, by omega, by omega⟩
theorem ok48 {G : Nat → DV} (h : List Blk) (l : List ByteArray) (hl : l.length ≤ 1000) : Ok Try.prog G 48 [.fz 1 (strs l)] h (.p (.string (fstOf l))) h := by
  refine Ok_by Try.func48 c48_ok r48_ok 8 rfl ?_
  simp [c48, r48]
  cases l with
  | nil => simp [fstOf]
  | cons x l =>
    have : ((l.length : Int) + 1 == 0) = false := by simp; omega
    simp [this, fstOf, strs]
theorem ok33 {G : Nat → DV} (h : List Blk) (a b c d e : List UInt8) : Ok Try.prog G 33 [arnD a b c d e] h (arnD a b c d e) h := by
  refine Ok_by Try.func33 c33_ok r33_ok 13 rfl ?_
  simp [c33, r33, arnD]
  exact WkV.ofPure (by simp) rfl
/-- A configuration within a list: its events, its filter, its ARN as a text. -/
def elD (n : N) (evd : DV) (f : Nat) : DV := .agg [.p (.string ⟨#[]⟩), .p (.string (S n.a)), .p (.string (S n.b)), .p (.string (S n.c)), .p (.string (S n.d)), .p (.string (S n.e)), evd, .ptr f 0 0 1, .p (.string (S n.tx))]
/-- It stands in blocks that nobody writes (W: those that are written). -/
structure CfB (H : List Blk) (W : Nat → Prop) (n : N) (evd : DV) (f : Nat) (rd : DV) : Prop where
  at_f : H[f]? = some (.cells 1 [.agg [rd]])
  es : SlS 1 H evd (strs n.ev)
  rs : SlS 2 H rd (rlD (rls n.p n.s))
  wf : ¬ W f
  we : ∀ i, inBlk evd i → ¬ W i
  wr : ∀ i, inBlk rd i → ¬ W i
def CfOk (H : List Blk) (W : Nat → Prop) (n : N) (v : DV) : Prop := ∃ evd f rd, v = elD n evd f ∧ CfB H W n evd f rd
theorem SlS.lt {sz : Nat} {h : List Blk} {d : DV} {els : List DV} (ho : SlS sz h d els) {i : Nat} (hi : inBlk d i) : i < h.length := by
  rcases ho with ⟨rfl, _⟩ | ⟨b, rfl, h3⟩
  · exact hi.elim
  · have : i = b := hi
    subst this
    exact (List.getElem?_eq_some_iff.1 h3).1
theorem CfB.of {H H' : List Blk} {W W' : Nat → Prop} {n : N} {evd rd : DV} {f : Nat} (s : CfB H W n evd f rd) (he : ∀ i, i < H.length → ¬ W i → H'[i]? = H[i]?) (hw : ∀ i, i < H.length → W' i → W i) : CfB H' W' n evd f rd := by
  have hf : f < H.length := (List.getElem?_eq_some_iff.1 s.at_f).1
  refine ⟨by rw [he f hf s.wf]; exact s.at_f, s.es.of fun i hi => he i (SlS.lt s.es hi) (s.we i hi), s.rs.of fun i hi => he i (SlS.lt s.rs hi) (s.wr i hi), fun h => s.wf (hw f hf h), fun i hi h => s.we i hi (hw i (SlS.lt s.es hi) h), fun i hi h => s.wr i hi (hw i (SlS.lt s.rs hi) h)⟩
theorem CfOk.of {H H' : List Blk} {W W' : Nat → Prop} {n : N} {v : DV} (s : CfOk H W n v) (he : ∀ i, i < H.length → ¬ W i → H'[i]? = H[i]?) (hw : ∀ i, i < H.length → W' i → W i) : CfOk H' W' n v := by
  obtain ⟨evd, f, rd, h1, h2⟩ := s
  exact ⟨evd, f, rd, h1, h2.of he hw⟩
/-- A list of them. -/
inductive Cfs (H : List Blk) (W : Nat → Prop) : List N → List DV → Prop
  | nil : Cfs H W [] []
  | cons {n : N} {v : DV} {l : List N} {d : List DV} (h1 : CfOk H W n v) (h2 : Cfs H W l d) : Cfs H W (n :: l) (v :: d)
theorem Cfs.of {H H' : List Blk} {W W' : Nat → Prop} {l : List N} {d : List DV} (s : Cfs H W l d) (he : ∀ i, i < H.length → ¬ W i → H'[i]? = H[i]?) (hw : ∀ i, i < H.length → W' i → W i) : Cfs H' W' l d := by
  induction s with
  | nil => exact .nil
  | cons h1 _ ih => exact .cons (h1.of he hw) ih
theorem Cfs.len {H : List Blk} {W : Nat → Prop} {l : List N} {d : List DV} (s : Cfs H W l d) : d.length = l.length := by
  induction s with
  | nil => rfl
  | cons _ _ ih => simp [ih]
theorem Cfs.get {H : List Blk} {W : Nat → Prop} {l : List N} {d : List DV} (s : Cfs H W l d) : ∀ i (hi : i < l.length) (hi' : i < d.length), CfOk H W l[i] d[i] := by
  induction s with
  | nil => intro i hi; exact absurd hi (by simp)
  | cons h1 _ ih =>
    intro i hi hi'
    cases i with
    | zero => exact h1
    | succ i => exact ih i (by simpa using hi) (by simpa using hi')
theorem Cfs.app {H : List Blk} {W : Nat → Prop} {l l' : List N} {d d' : List DV} (s : Cfs H W l d) (s' : Cfs H W l' d') : Cfs H W (l ++ l') (d ++ d') := by
  induction s with
  | nil => exact s'
  | cons h1 _ ih => exact .cons h1 ih
theorem Cfs.take {H : List Blk} {W : Nat → Prop} {l : List N} {d : List DV} (s : Cfs H W l d) : ∀ i, Cfs H W (l.take i) (d.take i) := by
  induction s with
  | nil => intro i; simp; exact .nil
  | cons h1 _ ih =>
    intro i
    cases i with
    | zero => exact .nil
    | succ i => exact .cons h1 (ih i)
theorem Cfs.drop {H : List Blk} {W : Nat → Prop} {l : List N} {d : List DV} (s : Cfs H W l d) : ∀ i, Cfs H W (l.drop i) (d.drop i) := by
  induction s with
  | nil => intro i; simp; exact .nil
  | cons h1 h2 ih =>
    intro i
    cases i with
    | zero => exact .cons h1 h2
    | succ i => exact ih i
/-- What a Configuration's step may write. -/
def Wr (bb : Nat) (D : Fin 3 → DV) (i : Nat) : Prop := i = bb ∨ ∃ k, inBlk (D k) i
/-- What nobody else may touch: what a step may write, and blocks X of others that are written. -/
def Wx (X : Nat → Prop) (bb : Nat) (D : Fin 3 → DV) (i : Nat) : Prop := Wr bb D i ∨ X i
/-- The whole Configuration (0: lambdas, 1: topics, 2: queues, as they stand in the structure). -/
structure Cs (X : Nat → Prop) (H : List Blk) (bb : Nat) (D : Fin 3 → DV) (L : Fin 3 → List N) : Prop where
  at_b : H[bb]? = some (.cells 5 [.agg [.p (.string ⟨#[]⟩), .p (.string ⟨#[]⟩), D 0, D 1, D 2]])
  sl : ∀ k, ∃ ds, Vs 9 H (D k) ds ∧ Cfs H (Wx X bb D) (L k) ds
  nb : ∀ k, ¬ inBlk (D k) bb
  ap : ∀ k m i, inBlk (D k) i → inBlk (D m) i → k = m
  xl : ∀ i, X i → i < H.length
  xs : ∀ i, X i → ¬ Wr bb D i
variable {X : Nat → Prop}
theorem Vs.lt {sz : Nat} {h : List Blk} {d : DV} {els : List DV} (ho : Vs sz h d els) {i : Nat} (hi : inBlk d i) : i < h.length := by
  rcases ho with ⟨rfl, _⟩ | ⟨b, els', rfl, h3, _⟩
  · exact hi.elim
  · have : i = b := hi
    subst this
    exact (List.getElem?_eq_some_iff.1 h3).1
theorem Cs.lt {H : List Blk} {bb : Nat} {D : Fin 3 → DV} {L : Fin 3 → List N} (s : Cs X H bb D L) {i : Nat} (hi : Wr bb D i) : i < H.length := by
  rcases hi with rfl | ⟨k, hi⟩
  · exact (List.getElem?_eq_some_iff.1 s.at_b).1
  · obtain ⟨ds, h1, _⟩ := s.sl k
    exact Vs.lt h1 hi
theorem Cs.ltx {H : List Blk} {bb : Nat} {D : Fin 3 → DV} {L : Fin 3 → List N} (s : Cs X H bb D L) {i : Nat} (hi : Wx X bb D i) : i < H.length := hi.elim s.lt (s.xl i)
theorem Cs.push {H H' : List Blk} {bb : Nat} {D : Fin 3 → DV} {L : Fin 3 → List N} (s : Cs X H bb D L) (hp : HPre H H') : Cs X H' bb D L := by
  have he : ∀ i, i < H.length → H'[i]? = H[i]? := fun i hi => by rw [List.getElem?_eq_getElem hi]; exact hp _ _ (List.getElem?_eq_getElem hi)
  refine ⟨hp _ _ s.at_b, fun k => ?_, s.nb, s.ap, fun i hi => Nat.lt_of_lt_of_le (s.xl i hi) hp.length, s.xs⟩
  obtain ⟨ds, h1, h2⟩ := s.sl k
  exact ⟨ds, h1.of fun i hi => he i (Vs.lt h1 hi), h2.of (fun i hi _ => he i hi) (fun i _ h => h)⟩
end Go.Proofs.Ythkgekkpnldbmaa
