/- Faults: all of them are read. -/
import Derived.Test.YtdgnjngbheecnaaDoorFaF
set_option linter.unusedVariables false
set_option linter.unusedSimpArgs false
set_option maxRecDepth 100000
namespace Go.Proofs.YtdgnjngbheecnaaDoor
open Go Go.Den Go.Proofs

/-- At the loop's head: a reader, a block beside it, what has been read. -/
structure DcI (h0 : List Blk) (R0 : Rd) (xb : Nat) (X : Blk) (h : List Blk) (R : Rd) (r l : List UInt8) (d : DV) (els : List DV) : Prop where
  s : RdSX xb X h R r l
  q : RdX xb h0 h R0 R
  e : SlS 7 h d els
  n : ∀ i, inBlk d i → h0.length ≤ i ∧ ¬ R.own i
  x0 : xb < h0.length
  d0 : ∀ i, inBlk R0.d i → i < h0.length
theorem DcI.next {h0 : List Blk} {R0 : Rd} {xb : Nat} {X : Blk} {h : List Blk} {R : Rd} {r l : List UInt8} {d : DV} {els : List DV} (a : DcI h0 R0 xb X h R r l d els)
    {Z Y : Blk} {h2 : List Blk} {R2 : Rd} {r2 l2 : List UInt8} (s2 : RdSX h.length Y h2 R2 r2 l2) (q2 : RdX h.length (h ++ [Z]) h2 R R2) : DcI h0 R0 xb X h2 R2 r2 l2 d els := by
  have hlen := a.q.len
  have old : ∀ i, i < h.length → ¬ R.own i → h2[i]? = h[i]? := fun i hi hn => by
    rw [q2.old i (by simp; omega) (by omega) hn, List.getElem?_append_left hi]
  have hxl : xb < h.length := Nat.lt_of_lt_of_le a.x0 hlen
  have ho2 : ∀ i, i < h.length → ¬ R.own i → ¬ R2.own i := fun i hi hn => q2.own (by simp; omega) hn
  refine ⟨⟨s2.s, by rw [old xb hxl a.s.n]; exact a.s.x, ho2 xb hxl a.s.n, fun hh => a.s.d (q2.dsub _ hh)⟩, ⟨?_, ?_, ?_, ?_, ?_, ?_⟩, ?_, ?_, a.x0, a.d0⟩
  · have := q2.len; simp at this; omega
  · intro i hi hx hn
    rw [old i (by omega) (a.q.own hi hn), a.q.old i hi hx hn]
  · exact q2.rb.trans a.q.rb
  · exact q2.bb.trans a.q.bb
  · intro i hi
    rcases q2.new i hi with h1 | h1
    · exact a.q.new i h1
    · simp at h1; exact .inr (by omega)
  · exact fun i hi => a.q.dsub i (q2.dsub i hi)
  · exact a.e.of fun i hi => old i (a.e.lt hi) (a.n i hi).2
  · exact fun i hi => ⟨(a.n i hi).1, ho2 i (a.e.lt hi) (a.n i hi).2⟩
/-- Behind an append. -/
theorem DcI.app {h0 : List Blk} {R0 : Rd} {xb : Nat} {X : Blk} {h : List Blk} {R : Rd} {r l : List UInt8} {d : DV} {els : List DV} (a : DcI h0 R0 xb X h R r l d els)
    {B : Blk} {h4 : List Blk} {d' : DV} {els' : List DV} (e4 : SlS 7 h4 d' els') (k : Keep (h ++ [B]) h4 d d') : DcI h0 R0 xb X h4 R r l d' els' ∧ ∀ i, i < h.length → ¬ inBlk d i → h4[i]? = h[i]? := by
  have hlen := a.q.len
  have old : ∀ i, i < h.length → ¬ inBlk d i → h4[i]? = h[i]? := fun i hi hn => by
    rw [k.old i (by simp; omega) hn, List.getElem?_append_left hi]
  have nd : ∀ i, R.own i → ¬ inBlk d i := fun i hi hd => (a.n i hd).2 hi
  have n0 : ∀ i, i < h0.length → ¬ inBlk d i := fun i hi hd => by have := (a.n i hd).1; omega
  have s := a.s.s
  refine ⟨⟨⟨⟨?_, ?_, ?_, ?_, s.ne, s.fr, s.fb, s.dn⟩, ?_, a.s.n, a.s.d⟩, ⟨?_, ?_, a.q.rb, a.q.bb, a.q.new, a.q.dsub⟩, e4, ?_, a.x0, a.d0⟩, old⟩
  · rw [old _ s.rlt (nd _ (.inl rfl))]; exact s.rb
  · rw [old _ s.blt (nd _ (.inr (.inl rfl)))]; exact s.bb
  · exact s.d.of fun i hi => old i (s.d.lt hi) (n0 i (a.d0 i (a.q.dsub i hi)))
  · exact s.f.of fun i hi => old i (s.f.lt hi) (nd _ (.inr (.inr hi)))
  · rw [old xb (by have := a.x0; omega) (n0 xb a.x0)]; exact a.s.x
  · have := k.len; simp at this; omega
  · intro i hi hx hn
    rw [old i (by omega) (n0 i hi), a.q.old i hi hx hn]
  · intro i hi
    rcases k.new i hi with h1 | h1
    · exact a.n i h1
    · simp at h1
      refine ⟨by omega, fun ho => ?_⟩
      rcases ho with h2 | h2 | h2
      · have := s.rlt; omega
      · have := s.blt; omega
      · have := s.f.lt h2; omega

/-- What stands in an exception behind the first one. -/
def nestD (b : Nat) (l : List Ft) : DV := if l.length ≤ 1 then .p (.slice none 0 0) else .sl b 1 (l.length - 1) l.length
def topD (b : Nat) (l : List Ft) : List DV := match l with
  | [] => []
  | f :: _ => [.p (.int .i32 f.c), .p (.string (txt f.n)), .p (.string ⟨#[]⟩), .p (.string (txt (wantM f.n f.m))), .p (.string (txt f.t)), nestD b l, .p (.bool false)]
def DcP (h : List Blk) (R : Rd) (xb : Nat) (l : List Ft) (r : List UInt8) (v : DV) (h' : List Blk) : Prop :=
  ((ftsW l).length ≤ r.length ∧ v = .p .nilIface ∧ ∃ R' l' b, RdSX xb (.cells 7 [.agg (topD b l)]) h' R' (r.drop (ftsW l).length) l' ∧ RdX xb h h' R R' ∧ h'[b]? = some (.cells 7 (exs l)) ∧ h.length ≤ b ∧ ¬ R'.own b) ∨
    (r.length < (ftsW l).length ∧ (∃ x, v = .iface 170 x) ∧ ∃ R' r' l' X, RdSX xb X h' R' r' l' ∧ RdX xb h h' R R')
theorem ok25 (h : List Blk) (R : Rd) (r l0 : List UInt8) (xb rb : Nat) (hrb : R.rb = rb) (l : List Ft) (W : List UInt8) (hne : l ≠ []) (hl : l.length ≤ 5) (hf : ∀ f ∈ l, f.okp) (hr : r.length < 140737488355328) (hp : r <+: ftsW l ++ W)
    (s0 : RdSX xb (.cells 7 [.agg [.p (.int .i32 0), .p (.string ⟨#[]⟩), .p (.string ⟨#[]⟩), .p (.string ⟨#[]⟩), .p (.string ⟨#[]⟩), .p (.slice none 0 0), .p (.bool false)]]) h R r l0) : OkR Tryd.prog GT 25 [.ptr xb 0 0 1, .ptr rb 0 0 1] h (DcP h R xb l r) := by
  refine OkR_by Tryd.func25 c25_ok r25_ok 58 rfl ?_
  subst hrb
  simp [c25, r25]
  refine VV_fam (fun x : Nat × List DV × Rd × List UInt8 × List UInt8 × DV × List Blk => ⟨fr 60 [(0, .ptr xb 0 0 1), (1, .ptr R.rb 0 0 1), (4, .p .nilIface), (5, x.2.2.2.2.2.1)], x.2.2.2.2.2.2⟩)
    (fun x => x.1 < l.length ∧ exs l = x.2.1 ++ exs (l.drop x.1) ∧ (∃ pre, ftsW l = pre ++ ftsW (l.drop x.1) ∧ r = pre ++ x.2.2.2.1) ∧ x.2.2.2.1 <+: ftsW (l.drop x.1) ++ W ∧ DcI h R xb (.cells 7 [.agg [.p (.int .i32 0), .p (.string ⟨#[]⟩), .p (.string ⟨#[]⟩), .p (.string ⟨#[]⟩), .p (.string ⟨#[]⟩), .p (.slice none 0 0), .p (.bool false)]]) x.2.2.2.2.2.2 x.2.2.1 x.2.2.2.1 x.2.2.2.2.1 x.2.2.2.2.2.1 x.2.1)
    (fun x => l.length - x.1) (0, [], R, r, l0, .p (.slice none 0 0), h)
    ⟨by simp; exact List.length_pos_iff.2 hne, rfl, ⟨[], rfl, rfl⟩, hp, ⟨s0, .refl, .nil, fun i hi => hi.elim, s0.lt, fun i hi => s0.s.d.lt hi⟩⟩ (Wk.fits (by simp)) ?_
  rintro ⟨i, els, R1, r1, l1, d, h1⟩ ⟨hi, hex, ⟨pre, hpre, hr1⟩, hp1, I⟩ B hb he hr'
  simp only at hi hex hpre hr1 hp1 I
  have hdrop : l.drop i = l[i] :: l.drop (i + 1) := List.drop_eq_getElem_cons hi
  have hfi := hf l[i] (List.getElem_mem hi)
  have hr1l : r1.length ≤ r.length := by rw [hr1]; simp
  have helen : els.length = i := by
    have := congrArg List.length hex
    simp [exs_length] at this
    omega
  simp
  refine FF_byR (ok45' (h1 ++ [.cells 7 [_]]) R1 r1 l1 h1.length R.rb I.q.rb l[i] (!(l.drop (i + 1)).isEmpty) (ftsW (l.drop (i + 1)) ++ W) hfi (by omega) (by rw [hdrop] at hp1; simpa [ftsW] using hp1)
    ⟨I.s.s.push, by simp, fun ho => ?_, fun ho => ?_⟩) ?_
  · rcases ho with h2 | h2 | h2
    · have := I.s.s.rlt; omega
    · have := I.s.s.blt; omega
    · have := I.s.s.f.lt h2; omega
  · have := I.s.s.d.lt ho; omega
  rintro v h2 (⟨hle, rfl, R2, l2, s2, q2⟩ | ⟨hlt, ⟨x, rfl⟩, R2, r2, l2, X, s2, q2⟩)
  · have J := I.next s2 q2
    have hex2 := s2.x
    have etk : ∀ b, List.take 7 (exD l[i] b) = exD l[i] b := fun b => rfl
    simp [hex2]
    refine ⟨by simp [exD], ?_⟩
    rw [etk]
    refine AA_slS (els := els) (ys := [.agg (exD l[i] (!(l.drop (i + 1)).isEmpty))]) (J.e.of fun i hi => List.getElem?_append_left (J.e.lt hi)) (by simp [elemsOf]) (by simp; omega) ?_
    intro d' h4 e4 k4
    obtain ⟨J2, old⟩ := J.app e4 k4
    have hy : h4[h1.length]? = some (.cells 7 [.agg (exD l[i] (!(l.drop (i + 1)).isEmpty))]) := by
      rw [old h1.length s2.lt fun hd => by have := I.e.lt hd; omega]
      exact s2.x
    have hW : ftsW (l.drop i) = ftW l[i] (!(l.drop (i + 1)).isEmpty) ++ ftsW (l.drop (i + 1)) := by rw [hdrop]; rfl
    have hr2 : r = (pre ++ ftW l[i] (!(l.drop (i + 1)).isEmpty)) ++ r1.drop (ftW l[i] (!(l.drop (i + 1)).isEmpty)).length := by
      rw [hdrop] at hp1
      have hx : ftW l[i] (!(l.drop (i + 1)).isEmpty) <+: r1 := List.prefix_of_prefix_length_le (List.prefix_append _ (ftsW (l.drop (i + 1)) ++ W)) (by simpa [ftsW] using hp1) hle
      obtain ⟨u, hu⟩ := hx
      rw [hr1, ← hu]
      simp
    have hpre2 : ftsW l = (pre ++ ftW l[i] (!(l.drop (i + 1)).isEmpty)) ++ ftsW (l.drop (i + 1)) := by rw [hpre, hW]; simp
    have hex3 : exs l = (els ++ [.agg (exD l[i] (!(l.drop (i + 1)).isEmpty))]) ++ exs (l.drop (i + 1)) := by rw [hex, hdrop]; simp [exs]
    cases hfl : (l.drop (i + 1)).isEmpty with
    | true =>
      have hnil : l.drop (i + 1) = [] := by simpa using hfl
      simp only [hfl, hnil, exs, ftsW, List.append_nil, Bool.not_true] at hy hr2 hpre2 hex3 J2 e4
      simp [hy, exD]
      rw [KON_blk_ext (by decide)]
      simp
      refine he _ _ ?_
      rw [← hex3] at e4 J2
      have hee : exs l ≠ [] := by intro e; have := congrArg List.length e; simp [exs_length] at this; exact hne this
      rcases e4 with ⟨_, h0⟩ | ⟨b, rfl, hb4⟩
      · exact absurd h0 hee
      obtain ⟨hb1, hb2⟩ := J2.n b rfl
      have hxb : xb ≠ b := by have := J2.x0; omega
      have gx := J2.s.x
      have gset : ∀ X, (h4.set xb X)[b]? = some (.cells 7 (exs l)) := fun X => by rw [List.getElem?_set_ne hxb]; exact hb4
      have gset2 : ∀ X, (h4.set xb X)[xb]? = some X := fun X => List.getElem?_set_self J2.s.lt
      have hlen : (exs l).length = l.length := exs_length l
      rw [← hpre2] at hr2
      have hle2 : (ftsW l).length ≤ r.length := by rw [hr2]; simp
      have hdr : r.drop (ftsW l).length = r1.drop (ftW l[i] false).length := by
        conv => lhs; rw [hr2]
        simp
      have fin : ∀ Y, Y = Blk.cells 7 [.agg (topD b l)] → DcP h R xb l r (.p .nilIface) (h4.set xb Y) := by
        rintro Y rfl
        refine .inl ⟨hle2, rfl, R2, l2, b, ?_, J2.q.set, gset _, hb1, hb2⟩
        rw [hdr]
        exact J2.s.set
      obtain ⟨f, tl, rfl⟩ := List.exists_cons_of_ne_nil hne
      clear hb he hr' hW
      have hx0 : (((exs tl).length : Int) + 1 != 0) = true := by simp; omega
      have hbk := hb4
      simp [exs, exD] at hb4 gset hlen
      simp [hb4, gx, gset, gset2, exs, exD, hx0]
      cases tl with
      | nil =>
        simp
        refine REr_by _ _ .refl (fin _ ?_)
        simp [topD, nestD]
      | cons g tl =>
        have h0 : ¬ (((exs (g :: tl)).length : Int) + 1 < 1) := by omega
        simp [h0, gset, gset2]
        refine ⟨by omega, ?_⟩
        refine REr_by _ _ .refl (fin _ ?_)
        simp [topD, nestD, exs_length]
    | false =>
      simp only [hfl, Bool.not_false] at hy hr2 hpre2 hex3 J2 e4
      have hi2 : i + 1 < l.length := by
        have : l.drop (i + 1) ≠ [] := by intro e; rw [e] at hfl; cases hfl
        rcases Nat.lt_or_ge (i + 1) l.length with h5 | h5
        · exact h5
        · exact absurd (List.drop_of_length_le h5) this
      simp [hy, exD]
      refine hb _ (i + 1, els ++ [.agg (exD l[i] true)], R2, r1.drop (ftW l[i] true).length, l2, d', h4) (Wk.fits ?_) ⟨hi2, hex3, ⟨_, hpre2, hr2⟩, ?_, ?_⟩ (by simp; omega)
      · simp
      · show r1.drop _ <+: ftsW (l.drop (i + 1)) ++ W
        rw [hW, hfl, Bool.not_false, List.append_assoc] at hp1
        obtain ⟨u, hu⟩ := hp1
        refine ⟨u, ?_⟩
        have := congrArg (List.drop (ftW l[i] true).length) hu
        rw [List.drop_append_of_le_length (by simpa [hfl] using hle)] at this
        rw [this]
        simp
      · exact J2
  · simp
    refine hr' _ ?_
    simp
    refine REr_by _ _ .refl ?_
    refine .inr ⟨?_, ⟨_, rfl⟩, R2, r2, l2, _, (I.next s2 q2).s, (I.next s2 q2).q⟩
    rw [hpre, hr1, hdrop]
    simp [ftsW]
    omega
end Go.Proofs.YtdgnjngbheecnaaDoor
