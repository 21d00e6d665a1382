/- Configurations: a run of steps; the state of the walk through them. -/
import Derived.Test.YthkgekkpnldbmaaNfL
set_option linter.unusedVariables false
set_option linter.unusedSimpArgs false
set_option maxRecDepth 100000
set_option maxHeartbeats 4000000
namespace Go.Proofs.Ythkgekkpnldbmaa
open Go Go.Den Go.Proofs

def iSt (L : Fin 3 → List N) (x : Int × N) : Fin 3 → List N := up L (kx x.2.k) (iDo (L (kx x.2.k)) x.1 x.2).1
def iOk (L : Fin 3 → List N) (x : Int × N) : Bool := (iDo (L (kx x.2.k)) x.1 x.2).2.1
def iNo (L : Fin 3 → List N) (x : Int × N) : Bool := (iDo (L (kx x.2.k)) x.1 x.2).2.2
def iRun (L : Fin 3 → List N) : List (Int × N) → (Fin 3 → List N) × List Bool × List Bool
  | [] => (L, [], [])
  | x :: r => ((iRun (iSt L x) r).1, iOk L x :: (iRun (iSt L x) r).2.1, iNo L x :: (iRun (iSt L x) r).2.2)
theorem iRun_push (l : List (Int × N)) (x : Int × N) : ∀ L, iRun L (l ++ [x]) = (iSt (iRun L l).1 x, (iRun L l).2.1 ++ [iOk (iRun L l).1 x], (iRun L l).2.2 ++ [iNo (iRun L l).1 x]) := by
  induction l with
  | nil => intro L; rfl
  | cons y l ih => intro L; simp only [List.cons_append, iRun, ih]
theorem iDo_mem (l : List N) (kd : Int) (n x : N) (h : x ∈ (iDo l kd n).1) : x ∈ l ∨ x = n := by
  unfold iDo at h
  split at h
  · simpa using h
  · split at h
    · exact .inl (List.mem_filter.1 h).1
    · split at h
      · exact .inl (List.mem_of_mem_eraseIdx h)
      · exact .inl h
theorem iDo_len (l : List N) (kd : Int) (n : N) : (iDo l kd n).1.length ≤ l.length + 1 := by
  unfold iDo
  split
  · simp
  · split
    · exact Nat.le_succ_of_le (List.length_filter_le _ _)
    · split
      · have := List.length_eraseIdx_le l ‹_›; simp only; omega
      · simp
/-- Lists as they ought to be after at most m steps. -/
structure LOk (L : Fin 3 → List N) (m : Nat) : Prop where
  good : ∀ k, ∀ x ∈ L k, Good x
  kind : ∀ k, ∀ x ∈ L k, kx x.k = k
  len : ∀ k, (L k).length ≤ m
theorem LOk.nil : LOk (fun _ => []) 0 := ⟨fun _ _ h => absurd h (by simp), fun _ _ h => absurd h (by simp), fun _ => Nat.le_refl _⟩
theorem LOk.step {L : Fin 3 → List N} {m : Nat} (s : LOk L m) (x : Int × N) (hx : Good x.2) : LOk (iSt L x) (m + 1) := by
  refine ⟨fun k y hy => ?_, fun k y hy => ?_, fun k => ?_⟩
  · by_cases hk : k = kx x.2.k
    · rw [iSt, hk, up_same] at hy
      rcases iDo_mem _ _ _ _ hy with h | h
      · exact s.good _ y h
      · rw [h]; exact hx
    · rw [iSt, up_ne _ _ hk] at hy; exact s.good _ y hy
  · by_cases hk : k = kx x.2.k
    · rw [iSt, hk, up_same] at hy
      rcases iDo_mem _ _ _ _ hy with h | h
      · rw [hk]; exact s.kind _ y h
      · rw [h, hk]
    · rw [iSt, up_ne _ _ hk] at hy; exact s.kind _ y hy
  · by_cases hk : k = kx x.2.k
    · rw [iSt, hk, up_same]
      exact Nat.le_trans (iDo_len _ _ _) (Nat.succ_le_succ (s.len _))
    · rw [iSt, up_ne _ _ hk]; exact Nat.le_succ_of_le (s.len _)
theorem iRun_ok (l : List (Int × N)) (hl : ∀ x ∈ l, Good x.2) : ∀ (L : Fin 3 → List N) (m : Nat), LOk L m → LOk (iRun L l).1 (m + l.length) := by
  induction l with
  | nil => intro L m h; exact h
  | cons x l ih =>
    intro L m h
    have := ih (fun y hy => hl y (by simp [hy])) (iSt L x) (m + 1) (h.step x (hl x (by simp)))
    simp only [iRun, List.length_cons]
    rw [show m + (l.length + 1) = m + 1 + l.length by omega]
    exact this
theorem iRun_len (l : List (Int × N)) : ∀ L, (iRun L l).2.1.length = l.length ∧ (iRun L l).2.2.length = l.length := by
  induction l with
  | nil => intro L; exact ⟨rfl, rfl⟩
  | cons x l ih => intro L; simp [iRun, ih]

def bls (l : List Bool) : List DV := l.map fun b => .p (.bool b)
@[simp] theorem bls_length (l : List Bool) : (bls l).length = l.length := by simp [bls]
theorem bls_push (l : List Bool) (b : Bool) : bls l ++ [.p (.bool b)] = bls (l ++ [b]) := by simp [bls]
theorem bls_plain {l : List Bool} : plainL (bls l) := fun d hd => by
  obtain ⟨b, _, rfl⟩ := List.mem_map.1 hd
  rfl
theorem Cs.keep {X X' : Nat → Prop} {H H' : List Blk} {bb : Nat} {D : Fin 3 → DV} {L : Fin 3 → List N} (s : Cs X H bb D L) (hl : H.length ≤ H'.length) (he : ∀ i, i < H.length → ¬ X i → H'[i]? = H[i]?) (hX : ∀ i, X' i → X i ∨ (H.length ≤ i ∧ i < H'.length)) : Cs X' H' bb D L := by
  have hw : ∀ i, Wr bb D i → H'[i]? = H[i]? := fun i hi => he i (s.lt hi) fun h => s.xs i h hi
  refine ⟨by rw [hw bb (.inl rfl)]; exact s.at_b, fun k => ?_, s.nb, s.ap, fun i hi => ?_, fun i hi h => ?_⟩
  · obtain ⟨ds, h1, h2⟩ := s.sl k
    refine ⟨ds, h1.of fun i hi => hw i (.inr ⟨k, hi⟩), h2.of (fun i hi hn => he i hi fun h => hn (.inr h)) (fun i hi h => ?_)⟩
    rcases h with h | h
    · exact .inl h
    · rcases hX i h with h | h
      · exact .inr h
      · omega
  · rcases hX i hi with h | h
    · exact Nat.lt_of_lt_of_le (s.xl i h) hl
    · exact h.2
  · rcases hX i hi with h1 | h1
    · exact s.xs i h1 h
    · have := s.lt h; omega
/-- The walk's state: the Configuration, what has been answered. -/
structure Ns (h H : List Blk) (bb : Nat) (D : Fin 3 → DV) (L : Fin 3 → List N) (d2 d3 : DV) (o2 o3 : List Bool) : Prop where
  cs : Cs (fun j => inBlk d2 j ∨ inBlk d3 j) H bb D L
  pre : HPre h H
  s2 : SlS 1 H d2 (bls o2)
  s3 : SlS 1 H d3 (bls o3)
  lo : ∀ j, (Wr bb D j ∨ inBlk d2 j ∨ inBlk d3 j) → h.length ≤ j
  ap : ∀ j, inBlk d2 j → ¬ inBlk d3 j
theorem Ns.push {h H H' : List Blk} {bb : Nat} {D : Fin 3 → DV} {L : Fin 3 → List N} {d2 d3 : DV} {o2 o3 : List Bool} (s : Ns h H bb D L d2 d3 o2 o3) (hp : HPre H H') : Ns h H' bb D L d2 d3 o2 o3 := by
  have he : ∀ i, i < H.length → H'[i]? = H[i]? := fun i hi => by rw [List.getElem?_eq_getElem hi]; exact hp _ _ (List.getElem?_eq_getElem hi)
  exact ⟨s.cs.push hp, s.pre.trans hp, s.s2.of fun i hi => he i (s.s2.lt hi), s.s3.of fun i hi => he i (s.s3.lt hi), s.lo, s.ap⟩
theorem Ns.step {h H H' : List Blk} {bb : Nat} {D D' : Fin 3 → DV} {L L' : Fin 3 → List N} {d2 d3 : DV} {o2 o3 : List Bool} (s : Ns h H bb D L d2 d3 o2 o3) (c : Cs (fun j => inBlk d2 j ∨ inBlk d3 j) H' bb D' L') (k : KpW H H' bb D D') : Ns h H' bb D' L' d2 d3 o2 o3 := by
  have hpl := s.pre.length
  refine ⟨c, fun i x hx => ?_, s.s2.of fun i hi => k.old i (s.s2.lt hi) (s.cs.xs i (.inl hi)), s.s3.of fun i hi => k.old i (s.s3.lt hi) (s.cs.xs i (.inr hi)), fun j hj => ?_, s.ap⟩
  · have h1 := (List.getElem?_eq_some_iff.1 hx).1
    rw [k.old i (by omega) (fun h => by have := s.lo i (.inl h); omega)]
    exact s.pre i x hx
  · rcases hj with h | h
    · rcases k.new j h with h | h
      · exact s.lo j (.inl h)
      · omega
    · exact s.lo j (.inr h)
theorem Ns.app2 {h H H' : List Blk} {bb : Nat} {D : Fin 3 → DV} {L : Fin 3 → List N} {d2 d3 d' : DV} {o2 o3 o' : List Bool} (s : Ns h H bb D L d2 d3 o2 o3) (hs : SlS 1 H' d' (bls o')) (k : Keep H H' d2 d') : Ns h H' bb D L d' d3 o' o3 := by
  have hpl := s.pre.length
  refine ⟨s.cs.keep k.len (fun i hi hn => k.old i hi fun h => hn (.inl h)) (fun i hi => ?_), fun i x hx => ?_, hs, s.s3.of fun i hi => k.old i (s.s3.lt hi) (fun h => s.ap i h hi), fun j hj => ?_, fun j hj h => ?_⟩
  · rcases hi with h | h
    · rcases k.new i h with h1 | h1
      · exact .inl (.inl h1)
      · exact .inr ⟨h1, hs.lt h⟩
    · exact .inl (.inr h)
  · have h1 := (List.getElem?_eq_some_iff.1 hx).1
    rw [k.old i (by omega) (fun h => by have := s.lo i (.inr (.inl h)); omega)]
    exact s.pre i x hx
  · rcases hj with h | h | h
    · exact s.lo j (.inl h)
    · rcases k.new j h with h1 | h1
      · exact s.lo j (.inr (.inl h1))
      · omega
    · exact s.lo j (.inr (.inr h))
  · rcases k.new j hj with h1 | h1
    · exact s.ap j h1 h
    · have := s.s3.lt h; omega
theorem Ns.app3 {h H H' : List Blk} {bb : Nat} {D : Fin 3 → DV} {L : Fin 3 → List N} {d2 d3 d' : DV} {o2 o3 o' : List Bool} (s : Ns h H bb D L d2 d3 o2 o3) (hs : SlS 1 H' d' (bls o')) (k : Keep H H' d3 d') : Ns h H' bb D L d2 d' o2 o' := by
  have hpl := s.pre.length
  refine ⟨s.cs.keep k.len (fun i hi hn => k.old i hi fun h => hn (.inr h)) (fun i hi => ?_), fun i x hx => ?_, s.s2.of fun i hi => k.old i (s.s2.lt hi) (fun h => s.ap i hi h), hs, fun j hj => ?_, fun j h hj => ?_⟩
  · rcases hi with h | h
    · exact .inl (.inl h)
    · rcases k.new i h with h1 | h1
      · exact .inl (.inr h1)
      · exact .inr ⟨h1, hs.lt h⟩
  · have h1 := (List.getElem?_eq_some_iff.1 hx).1
    rw [k.old i (by omega) (fun h => by have := s.lo i (.inr (.inr h)); omega)]
    exact s.pre i x hx
  · rcases hj with h | h | h
    · exact s.lo j (.inl h)
    · exact s.lo j (.inr (.inl h))
    · rcases k.new j h with h1 | h1
      · exact s.lo j (.inr (.inr h1))
      · omega
  · rcases k.new j hj with h1 | h1
    · exact s.ap j h h1
    · have := s.s2.lt h; omega
/-- What is frozen from H on. -/
def Fz (h H : List Blk) (d d' : DV) : Prop := ∀ H', HPre H H' → FrzR H' h d d'
theorem Fz.mono {h H H' : List Blk} {d d' : DV} (s : Fz h H d d') (hp : HPre H H') : Fz h H' d d' := fun H2 h2 => s H2 (hp.trans h2)
theorem Fz.sl {h H : List Blk} {d : DV} {o : List Bool} (hs : SlS 1 H d (bls o)) (hp : HPre h H) (hw : HWF h) (hlo : ∀ j, inBlk d j → h.length ≤ j) : Fz h H d (.fz 1 (bls o)) := fun H' hh => by
  have he : ∀ i, i < H.length → H'[i]? = H[i]? := fun i hi => by rw [List.getElem?_eq_getElem hi]; exact hh _ _ (List.getElem?_eq_getElem hi)
  exact (hs.of fun i hi => he i (hs.lt hi)).frz1 (hp.trans hh) hlo hw bls_plain
theorem Fz.own {h h1 H : List Blk} {d : DV} {l : List N} (ho : Own h1 9 H d (nts l)) (hp : HPre h h1) (hw : HWF h) : Fz h H d (.fz 9 (nts l)) := fun H' hh => Own.frzN ((ho.mono hh).base hp) hw
end Go.Proofs.Ythkgekkpnldbmaa
