/- Configurations: a list of a kind is another one. -/
import Derived.Test.YthkgekkpnldbmaaNfD
set_option linter.unusedVariables false
set_option linter.unusedSimpArgs false
set_option maxRecDepth 100000
set_option maxHeartbeats 4000000
namespace Go.Proofs.Ythkgekkpnldbmaa
open Go Go.Den Go.Proofs
variable {X : Nat → Prop}

def up {α : Type} (f : Fin 3 → α) (k : Fin 3) (x : α) : Fin 3 → α := fun m => if m = k then x else f m
theorem up_same {α : Type} (f : Fin 3 → α) (k : Fin 3) (x : α) : up f k x k = x := by simp [up]
theorem up_ne {α : Type} (f : Fin 3 → α) {k m : Fin 3} (x : α) (h : m ≠ k) : up f k x m = f m := by simp [up, h]
theorem Cs.upd {H H' : List Blk} {bb : Nat} {D : Fin 3 → DV} {L : Fin 3 → List N} (s : Cs X H bb D L) (k : Fin 3) {d' : DV} {ds' : List DV} {L' : List N} (hv : Vs 9 H' d' ds') (hc : Cfs H (Wx X bb D) L' ds')
    (he : ∀ i, i < H.length → ¬ inBlk (D k) i → H'[i]? = H[i]?) (hn : ∀ i, inBlk d' i → inBlk (D k) i ∨ H.length ≤ i) (hl : H.length ≤ H'.length) :
    Cs X (H'.set bb (.cells 5 [.agg [.p (.string ⟨#[]⟩), .p (.string ⟨#[]⟩), up D k d' 0, up D k d' 1, up D k d' 2]])) bb (up D k d') (up L k L') := by
  have hbb : bb < H.length := (List.getElem?_eq_some_iff.1 s.at_b).1
  have hnb : ∀ i, inBlk d' i → i ≠ bb := fun i hi h => by
    rcases hn i hi with h1 | h1
    · exact s.nb k (h ▸ h1)
    · omega
  have hw : ∀ i, i < H.length → Wr bb (up D k d') i → Wr bb D i := fun i hi h => by
    rcases h with h | ⟨m, h⟩
    · exact .inl h
    · by_cases hm : m = k
      · rw [hm, up_same] at h
        rcases hn i h with h1 | h1
        · exact .inr ⟨k, h1⟩
        · omega
      · rw [up_ne D d' hm] at h; exact .inr ⟨m, h⟩
  have hwx : ∀ i, i < H.length → Wx X bb (up D k d') i → Wx X bb D i := fun i hi h => h.imp (hw i hi) id
  have hsame : ∀ Z i, i < H.length → ¬ Wx X bb D i → (H'.set bb Z)[i]? = H[i]? := fun Z i hi h => by
    rw [List.getElem?_set_ne (fun h1 => h (.inl (.inl h1.symm)))]
    exact he i hi fun h1 => h (.inl (.inr ⟨k, h1⟩))
  refine ⟨by rw [List.getElem?_set_self (by omega)], fun m => ?_, fun m => ?_, fun m m' i h1 h2 => ?_, fun i hi => by rw [List.length_set]; exact Nat.lt_of_lt_of_le (s.xl i hi) hl, fun i hi h => s.xs i hi (hw i (s.xl i hi) h)⟩
  · by_cases hm : m = k
    · rw [hm, up_same, up_same]
      exact ⟨ds', hv.of fun i hi => List.getElem?_set_ne (Ne.symm (hnb i hi)), hc.of (hsame _) hwx⟩
    · rw [up_ne D d' hm, up_ne L L' hm]
      obtain ⟨ds, g1, g2⟩ := s.sl m
      refine ⟨ds, g1.of fun i hi => ?_, g2.of (hsame _) hwx⟩
      have h1 : i ≠ bb := fun h => s.nb m (h ▸ hi)
      rw [List.getElem?_set_ne (Ne.symm h1)]
      exact he i (Vs.lt g1 hi) fun h => hm (s.ap m k i hi h)
  · by_cases hm : m = k
    · rw [hm, up_same]; exact fun h => hnb bb h rfl
    · rw [up_ne D d' hm]; exact s.nb m
  · by_cases hm : m = k
    · by_cases hm' : m' = k
      · rw [hm, hm']
      · rw [hm, up_same] at h1
        rw [up_ne D d' hm'] at h2
        obtain ⟨ds, g1, _⟩ := s.sl m'
        have hi := Vs.lt g1 h2
        rcases hn i h1 with h3 | h3
        · exact absurd (s.ap m' k i h2 h3) hm'
        · omega
    · by_cases hm' : m' = k
      · rw [hm', up_same] at h2
        rw [up_ne D d' hm] at h1
        obtain ⟨ds, g1, _⟩ := s.sl m
        have hi := Vs.lt g1 h1
        rcases hn i h2 with h3 | h3
        · exact absurd (s.ap m k i h1 h3) hm
        · omega
      · rw [up_ne D d' hm] at h1
        rw [up_ne D d' hm'] at h2
        exact s.ap m m' i h1 h2
end Go.Proofs.Ythkgekkpnldbmaa
