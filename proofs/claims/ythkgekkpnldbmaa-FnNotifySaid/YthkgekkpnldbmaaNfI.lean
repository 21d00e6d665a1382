/- Configurations: a removal of one; a step. -/
import Derived.Test.YthkgekkpnldbmaaNfH
set_option linter.unusedVariables false
set_option linter.unusedSimpArgs false
set_option maxRecDepth 100000
set_option maxHeartbeats 4000000
namespace Go.Proofs.Ythkgekkpnldbmaa
open Go Go.Den Go.Proofs
variable {X : Nat → Prop}

/-- Where a kind's list stands. -/
def kx (k : Int) : Fin 3 := if k = 0 then 1 else if k = 1 then 2 else 0
theorem KpW.ofPre {H H1 H' : List Blk} {bb : Nat} {D D' : Fin 3 → DV} (hp : HPre H H1) (s : KpW H1 H' bb D D') : KpW H H' bb D D' := by
  have hl := hp.length
  refine ⟨Nat.le_trans hl s.len, fun i hi hw => ?_, fun i hi => (s.new i hi).imp id fun h => Nat.le_trans hl h⟩
  rw [s.old i (by omega) hw, List.getElem?_eq_getElem hi]
  exact hp _ _ (List.getElem?_eq_getElem hi)
theorem KpW.trans {H H1 H' : List Blk} {bb : Nat} {D D1 D' : Fin 3 → DV} (s1 : KpW H H1 bb D D1) (s : KpW H1 H' bb D1 D') (hlt : ∀ i, Wr bb D i → i < H.length) : KpW H H' bb D D' := by
  refine ⟨Nat.le_trans s1.len s.len, fun i hi hw => ?_, fun i hi => ?_⟩
  · rw [s.old i (Nat.lt_of_lt_of_le hi s1.len) (fun h => (s1.new i h).elim hw (by omega)), s1.old i hi hw]
  · rcases s.new i hi with h | h
    · exact s1.new i h
    · exact .inr (Nat.le_trans s1.len h)
/-- What a step of the configuration leaves. -/
def StR (X : Nat → Prop) (L : Fin 3 → List N) (kd : Int) (n : N) (bb : Nat) (D : Fin 3 → DV) (H H' : List Blk) : Prop := ∃ D', Cs X H' bb D' (up L (kx n.k) (iDo (L (kx n.k)) kd n).1) ∧ KpW H H' bb D D'
theorem ok32 {G : Nat → DV} (hG : GZ G) {H : List Blk} {bb : Nat} {D : Fin 3 → DV} {L : Fin 3 → List N} (s : Cs X H bb D L) (n : N) (hn : Good n) (hg : ∀ k, ∀ x ∈ L k, Good x) (hL : ∀ k, (L k).length ≤ 1000) :
    OkR Try.prog G 32 [.ptr bb 0 0 1, ntN n] H fun v H' => v = oneR (iDo (L (kx n.k)) 2 n).2.2 ∧ StR X L 2 n bb D H H' := by
  refine OkR_by Try.func32 c32_ok r32_ok 45 rfl ?_
  have fp := hn.few
  simp [c32, r32, ntN, ntD]
  obtain ⟨B0, hB0⟩ : ∃ B0, B0 = H ++ [.cells 9 [ntN n]] := ⟨_, rfl⟩
  have hp0 : HPre H B0 := by rw [hB0]; exact HPre.append _ _
  have hx3 : B0[H.length]? = some (.cells 9 [ntN n]) := by rw [hB0]; simp
  have sB := s.push hp0
  simp only [ntN, ntD] at hB0 hx3
  rw [← hB0]
  clear hB0
  refine DF_by (ok48 _ n.p fp.p) ?_
  simp [hx3]
  refine DF_by (ok48 _ n.s fp.s) ?_
  simp [hx3]
  refine DF_by (ok40 _ n.ev fp.ev) ?_
  simp [hx3]
  have fin : ∀ (k : Fin 3), kx n.k = k → ∀ (v : DV) (H' : List Blk), (v = oneR (iDo (L k) 2 n).2.2 ∧ ∃ D', Cs X H' bb D' (up L k (iDo (L k) 2 n).1) ∧ KpW B0 H' bb D D') → (v = oneR (iDo (L (kx n.k)) 2 n).2.2 ∧ StR X L 2 n bb D H H') := fun k hk v H' ⟨h1, D', h2, h3⟩ => by
    rw [StR, hk]; exact ⟨h1, D', h2, h3.ofPre hp0⟩
  have x3 : B0[H.length]? = some (.cells 9 [.agg [.p (.int .i64 n.k), .p (.string (S n.a)), .p (.string (S n.b)), .p (.string (S n.c)), .p (.string (S n.d)), .p (.string (S n.e)), .fz 1 (strs n.ev), .fz 1 (strs n.p), .fz 1 (strs n.s)]]) := hx3
  have k38 := fun h' => ok38 (G := G) h' n.a n.b n.c n.d n.e
  have k49 := ok49 hG sB n hn (hg 1) (hL 1)
  have k50 := ok50 hG sB n hn (hg 2) (hL 2)
  have k51 := ok51 hG sB n hn (hg 0) (hL 0)
  simp only [arnD] at k38 k49 k50 k51
  refine CC_by (fun h0 => ?_) (fun h0 => ?_)
  · simp [x3]
    refine FF_by (k38 _) ?_
    simp
    refine FF_byR k49 ?_
    rintro v H' hR
    simp
    refine REr_by _ _ .refl (fin 1 (by simp at h0; simp [kx, h0]) v H' hR)
  · simp
    refine CC_by (fun h1 => ?_) (fun h1 => ?_)
    · simp [x3]
      refine FF_by (k38 _) ?_
      simp
      refine FF_byR k50 ?_
      rintro v H' hR
      simp
      refine REr_by _ _ .refl (fin 2 (by simp at h0 h1; simp [kx, h1]) v H' hR)
    · simp [x3]
      refine FF_by (k38 _) ?_
      simp
      refine FF_byR k51 ?_
      rintro v H' hR
      simp
      refine REr_by _ _ .refl (fin 0 (by simp at h0 h1; simp [kx, h0, h1]) v H' hR)
end Go.Proofs.Ythkgekkpnldbmaa
