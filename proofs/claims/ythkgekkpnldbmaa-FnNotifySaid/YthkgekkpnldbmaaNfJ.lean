/- Configurations: a step. -/
import Derived.Test.YthkgekkpnldbmaaNfI
set_option linter.unusedVariables false
set_option linter.unusedSimpArgs false
set_option maxRecDepth 100000
set_option maxHeartbeats 4000000
namespace Go.Proofs.Ythkgekkpnldbmaa
open Go Go.Den Go.Proofs
variable {X : Nat → Prop}

/-- What a step answers. -/
def doR (L : Fin 3 → List N) (kd : Int) (n : N) : DV := .tup [.p (.bool (iDo (L (kx n.k)) kd n).2.1), .p (.bool (iDo (L (kx n.k)) kd n).2.2)]
theorem ok16 {G : Nat → DV} (hG : GZ G) {H : List Blk} {bb : Nat} {D : Fin 3 → DV} {L : Fin 3 → List N} (s : Cs X H bb D L) (kd : Int) (n : N) (hn : Good n) (hkd : kd = 0 ∨ kd = 1 ∨ kd = 2) (hg : ∀ k, ∀ x ∈ L k, Good x) (hL : ∀ k, (L k).length ≤ 1000) :
    OkR Try.prog G 16 [.ptr bb 0 0 1, stD kd n] H fun v H' => v = doR L kd n ∧ StR X L kd n bb D H H' := by
  refine OkR_by Try.func16 c16_ok r16_ok 58 rfl ?_
  have fp := hn.few
  simp [c16, r16, stD]
  have k25 := fun h' => ok25 (G := G) hG h' n.k n.a n.b n.c n.d n.e n.ev n.p n.s fp.ev hn.p1 hn.s1
  simp only [ntD] at k25
  refine FF_byR (k25 _) ?_
  rintro v H1 ⟨f, evd, rd, rfl, hp, h1f, h1e, h1r, hfl, hel, hrl⟩
  simp [cfgD]
  obtain ⟨B0, hB0⟩ : ∃ B0, B0 = H1 ++ [.cells 8 [cfgD n.a n.b n.c n.d n.e evd (.ptr f 0 0 1)]] := ⟨_, rfl⟩
  have hp1 : HPre H1 B0 := by rw [hB0]; exact HPre.append _ _
  have hH : HPre H B0 := fun i k hi => hp1 _ _ (hp _ _ (by rw [List.getElem?_append_left (List.getElem?_eq_some_iff.1 hi).1]; exact hi))
  have x3 : B0[H.length]? = some (.cells 10 [stD kd n]) := hp1 _ _ (hp _ _ (by simp [stD]))
  have x6 : B0[H.length + 1]? = some (.cells 9 [ntN n]) := hp1 _ _ (hp _ _ (by simp [ntN, ntD]))
  have x7 : B0[H1.length]? = some (.cells 8 [cfgD n.a n.b n.c n.d n.e evd (.ptr f 0 0 1)]) := by rw [hB0]; simp
  have hw0 : Nw H H1 n evd f rd := ⟨fun i k hi => hp _ _ (by rw [List.getElem?_append_left (List.getElem?_eq_some_iff.1 hi).1]; exact hi), h1f, h1e, h1r, by simp at hfl; omega, fun i hi => by have := hel i hi; simp at this; omega, fun i hi => by have := hrl i hi; simp at this; omega⟩
  have hw := hw0.push hp1
  have sB := s.push hH
  simp only [cfgD] at hB0 x7
  simp only [stD] at x3
  simp only [ntN, ntD] at x6
  rw [← hB0]
  clear hB0
  simp [x3]
  have k26 := ok26 hG s n hn hw (hL 1)
  have k27 := ok27 hG s n hn hw (hL 2)
  have k28 := ok28 hG s n hn hw (hL 0)
  have k29 := ok29 hG sB n hn (hL 1)
  have k30 := ok30 hG sB n hn (hL 2)
  have k31 := ok31 hG sB n hn (hL 0)
  have k32 := ok32 hG sB n hn hg hL
  simp only [arnD] at k29 k30 k31
  simp only [cfgD] at k26 k27 k28
  simp only [ntN, ntD] at k32
  have finA : kd = 0 → ∀ (k : Fin 3), kx n.k = k → ∀ (H' : List Blk), (∃ D', Cs X H' bb D' (up L k (L k ++ [n])) ∧ KpW B0 H' bb D D') → ((.tup [.p (.bool true), .p (.bool false)] : DV) = doR L kd n ∧ StR X L kd n bb D H H') := fun h0 k hk H' ⟨D', h2, h3⟩ => by
    rw [StR, doR, hk, h0]; exact ⟨rfl, D', h2, h3.ofPre hH⟩
  have finR : kd = 1 → ∀ (k : Fin 3), kx n.k = k → ∀ (H' : List Blk), (∃ D', Cs X H' bb D' (up L k ((L k).filter fun x => !decide (x.tx = n.tx))) ∧ KpW B0 H' bb D D') → ((.tup [.p (.bool true), .p (.bool false)] : DV) = doR L kd n ∧ StR X L kd n bb D H H') := fun h0 k hk H' ⟨D', h2, h3⟩ => by
    rw [StR, doR, hk, h0]; exact ⟨rfl, D', h2, h3.ofPre hH⟩
  refine CC_by (fun h0 => ?_) (fun h0 => ?_)
  · have hk0 : kd = 0 := by simpa using h0
    simp [x6]
    refine CC_by (fun h1 => ?_) (fun h1 => ?_)
    · simp [x7]
      refine FF_byR k26 ?_
      rintro v H' ⟨rfl, hR⟩
      simp
      refine REr_by _ _ .refl (finA hk0 1 (by simp at h1; simp [kx, h1]) H' hR)
    · simp
      refine CC_by (fun h2 => ?_) (fun h2 => ?_)
      · simp [x7]
        refine FF_byR k27 ?_
        rintro v H' ⟨rfl, hR⟩
        simp
        refine REr_by _ _ .refl (finA hk0 2 (by simp at h1 h2; simp [kx, h2]) H' hR)
      · simp [x7]
        refine FF_byR k28 ?_
        rintro v H' ⟨rfl, hR⟩
        simp
        refine REr_by _ _ .refl (finA hk0 0 (by simp at h1 h2; simp [kx, h1, h2]) H' hR)
  · simp
    refine CC_by (fun h3 => ?_) (fun h3 => ?_)
    · have hk1 : kd = 1 := by simpa using h3
      simp [x6]
      refine CC_by (fun h1 => ?_) (fun h1 => ?_)
      · simp [x7]
        refine FF_byR k29 ?_
        rintro v H' ⟨rfl, hR⟩
        simp
        refine REr_by _ _ .refl (finR hk1 1 (by simp at h1; simp [kx, h1]) H' hR)
      · simp
        refine CC_by (fun h2 => ?_) (fun h2 => ?_)
        · simp [x7]
          refine FF_byR k30 ?_
          rintro v H' ⟨rfl, hR⟩
          simp
          refine REr_by _ _ .refl (finR hk1 2 (by simp at h1 h2; simp [kx, h2]) H' hR)
        · simp [x7]
          refine FF_byR k31 ?_
          rintro v H' ⟨rfl, hR⟩
          simp
          refine REr_by _ _ .refl (finR hk1 0 (by simp at h1 h2; simp [kx, h1, h2]) H' hR)
    · have hk2 : kd = 2 := by simp at h0 h3; omega
      simp [x6]
      refine FF_byR k32 ?_
      rintro v H' ⟨rfl, D', hR1, hR2⟩
      have hR : StR X L kd n bb D H H' := by rw [hk2]; exact ⟨D', hR1, hR2.ofPre hH⟩
      rw [hk2] at hR
      have hno : (iDo (L (kx n.k)) 2 n).2.1 = !(iDo (L (kx n.k)) 2 n).2.2 := by
        simp only [iDo]
        cases oneAt (L (kx n.k)) n <;> rfl
      rw [doR, hk2, hno]
      cases (iDo (L (kx n.k)) 2 n).2.2
      · simp [oneR]
        refine REr_by _ _ .refl ⟨rfl, hR⟩
      · have hc : cmpOf Try.prog 80 = some CK.str := by kernel_rfl
        simp [oneR, errD, hc]
        refine REr_by _ _ .refl ⟨rfl, hR⟩
end Go.Proofs.Ythkgekkpnldbmaa
