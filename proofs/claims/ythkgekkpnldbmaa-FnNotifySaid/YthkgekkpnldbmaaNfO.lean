/- Notify. -/
import Derived.Test.YthkgekkpnldbmaaNfN
set_option linter.unusedVariables false
set_option linter.unusedSimpArgs false
set_option maxRecDepth 100000
set_option maxHeartbeats 4000000
namespace Go.Proofs.Ythkgekkpnldbmaa
open Go Go.Den Go.Proofs

def L00 : Fin 3 → List N := fun _ => []
theorem ok7 {G : Nat → DV} (hG : GZ G) (h : List Blk) (Q : List (Int × N)) (hQ : Q.length ≤ 100) (hkd : ∀ x ∈ Q, x.1 = 0 ∨ x.1 = 1 ∨ x.1 = 2) (hgd : ∀ x ∈ Q, Good x.2) :
    Ok Try.prog G 7 [.fz 10 (sts Q)] h (n7 (iRun L00 Q).2.1 (iRun L00 Q).2.2 (iRun L00 Q).1) h := by
  refine Ok.wf fun hw => ?_
  refine Ok_by Try.func7 c7_ok r7_ok 119 rfl ?_
  rw [c7_cut]
  simp
  obtain ⟨H, hH⟩ : ∃ H, H = h ++ [.cells 5 [.agg [.p (.string ⟨#[]⟩), .p (.string ⟨#[]⟩), .p (.slice none 0 0), .p (.slice none 0 0), .p (.slice none 0 0)]]] := ⟨_, rfl⟩
  have hp : HPre h H := by rw [hH]; exact HPre.append _ _
  have ns : Ns h H h.length (fun _ => .p (.slice none 0 0)) L00 (.p (.slice none 0 0)) (.p (.slice none 0 0)) [] [] := by
    refine ⟨⟨by rw [hH]; simp, fun k => ⟨[], .nil, .nil⟩, fun k h => h.elim, fun k m i h => h.elim, fun i h => (h.elim id id).elim, fun i h => (h.elim id id).elim⟩, hp, .nil, .nil, fun j hj => ?_, fun j hj => hj.elim⟩
    rcases hj with (h | ⟨k, h⟩) | h | h
    · omega
    · exact h.elim
    · exact h.elim
    · exact h.elim
  rw [← hH]
  clear hH
  refine VV_famW (fun x : Nat × DV × DV × (Fin 3 → DV) × List Blk => ⟨fr 120 [(0, .fz 10 (sts Q)), (2, x.2.1), (3, x.2.2.1), (4, .p (.slice none 0 0)), (5, .p (.slice none 0 0)), (6, .p (.slice none 0 0)), (8, .ptr h.length 0 0 1), (21, .fz 10 (sts Q)), (22, .p (.int .i64 Q.length)), (23, .p (.int .i64 x.1))], x.2.2.2.2⟩)
    (fun x => x.1 ≤ Q.length ∧ Ns h x.2.2.2.2 h.length x.2.2.2.1 (iRun L00 (Q.take x.1)).1 x.2.1 x.2.2.1 (iRun L00 (Q.take x.1)).2.1 (iRun L00 (Q.take x.1)).2.2) (fun x => Q.length - x.1) (0, _, _, _, H) ⟨by simp, ns⟩ (Wk.fits (by simp)) ?_
  rintro ⟨i, d2, d3, D, H⟩ ⟨hi, ns⟩ B hb he hr
  simp only at hi ns
  have hlok := iRun_ok (Q.take i) (fun x hx => hgd x (List.mem_of_mem_take hx)) L00 0 LOk.nil
  have hlen := iRun_len (Q.take i) L00
  simp
  refine CC_by (fun h2 => ?_) (fun h2 => ?_)
  · have hi' : i < Q.length := by simpa using h2
    have hadd : IntKind.i64.wrap ((i : Int) + 1) = ((i + 1 : Nat) : Int) := wrap_succ hi' (by omega)
    have htk : Q.take (i + 1) = Q.take i ++ [Q[i]] := List.take_succ_eq_append_getElem hi'
    have hkx := hkd Q[i] (List.getElem_mem hi')
    have hgx := hgd Q[i] (List.getElem_mem hi')
    have hQ2 : ¬ (200 < (Q.length : Int)) := by omega
    simp [hi']
    generalize Q[i] = x at htk hkx hgx ⊢
    have hx1 : ¬ (x.1 < 0) := by omega
    have hx2 : ¬ (2 < x.1) := by omega
    have hn1 : ¬ (x.2.k < 0) := by have := hgx.k0; omega
    have hn2 : ¬ (2 < x.2.k) := by have := hgx.k3; omega
    have hnext := iRun_push (Q.take i) x L00
    rw [← htk] at hnext
    have hLm : ∀ k, ((iRun L00 (Q.take i)).1 k).length ≤ 1000 := fun k => by
      have := hlok.len k
      simp at this
      omega
    have hl2 : (iRun L00 (Q.take i)).2.1.length ≤ 1000 := by rw [hlen.1]; simp; omega
    have hl3 : (iRun L00 (Q.take i)).2.2.length ≤ 1000 := by rw [hlen.2]; simp; omega
    generalize iRun L00 (Q.take i) = R at ns hlok hlen hnext hLm hl2 hl3
    have ns1 := ns.push (HPre.append H [.cells 10 [stD x.1 x.2]])
    have k16 := ok16 hG ns1.cs x.1 x.2 hgx hkx hlok.good hLm
    simp [stD, hx1, hx2, hn1, hn2, hQ2] at k16 ⊢
    refine FF_byR k16 ?_
    rintro v H1 ⟨rfl, D', hc, hk⟩
    have ns2 := ns1.step hc hk
    simp [doR]
    have hs1 : iSt R.1 x = up R.1 (kx x.2.k) (iDo (R.1 (kx x.2.k)) x.1 x.2).1 := rfl
    have hs2 : iOk R.1 x = (iDo (R.1 (kx x.2.k)) x.1 x.2).2.1 := rfl
    have hs3 : iNo R.1 x = (iDo (R.1 (kx x.2.k)) x.1 x.2).2.2 := rfl
    rw [← hs1] at ns2
    rw [← hs2, ← hs3]
    have ns3 := ns2.push (HPre.append H1 [.cells 1 [.p (.bool (iOk R.1 x))]])
    refine AA_slS ns3.s2 (ys := [.p (.bool (iOk R.1 x))]) (by simp) (by simp; omega) ?_
    intro d2' h2 hv2 hk2
    rw [bls_push] at hv2
    have ns4 := (ns3.app2 hv2 hk2).push (HPre.append h2 [.cells 1 [.p (.bool (iNo R.1 x))]])
    simp
    refine AA_slS ns4.s3 (ys := [.p (.bool (iNo R.1 x))]) (by simp) (by simp; omega) ?_
    intro d3' h3 hv3 hk3
    rw [bls_push] at hv3
    have ns5 := ns4.app3 hv3 hk3
    simp [hadd]
    refine hb _ (i + 1, d2', d3', D', h3) (Wk.fits (by simp)) ⟨hi', ?_⟩ (by simp; omega)
    simp only [hnext]
    exact ns5
  · have hii : i = Q.length := by simp at h2; omega
    subst hii
    rw [List.take_length] at ns hlok hlen
    simp
    refine he _ _ ⟨fr 120 [(2, d2), (3, d3), (4, .p (.slice none 0 0)), (5, .p (.slice none 0 0)), (6, .p (.slice none 0 0)), (8, .ptr h.length 0 0 1)], H⟩ (Wk.fits (by simp)) ?_
    simp
    refine w7a hw ns.cs ns.pre (.sl ns.s2 ns.pre hw fun j hj => ns.lo j (.inr (.inl hj))) (.sl ns.s3 ns.pre hw fun j hj => ns.lo j (.inr (.inr hj))) hlok.good hlok.kind fun k => ?_
    have := hlok.len k
    omega
end Go.Proofs.Ythkgekkpnldbmaa
