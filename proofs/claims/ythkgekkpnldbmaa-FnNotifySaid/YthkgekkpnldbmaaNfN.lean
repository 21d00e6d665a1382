/- Notify: the three loops that tell the lists (printed by gentell.py). -/
import Derived.Test.YthkgekkpnldbmaaNfM
set_option linter.unusedVariables false
set_option linter.unusedSimpArgs false
set_option maxRecDepth 100000
set_option maxHeartbeats 4000000
namespace Go.Proofs.Ythkgekkpnldbmaa
open Go Go.Den Go.Proofs

/-- What Notify answers. -/
def n7 (o2 o3 : List Bool) (L : Fin 3 → List N) : DV := .tup [.fz 1 (bls o2), .fz 1 (bls o3), .fz 9 (nts (L 1)), .fz 9 (nts (L 2)), .fz 9 (nts (L 0)), .p (.bool true)]
theorem kx_inv {n : N} (h : Good n) {k : Int} (hk : ∀ x : Int, 0 ≤ x → x < 3 → kx x = kx k → x = k) (e : kx n.k = kx k) : n.k = k := hk _ h.k0 h.k3 e
theorem kx_0 : ∀ x : Int, 0 ≤ x → x < 3 → kx x = kx 0 → x = 0 := fun x h0 h3 h => by
  rcases (show x = 0 ∨ x = 1 ∨ x = 2 by omega) with rfl | rfl | rfl
  · rfl
  · exact absurd h (by decide)
  · exact absurd h (by decide)
theorem kx_1 : ∀ x : Int, 0 ≤ x → x < 3 → kx x = kx 1 → x = 1 := fun x h0 h3 h => by
  rcases (show x = 0 ∨ x = 1 ∨ x = 2 by omega) with rfl | rfl | rfl
  · exact absurd h (by decide)
  · rfl
  · exact absurd h (by decide)
theorem kx_2 : ∀ x : Int, 0 ≤ x → x < 3 → kx x = kx 2 → x = 2 := fun x h0 h3 h => by
  rcases (show x = 0 ∨ x = 1 ∨ x = 2 by omega) with rfl | rfl | rfl
  · exact absurd h (by decide)
  · exact absurd h (by decide)
  · rfl
theorem w7d {G : Nat → DV} {h H : List Blk} {L : Fin 3 → List N} {d2 d3 d4 d5 d6 : DV} {dv : DV} {o2 o3 : List Bool} (hw : HWF h) (hp : HPre h H) (f2 : Fz h H d2 (.fz 1 (bls o2))) (f3 : Fz h H d3 (.fz 1 (bls o3))) (f4 : Fz h H d4 (.fz 9 (nts (L 1)))) (f5 : Fz h H d5 (.fz 9 (nts (L 2)))) (f6 : Fz h H d6 (.fz 9 (nts (L 0)))) :
    VV Try.prog G h c7T6 ⟨fr 120 [(2, d2), (3, d3), (4, d4), (5, d5), (6, d6), (8, dv)], H⟩ [] (RR h r7 (n7 o2 o3 L) h) := by
  simp [c7T6, r7]
  exact WkV.ofR hp (FrzR.tup (.cons (f2 _ (.refl _)) (.cons (f3 _ (.refl _)) (.cons (f4 _ (.refl _)) (.cons (f5 _ (.refl _)) (.cons (f6 _ (.refl _)) (.cons .p .nil)))))))

/-- The loop that tells the list 0. -/
theorem w7c {G : Nat → DV} {X : Nat → Prop} {h H : List Blk} {bb : Nat} {D : Fin 3 → DV} {L : Fin 3 → List N} {d2 d3 d4 d5 : DV} {o2 o3 : List Bool} (hw : HWF h) (s : Cs X H bb D L) (hp : HPre h H) (f2 : Fz h H d2 (.fz 1 (bls o2))) (f3 : Fz h H d3 (.fz 1 (bls o3))) (f4 : Fz h H d4 (.fz 9 (nts (L 1)))) (f5 : Fz h H d5 (.fz 9 (nts (L 2)))) (hg : ∀ k, ∀ x ∈ L k, Good x) (hk : ∀ k, ∀ x ∈ L k, kx x.k = k) (hL : ∀ k, (L k).length ≤ 1000) :
    VV Try.prog G h c7T4 ⟨fr 120 [(2, d2), (3, d3), (4, d4), (5, d5), (6, .p (.slice none 0 0)), (8, .ptr bb 0 0 1)], H⟩ [] (RR h r7 (n7 o2 o3 L) h) := by
  have hat := s.at_b
  simp [c7T4, hat, isNilD]
  obtain ⟨ds, hv0, hc0⟩ := s.sl 0
  have hdl := hc0.len
  rcases hv0.len with ⟨hD, hds⟩ | ⟨b, els, hD, hb0, hle, hels⟩
  · simp [hD]
    have hL0 : L 0 = [] := by
      have : ds.length = 0 := by rw [hds]; rfl
      exact List.eq_nil_of_length_eq_zero (by omega)
    refine VV_famW (fun x : Unit => ⟨fr 120 [(2, d2), (3, d3), (4, d4), (5, d5), (6, .p (.slice none 0 0)), (8, .ptr bb 0 0 1), (103, .p (.int .i64 0)), (104, .p (.int .i64 0))], H⟩) (fun _ => True) (fun _ => 0) () trivial (Wk.fits (by simp)) ?_
    rintro _ _ B hb he hr
    simp
    refine he _ _ ⟨fr 120 [(2, d2), (3, d3), (4, d4), (5, d5), (6, .p (.slice none 0 0)), (8, .ptr bb 0 0 1)], H⟩ (Wk.fits (by simp)) ?_
    simp
    have fz : Fz h H (.p (.slice none 0 0)) (.fz 9 (nts (L 0))) := by rw [hL0]; exact fun _ _ => .nil
    exact w7d hw hp f2 f3 f4 f5 fz
  · simp [hD]
    refine VV_famW (fun x : Nat × DV × List Blk => ⟨fr 120 [(2, d2), (3, d3), (4, d4), (5, d5), (6, x.2.1), (8, .ptr bb 0 0 1), (102, .sl b 0 ds.length els.length), (103, .p (.int .i64 ds.length)), (104, .p (.int .i64 x.1))], x.2.2⟩)
      (fun x => x.1 ≤ ds.length ∧ Own H 9 x.2.2 x.2.1 (nts ((L 0).take x.1))) (fun x => ds.length - x.1) (0, .p (.slice none 0 0), H) ⟨by simp, .nil⟩ (Wk.fits (by simp)) ?_
    rintro ⟨i, d, H'⟩ ⟨hi, ho⟩ B hb he hr
    simp only at hi ho
    simp
    have hpp := ho.pre
    have hb9 := hpp _ _ hb0
    have hLK := hL 0
    refine CC_by (fun h2 => ?_) (fun h2 => ?_)
    · have hi' : i < ds.length := by simpa using h2
      have hie : i < els.length := by omega
      have hiL : i < (L 0).length := by omega
      have htk : (L 0).take (i + 1) = (L 0).take i ++ [(L 0)[i]] := List.take_succ_eq_append_getElem hiL
      obtain ⟨evd', f', rd', hel, hcf⟩ := hc0.get i hiL hi'
      have hel' : els[i]? = some (elD ((L 0)[i]'hiL) evd' f') := by rw [List.getElem?_eq_getElem hie, hels i hi' hie, hel]
      have hgx : Good ((L 0)[i]'hiL) := hg _ _ (List.getElem_mem hiL)
      have hkx : kx ((L 0)[i]'hiL).k = 0 := hk _ _ (List.getElem_mem hiL)
      generalize (L 0)[i]'hiL = n' at hel' hcf htk hgx hkx
      have hkk : n'.k = 2 := kx_inv hgx kx_2 hkx
      have hadd : IntKind.i64.wrap ((i : Int) + 1) = ((i + 1 : Nat) : Int) := wrap_succ hi' (by omega)
      simp [hi', hb9, hel', elD]
      obtain ⟨H1, hH1⟩ : ∃ H1, H1 = H' ++ [.cells 9 [elD n' evd' f']] := ⟨_, rfl⟩
      have hp1 : HPre H' H1 := by rw [hH1]; exact HPre.append _ _
      have ho1 := ho.mono hp1
      have hgo : ∀ j, j < H.length → H1[j]? = H[j]? := fun j hj => by
        rw [List.getElem?_eq_getElem hj]; exact (hpp.trans hp1) _ _ (List.getElem?_eq_getElem hj)
      have h17 := ok17 (G := G) H1 2 n' hgx (f := f') (evd := evd') (rd := rd') (by rw [hgo f' (List.getElem?_eq_some_iff.1 hcf.at_f).1]; exact hcf.at_f)
        (hcf.es.of fun j hj => hgo j (SlS.lt hcf.es hj)) (hcf.rs.of fun j hj => hgo j (SlS.lt hcf.rs hj))
      have hnt : ntD 2 n'.a n'.b n'.c n'.d n'.e n'.ev n'.p n'.s = ntN n' := by rw [ntN, hkk]
      rw [hnt] at h17
      simp only [elD] at hH1
      simp only [cfgD] at h17
      rw [← hH1]
      clear hH1
      refine FF_by h17 ?_
      simp [ntN, ntD]
      refine AA_lit1 (v := ntN n') ho1 (by simp; omega) ?_
      intro d2 h2 ho2 _ _
      simp [hadd]
      rw [nts_push, ← htk] at ho2
      refine hb _ (i + 1, d2, h2) (Wk.fits (by simp)) ⟨hi', ho2⟩ (by simp; omega)
    · have hii : i = ds.length := by simp at h2; omega
      subst hii
      rw [List.take_of_length_le (by omega)] at ho
      simp
      refine he _ _ ⟨fr 120 [(2, d2), (3, d3), (4, d4), (5, d5), (6, d), (8, .ptr bb 0 0 1)], H'⟩ (Wk.fits (by simp)) ?_
      simp
      have fz : Fz h H' d (.fz 9 (nts (L 0))) := Fz.own ho hp hw
      exact w7d hw (hp.trans hpp) (f2.mono hpp) (f3.mono hpp) (f4.mono hpp) (f5.mono hpp) fz

/-- The loop that tells the list 2. -/
theorem w7b {G : Nat → DV} {X : Nat → Prop} {h H : List Blk} {bb : Nat} {D : Fin 3 → DV} {L : Fin 3 → List N} {d2 d3 d4 : DV} {o2 o3 : List Bool} (hw : HWF h) (s : Cs X H bb D L) (hp : HPre h H) (f2 : Fz h H d2 (.fz 1 (bls o2))) (f3 : Fz h H d3 (.fz 1 (bls o3))) (f4 : Fz h H d4 (.fz 9 (nts (L 1)))) (hg : ∀ k, ∀ x ∈ L k, Good x) (hk : ∀ k, ∀ x ∈ L k, kx x.k = k) (hL : ∀ k, (L k).length ≤ 1000) :
    VV Try.prog G h c7T2 ⟨fr 120 [(2, d2), (3, d3), (4, d4), (5, .p (.slice none 0 0)), (6, .p (.slice none 0 0)), (8, .ptr bb 0 0 1)], H⟩ [] (RR h r7 (n7 o2 o3 L) h) := by
  have hat := s.at_b
  simp [c7T2, hat, isNilD]
  obtain ⟨ds, hv0, hc0⟩ := s.sl 2
  have hdl := hc0.len
  rcases hv0.len with ⟨hD, hds⟩ | ⟨b, els, hD, hb0, hle, hels⟩
  · simp [hD]
    have hL0 : L 2 = [] := by
      have : ds.length = 0 := by rw [hds]; rfl
      exact List.eq_nil_of_length_eq_zero (by omega)
    refine VV_famW (fun x : Unit => ⟨fr 120 [(2, d2), (3, d3), (4, d4), (5, .p (.slice none 0 0)), (6, .p (.slice none 0 0)), (8, .ptr bb 0 0 1), (87, .p (.int .i64 0)), (88, .p (.int .i64 0))], H⟩) (fun _ => True) (fun _ => 0) () trivial (Wk.fits (by simp)) ?_
    rintro _ _ B hb he hr
    simp
    refine he _ _ ⟨fr 120 [(2, d2), (3, d3), (4, d4), (5, .p (.slice none 0 0)), (6, .p (.slice none 0 0)), (8, .ptr bb 0 0 1)], H⟩ (Wk.fits (by simp)) ?_
    simp
    have fz : Fz h H (.p (.slice none 0 0)) (.fz 9 (nts (L 2))) := by rw [hL0]; exact fun _ _ => .nil
    exact w7c hw s hp f2 f3 f4 fz hg hk hL
  · simp [hD]
    refine VV_famW (fun x : Nat × DV × List Blk => ⟨fr 120 [(2, d2), (3, d3), (4, d4), (5, x.2.1), (6, .p (.slice none 0 0)), (8, .ptr bb 0 0 1), (86, .sl b 0 ds.length els.length), (87, .p (.int .i64 ds.length)), (88, .p (.int .i64 x.1))], x.2.2⟩)
      (fun x => x.1 ≤ ds.length ∧ Own H 9 x.2.2 x.2.1 (nts ((L 2).take x.1))) (fun x => ds.length - x.1) (0, .p (.slice none 0 0), H) ⟨by simp, .nil⟩ (Wk.fits (by simp)) ?_
    rintro ⟨i, d, H'⟩ ⟨hi, ho⟩ B hb he hr
    simp only at hi ho
    simp
    have hpp := ho.pre
    have hb9 := hpp _ _ hb0
    have hLK := hL 2
    refine CC_by (fun h2 => ?_) (fun h2 => ?_)
    · have hi' : i < ds.length := by simpa using h2
      have hie : i < els.length := by omega
      have hiL : i < (L 2).length := by omega
      have htk : (L 2).take (i + 1) = (L 2).take i ++ [(L 2)[i]] := List.take_succ_eq_append_getElem hiL
      obtain ⟨evd', f', rd', hel, hcf⟩ := hc0.get i hiL hi'
      have hel' : els[i]? = some (elD ((L 2)[i]'hiL) evd' f') := by rw [List.getElem?_eq_getElem hie, hels i hi' hie, hel]
      have hgx : Good ((L 2)[i]'hiL) := hg _ _ (List.getElem_mem hiL)
      have hkx : kx ((L 2)[i]'hiL).k = 2 := hk _ _ (List.getElem_mem hiL)
      generalize (L 2)[i]'hiL = n' at hel' hcf htk hgx hkx
      have hkk : n'.k = 1 := kx_inv hgx kx_1 hkx
      have hadd : IntKind.i64.wrap ((i : Int) + 1) = ((i + 1 : Nat) : Int) := wrap_succ hi' (by omega)
      simp [hi', hb9, hel', elD]
      obtain ⟨H1, hH1⟩ : ∃ H1, H1 = H' ++ [.cells 9 [elD n' evd' f']] := ⟨_, rfl⟩
      have hp1 : HPre H' H1 := by rw [hH1]; exact HPre.append _ _
      have ho1 := ho.mono hp1
      have hgo : ∀ j, j < H.length → H1[j]? = H[j]? := fun j hj => by
        rw [List.getElem?_eq_getElem hj]; exact (hpp.trans hp1) _ _ (List.getElem?_eq_getElem hj)
      have h17 := ok17 (G := G) H1 1 n' hgx (f := f') (evd := evd') (rd := rd') (by rw [hgo f' (List.getElem?_eq_some_iff.1 hcf.at_f).1]; exact hcf.at_f)
        (hcf.es.of fun j hj => hgo j (SlS.lt hcf.es hj)) (hcf.rs.of fun j hj => hgo j (SlS.lt hcf.rs hj))
      have hnt : ntD 1 n'.a n'.b n'.c n'.d n'.e n'.ev n'.p n'.s = ntN n' := by rw [ntN, hkk]
      rw [hnt] at h17
      simp only [elD] at hH1
      simp only [cfgD] at h17
      rw [← hH1]
      clear hH1
      refine FF_by h17 ?_
      simp [ntN, ntD]
      refine AA_lit1 (v := ntN n') ho1 (by simp; omega) ?_
      intro d2 h2 ho2 _ _
      simp [hadd]
      rw [nts_push, ← htk] at ho2
      refine hb _ (i + 1, d2, h2) (Wk.fits (by simp)) ⟨hi', ho2⟩ (by simp; omega)
    · have hii : i = ds.length := by simp at h2; omega
      subst hii
      rw [List.take_of_length_le (by omega)] at ho
      simp
      refine he _ _ ⟨fr 120 [(2, d2), (3, d3), (4, d4), (5, d), (6, .p (.slice none 0 0)), (8, .ptr bb 0 0 1)], H'⟩ (Wk.fits (by simp)) ?_
      simp
      have fz : Fz h H' d (.fz 9 (nts (L 2))) := Fz.own ho hp hw
      exact w7c hw (s.push hpp) (hp.trans hpp) (f2.mono hpp) (f3.mono hpp) (f4.mono hpp) fz hg hk hL

/-- The loop that tells the list 1. -/
theorem w7a {G : Nat → DV} {X : Nat → Prop} {h H : List Blk} {bb : Nat} {D : Fin 3 → DV} {L : Fin 3 → List N} {d2 d3 : DV} {o2 o3 : List Bool} (hw : HWF h) (s : Cs X H bb D L) (hp : HPre h H) (f2 : Fz h H d2 (.fz 1 (bls o2))) (f3 : Fz h H d3 (.fz 1 (bls o3))) (hg : ∀ k, ∀ x ∈ L k, Good x) (hk : ∀ k, ∀ x ∈ L k, kx x.k = k) (hL : ∀ k, (L k).length ≤ 1000) :
    VV Try.prog G h c7T0 ⟨fr 120 [(2, d2), (3, d3), (4, .p (.slice none 0 0)), (5, .p (.slice none 0 0)), (6, .p (.slice none 0 0)), (8, .ptr bb 0 0 1)], H⟩ [] (RR h r7 (n7 o2 o3 L) h) := by
  have hat := s.at_b
  simp [c7T0, hat, isNilD]
  obtain ⟨ds, hv0, hc0⟩ := s.sl 1
  have hdl := hc0.len
  rcases hv0.len with ⟨hD, hds⟩ | ⟨b, els, hD, hb0, hle, hels⟩
  · simp [hD]
    have hL0 : L 1 = [] := by
      have : ds.length = 0 := by rw [hds]; rfl
      exact List.eq_nil_of_length_eq_zero (by omega)
    refine VV_famW (fun x : Unit => ⟨fr 120 [(2, d2), (3, d3), (4, .p (.slice none 0 0)), (5, .p (.slice none 0 0)), (6, .p (.slice none 0 0)), (8, .ptr bb 0 0 1), (71, .p (.int .i64 0)), (72, .p (.int .i64 0))], H⟩) (fun _ => True) (fun _ => 0) () trivial (Wk.fits (by simp)) ?_
    rintro _ _ B hb he hr
    simp
    refine he _ _ ⟨fr 120 [(2, d2), (3, d3), (4, .p (.slice none 0 0)), (5, .p (.slice none 0 0)), (6, .p (.slice none 0 0)), (8, .ptr bb 0 0 1)], H⟩ (Wk.fits (by simp)) ?_
    simp
    have fz : Fz h H (.p (.slice none 0 0)) (.fz 9 (nts (L 1))) := by rw [hL0]; exact fun _ _ => .nil
    exact w7b hw s hp f2 f3 fz hg hk hL
  · simp [hD]
    refine VV_famW (fun x : Nat × DV × List Blk => ⟨fr 120 [(2, d2), (3, d3), (4, x.2.1), (5, .p (.slice none 0 0)), (6, .p (.slice none 0 0)), (8, .ptr bb 0 0 1), (70, .sl b 0 ds.length els.length), (71, .p (.int .i64 ds.length)), (72, .p (.int .i64 x.1))], x.2.2⟩)
      (fun x => x.1 ≤ ds.length ∧ Own H 9 x.2.2 x.2.1 (nts ((L 1).take x.1))) (fun x => ds.length - x.1) (0, .p (.slice none 0 0), H) ⟨by simp, .nil⟩ (Wk.fits (by simp)) ?_
    rintro ⟨i, d, H'⟩ ⟨hi, ho⟩ B hb he hr
    simp only at hi ho
    simp
    have hpp := ho.pre
    have hb9 := hpp _ _ hb0
    have hLK := hL 1
    refine CC_by (fun h2 => ?_) (fun h2 => ?_)
    · have hi' : i < ds.length := by simpa using h2
      have hie : i < els.length := by omega
      have hiL : i < (L 1).length := by omega
      have htk : (L 1).take (i + 1) = (L 1).take i ++ [(L 1)[i]] := List.take_succ_eq_append_getElem hiL
      obtain ⟨evd', f', rd', hel, hcf⟩ := hc0.get i hiL hi'
      have hel' : els[i]? = some (elD ((L 1)[i]'hiL) evd' f') := by rw [List.getElem?_eq_getElem hie, hels i hi' hie, hel]
      have hgx : Good ((L 1)[i]'hiL) := hg _ _ (List.getElem_mem hiL)
      have hkx : kx ((L 1)[i]'hiL).k = 1 := hk _ _ (List.getElem_mem hiL)
      generalize (L 1)[i]'hiL = n' at hel' hcf htk hgx hkx
      have hkk : n'.k = 0 := kx_inv hgx kx_0 hkx
      have hadd : IntKind.i64.wrap ((i : Int) + 1) = ((i + 1 : Nat) : Int) := wrap_succ hi' (by omega)
      simp [hi', hb9, hel', elD]
      obtain ⟨H1, hH1⟩ : ∃ H1, H1 = H' ++ [.cells 9 [elD n' evd' f']] := ⟨_, rfl⟩
      have hp1 : HPre H' H1 := by rw [hH1]; exact HPre.append _ _
      have ho1 := ho.mono hp1
      have hgo : ∀ j, j < H.length → H1[j]? = H[j]? := fun j hj => by
        rw [List.getElem?_eq_getElem hj]; exact (hpp.trans hp1) _ _ (List.getElem?_eq_getElem hj)
      have h17 := ok17 (G := G) H1 0 n' hgx (f := f') (evd := evd') (rd := rd') (by rw [hgo f' (List.getElem?_eq_some_iff.1 hcf.at_f).1]; exact hcf.at_f)
        (hcf.es.of fun j hj => hgo j (SlS.lt hcf.es hj)) (hcf.rs.of fun j hj => hgo j (SlS.lt hcf.rs hj))
      have hnt : ntD 0 n'.a n'.b n'.c n'.d n'.e n'.ev n'.p n'.s = ntN n' := by rw [ntN, hkk]
      rw [hnt] at h17
      simp only [elD] at hH1
      simp only [cfgD] at h17
      rw [← hH1]
      clear hH1
      refine FF_by h17 ?_
      simp [ntN, ntD]
      refine AA_lit1 (v := ntN n') ho1 (by simp; omega) ?_
      intro d2 h2 ho2 _ _
      simp [hadd]
      rw [nts_push, ← htk] at ho2
      refine hb _ (i + 1, d2, h2) (Wk.fits (by simp)) ⟨hi', ho2⟩ (by simp; omega)
    · have hii : i = ds.length := by simp at h2; omega
      subst hii
      rw [List.take_of_length_le (by omega)] at ho
      simp
      refine he _ _ ⟨fr 120 [(2, d2), (3, d3), (4, d), (5, .p (.slice none 0 0)), (6, .p (.slice none 0 0)), (8, .ptr bb 0 0 1)], H'⟩ (Wk.fits (by simp)) ?_
      simp
      have fz : Fz h H' d (.fz 9 (nts (L 1))) := Fz.own ho hp hw
      exact w7b hw (s.push hpp) (hp.trans hpp) (f2.mono hpp) (f3.mono hpp) fz hg hk hL

end Go.Proofs.Ythkgekkpnldbmaa
