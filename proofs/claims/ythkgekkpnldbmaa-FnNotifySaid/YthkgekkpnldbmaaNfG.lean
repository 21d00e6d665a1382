/- Configurations: those of an ARN leave (printed by genadd.py). -/
import Derived.Test.YthkgekkpnldbmaaNfF
set_option linter.unusedVariables false
set_option linter.unusedSimpArgs false
set_option maxRecDepth 100000
set_option maxHeartbeats 4000000
namespace Go.Proofs.Ythkgekkpnldbmaa
open Go Go.Den Go.Proofs
variable {X : Nat → Prop}

theorem ok29 {G : Nat → DV} (hG : GZ G) {H : List Blk} {bb : Nat} {D : Fin 3 → DV} {L : Fin 3 → List N} (s : Cs X H bb D L) (n : N) (hn : Good n) (hL : (L 1).length ≤ 1000) :
    OkR Try.prog G 29 [.ptr bb 0 0 1, arnD n.a n.b n.c n.d n.e] H fun v H' => v = .tup [] ∧ ∃ D', Cs X H' bb D' (up L 1 ((L 1).filter fun x => !decide (x.tx = n.tx))) ∧ KpW H H' bb D D' := by
  refine OkR_by Try.func29 c29_ok r29_ok 28 rfl ?_
  simp [c29, r29, arnD]
  obtain ⟨ds, hv0, hc0⟩ := s.sl 1
  have hdl := hc0.len
  obtain ⟨B0, hB0⟩ : ∃ B0, B0 = H ++ [.cells 5 [arnD n.a n.b n.c n.d n.e]] := ⟨_, rfl⟩
  have hp0 : HPre H B0 := by rw [hB0]; exact HPre.append _ _
  have hx3 : B0[H.length]? = some (.cells 5 [arnD n.a n.b n.c n.d n.e]) := by rw [hB0]; simp
  have sB := s.push hp0
  have hsame : ∀ H', HPre B0 H' → ∀ i, i < H.length → H'[i]? = H[i]? := fun H' hp i hi => by
    have h1 := hp0.trans hp
    rw [List.getElem?_eq_getElem hi]; exact h1 _ _ (List.getElem?_eq_getElem hi)
  simp only [arnD] at hB0 hx3
  rw [← hB0]
  clear hB0
  have hlB : H.length ≤ B0.length := hp0.length
  have hat := sB.at_b
  -- behind the loop
  have tail : ∀ H' d' ds', Own B0 9 H' d' ds' → Cfs H (Wx X bb D) ((L 1).filter fun x => !decide (x.tx = n.tx)) ds' →
      (∃ D', Cs X (H'.set bb (.cells 5 [.agg [.p (.string ⟨#[]⟩), .p (.string ⟨#[]⟩), up D 1 d' 0, up D 1 d' 1, up D 1 d' 2]])) bb D' (up L 1 ((L 1).filter fun x => !decide (x.tx = n.tx))) ∧ KpW H (H'.set bb (.cells 5 [.agg [.p (.string ⟨#[]⟩), .p (.string ⟨#[]⟩), up D 1 d' 0, up D 1 d' 1, up D 1 d' 2]])) bb D D') := by
    intro H' d' ds' ho hc
    have hp := ho.pre
    have hn' : ∀ i, inBlk d' i → inBlk (D 1) i ∨ H.length ≤ i := fun i hi => by
      rcases ho.2 with ⟨rfl, _⟩ | ⟨b, rfl, h2, _⟩
      · exact hi.elim
      · have : i = b := hi
        right; omega
    have hl' : H.length ≤ H'.length := Nat.le_trans hlB hp.length
    refine ⟨up D 1 d', s.upd 1 ho.toVs hc (fun i hi _ => hsame H' hp i hi) hn' hl', ?_, fun i hi hiw => ?_, fun i hi => ?_⟩
    · show H.length ≤ (H'.set bb _).length
      rw [List.length_set]
      exact hl'
    · rw [List.getElem?_set_ne (fun h => hiw (.inl h.symm)), hsame H' hp i hi]
    · rcases hi with h | ⟨m, h⟩
      · exact .inl (.inl h)
      · by_cases hm : m = 1
        · rw [hm, up_same] at h
          rcases hn' i h with h1 | h1
          · exact .inl (.inr ⟨1, h1⟩)
          · exact .inr h1
        · rw [up_ne D d' hm] at h; exact .inl (.inr ⟨m, h⟩)
  have fin : ∀ (d' : DV) (H' : List Blk) (ds' : List DV), Own B0 9 H' d' ds' → Cfs H (Wx X bb D) ((L 1).filter fun x => !decide (x.tx = n.tx)) ds' →
      REr H (some []) (H'.set bb (.cells 5 [.agg [.p (.string ⟨#[]⟩), .p (.string ⟨#[]⟩), up D 1 d' 0, up D 1 d' 1, up D 1 d' 2]])) (fun v H' => v = .tup [] ∧ ∃ D', Cs X H' bb D' (up L 1 ((L 1).filter fun x => !decide (x.tx = n.tx))) ∧ KpW H H' bb D D') := fun d' H' ds' ho hc => by
    obtain ⟨D', hc', hk'⟩ := tail H' d' ds' ho hc
    exact REr_by _ _ .refl ⟨rfl, D', hc', hk'⟩
  simp [hat, isNilD]
  rcases hv0.len with ⟨hD, hds⟩ | ⟨b, els, hD, hb0, hle, hels⟩
  · simp [hD]
    refine VV_once ?_
    intro B he hr
    simp
    refine he _ _ ?_
    have hL0 : L 1 = [] := by
      have : ds.length = 0 := by rw [hds]; rfl
      exact List.eq_nil_of_length_eq_zero (by omega)
    have HH := fin (.p (.slice none 0 0)) B0 [] .nil (by rw [hL0]; exact .nil)
    simp only [up] at HH
    simpa [hat, isNilD] using HH
  · simp [hD]
    refine VV_fam (fun x : Nat × DV × List Blk × List DV => ⟨fr 30 [(0, .ptr bb 0 0 1), (3, .ptr H.length 0 0 1), (4, x.2.1), (10, .sl b 0 ds.length els.length), (11, .p (.int .i64 ds.length)), (12, .p (.int .i64 x.1))], x.2.2.1⟩)
      (fun x => x.1 ≤ ds.length ∧ Own B0 9 x.2.2.1 x.2.1 x.2.2.2 ∧ Cfs H (Wx X bb D) (((L 1).take x.1).filter fun x => !decide (x.tx = n.tx)) x.2.2.2) (fun x => ds.length - x.1) (0, .p (.slice none 0 0), B0, []) ⟨by simp, .nil, by simpa using Cfs.nil⟩ (Wk.fits (by simp)) ?_
    rintro ⟨i, d, H', acc⟩ ⟨hi, ho, hc⟩ B hb he hr
    simp only at hi ho hc
    have hp := ho.pre
    have haccl : acc.length ≤ 1000 := by
      have h1 := hc.len
      have h2 := List.length_filter_le (fun x : N => !decide (x.tx = n.tx)) ((L 1).take i)
      simp at h2
      omega
    simp
    have hb9 : H'[b]? = some (.cells 9 els) := by
      rw [hsame H' hp b (List.getElem?_eq_some_iff.1 hb0).1]; exact hb0
    have hx3' := hp _ _ hx3
    have hbb' := hp _ _ hat
    refine CC_by (fun h2 => ?_) (fun h2 => ?_)
    · have hi' : i < ds.length := by simpa using h2
      have hie : i < els.length := by omega
      have hiL : i < (L 1).length := by omega
      have htk : (L 1).take (i + 1) = (L 1).take i ++ [(L 1)[i]] := List.take_succ_eq_append_getElem hiL
      obtain ⟨evd', f', rd', hel, hcf⟩ := hc0.get i hiL hi'
      have hel' : els[i]? = some (elD ((L 1)[i]'hiL) evd' f') := by rw [List.getElem?_eq_getElem hie, hels i hi' hie, hel]
      generalize (L 1)[i]'hiL = n' at hel' hcf htk
      have hadd : IntKind.i64.wrap ((i : Int) + 1) = ((i + 1 : Nat) : Int) := wrap_succ hi' (by omega)
      simp [hi', hb9, hel', elD]
      obtain ⟨H1, hH1⟩ : ∃ H1, H1 = H' ++ [.cells 9 [elD n' evd' f']] := ⟨_, rfl⟩
      have hp1 : HPre H' H1 := by rw [hH1]; exact HPre.append _ _
      have h17 : H1[H'.length]? = some (.cells 9 [elD n' evd' f']) := by rw [hH1]; simp
      have h15 := hp1 _ _ hx3'
      have ho1 := ho.mono hp1
      simp only [elD] at hH1 h17
      rw [← hH1]
      clear hH1
      simp [h15]
      refine DF_by (txS n hn _) ?_
      simp
      cases htx : decide (n'.tx = n.tx)
      · simp [h17]
        refine AA_lit1 ho1 (by omega) ?_
        intro d2 h2 ho2 _ _
        simp [hadd]
        refine hb _ (i + 1, d2, h2, acc ++ [elD n' evd' f']) (Wk.fits (by simp)) ⟨hi', ho2, ?_⟩ (by simp; omega)
        rw [htk, List.filter_append]
        refine hc.app ?_
        simp [List.filter_cons, htx]
        exact .cons ⟨evd', f', rd', rfl, hcf⟩ .nil
      · simp [hadd]
        refine hb _ (i + 1, d, H1, acc) (Wk.fits (by simp)) ⟨hi', ho1, ?_⟩ (by simp; omega)
        rw [htk, List.filter_append]
        simpa [List.filter_cons, htx] using hc
    · have hii : i = ds.length := by simp at h2; omega
      subst hii
      rw [List.take_of_length_le (by omega)] at hc
      have HH := fin d H' acc ho hc
      simp only [up] at HH
      simp
      refine he _ _ ?_
      rcases ho.2 with ⟨rfl, hx⟩ | ⟨g, rfl, _, _⟩ <;> simpa [hbb', isNilD] using HH
theorem ok30 {G : Nat → DV} (hG : GZ G) {H : List Blk} {bb : Nat} {D : Fin 3 → DV} {L : Fin 3 → List N} (s : Cs X H bb D L) (n : N) (hn : Good n) (hL : (L 2).length ≤ 1000) :
    OkR Try.prog G 30 [.ptr bb 0 0 1, arnD n.a n.b n.c n.d n.e] H fun v H' => v = .tup [] ∧ ∃ D', Cs X H' bb D' (up L 2 ((L 2).filter fun x => !decide (x.tx = n.tx))) ∧ KpW H H' bb D D' := by
  refine OkR_by Try.func30 c30_ok r30_ok 28 rfl ?_
  simp [c30, r30, arnD]
  obtain ⟨ds, hv0, hc0⟩ := s.sl 2
  have hdl := hc0.len
  obtain ⟨B0, hB0⟩ : ∃ B0, B0 = H ++ [.cells 5 [arnD n.a n.b n.c n.d n.e]] := ⟨_, rfl⟩
  have hp0 : HPre H B0 := by rw [hB0]; exact HPre.append _ _
  have hx3 : B0[H.length]? = some (.cells 5 [arnD n.a n.b n.c n.d n.e]) := by rw [hB0]; simp
  have sB := s.push hp0
  have hsame : ∀ H', HPre B0 H' → ∀ i, i < H.length → H'[i]? = H[i]? := fun H' hp i hi => by
    have h1 := hp0.trans hp
    rw [List.getElem?_eq_getElem hi]; exact h1 _ _ (List.getElem?_eq_getElem hi)
  simp only [arnD] at hB0 hx3
  rw [← hB0]
  clear hB0
  have hlB : H.length ≤ B0.length := hp0.length
  have hat := sB.at_b
  -- behind the loop
  have tail : ∀ H' d' ds', Own B0 9 H' d' ds' → Cfs H (Wx X bb D) ((L 2).filter fun x => !decide (x.tx = n.tx)) ds' →
      (∃ D', Cs X (H'.set bb (.cells 5 [.agg [.p (.string ⟨#[]⟩), .p (.string ⟨#[]⟩), up D 2 d' 0, up D 2 d' 1, up D 2 d' 2]])) bb D' (up L 2 ((L 2).filter fun x => !decide (x.tx = n.tx))) ∧ KpW H (H'.set bb (.cells 5 [.agg [.p (.string ⟨#[]⟩), .p (.string ⟨#[]⟩), up D 2 d' 0, up D 2 d' 1, up D 2 d' 2]])) bb D D') := by
    intro H' d' ds' ho hc
    have hp := ho.pre
    have hn' : ∀ i, inBlk d' i → inBlk (D 2) i ∨ H.length ≤ i := fun i hi => by
      rcases ho.2 with ⟨rfl, _⟩ | ⟨b, rfl, h2, _⟩
      · exact hi.elim
      · have : i = b := hi
        right; omega
    have hl' : H.length ≤ H'.length := Nat.le_trans hlB hp.length
    refine ⟨up D 2 d', s.upd 2 ho.toVs hc (fun i hi _ => hsame H' hp i hi) hn' hl', ?_, fun i hi hiw => ?_, fun i hi => ?_⟩
    · show H.length ≤ (H'.set bb _).length
      rw [List.length_set]
      exact hl'
    · rw [List.getElem?_set_ne (fun h => hiw (.inl h.symm)), hsame H' hp i hi]
    · rcases hi with h | ⟨m, h⟩
      · exact .inl (.inl h)
      · by_cases hm : m = 2
        · rw [hm, up_same] at h
          rcases hn' i h with h1 | h1
          · exact .inl (.inr ⟨2, h1⟩)
          · exact .inr h1
        · rw [up_ne D d' hm] at h; exact .inl (.inr ⟨m, h⟩)
  have fin : ∀ (d' : DV) (H' : List Blk) (ds' : List DV), Own B0 9 H' d' ds' → Cfs H (Wx X bb D) ((L 2).filter fun x => !decide (x.tx = n.tx)) ds' →
      REr H (some []) (H'.set bb (.cells 5 [.agg [.p (.string ⟨#[]⟩), .p (.string ⟨#[]⟩), up D 2 d' 0, up D 2 d' 1, up D 2 d' 2]])) (fun v H' => v = .tup [] ∧ ∃ D', Cs X H' bb D' (up L 2 ((L 2).filter fun x => !decide (x.tx = n.tx))) ∧ KpW H H' bb D D') := fun d' H' ds' ho hc => by
    obtain ⟨D', hc', hk'⟩ := tail H' d' ds' ho hc
    exact REr_by _ _ .refl ⟨rfl, D', hc', hk'⟩
  simp [hat, isNilD]
  rcases hv0.len with ⟨hD, hds⟩ | ⟨b, els, hD, hb0, hle, hels⟩
  · simp [hD]
    refine VV_once ?_
    intro B he hr
    simp
    refine he _ _ ?_
    have hL0 : L 2 = [] := by
      have : ds.length = 0 := by rw [hds]; rfl
      exact List.eq_nil_of_length_eq_zero (by omega)
    have HH := fin (.p (.slice none 0 0)) B0 [] .nil (by rw [hL0]; exact .nil)
    simp only [up] at HH
    simpa [hat, isNilD] using HH
  · simp [hD]
    refine VV_fam (fun x : Nat × DV × List Blk × List DV => ⟨fr 30 [(0, .ptr bb 0 0 1), (3, .ptr H.length 0 0 1), (4, x.2.1), (10, .sl b 0 ds.length els.length), (11, .p (.int .i64 ds.length)), (12, .p (.int .i64 x.1))], x.2.2.1⟩)
      (fun x => x.1 ≤ ds.length ∧ Own B0 9 x.2.2.1 x.2.1 x.2.2.2 ∧ Cfs H (Wx X bb D) (((L 2).take x.1).filter fun x => !decide (x.tx = n.tx)) x.2.2.2) (fun x => ds.length - x.1) (0, .p (.slice none 0 0), B0, []) ⟨by simp, .nil, by simpa using Cfs.nil⟩ (Wk.fits (by simp)) ?_
    rintro ⟨i, d, H', acc⟩ ⟨hi, ho, hc⟩ B hb he hr
    simp only at hi ho hc
    have hp := ho.pre
    have haccl : acc.length ≤ 1000 := by
      have h1 := hc.len
      have h2 := List.length_filter_le (fun x : N => !decide (x.tx = n.tx)) ((L 2).take i)
      simp at h2
      omega
    simp
    have hb9 : H'[b]? = some (.cells 9 els) := by
      rw [hsame H' hp b (List.getElem?_eq_some_iff.1 hb0).1]; exact hb0
    have hx3' := hp _ _ hx3
    have hbb' := hp _ _ hat
    refine CC_by (fun h2 => ?_) (fun h2 => ?_)
    · have hi' : i < ds.length := by simpa using h2
      have hie : i < els.length := by omega
      have hiL : i < (L 2).length := by omega
      have htk : (L 2).take (i + 1) = (L 2).take i ++ [(L 2)[i]] := List.take_succ_eq_append_getElem hiL
      obtain ⟨evd', f', rd', hel, hcf⟩ := hc0.get i hiL hi'
      have hel' : els[i]? = some (elD ((L 2)[i]'hiL) evd' f') := by rw [List.getElem?_eq_getElem hie, hels i hi' hie, hel]
      generalize (L 2)[i]'hiL = n' at hel' hcf htk
      have hadd : IntKind.i64.wrap ((i : Int) + 1) = ((i + 1 : Nat) : Int) := wrap_succ hi' (by omega)
      simp [hi', hb9, hel', elD]
      obtain ⟨H1, hH1⟩ : ∃ H1, H1 = H' ++ [.cells 9 [elD n' evd' f']] := ⟨_, rfl⟩
      have hp1 : HPre H' H1 := by rw [hH1]; exact HPre.append _ _
      have h17 : H1[H'.length]? = some (.cells 9 [elD n' evd' f']) := by rw [hH1]; simp
      have h15 := hp1 _ _ hx3'
      have ho1 := ho.mono hp1
      simp only [elD] at hH1 h17
      rw [← hH1]
      clear hH1
      simp [h15]
      refine DF_by (txS n hn _) ?_
      simp
      cases htx : decide (n'.tx = n.tx)
      · simp [h17]
        refine AA_lit1 ho1 (by omega) ?_
        intro d2 h2 ho2 _ _
        simp [hadd]
        refine hb _ (i + 1, d2, h2, acc ++ [elD n' evd' f']) (Wk.fits (by simp)) ⟨hi', ho2, ?_⟩ (by simp; omega)
        rw [htk, List.filter_append]
        refine hc.app ?_
        simp [List.filter_cons, htx]
        exact .cons ⟨evd', f', rd', rfl, hcf⟩ .nil
      · simp [hadd]
        refine hb _ (i + 1, d, H1, acc) (Wk.fits (by simp)) ⟨hi', ho1, ?_⟩ (by simp; omega)
        rw [htk, List.filter_append]
        simpa [List.filter_cons, htx] using hc
    · have hii : i = ds.length := by simp at h2; omega
      subst hii
      rw [List.take_of_length_le (by omega)] at hc
      have HH := fin d H' acc ho hc
      simp only [up] at HH
      simp
      refine he _ _ ?_
      rcases ho.2 with ⟨rfl, hx⟩ | ⟨g, rfl, _, _⟩ <;> simpa [hbb', isNilD] using HH
theorem ok31 {G : Nat → DV} (hG : GZ G) {H : List Blk} {bb : Nat} {D : Fin 3 → DV} {L : Fin 3 → List N} (s : Cs X H bb D L) (n : N) (hn : Good n) (hL : (L 0).length ≤ 1000) :
    OkR Try.prog G 31 [.ptr bb 0 0 1, arnD n.a n.b n.c n.d n.e] H fun v H' => v = .tup [] ∧ ∃ D', Cs X H' bb D' (up L 0 ((L 0).filter fun x => !decide (x.tx = n.tx))) ∧ KpW H H' bb D D' := by
  refine OkR_by Try.func31 c31_ok r31_ok 28 rfl ?_
  simp [c31, r31, arnD]
  obtain ⟨ds, hv0, hc0⟩ := s.sl 0
  have hdl := hc0.len
  obtain ⟨B0, hB0⟩ : ∃ B0, B0 = H ++ [.cells 5 [arnD n.a n.b n.c n.d n.e]] := ⟨_, rfl⟩
  have hp0 : HPre H B0 := by rw [hB0]; exact HPre.append _ _
  have hx3 : B0[H.length]? = some (.cells 5 [arnD n.a n.b n.c n.d n.e]) := by rw [hB0]; simp
  have sB := s.push hp0
  have hsame : ∀ H', HPre B0 H' → ∀ i, i < H.length → H'[i]? = H[i]? := fun H' hp i hi => by
    have h1 := hp0.trans hp
    rw [List.getElem?_eq_getElem hi]; exact h1 _ _ (List.getElem?_eq_getElem hi)
  simp only [arnD] at hB0 hx3
  rw [← hB0]
  clear hB0
  have hlB : H.length ≤ B0.length := hp0.length
  have hat := sB.at_b
  -- behind the loop
  have tail : ∀ H' d' ds', Own B0 9 H' d' ds' → Cfs H (Wx X bb D) ((L 0).filter fun x => !decide (x.tx = n.tx)) ds' →
      (∃ D', Cs X (H'.set bb (.cells 5 [.agg [.p (.string ⟨#[]⟩), .p (.string ⟨#[]⟩), up D 0 d' 0, up D 0 d' 1, up D 0 d' 2]])) bb D' (up L 0 ((L 0).filter fun x => !decide (x.tx = n.tx))) ∧ KpW H (H'.set bb (.cells 5 [.agg [.p (.string ⟨#[]⟩), .p (.string ⟨#[]⟩), up D 0 d' 0, up D 0 d' 1, up D 0 d' 2]])) bb D D') := by
    intro H' d' ds' ho hc
    have hp := ho.pre
    have hn' : ∀ i, inBlk d' i → inBlk (D 0) i ∨ H.length ≤ i := fun i hi => by
      rcases ho.2 with ⟨rfl, _⟩ | ⟨b, rfl, h2, _⟩
      · exact hi.elim
      · have : i = b := hi
        right; omega
    have hl' : H.length ≤ H'.length := Nat.le_trans hlB hp.length
    refine ⟨up D 0 d', s.upd 0 ho.toVs hc (fun i hi _ => hsame H' hp i hi) hn' hl', ?_, fun i hi hiw => ?_, fun i hi => ?_⟩
    · show H.length ≤ (H'.set bb _).length
      rw [List.length_set]
      exact hl'
    · rw [List.getElem?_set_ne (fun h => hiw (.inl h.symm)), hsame H' hp i hi]
    · rcases hi with h | ⟨m, h⟩
      · exact .inl (.inl h)
      · by_cases hm : m = 0
        · rw [hm, up_same] at h
          rcases hn' i h with h1 | h1
          · exact .inl (.inr ⟨0, h1⟩)
          · exact .inr h1
        · rw [up_ne D d' hm] at h; exact .inl (.inr ⟨m, h⟩)
  have fin : ∀ (d' : DV) (H' : List Blk) (ds' : List DV), Own B0 9 H' d' ds' → Cfs H (Wx X bb D) ((L 0).filter fun x => !decide (x.tx = n.tx)) ds' →
      REr H (some []) (H'.set bb (.cells 5 [.agg [.p (.string ⟨#[]⟩), .p (.string ⟨#[]⟩), up D 0 d' 0, up D 0 d' 1, up D 0 d' 2]])) (fun v H' => v = .tup [] ∧ ∃ D', Cs X H' bb D' (up L 0 ((L 0).filter fun x => !decide (x.tx = n.tx))) ∧ KpW H H' bb D D') := fun d' H' ds' ho hc => by
    obtain ⟨D', hc', hk'⟩ := tail H' d' ds' ho hc
    exact REr_by _ _ .refl ⟨rfl, D', hc', hk'⟩
  simp [hat, isNilD]
  rcases hv0.len with ⟨hD, hds⟩ | ⟨b, els, hD, hb0, hle, hels⟩
  · simp [hD]
    refine VV_once ?_
    intro B he hr
    simp
    refine he _ _ ?_
    have hL0 : L 0 = [] := by
      have : ds.length = 0 := by rw [hds]; rfl
      exact List.eq_nil_of_length_eq_zero (by omega)
    have HH := fin (.p (.slice none 0 0)) B0 [] .nil (by rw [hL0]; exact .nil)
    simp only [up] at HH
    simpa [hat, isNilD] using HH
  · simp [hD]
    refine VV_fam (fun x : Nat × DV × List Blk × List DV => ⟨fr 30 [(0, .ptr bb 0 0 1), (3, .ptr H.length 0 0 1), (4, x.2.1), (10, .sl b 0 ds.length els.length), (11, .p (.int .i64 ds.length)), (12, .p (.int .i64 x.1))], x.2.2.1⟩)
      (fun x => x.1 ≤ ds.length ∧ Own B0 9 x.2.2.1 x.2.1 x.2.2.2 ∧ Cfs H (Wx X bb D) (((L 0).take x.1).filter fun x => !decide (x.tx = n.tx)) x.2.2.2) (fun x => ds.length - x.1) (0, .p (.slice none 0 0), B0, []) ⟨by simp, .nil, by simpa using Cfs.nil⟩ (Wk.fits (by simp)) ?_
    rintro ⟨i, d, H', acc⟩ ⟨hi, ho, hc⟩ B hb he hr
    simp only at hi ho hc
    have hp := ho.pre
    have haccl : acc.length ≤ 1000 := by
      have h1 := hc.len
      have h2 := List.length_filter_le (fun x : N => !decide (x.tx = n.tx)) ((L 0).take i)
      simp at h2
      omega
    simp
    have hb9 : H'[b]? = some (.cells 9 els) := by
      rw [hsame H' hp b (List.getElem?_eq_some_iff.1 hb0).1]; exact hb0
    have hx3' := hp _ _ hx3
    have hbb' := hp _ _ hat
    refine CC_by (fun h2 => ?_) (fun h2 => ?_)
    · have hi' : i < ds.length := by simpa using h2
      have hie : i < els.length := by omega
      have hiL : i < (L 0).length := by omega
      have htk : (L 0).take (i + 1) = (L 0).take i ++ [(L 0)[i]] := List.take_succ_eq_append_getElem hiL
      obtain ⟨evd', f', rd', hel, hcf⟩ := hc0.get i hiL hi'
      have hel' : els[i]? = some (elD ((L 0)[i]'hiL) evd' f') := by rw [List.getElem?_eq_getElem hie, hels i hi' hie, hel]
      generalize (L 0)[i]'hiL = n' at hel' hcf htk
      have hadd : IntKind.i64.wrap ((i : Int) + 1) = ((i + 1 : Nat) : Int) := wrap_succ hi' (by omega)
      simp [hi', hb9, hel', elD]
      obtain ⟨H1, hH1⟩ : ∃ H1, H1 = H' ++ [.cells 9 [elD n' evd' f']] := ⟨_, rfl⟩
      have hp1 : HPre H' H1 := by rw [hH1]; exact HPre.append _ _
      have h17 : H1[H'.length]? = some (.cells 9 [elD n' evd' f']) := by rw [hH1]; simp
      have h15 := hp1 _ _ hx3'
      have ho1 := ho.mono hp1
      simp only [elD] at hH1 h17
      rw [← hH1]
      clear hH1
      simp [h15]
      refine DF_by (txS n hn _) ?_
      simp
      cases htx : decide (n'.tx = n.tx)
      · simp [h17]
        refine AA_lit1 ho1 (by omega) ?_
        intro d2 h2 ho2 _ _
        simp [hadd]
        refine hb _ (i + 1, d2, h2, acc ++ [elD n' evd' f']) (Wk.fits (by simp)) ⟨hi', ho2, ?_⟩ (by simp; omega)
        rw [htk, List.filter_append]
        refine hc.app ?_
        simp [List.filter_cons, htx]
        exact .cons ⟨evd', f', rd', rfl, hcf⟩ .nil
      · simp [hadd]
        refine hb _ (i + 1, d, H1, acc) (Wk.fits (by simp)) ⟨hi', ho1, ?_⟩ (by simp; omega)
        rw [htk, List.filter_append]
        simpa [List.filter_cons, htx] using hc
    · have hii : i = ds.length := by simp at h2; omega
      subst hii
      rw [List.take_of_length_le (by omega)] at hc
      have HH := fin d H' acc ho hc
      simp only [up] at HH
      simp
      refine he _ _ ?_
      rcases ho.2 with ⟨rfl, hx⟩ | ⟨g, rfl, _, _⟩ <;> simpa [hbb', isNilD] using HH
end Go.Proofs.Ythkgekkpnldbmaa
