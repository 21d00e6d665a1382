/- Domains: the reference's word. -/
import Derived.Test.YtbbafeocmchlnaaDoorDmG
set_option linter.unusedVariables false
set_option linter.unusedSimpArgs false
set_option maxRecDepth 100000
namespace Go.Proofs.YtbbafeocmchlnaaDoor
open Go Go.Den Go.Proofs

/-- What the reference tells of a host. -/
def RefR (s : List UInt8) (h : List Blk) (v : DV) (h' : List Blk) : Prop :=
  h' = h ∧ ∃ o d : Bool, v = .tup [.p (.bool o), .p (.bool d)] ∧ (d = true → o = false → NoD s) ∧ (d = true → o = true → YesD s)
theorem RefR.no {s : List UInt8} {h : List Blk} (hn : NoD s) : RefR s h (.tup [.p (.bool false), .p (.bool true)]) h := ⟨rfl, _, _, rfl, fun _ _ => hn, fun _ h => (by cases h)⟩
theorem RefR.un {s : List UInt8} {h : List Blk} : RefR s h (.tup [.p (.bool false), .p (.bool false)]) h := ⟨rfl, _, _, rfl, fun h => (by cases h), fun h => (by cases h)⟩

set_option maxHeartbeats 4000000 in
theorem ok5 {G : Nat → DV} (h : List Blk) (s : List UInt8) (hl : s.length ≤ 2147483647) : OkR Tryd.prog G 5 [.p (.string (txt s))] h (RefR s h) := by
  refine OkR_by Tryd.func5 c5_ok r5_ok 133 rfl ?_
  rcases s with _ | ⟨c, t⟩
  · simp [c5, r5]
    exact REr_by _ _ .refl (.no (.inl rfl))
  simp only [List.length_cons] at hl
  have hw : IntKind.i64.wrap ((t.length : Int) + 1 - 1) = t.length := by simp [IntKind.wrap, IntKind.bits, IntKind.signed]; omega
  have hw2 : IntKind.i64.wrap (t.length : Int) = t.length := by simp [IntKind.wrap, IntKind.bits, IntKind.signed]; omega
  have hpos : (0 : Int) < (t.length : Int) + 1 := by omega
  have hkl : (t.length : Int) < (t.length : Int) + 1 := by omega
  have hlast : (c :: t)[t.length]? = some ((c :: t)[t.length]'(by simp)) := List.getElem?_eq_getElem (by simp)
  have hgl : (c :: t).getLast? = some ((c :: t)[t.length]'(by simp)) := by rw [List.getLast?_eq_getElem?]; simp
  by_cases a1 : c = 45
  · subst a1
    simp [c5, r5, byteD, hpos]
    exact REr_by _ _ .refl (.no (.inr (.inl rfl)))
  have a1' : ((c.toNat : Int) == 45) = false := beq_eq_false_iff_ne.2 fun e => a1 (UInt8.toNat_inj.1 (by simp; omega))
  by_cases a2 : c = 46
  · subst a2
    simp [c5, r5, byteD, hpos]
    exact REr_by _ _ .refl (.no (.inr (.inr (.inl rfl))))
  have a2' : ((c.toNat : Int) == 46) = false := beq_eq_false_iff_ne.2 fun e => a2 (UInt8.toNat_inj.1 (by simp; omega))
  by_cases a3 : (c :: t)[t.length]'(by simp) = 45
  · have a3' : ((((c :: t)[t.length]'(by simp)).toNat : Int) == 45) = true := by rw [a3]; rfl
    rw [a3] at hgl
    simp [c5, r5, byteD, hpos, a1', a2', hw, hw2, hkl, a3']
    exact REr_by _ _ .refl (.no (.inr (.inr (.inr (.inl hgl)))))
  have a3' : ((((c :: t)[t.length]'(by simp)).toNat : Int) == 45) = false := beq_eq_false_iff_ne.2 fun e => a3 (UInt8.toNat_inj.1 (by simp only [UInt8.reduceToNat]; omega))
  have hgl3 : (c :: t).getLast? ≠ some 45 := by rw [hgl]; simpa using a3
  simp [c5, r5, byteD, hpos, a1', a2', hw, hw2, hkl, a3']
  clear hlast hgl a3 a3' hw hw2
  obtain ⟨s, hs⟩ : ∃ s, s = c :: t := ⟨_, rfl⟩
  have hsl : s.length = t.length + 1 := by rw [hs]; simp
  have hgl4 : s.getLast? ≠ some 45 := by rw [hs]; exact hgl3
  rw [show RefR (c :: t) h = RefR s h by rw [hs]]
  refine VV_fam (fun i : Nat => ⟨fr 134 [(0, .p (.string (txt s))), (28, .p (.int .i64 s.length)), (29, .p (.int .i64 i))], h⟩)
    (fun i => i ≤ s.length ∧ ∀ j (hj : j < s.length), j < i → okc s[j] = true) (fun i => s.length - i) 0 ⟨by simp, by intros; omega⟩ (Wk.fits (by simp [hs])) ?_
  rintro i ⟨hi, hok⟩ B hb he hr
  rcases Nat.lt_or_ge i s.length with hi' | hi'
  · have hadd : IntKind.i64.wrap ((i : Int) + 1) = ((i + 1 : Nat) : Int) := wrap_succ hi' (by omega)
    have hg : s[i]? = some s[i] := List.getElem?_eq_getElem hi'
    have hsplit : s = s.take i ++ s[i] :: s.drop (i + 1) := by rw [← List.drop_eq_getElem_cons hi', List.take_append_drop]
    have htk : ∀ x ∈ s.take i, okc x = true := by
      intro x hx
      obtain ⟨j, hj, rfl⟩ := List.getElem_of_mem hx
      simp at hj
      simpa using hok j (by omega) (by omega)
    have next : okc s[i] = true → ∀ j (hj : j < s.length), j < i + 1 → okc s[j] = true := by
      intro h1 j hj hji
      rcases Nat.lt_or_ge j i with h2 | h2
      · exact hok j hj h2
      · obtain rfl : j = i := by omega
        exact h1
    have bad : badc s[i] = true → RefR s h (.tup [.p (.bool false), .p (.bool true)]) h := fun hb => .no (.inr (.inr (.inr (.inr ⟨_, _, _, hsplit, htk, hb⟩))))
    have hx := s[i].toNat_lt
    rcases Nat.lt_or_ge s[i].toNat 33 with b1 | b1
    · have e1 : ¬ (32 : Int) < (s[i].toNat : Int) := by omega
      have e2 : small s[i] = false := by simp [small]; omega
      have e3 : ((s[i].toNat : Int) != 45) = true := bne_iff_ne.2 (by omega)
      have e4 : ((s[i].toNat : Int) != 46) = true := bne_iff_ne.2 (by omega)
      simp [hi', hg, byteD, e1]
      refine FF_by (ok9 _ s[i]) ?_
      simp [e2, e3, e4, hi', hg, byteD]
      exact hr _ (by simp; exact REr_by _ _ .refl .un)
    have f1 : (32 : Int) < (s[i].toNat : Int) := by omega
    rcases Nat.lt_or_ge s[i].toNat 127 with b2 | b2
    rotate_left
    · have e1 : ¬ (s[i].toNat : Int) < 127 := by omega
      have e2 : small s[i] = false := by simp [small]; omega
      have e3 : ((s[i].toNat : Int) != 45) = true := bne_iff_ne.2 (by omega)
      have e4 : ((s[i].toNat : Int) != 46) = true := bne_iff_ne.2 (by omega)
      simp [hi', hg, byteD, e1, f1]
      refine FF_by (ok9 _ s[i]) ?_
      simp [e2, e3, e4, hi', hg, byteD]
      exact hr _ (by simp; exact REr_by _ _ .refl .un)
    have f2 : (s[i].toNat : Int) < 127 := by omega
    cases hsm : small s[i] with
    | true =>
      simp [hi', hg, byteD, f1, f2]
      refine FF_by (ok9 _ s[i]) ?_
      simp [hsm, hi', hg, byteD]
      refine FF_by (ok9 _ s[i]) ?_
      simp [hsm, hadd]
      exact hb _ (i + 1) (Wk.fits (by simp)) ⟨by omega, next (by simp [okc, hsm])⟩ (by omega)
    | false =>
      by_cases g1 : s[i] = 45
      · have tn : s[i].toNat = 45 := by rw [g1]; rfl
        have u45 : ((s[i].toNat : Int) != 45) = false := by rw [bne_eq_false_iff_eq]; omega
        have u46 : ((s[i].toNat : Int) != 46) = true := by rw [bne_iff_ne]; omega
        have u95 : ((s[i].toNat : Int) != 95) = true := by rw [bne_iff_ne]; omega
        have u44 : ((s[i].toNat : Int) != 44) = true := by rw [bne_iff_ne]; omega
        simp [hi', hg, byteD, f1, f2]
        refine FF_by (ok9 _ s[i]) ?_
        simp [hsm, hi', hg, byteD, u45, u46, u95, u44]
        refine FF_by (ok9 _ s[i]) ?_
        simp [hsm, hi', hg, byteD, hadd, u45, u46]
        exact hb _ (i + 1) (Wk.fits (by simp)) ⟨by omega, next (by simp [okc, g1])⟩ (by omega)
      have e3 : ((s[i].toNat : Int) != 45) = true := bne_iff_ne.2 fun e => g1 (UInt8.toNat_inj.1 (by simp only [UInt8.reduceToNat]; omega))
      by_cases g2 : s[i] = 46
      · have tn : s[i].toNat = 46 := by rw [g2]; rfl
        have u45 : ((s[i].toNat : Int) != 45) = true := by rw [bne_iff_ne]; omega
        have u46 : ((s[i].toNat : Int) != 46) = false := by rw [bne_eq_false_iff_eq]; omega
        have u95 : ((s[i].toNat : Int) != 95) = true := by rw [bne_iff_ne]; omega
        have u44 : ((s[i].toNat : Int) != 44) = true := by rw [bne_iff_ne]; omega
        simp [hi', hg, byteD, f1, f2]
        refine FF_by (ok9 _ s[i]) ?_
        simp [hsm, hi', hg, byteD, u45, u46, u95, u44]
        refine FF_by (ok9 _ s[i]) ?_
        simp [hsm, hi', hg, byteD, hadd, u45, u46]
        exact hb _ (i + 1) (Wk.fits (by simp)) ⟨by omega, next (by simp [okc, g2])⟩ (by omega)
      have e4 : ((s[i].toNat : Int) != 46) = true := bne_iff_ne.2 fun e => g2 (UInt8.toNat_inj.1 (by simp only [UInt8.reduceToNat]; omega))
      by_cases g3 : s[i] = 95
      · have tn : s[i].toNat = 95 := by rw [g3]; rfl
        have u45 : ((s[i].toNat : Int) != 45) = true := by rw [bne_iff_ne]; omega
        have u46 : ((s[i].toNat : Int) != 46) = true := by rw [bne_iff_ne]; omega
        have u95 : ((s[i].toNat : Int) != 95) = false := by rw [bne_eq_false_iff_eq]; omega
        have u44 : ((s[i].toNat : Int) != 44) = true := by rw [bne_iff_ne]; omega
        simp [hi', hg, byteD, f1, f2]
        refine FF_by (ok9 _ s[i]) ?_
        simp [hsm, hi', hg, byteD, u45, u46, u95, u44]
        refine FF_by (ok9 _ s[i]) ?_
        simp [hsm, hi', hg, byteD, u45, u46]
        exact hr _ (by simp; exact REr_by _ _ .refl .un)
      have e5 : ((s[i].toNat : Int) != 95) = true := bne_iff_ne.2 fun e => g3 (UInt8.toNat_inj.1 (by simp only [UInt8.reduceToNat]; omega))
      by_cases g4 : s[i] = 44
      · have tn : s[i].toNat = 44 := by rw [g4]; rfl
        have u45 : ((s[i].toNat : Int) != 45) = true := by rw [bne_iff_ne]; omega
        have u46 : ((s[i].toNat : Int) != 46) = true := by rw [bne_iff_ne]; omega
        have u95 : ((s[i].toNat : Int) != 95) = true := by rw [bne_iff_ne]; omega
        have u44 : ((s[i].toNat : Int) != 44) = false := by rw [bne_eq_false_iff_eq]; omega
        simp [hi', hg, byteD, f1, f2]
        refine FF_by (ok9 _ s[i]) ?_
        simp [hsm, hi', hg, byteD, u45, u46, u95, u44]
        refine FF_by (ok9 _ s[i]) ?_
        simp [hsm, hi', hg, byteD, u45, u46]
        exact hr _ (by simp; exact REr_by _ _ .refl .un)
      have e6 : ((s[i].toNat : Int) != 44) = true := bne_iff_ne.2 fun e => g4 (UInt8.toNat_inj.1 (by simp only [UInt8.reduceToNat]; omega))
      rcases Nat.lt_or_ge s[i].toNat 65 with b3 | b3
      · have e7 : (s[i].toNat : Int) < 65 := by omega
        simp [hi', hg, byteD, f1, f2]
        refine FF_by (ok9 _ s[i]) ?_
        simp [hsm, hi', hg, byteD, e3, e4, e5, e6, e7]
        exact hr _ (by simp; exact REr_by _ _ .refl (bad (by simp [badc, b1, b2, hsm, g1, g2, g3, g4, b3])))
      have e7 : ¬ (s[i].toNat : Int) < 65 := by omega
      rcases Nat.lt_or_ge 90 s[i].toNat with b4 | b4
      · have e8 : (90 : Int) < (s[i].toNat : Int) := by omega
        simp [hi', hg, byteD, f1, f2]
        refine FF_by (ok9 _ s[i]) ?_
        simp [hsm, hi', hg, byteD, e3, e4, e5, e6, e7, e8]
        exact hr _ (by simp; exact REr_by _ _ .refl (bad (by simp [badc, b1, b2, hsm, g1, g2, g3, g4, b4])))
      have e8 : ¬ (90 : Int) < (s[i].toNat : Int) := by omega
      simp [hi', hg, byteD, f1, f2]
      refine FF_by (ok9 _ s[i]) ?_
      simp [hsm, hi', hg, byteD, e3, e4, e5, e6, e7, e8]
      refine FF_by (ok9 _ s[i]) ?_
      simp [hsm, hi', hg, byteD, e3, e4]
      exact hr _ (by simp; exact REr_by _ _ .refl .un)
  · obtain rfl : i = s.length := by omega
    have hall : ∀ x ∈ s, okc x = true := by
      intro x hx
      obtain ⟨j, hj, rfl⟩ := List.getElem_of_mem hx
      exact hok j hj hj
    simp
    refine he _ _ ?_
    simp
    refine FF_byR (ok10 _ s (by omega)) ?_
    rintro v h' ⟨rfl, l, rfl, hll⟩
    simp
    refine VV_fam (fun i : Nat => ⟨fr 134 [(0, .p (.string (txt s))), (104, .fz 1 (strs l)), (105, .p (.int .i64 l.length)), (106, .p (.int .i64 i))], h'⟩)
      (fun i => i ≤ l.length) (fun i => l.length - i) 0 (by simp) (Wk.fits (by simp)) ?_
    intro i hi B2 hb2 he2 hr2
    rcases Nat.lt_or_ge i l.length with hi' | hi'
    · have hadd : IntKind.i64.wrap ((i : Int) + 1) = ((i + 1 : Nat) : Int) := wrap_succ hi' (by omega)
      have hgi : (strs l)[i]?.getD .any = .p (.string l[i]) := strs_get hi'
      obtain ⟨m, hm⟩ : ∃ m, l[i] = txt m := ⟨_, txt_of l[i]⟩
      rw [hm] at hgi
      rcases m with _ | ⟨c', t'⟩
      · simp [hi', hm]
        exact hr2 _ (by simp; exact REr_by _ _ .refl .un)
      have kpos : (0 : Int) < (t'.length : Int) + 1 := by omega
      rcases Nat.lt_or_ge 63 (t'.length + 1) with d1 | d1
      · have d1' : (63 : Int) < (t'.length : Int) + 1 := by omega
        simp [hi', hm, d1']
        exact hr2 _ (by simp; exact REr_by _ _ .refl .un)
      have d1' : ¬ (63 : Int) < (t'.length : Int) + 1 := by omega
      have kw : IntKind.i64.wrap ((t'.length : Int) + 1 - 1) = t'.length := by simp [IntKind.wrap, IntKind.bits, IntKind.signed]; omega
      have kw2 : IntKind.i64.wrap (t'.length : Int) = t'.length := by simp [IntKind.wrap, IntKind.bits, IntKind.signed]; omega
      have kkl : (t'.length : Int) < (t'.length : Int) + 1 := by omega
      have klast : (c' :: t')[t'.length]? = some ((c' :: t')[t'.length]'(by simp)) := List.getElem?_eq_getElem (by simp)
      by_cases d2 : c' = 45
      · subst d2
        simp [hi', hm, d1', byteD, kpos]
        exact hr2 _ (by simp; exact REr_by _ _ .refl .un)
      have d2' : ((c'.toNat : Int) == 45) = false := beq_eq_false_iff_ne.2 fun e => d2 (UInt8.toNat_inj.1 (by simp; omega))
      by_cases d3 : (c' :: t')[t'.length]'(by simp) = 45
      · have d3' : ((((c' :: t')[t'.length]'(by simp)).toNat : Int) == 45) = true := by rw [d3]; rfl
        simp [hi', hm, d1', byteD, kpos, d2', kw, kw2, kkl, d3']
        exact hr2 _ (by simp; exact REr_by _ _ .refl .un)
      have d3' : ((((c' :: t')[t'.length]'(by simp)).toNat : Int) == 45) = false := beq_eq_false_iff_ne.2 fun e => d3 (UInt8.toNat_inj.1 (by simp only [UInt8.reduceToNat]; omega))
      simp [hi', hm, d1', byteD, kpos, d2', kw, kw2, kkl, d3', hadd]
      exact hb2 _ (i + 1) (Wk.fits (by simp)) (by omega) (by omega)
    · obtain rfl : i = l.length := by omega
      simp
      refine he2 _ _ ?_
      simp
      refine REr_by _ _ .refl ⟨rfl, _, _, rfl, fun _ h => (by cases h), fun hd _ => ⟨?_, ?_, ?_, ?_, hall, ?_⟩⟩
      · rw [hs]; simp
      · rw [hs]; simpa using a1
      · rw [hs]; simpa using a2
      · exact hgl4
      · have := of_decide_eq_true hd
        omega
end Go.Proofs.YtbbafeocmchlnaaDoor
