/- Objects' names: the code's word, the reference's, the law. -/
import Derived.Test.YtbbafeocmchlnaaDoorUtF
set_option linter.unusedVariables false
set_option linter.unusedSimpArgs false
set_option maxRecDepth 100000
namespace Go.Proofs.YtbbafeocmchlnaaDoor
open Go Go.Den Go.Proofs

/-- An error, or none. -/
def ErB (b : Bool) (h : List Blk) (v : DV) (h' : List Blk) : Prop := HPre h h' ∧ (b = true → v = .p .nilIface) ∧ (b = false → ∃ x, v = .iface 45 x)
theorem ok18 {G : Nat → DV} (h : List Blk) (s : ByteArray) : OkR Tryd.prog G 18 [.p (.string s)] h (ErB false h) := by
  refine OkR_by Tryd.func18 c18_ok r18_ok 6 rfl ?_
  simp [c18, r18]
  exact REr_by _ _ .refl ⟨HPre.append _ _, fun h => (by cases h), fun _ => ⟨_, rfl⟩⟩
theorem ErB.mono {b : Bool} {h h1 h' : List Blk} {v : DV} (h0 : HPre h h1) (he : ErB b h1 v h') : ErB b h v h' := ⟨h0.trans he.1, he.2⟩

theorem ok13 (h : List Blk) (s : List UInt8) (hl : s.length ≤ 2147483647) : OkR Tryd.prog GT 13 [.p (.string (txt s))] h (ErB (decide (s.length ≤ 1024) && val s) h) := by
  refine OkR_by Tryd.func13 c13_ok r13_ok 10 rfl ?_
  rcases Nat.lt_or_ge 1024 s.length with g | g
  · have g' : (1024 : Int) < (s.length : Int) := by omega
    have e : (decide (s.length ≤ 1024) && val s) = false := by rw [decide_eq_false (by omega)]; rfl
    rw [e]
    simp [c13, r13, g, g']
    refine FF_byR (ok18 h _) ?_
    intro v h' hv
    simp
    exact REr_by _ _ .refl hv
  · have g' : ¬ (1024 : Int) < (s.length : Int) := by omega
    simp [c13, r13, Nat.not_lt.2 g, g']
    refine FF_byR (ok12 h s hl) ?_
    rintro v h1 ⟨hp, rfl⟩
    simp
    cases hv : val s with
    | true =>
      simp
      exact REr_by _ _ .refl ⟨hp, fun _ => rfl, fun h => by simp [g] at h⟩
    | false =>
      simp
      refine FF_byR (ok18 h1 _) ?_
      intro v h' hv
      simp
      exact REr_by _ _ .refl (hv.mono hp)

/-- What is told of a name by the code. -/
def NaR (s : List UInt8) (h : List Blk) (v : DV) (h' : List Blk) : Prop :=
  ∃ b : Bool, ErB b h v h' ∧ (b = true → s.length ≤ 1024 ∧ val s = true ∧ s ≠ []) ∧ (b = false → ¬ (s.length ≤ 1024 ∧ val s = true) ∨ Bl s [])
theorem ok14 (h : List Blk) (s : List UInt8) (hl : s.length ≤ 2147483647) : OkR Tryd.prog GT 14 [.p (.string (txt s))] h (NaR s h) := by
  refine OkR_by Tryd.func14 c14_ok r14_ok 8 rfl ?_
  simp [c14, r14]
  refine FF_byR (ok15p h s hl) ?_
  rintro v h1 ⟨hp, p, m, q, hs, _, _, rfl, _, _, hm⟩
  rcases m with _ | ⟨c, t⟩
  · simp
    refine FF_byR (ok18 h1 _) ?_
    intro v h' hv
    simp
    exact REr_by _ _ .refl ⟨false, hv.mono hp, fun h => (by cases h), fun _ => .inr (hm rfl)⟩
  · simp
    refine FF_byR (ok13 h1 s hl) ?_
    intro v h' hv
    simp
    refine REr_by _ _ .refl ⟨_, hv.mono hp, fun h => ?_, fun h => .inl ?_⟩
    · simp at h
      exact ⟨h.1, h.2, by rw [hs]; simp⟩
    · rintro ⟨h2, h3⟩
      simp [h2, h3] at h

/-- What ObjectOk tells. -/
def ObR (s : List UInt8) (pre : Bool) (h : List Blk) (v : DV) (h' : List Blk) : Prop :=
  HPre h h' ∧ ∃ b : Bool, v = .p (.bool b) ∧ (pre = true → b = (decide (s.length ≤ 1024) && val s)) ∧ (pre = false → (b = true → s.length ≤ 1024 ∧ val s = true ∧ s ≠ []) ∧ (b = false → ¬ (s.length ≤ 1024 ∧ val s = true) ∨ Bl s []))
theorem ok8 (h : List Blk) (s : List UInt8) (pre : Bool) (hl : s.length ≤ 2147483647) : OkR Tryd.prog GT 8 [.p (.string (txt s)), .p (.bool pre)] h (ObR s pre h) := by
  refine OkR_by Tryd.func8 c8_ok r8_ok 10 rfl ?_
  cases pre with
  | true =>
    simp [c8, r8]
    refine FF_byR (ok13 h s hl) ?_
    rintro v h' ⟨hp, e1, e2⟩
    cases hb : (decide (s.length ≤ 1024) && val s) with
    | true =>
      rw [e1 hb]
      simp
      exact REr_by _ _ .refl ⟨hp, _, rfl, fun _ => hb.symm, fun h => (by cases h)⟩
    | false =>
      obtain ⟨x, rfl⟩ := e2 hb
      simp
      exact REr_by _ _ .refl ⟨hp, _, rfl, fun _ => hb.symm, fun h => (by cases h)⟩
  | false =>
    simp [c8, r8]
    refine FF_byR (ok14 h s hl) ?_
    rintro v h' ⟨b, ⟨hp, e1, e2⟩, k1, k2⟩
    cases b with
    | true =>
      rw [e1 rfl]
      simp
      exact REr_by _ _ .refl ⟨hp, _, rfl, fun h => (by cases h), fun _ => ⟨k1, fun h => (by cases h)⟩⟩
    | false =>
      obtain ⟨x, rfl⟩ := e2 rfl
      simp
      exact REr_by _ _ .refl ⟨hp, _, rfl, fun h => (by cases h), fun _ => ⟨fun h => (by cases h), k2⟩⟩

theorem dec_at (s : List UInt8) (i : Nat) : Utf8.decode (txt s) i = Utf8.decode (txt (s.drop i)) 0 := by
  unfold Utf8.decode
  have e1 : ∀ k, (txt s).get! (i + k) = (txt (s.drop i)).get! (0 + k) := fun k => by
    rw [getb, getb, List.getD_eq_getElem?_getD, List.getD_eq_getElem?_getD, List.getElem?_drop, Nat.zero_add]
  have e2 : ∀ k, (i + k < (txt s).size) = (0 + k < (txt (s.drop i)).size) := fun k => by
    simp only [txt_size, List.length_drop, eq_iff_iff]
    omega
  simp only [e1, e2]

/-- What the reference tells of a name. -/
def RoR (s : List UInt8) (h : List Blk) (v : DV) (h' : List Blk) : Prop :=
  HPre h h' ∧ ∃ o d : Bool, v = .tup [.p (.bool o), .p (.bool d)] ∧ (d = true → o = false → ¬ (s.length ≤ 1024 ∧ val s = true) ∨ s = []) ∧ (d = true → o = true → s.length ≤ 1024 ∧ val s = true ∧ ¬ Bl s [])
theorem RoR.no {s : List UInt8} {h h' : List Blk} (hp : HPre h h') (hn : ¬ (s.length ≤ 1024 ∧ val s = true)) : RoR s h (.tup [.p (.bool false), .p (.bool true)]) h' := ⟨hp, _, _, rfl, fun _ _ => .inl hn, fun _ h => (by cases h)⟩
theorem ok7 (h : List Blk) (s : List UInt8) (hl : s.length ≤ 2147483647) : OkR Tryd.prog GT 7 [.p (.string (txt s))] h (RoR s h) := by
  refine OkR_by Tryd.func7 c7_ok r7_ok 54 rfl ?_
  rcases Nat.lt_or_ge 1024 s.length with g | g
  · have g' : (1024 : Int) < (s.length : Int) := by omega
    simp [c7, r7, g, g']
    exact REr_by _ _ .refl (.no (HPre.refl _) (fun h => by omega))
  have g' : ¬ (1024 : Int) < (s.length : Int) := by omega
  simp [c7, r7, Nat.not_lt.2 g, g']
  refine FF_byR (ok12 h s hl) ?_
  rintro v h1 ⟨hp, rfl⟩
  cases hv : val s with
  | false =>
    simp
    exact REr_by _ _ .refl (.no hp (fun h => by simp [hv] at h))
  | true =>
    simp
    refine VV_fam (fun pos : Nat => ⟨fr 55 [(0, .p (.string (txt s))), (15, .it h1.length)], h1 ++ [.sit (txt s) pos]⟩)
      (fun pos => Bl s [] → Bl (s.drop pos) []) (fun pos => s.length - pos) 0 (by simp) (Wk.fitsE (by simp) (by simp)) ?_
    intro pos hinv B hb he hr
    simp
    refine ⟨fun hlt => ?_, fun hge => ?_⟩
    · have hd := dec_at s pos
      have hne : s.drop pos ≠ [] := by
        intro e
        have := congrArg List.length e
        simp at this
        omega
      have hn1 := dec_pos (txt s) pos
      have hnext := fun hbl : Bl s [] => (hinv hbl).next hne
      rw [← hd] at hnext
      generalize Utf8.decode (txt s) pos = dc at *
      obtain ⟨r, n⟩ := dc
      simp only [List.drop_drop] at hnext hn1
      have next : B .nrm = B .nrm → ∀ s1, Wk GT h s1 ⟨fr 55 [(0, .p (.string (txt s))), (15, .it h1.length)], h1 ++ [.sit (txt s) (pos + n)]⟩ → B .nrm s1 := fun _ s1 hw =>
        hb s1 (pos + n) hw (fun hbl => (hnext hbl).2) (by omega)
      by_cases a1 : r ≤ 32
      · have e1 : ¬ (32 : Int) < (r : Int) := by omega
        simp [e1, Nat.not_lt.2 a1]
        exact next rfl _ (Wk.fitsE (by simp) (by simp))
      have e1 : (32 : Int) < (r : Int) := by omega
      have e1' : 32 < r := by omega
      by_cases a2 : r = 133
      · subst a2
        simp
        exact next rfl _ (Wk.fitsE (by simp) (by simp))
      have e2 : ((r : Int) != 133) = true := bne_iff_ne.2 (by omega)
      by_cases a3 : r = 160
      · subst a3
        simp
        exact next rfl _ (Wk.fitsE (by simp) (by simp))
      have e3 : ((r : Int) != 160) = true := bne_iff_ne.2 (by omega)
      by_cases a4 : 8192 ≤ r ∧ r ≤ 8233
      · have e4 : ¬ (r : Int) < 8192 := by omega
        have e5 : ¬ (8233 : Int) < (r : Int) := by omega
        simp [e1, e1', e2, e3, e4, e5]
        exact next rfl _ (Wk.fitsE (by simp) (by simp))
      by_cases a5 : r = 8239
      · subst a5
        simp
        exact next rfl _ (Wk.fitsE (by simp) (by simp))
      have e5 : ((r : Int) != 8239) = true := bne_iff_ne.2 (by omega)
      by_cases a6 : r = 8287
      · subst a6
        simp
        exact next rfl _ (Wk.fitsE (by simp) (by simp))
      have e6 : ((r : Int) != 8287) = true := bne_iff_ne.2 (by omega)
      by_cases a7 : r = 12288
      · subst a7
        simp
        exact next rfl _ (Wk.fitsE (by simp) (by simp))
      have e7 : ((r : Int) != 12288) = true := bne_iff_ne.2 (by omega)
      by_cases a8 : r = 5760
      · subst a8
        simp
        exact next rfl _ (Wk.fitsE (by simp) (by simp))
      have e8 : ((r : Int) != 5760) = true := bne_iff_ne.2 (by omega)
      have hsp : spB (r : Int) = false := by
        simp [spB, spL]
        omega
      have fin : RoR s h (.tup [.p (.bool true), .p (.bool true)]) (h1 ++ [.sit (txt s) (pos + n)]) := ⟨hp.trans (HPre.append _ _), _, _, rfl, fun _ h => (by cases h), fun _ _ => ⟨g, hv, fun hbl => by
        have := (hnext hbl).1
        rw [hsp] at this
        cases this⟩⟩
      rcases Nat.lt_or_ge r 8192 with a9 | a9
      · have e9 : (r : Int) < 8192 := by omega
        simp [e1, e1', e2, e3, e9, a9, e5, e6, e7, e8]
        exact hr _ (by simp; exact REr_by _ _ .refl fin)
      · have e9 : ¬ (r : Int) < 8192 := by omega
        have e10 : (8233 : Int) < (r : Int) := by omega
        simp [e1, e1', e2, e3, e9, e10, e5, e6, e7, e8]
        exact hr _ (by simp; exact REr_by _ _ .refl fin)
    · refine he _ _ ?_
      simp
      refine REr_by _ _ .refl ⟨hp.trans (HPre.append _ _), _, _, rfl, fun hd _ => .inr ?_, fun _ h => (by cases h)⟩
      have := of_decide_eq_true hd
      simpa using this

def abL : List UInt8 := [97, 47, 98]
theorem ab_ok {pre : Bool} {h h' : List Blk} {v : DV} (hv : ObR abL pre h v h') : HPre h h' ∧ v = .p (.bool true) := by
  obtain ⟨hp, b, rfl, k1, k2⟩ := hv
  refine ⟨hp, ?_⟩
  have hval : val abL = true := by decide
  cases pre with
  | true => rw [k1 rfl, hval]; rfl
  | false =>
    obtain ⟨_, k3⟩ := k2 rfl
    cases b with
    | true => rfl
    | false =>
      rcases k3 rfl with k3 | k3
      · exact absurd ⟨by decide, hval⟩ k3
      · have := (k3.next (by decide)).1
        rw [show Utf8.decode (txt abL) 0 = (97, 1) from d1 (by decide)] at this
        exact absurd this (by decide)
theorem ok4 (s : List UInt8) (pre : Bool) : Ok Tryd.prog GT 4 [.p (.string (txt s)), .p (.bool pre)] [] (.p (.bool true)) [] := by
  refine Ok_by Tryd.func4 c4_ok r4_ok 31 rfl ?_
  rcases Nat.lt_or_ge 2147483647 s.length with hl | hl
  · have e : (2147483647 : Int) < (s.length : Int) := by omega
    simp [c4, r4, e, hl]
  have e : ¬ (2147483647 : Int) < (s.length : Int) := by omega
  have ex : ByteArray.mk #[97, 47, 98] = txt abL := rfl
  simp [c4, r4, e, Nat.not_lt.2 hl]
  refine FF_byR (ok7 [] s hl) ?_
  rintro v h1 ⟨hp1, o, d, rfl, k1, k2⟩
  simp
  have last : ∀ h2, HPre [] h2 → OkR Tryd.prog GT 8 [.p (.string (ByteArray.mk #[97, 47, 98])), .p (.bool pre)] h2 (ObR abL pre h2) := fun h2 _ => ok8 h2 abL pre (by decide)
  by_cases hs : s = []
  · subst hs
    cases pre with
    | true =>
      simp
      refine FF_byR (last h1 hp1) ?_
      intro v h2 hv
      obtain ⟨hp2, rfl⟩ := ab_ok hv
      simp
    | false =>
      cases d with
      | false =>
        simp
        refine FF_byR (last h1 hp1) ?_
        intro v h2 hv
        obtain ⟨hp2, rfl⟩ := ab_ok hv
        simp
      | true =>
        simp
        refine FF_byR (ok8 h1 [] false (by simp)) ?_
        rintro v h2 ⟨hp2, b, rfl, _, m2⟩
        have hbo : b = o := by
          cases o with
          | true => exact absurd .refl (k2 rfl rfl).2.2
          | false =>
            cases b with
            | false => rfl
            | true => exact absurd rfl ((m2 rfl).1 rfl).2.2
        subst hbo
        simp
        refine FF_byR (last h2 (hp1.trans hp2)) ?_
        intro v h3 hv
        obtain ⟨hp3, rfl⟩ := ab_ok hv
        simp
  · have hs' : (s = []) = False := eq_false hs
    cases d with
    | false =>
      simp [hs']
      refine FF_byR (last h1 hp1) ?_
      intro v h2 hv
      obtain ⟨hp2, rfl⟩ := ab_ok hv
      simp
    | true =>
      simp [hs']
      refine FF_byR (ok8 h1 s pre hl) ?_
      rintro v h2 ⟨hp2, b, rfl, m1, m2⟩
      have hbo : b = o := by
        cases o with
        | true =>
          obtain ⟨q1, q2, q3⟩ := k2 rfl rfl
          cases pre with
          | true => rw [m1 rfl]; simp [q1, q2]
          | false =>
            cases b with
            | true => rfl
            | false =>
              rcases (m2 rfl).2 rfl with q | q
              · exact absurd ⟨q1, q2⟩ q
              · exact absurd q q3
        | false =>
          have q := (k1 rfl rfl).resolve_right hs
          cases pre with
          | true =>
            rw [m1 rfl]
            rcases Decidable.em (s.length ≤ 1024) with q1 | q1
            · cases hv : val s with
              | true => exact absurd ⟨q1, hv⟩ q
              | false => simp
            · simp [q1]
          | false =>
            cases b with
            | false => rfl
            | true => exact absurd ⟨((m2 rfl).1 rfl).1, ((m2 rfl).1 rfl).2.1⟩ q
      subst hbo
      simp
      refine FF_byR (last h2 (hp1.trans hp2)) ?_
      intro v h3 hv
      obtain ⟨hp3, rfl⟩ := ab_ok hv
      simp
end Go.Proofs.YtbbafeocmchlnaaDoor
