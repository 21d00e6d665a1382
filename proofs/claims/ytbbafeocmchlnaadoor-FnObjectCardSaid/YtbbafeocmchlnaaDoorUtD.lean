/- A text without the blanks around it: to the sign. -/
import Derived.Test.YtbbafeocmchlnaaDoorUtC
set_option linter.unusedVariables false
set_option linter.unusedSimpArgs false
set_option maxRecDepth 100000
namespace Go.Proofs.YtbbafeocmchlnaaDoor
open Go Go.Den Go.Proofs

/-- The first, the last letter of a text is none that is a blank. -/
def hdN (m : List UInt8) : Prop := m ≠ [] → spB ((Utf8.decode (txt m) 0).1 : Int) = false
def lsN (m : List UInt8) : Prop := m ≠ [] → ∃ r n : Nat, 1 ≤ n ∧ n ≤ m.length ∧ ((n = 1 ∧ r = 65533) ∨ Utf8.decode (txt (m.drop (m.length - n))) 0 = (r, n)) ∧ spB (r : Int) = false
/-- What is told of a text without the blanks around it. -/
def TrP (s : List UInt8) (h : List Blk) (v : DV) (h' : List Blk) : Prop :=
  HPre h h' ∧ ∃ p m q, s = p ++ (m ++ q) ∧ (∀ x ∈ p, bB x) ∧ (∀ x ∈ q, bB x) ∧ v = .p (.string (txt m)) ∧ hdN m ∧ lsN m ∧ (m = [] → Bl s [])

theorem ok15p (h : List Blk) (s : List UInt8) (hl : s.length ≤ 2147483647) : OkR Tryd.prog GT 15 [.p (.string (txt s))] h (TrP s h) := by
  refine OkR_by Tryd.func15 c15_ok r15_ok 38 rfl ?_
  simp [c15, r15]
  refine VV_fam (fun x : List UInt8 × List Blk => ⟨fr 39 [(0, .p (.string (txt x.1)))], x.2⟩)
    (fun x => HPre h x.2 ∧ Bl s x.1 ∧ ∃ p, s = p ++ x.1 ∧ ∀ y ∈ p, bB y) (fun x => x.1.length) (s, h) ⟨HPre.refl _, .refl, [], by simp, by simp⟩ (Wk.fits (by simp)) ?_
  rintro ⟨a, h1⟩ ⟨hp1, hbl, p, hs, hpp⟩ B hb he hr
  simp only at hp1 hs hbl
  have hla : a.length ≤ s.length := by rw [hs]; simp
  rcases a with _ | ⟨c, t⟩
  · simp
    refine he _ _ ?_
    simp
    refine VV_fam (fun _ : Unit => ⟨fr 39 [(0, .p (.string (txt [])))], h1⟩) (fun _ => True) (fun _ => 0) () trivial (Wk.fits (by simp)) ?_
    intro _ _ B2 hb2 he2 hr2
    simp
    refine he2 _ _ ?_
    simp
    refine REr_by _ _ .refl ?_
    exact ⟨hp1, p, [], [], by simpa using hs, hpp, by simp, rfl, fun h => absurd rfl h, fun h => absurd rfl h, fun _ => hbl⟩
  · have hpos : (0 : Int) < (t.length : Int) + 1 := by omega
    simp only [List.length_cons] at hla
    simp [hpos]
    refine FF_byR (ok19p h1 c t (by omega)) ?_
    rintro v h2 ⟨hp2, rfl⟩
    have n1 := dec_pos (txt (c :: t)) 0
    have n2 := dec_le (c :: t) (by simp)
    have hbk := dec_blank (s := c :: t) (by simp)
    have hbl2 : spB ((Utf8.decode (txt (c :: t)) 0).1 : Int) = true → Bl s ((c :: t).drop (Utf8.decode (txt (c :: t)) 0).2) := fun h => hbl.trans (.step (by simp) h .refl)
    have hhd : spB ((Utf8.decode (txt (c :: t)) 0).1 : Int) = false → hdN (c :: t) := fun h _ => h
    have hext : ∀ a, a ≠ [] → a <+: c :: t → spB ((Utf8.decode (txt (c :: t)) 0).1 : Int) = false → spB ((Utf8.decode (txt a) 0).1 : Int) = false := by
      rintro a ha ⟨b, hab⟩ h
      cases hd : spB ((Utf8.decode (txt a) 0).1 : Int) with
      | false => rfl
      | true =>
        have : Utf8.decode (txt (a ++ b)) 0 = ((Utf8.decode (txt a) 0).1, (Utf8.decode (txt a) 0).2) := dec_ext ha rfl (fun e => by rw [e] at hd; exact absurd hd (by decide))
        rw [hab] at this
        rw [this] at h
        exact absurd (hd.symm.trans h) (by decide)
    generalize Utf8.decode (txt (c :: t)) 0 = dc at *
    obtain ⟨r, n⟩ := dc
    simp only [List.length_cons] at n1 n2 hbk hbl2 hhd hext
    simp
    refine FF_byR (ok20p h2 r) ?_
    rintro v h3 ⟨rfl, rfl⟩
    simp
    cases hsp : spB (r : Int) with
    | true =>
      have n2' : n ≤ t.length + 1 := n2
      simp [n2']
      refine ⟨by omega, ?_⟩
      refine hb _ ((c :: t).drop n, h3) (Wk.fits (by simp)) ⟨hp1.trans hp2, hbl2 hsp, p ++ (c :: t).take n, ?_, ?_⟩ ?_
      · rw [List.append_assoc, List.take_append_drop]; exact hs
      · intro y hy
        rcases List.mem_append.1 hy with hy | hy
        · exact hpp y hy
        · exact hbk hsp y hy
      · simp; omega
    | false =>
      simp
      rw [KON_blk_ext (by decide)]
      simp
      refine he _ _ ?_
      simp
      refine VV_fam (fun x : List UInt8 × List Blk => ⟨fr 39 [(0, .p (.string (txt x.1)))], x.2⟩)
        (fun x => HPre h x.2 ∧ x.1 ≠ [] ∧ ∃ q, c :: t = x.1 ++ q ∧ ∀ y ∈ q, bB y) (fun x => x.1.length) (c :: t, h3) ⟨hp1.trans hp2, by simp, [], by simp, by simp⟩ (Wk.fits (by simp)) ?_
      rintro ⟨m, h4⟩ ⟨hp4, hmne, q, hm, hq⟩ B2 hb2 he2 hr2
      simp only at hp4 hm hmne
      have hlm : m.length ≤ t.length + 1 := by
        have := congrArg List.length hm
        simp at this
        omega
      have hmd : spB ((Utf8.decode (txt m) 0).1 : Int) = false := hext m hmne ⟨q, hm.symm⟩ hsp
      have hz := List.length_pos_iff.2 hmne
      simp [hz]
      refine FF_byR (ok21p h4 m hmne (by omega)) ?_
      rintro v h5 ⟨hp5, r5, n5, rfl, k1, k2, k3⟩
      simp
      refine FF_byR (ok20p h5 r5) ?_
      rintro v h6 ⟨rfl, rfl⟩
      simp
      cases hsp5 : spB (r5 : Int) with
      | true =>
        have k4 : Utf8.decode (txt (m.drop (m.length - n5))) 0 = (r5, n5) := by
          rcases k3 with ⟨_, rfl⟩ | k3
          · exact absurd hsp5 (by decide)
          · exact k3
        have k5 : n5 < m.length := by
          rcases Nat.lt_or_ge n5 m.length with h | h
          · exact h
          · rw [show m.length - n5 = 0 by omega, List.drop_zero] at k4
            rw [k4] at hmd
            exact absurd (hsp5.symm.trans hmd) (by decide)
        have hw : IntKind.i64.wrap ((m.length : Int) - (n5 : Int)) = ((m.length - n5 : Nat) : Int) := by simp [IntKind.wrap, IntKind.bits, IntKind.signed]; omega
        simp [hw]
        refine hb2 _ (m.take (m.length - n5), h6) (Wk.fits (by simp)) ⟨hp4.trans hp5, ?_, m.drop (m.length - n5) ++ q, ?_, ?_⟩ ?_
        · intro e
          have := congrArg List.length e
          simp at this
          omega
        · rw [← List.append_assoc, List.take_append_drop]; exact hm
        · intro y hy
          rcases List.mem_append.1 hy with hy | hy
          · have hne : m.drop (m.length - n5) ≠ [] := by
              intro e
              have := congrArg List.length e
              simp at this
              omega
            have := dec_blank hne (by rw [k4]; exact hsp5) y
            rw [k4, List.take_of_length_le (by simp; omega)] at this
            exact this hy
          · exact hq y hy
        · simp; omega
      | false =>
        simp
        rw [KON_blk_ext (by decide)]
        simp
        refine he2 _ _ ?_
        simp
        exact REr_by _ _ .refl ⟨hp4.trans hp5, p, m, q, by rw [← hm]; exact hs, hpp, hq, rfl, fun _ => hmd, fun _ => ⟨r5, n5, k1, k2, k3, hsp5⟩, fun h => absurd h hmne⟩
end Go.Proofs.YtbbafeocmchlnaaDoor
