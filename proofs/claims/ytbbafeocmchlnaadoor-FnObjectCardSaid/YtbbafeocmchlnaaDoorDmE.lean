/- Domains: a text without the blanks around it. -/
import Derived.Test.YtbbafeocmchlnaaDoorDmD
set_option linter.unusedVariables false
set_option linter.unusedSimpArgs false
set_option maxRecDepth 100000
namespace Go.Proofs.YtbbafeocmchlnaaDoor
open Go Go.Den Go.Proofs

/-- A byte that may be of a blank. -/
def bh (x : UInt8) : Prop := x.toNat ≤ 32 ∨ 128 ≤ x.toNat
/-- What is told of a text without the blanks around it. -/
def TrR (s : List UInt8) (h : List Blk) (v : DV) (h' : List Blk) : Prop := HPre h h' ∧ ∃ p m q, s = p ++ (m ++ q) ∧ (∀ x ∈ p, bh x) ∧ (∀ x ∈ q, bh x) ∧ v = .p (.string (txt m))

theorem ok15 (h : List Blk) (s : List UInt8) (hl : s.length ≤ 2147483647) : OkR Tryd.prog GT 15 [.p (.string (txt s))] h (TrR s h) := by
  refine OkR_by Tryd.func15 c15_ok r15_ok 38 rfl ?_
  simp [c15, r15]
  refine VV_fam (fun x : List UInt8 × List Blk => ⟨fr 39 [(0, .p (.string (txt x.1)))], x.2⟩)
    (fun x => HPre h x.2 ∧ ∃ p, s = p ++ x.1 ∧ ∀ y ∈ p, bh y) (fun x => x.1.length) (s, h) ⟨HPre.refl _, [], by simp, by simp⟩ (Wk.fits (by simp)) ?_
  rintro ⟨a, h1⟩ ⟨hp1, p, hs, hpp⟩ B hb he hr
  simp only at hp1 hs
  have hla : a.length ≤ s.length := by rw [hs]; simp
  rcases a with _ | ⟨c, t⟩
  · simp
    refine he _ _ ?_
    simp
    refine VV_fam (fun _ : Unit => ⟨fr 39 [(0, .p (.string (txt [])))], h1⟩) (fun _ => True) (fun _ => 0) () trivial (Wk.fits (by simp)) ?_
    intro _ _ B2 hb2 he2 hr2
    simp
    refine he2 _ _ ?_
    simp
    refine REr_by _ _ .refl ?_
    exact ⟨hp1, p, [], [], by simpa using hs, hpp, by simp, rfl⟩
  · have hpos : (0 : Int) < (t.length : Int) + 1 := by omega
    simp only [List.length_cons] at hla
    simp [hpos]
    refine FF_byR (ok19 h1 c t (by omega)) ?_
    rintro v h2 ⟨hp2, r, n, rfl, hh⟩
    obtain ⟨n1, n2, n3⟩ := hh (by simp)
    simp at n2
    simp
    refine FF_byR (ok20 h2 r) ?_
    rintro v h3 ⟨rfl, b, rfl, hbl⟩
    simp
    cases b with
    | true =>
      have n2' : n ≤ t.length + 1 := n2
      simp [n2']
      refine ⟨by omega, ?_⟩
      refine hb _ ((c :: t).drop n, h3) (Wk.fits (by simp)) ⟨hp1.trans hp2, p ++ (c :: t).take n, ?_, ?_⟩ ?_
      · rw [List.append_assoc, List.take_append_drop]; exact hs
      · intro y hy
        rcases List.mem_append.1 hy with hy | hy
        · exact hpp y hy
        · rcases n3 with ⟨rfl, c', t', e1, e2, e3⟩ | n3
          · cases e1
            have : y = c := by simpa using hy
            subst this
            have hn : ¬ (33 ≤ r ∧ r ≤ 127) := fun h => by simpa using hbl h
            exact .inl (by omega)
          · exact .inr (n3 y hy)
      · simp; omega
    | false =>
      simp
      rw [KON_blk_ext (by decide)]
      simp
      refine he _ _ ?_
      simp
      refine VV_fam (fun x : List UInt8 × List Blk => ⟨fr 39 [(0, .p (.string (txt x.1)))], x.2⟩)
        (fun x => HPre h x.2 ∧ ∃ q, c :: t = x.1 ++ q ∧ ∀ y ∈ q, bh y) (fun x => x.1.length) (c :: t, h3) ⟨hp1.trans hp2, [], by simp, by simp⟩ (Wk.fits (by simp)) ?_
      rintro ⟨m, h4⟩ ⟨hp4, q, hm, hq⟩ B2 hb2 he2 hr2
      simp only at hp4 hm
      have hlm : m.length ≤ t.length + 1 := by
        have := congrArg List.length hm
        simp at this
        omega
      have fin : TrR s h (.p (.string (txt m))) h4 := ⟨hp4, p, m, q, by rw [← hm]; exact hs, hpp, hq, rfl⟩
      rcases Nat.eq_zero_or_pos m.length with hz | hz
      · have : m = [] := List.eq_nil_of_length_eq_zero hz
        subst this
        simp
        refine he2 _ _ ?_
        simp
        exact REr_by _ _ .refl fin
      · have hpos : (0 : Int) < (m.length : Int) := by omega
        simp [hz]
        refine FF_byR (ok21 h4 m (by intro e; simp [e] at hz) (by omega)) ?_
        rintro v h5 ⟨hp5, r5, n5, rfl, k1, k2, k3⟩
        simp
        refine FF_byR (ok20 h5 r5) ?_
        rintro v h6 ⟨rfl, b5, rfl, hbl5⟩
        simp
        cases b5 with
        | true =>
          have hw : IntKind.i64.wrap ((m.length : Int) - (n5 : Int)) = ((m.length - n5 : Nat) : Int) := by simp [IntKind.wrap, IntKind.bits, IntKind.signed]; omega
          have hle : m.length - n5 ≤ m.length := by omega
          simp [hw]
          refine hb2 _ (m.take (m.length - n5), h6) (Wk.fits (by simp)) ⟨hp4.trans hp5, m.drop (m.length - n5) ++ q, ?_, ?_⟩ ?_
          · rw [← List.append_assoc, List.take_append_drop]; exact hm
          · intro y hy
            rcases List.mem_append.1 hy with hy | hy
            · rcases k3 with ⟨rfl, c', e1, e2, e3⟩ | k3
              · have hd : m.drop (m.length - 1) = [c'] := by
                  rw [List.getLast?_eq_getElem?] at e1
                  rw [List.drop_eq_getElem_cons (by omega), List.drop_of_length_le (by omega)]
                  obtain ⟨e4, e5⟩ := List.getElem?_eq_some_iff.1 e1
                  rw [e5]
                rw [hd] at hy
                have : y = c' := by simpa using hy
                subst this
                have hn : ¬ (33 ≤ r5 ∧ r5 ≤ 127) := fun h => by simpa using hbl5 h
                exact .inl (by omega)
              · exact .inr (k3 y hy)
            · exact hq y hy
          · simp; omega
        | false =>
          simp
          rw [KON_blk_ext (by decide)]
          simp
          refine he2 _ _ ?_
          simp
          exact REr_by _ _ .refl ⟨(hp4.trans hp5), p, m, q, by rw [← hm]; exact hs, hpp, hq, rfl⟩
end Go.Proofs.YtbbafeocmchlnaaDoor
