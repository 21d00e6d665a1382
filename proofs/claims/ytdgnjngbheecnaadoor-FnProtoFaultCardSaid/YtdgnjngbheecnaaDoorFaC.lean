/- Faults: a text without the blanks around it. -/
import Derived.Test.YtdgnjngbheecnaaDoorFaB
set_option linter.unusedVariables false
set_option linter.unusedSimpArgs false
set_option maxRecDepth 100000
namespace Go.Proofs.YtdgnjngbheecnaaDoor
open Go Go.Den Go.Proofs

/-- Printable signs alone. -/
def pl (s : List UInt8) : Prop := ∀ x ∈ s, 32 ≤ x.toNat ∧ x.toNat ≤ 126
theorem sp_pl {c : UInt8} (h : 32 ≤ c.toNat ∧ c.toNat ≤ 126) : spB (c.toNat : Int) = bl c := by
  by_cases h32 : c.toNat = 32
  · simp [h32, bl, spB, spL]
  · have h1 : bl c = false := by simp [bl]; omega
    rw [h1]
    simp [spB, spL]
    omega
/-- What is told of a text without the blanks around it. -/
def TrQ (s : List UInt8) (h : List Blk) (v : DV) (h' : List Blk) : Prop := h' = h ∧ ∃ m, v = .p (.string (txt m)) ∧ m.length ≤ s.length ∧ (pl s → m = tight s)
theorem ok60 (h : List Blk) (s : List UInt8) (hl : s.length ≤ 2147483647) : OkR Tryd.prog GT 60 [.p (.string (txt s))] h (TrQ s h) := by
  refine OkR_by Tryd.func60 c60_ok r60_ok 38 rfl ?_
  simp [c60, r60]
  refine VV_fam (fun x : List UInt8 × List Blk => ⟨fr 39 [(0, .p (.string (txt x.1)))], x.2⟩)
    (fun x => HPre h x.2 ∧ ∃ p, s = p ++ x.1 ∧ (pl s → ∀ y ∈ p, bl y = true)) (fun x => x.1.length) (s, h) ⟨HPre.refl _, [], by simp, by simp⟩ (Wk.fits (by simp)) ?_
  rintro ⟨a, h1⟩ ⟨hp1, p, hs, hpp⟩ B hb he hr
  simp only at hp1 hs
  have hla : a.length ≤ s.length := by rw [hs]; simp
  have hpa : pl s → pl a := fun h x hx => h x (by rw [hs]; simp [hx])
  rcases a with _ | ⟨c, t⟩
  · simp
    refine he _ _ ?_
    simp
    refine VV_fam (fun _ : Unit => ⟨fr 39 [(0, .p (.string (txt [])))], h1⟩) (fun _ => True) (fun _ => 0) () trivial (Wk.fits (by simp)) ?_
    intro _ _ B2 hb2 he2 hr2
    simp
    refine he2 _ _ ?_
    simp
    refine REr_by _ h (WkV.ofPure hp1 rfl) ?_
    refine ⟨rfl, [], rfl, by simp, fun h => ?_⟩
    rw [hs]
    exact (tight_eq (q := []) (m := []) (hpp h) (by simp) (.inl rfl)).symm
  · have hpos : (0 : Int) < (t.length : Int) + 1 := by omega
    simp only [List.length_cons] at hla
    simp [hpos]
    refine FF_byR (ok85 h1 c t (by omega)) ?_
    rintro v h2 ⟨hp2, r, n, rfl, hh⟩
    obtain ⟨n1, n2, n3⟩ := hh (by simp)
    have n3 : pl s → n = 1 ∧ spB r = bl c := fun h => by
      have hc := hpa h c (by simp)
      rcases n3 with ⟨rfl, c', t', e1, e2, e3⟩ | n3
      · cases e1
        exact ⟨rfl, by rw [e2]; exact sp_pl hc⟩
      · have := n3 c (by
          obtain ⟨k, rfl⟩ : ∃ k, n = k + 1 := ⟨n - 1, by omega⟩
          simp)
        omega
    simp at n2
    simp
    refine FF_byR (ok86p h2 r) ?_
    rintro v h3 ⟨rfl, rfl⟩
    simp
    cases hsb : spB r with
    | true =>
      rw [hsb] at n3
      have n2' : n ≤ t.length + 1 := n2
      simp [n2']
      refine ⟨by omega, ?_⟩
      refine hb _ ((c :: t).drop n, h3) (Wk.fits (by simp)) ⟨hp1.trans hp2, p ++ (c :: t).take n, ?_, ?_⟩ ?_
      · rw [List.append_assoc, List.take_append_drop]; exact hs
      · intro h y hy
        rcases List.mem_append.1 hy with hy | hy
        · exact hpp h y hy
        · obtain ⟨rfl, e⟩ := n3 h
          have : y = c := by simpa using hy
          rw [this, ← e]
      · simp; omega
    | false =>
      rw [hsb] at n3
      simp
      rw [KON_blk_ext (by decide)]
      simp
      refine he _ _ ?_
      simp
      refine VV_fam (fun x : List UInt8 × List Blk => ⟨fr 39 [(0, .p (.string (txt x.1)))], x.2⟩)
        (fun x => HPre h x.2 ∧ ∃ q, c :: t = x.1 ++ q ∧ (pl s → ∀ y ∈ q, bl y = true)) (fun x => x.1.length) (c :: t, h3) ⟨hp1.trans hp2, [], by simp, by simp⟩ (Wk.fits (by simp)) ?_
      rintro ⟨m, h4⟩ ⟨hp4, q, hm, hq⟩ B2 hb2 he2 hr2
      simp only at hp4 hm
      have hlm : m.length ≤ t.length + 1 := by
        have := congrArg List.length hm
        simp at this
        omega
      rcases Nat.eq_zero_or_pos m.length with hz | hz
      · have : m = [] := List.eq_nil_of_length_eq_zero hz
        subst this
        simp
        refine he2 _ _ ?_
        simp
        refine REr_by _ h (WkV.ofPure hp4 rfl) ⟨rfl, [], rfl, by simp, fun h => ?_⟩
        rw [hs, hm]
        exact (tight_eq (hpp h) (hq h) (.inl rfl)).symm
      · have hpos : (0 : Int) < (m.length : Int) := by omega
        have hpm : pl s → pl m := fun h x hx => hpa h x (by rw [hm]; simp [hx])
        have hml : ∃ d, m.getLast? = some d ∧ d ∈ m := by
          have hne : m ≠ [] := by intro e; simp [e] at hz
          exact ⟨m.getLast hne, List.getLast?_eq_some_getLast hne, List.getLast_mem hne⟩
        obtain ⟨d, hd, hdm⟩ := hml
        simp [hz]
        refine FF_byR (ok87 h4 m (by intro e; simp [e] at hz) (by omega)) ?_
        rintro v h5 ⟨hp5, r5, n5, rfl, k1, k2, k3⟩
        have hdrop : m.drop (m.length - 1) = [d] := by
          rw [List.getLast?_eq_getElem?] at hd
          rw [List.drop_eq_getElem_cons (by omega), List.drop_of_length_le (by omega)]
          obtain ⟨e4, e5⟩ := List.getElem?_eq_some_iff.1 hd
          rw [e5]
        have k3 : pl s → n5 = 1 ∧ spB r5 = bl d := fun h => by
          rcases k3 with ⟨rfl, c', e1, e2, e3⟩ | k3
          · rw [hd] at e1
            cases e1
            exact ⟨rfl, by rw [e2]; exact sp_pl (hpm h d hdm)⟩
          · have hx := hpm h d hdm
            have : d ∈ m.drop (m.length - n5) := by
              have : m.drop (m.length - 1) = (m.drop (m.length - n5)).drop (n5 - 1) := by rw [List.drop_drop]; congr 1; omega
              rw [hdrop] at this
              exact List.mem_of_mem_drop (i := n5 - 1) (by rw [← this]; simp)
            have := k3 d this
            omega
        simp
        refine FF_byR (ok86p h5 r5) ?_
        rintro v h6 ⟨rfl, rfl⟩
        simp
        cases hsb5 : spB r5 with
        | true =>
          rw [hsb5] at k3
          have hw : IntKind.i64.wrap ((m.length : Int) - (n5 : Int)) = ((m.length - n5 : Nat) : Int) := by simp [IntKind.wrap, IntKind.bits, IntKind.signed]; omega
          have hle : m.length - n5 ≤ m.length := by omega
          simp [hw]
          refine hb2 _ (m.take (m.length - n5), h6) (Wk.fits (by simp)) ⟨hp4.trans hp5, m.drop (m.length - n5) ++ q, ?_, ?_⟩ ?_
          · rw [← List.append_assoc, List.take_append_drop]; exact hm
          · intro h y hy
            rcases List.mem_append.1 hy with hy | hy
            · obtain ⟨rfl, e⟩ := k3 h
              rw [hdrop] at hy
              have : y = d := by simpa using hy
              rw [this, ← e]
            · exact hq h y hy
          · simp; omega
        | false =>
          rw [hsb5] at k3
          simp
          rw [KON_blk_ext (by decide)]
          simp
          refine he2 _ _ ?_
          simp
          refine REr_by _ h (WkV.ofPure (hp4.trans hp5) rfl) ⟨rfl, m, rfl, by omega, fun h => ?_⟩
          rw [hs, hm]
          refine (tight_eq (hpp h) (hq h) (.inr ⟨?_, d, hd, (k3 h).2.symm⟩)).symm
          cases m with
          | nil => simp at hz
          | cons x u =>
            rw [List.cons_append] at hm
            injection hm with e1 e2
            exact ⟨x, u, rfl, e1 ▸ (n3 h).2.symm⟩
/-- Of printable signs alone. -/
theorem ok60t (h : List Blk) (s : List UInt8) (hl : s.length ≤ 2147483647) (hs : pl s) : Ok Tryd.prog GT 60 [.p (.string (txt s))] h (.p (.string (txt (tight s)))) h := by
  refine OkR.toOk ((ok60 h s hl).mono fun v h' ⟨h1, m, h2, _, h3⟩ => ⟨?_, h1⟩)
  rw [h2, h3 hs]
end Go.Proofs.YtdgnjngbheecnaaDoor
