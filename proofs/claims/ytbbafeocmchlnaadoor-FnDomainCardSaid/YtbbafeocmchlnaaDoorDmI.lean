/- Domains: the code's word, and the law. -/
import Derived.Test.YtbbafeocmchlnaaDoorDmH
set_option linter.unusedVariables false
set_option linter.unusedSimpArgs false
set_option maxRecDepth 100000
namespace Go.Proofs.YtbbafeocmchlnaaDoor
open Go Go.Den Go.Proofs

/-- What the code tells of a host. -/
def CodR (s : List UInt8) (h : List Blk) (v : DV) (h' : List Blk) : Prop := HPre h h' ∧ ∃ b : Bool, v = .p (.bool b) ∧ (NoD s → b = false) ∧ (YesD s → b = true)

set_option maxHeartbeats 4000000 in
theorem ok11 (h : List Blk) (s : List UInt8) (hl : s.length ≤ 2147483647) : OkR Tryd.prog GT 11 [.p (.string (txt s))] h (CodR s h) := by
  refine OkR_by Tryd.func11 c11_ok r11_ok 39 rfl ?_
  simp [c11, r11]
  refine FF_byR (ok15 h s hl) ?_
  rintro v h1 ⟨hp1, p, m, q, hs, hp, hq, rfl⟩
  have hno : NoD s → NoD m := no_trim hs hp hq
  have hyes : YesD s → YesD m := fun hy => (yes_trim hs hp hq hy) ▸ hy
  have hml : m.length ≤ s.length := by rw [hs]; simp; omega
  suffices H : ∀ b : Bool, (NoD m → b = false) → (YesD m → b = true) → ∀ h', HPre h h' → CodR s h (.p (.bool b)) h' by
    have F : ¬ YesD m → ∀ h', HPre h h' → CodR s h (.p (.bool false)) h' := fun hn => H false (fun _ => rfl) (fun hy => absurd hy hn)
    rcases m with _ | ⟨c, t⟩
    · simp
      exact REr_by _ _ .refl (F (fun hy => hy.1 rfl) _ hp1)
    simp only [List.length_cons] at hml
    rcases Nat.lt_or_ge 255 (t.length + 1) with d1 | d1
    · have d1' : (255 : Int) < (t.length : Int) + 1 := by omega
      have d0 : ((t.length : Int) + 1 == 0) = false := beq_eq_false_iff_ne.2 (by omega)
      simp [d1', d0]
      refine REr_by _ _ .refl (F (fun hy => ?_) _ hp1)
      have := hy.2.2.2.2.2
      simp at this
      omega
    have d0 : ((t.length : Int) + 1 == 0) = false := beq_eq_false_iff_ne.2 (by omega)
    have d1' : ¬ (255 : Int) < (t.length : Int) + 1 := by omega
    have kw : IntKind.i64.wrap ((t.length : Int) + 1 - 1) = t.length := by simp [IntKind.wrap, IntKind.bits, IntKind.signed]; omega
    have kw2 : IntKind.i64.wrap (t.length : Int) = t.length := by simp [IntKind.wrap, IntKind.bits, IntKind.signed]; omega
    have kle : t.length ≤ t.length + 1 := by omega
    have k1 : (1 : Int) ≤ (t.length : Int) + 1 := by omega
    have hgl : (c :: t).getLast? = some ((c :: t)[t.length]'(by simp)) := by rw [List.getLast?_eq_getElem?]; simp
    have hdrop : (c :: t).drop t.length = [(c :: t)[t.length]'(by simp)] := by
      rw [List.drop_eq_getElem_cons (by simp), List.drop_of_length_le (by simp)]
    generalize (c :: t)[t.length]'(by simp) = z at hgl hdrop
    by_cases a1 : z = 45
    · subst a1
      simp [d0, d1', kw, kw2, k1, hdrop]
      exact REr_by _ _ .refl (F (fun hy => hy.2.2.2.1 hgl) _ hp1)
    by_cases a2 : c = 45
    · subst a2
      simp [d0, d1', kw, kw2, k1, hdrop, a1]
      exact REr_by _ _ .refl (F (fun hy => hy.2.1 rfl) _ hp1)
    by_cases a3 : z = 95
    · subst a3
      simp [d0, d1', kw, kw2, k1, hdrop, a2]
      refine REr_by _ _ .refl (F (fun hy => ?_) _ hp1)
      exact (okc_out 95 (hy.2.2.2.2.1 95 (List.mem_of_getLast? hgl))).2.1 rfl
    by_cases a4 : c = 95
    · subst a4
      simp [d0, d1', kw, kw2, k1, hdrop, a1, a3]
      refine REr_by _ _ .refl (F (fun hy => ?_) _ hp1)
      exact (okc_out 95 (hy.2.2.2.2.1 95 (by simp))).2.1 rfl
    by_cases a5 : c = 46
    · subst a5
      simp [d0, d1', kw, kw2, k1, hdrop, a1, a3]
      exact REr_by _ _ .refl (F (fun hy => hy.2.2.1 rfl) _ hp1)
    simp [d0, d1', kw, kw2, k1, hdrop, a1, a2, a3, a4, a5]
    refine FF_byR (ok16 h1 (c :: t) badL (by simp; omega) (by decide) badL_ascii) ?_
    rintro v h2 ⟨hp2, b, rfl, k1, k2⟩
    cases b with
    | true =>
      simp
      refine REr_by _ _ .refl (F (fun hy => ?_) _ (hp1.trans hp2))
      have := k2 fun x hx => ⟨(okc_out x (hy.2.2.2.2.1 x hx)).2.2.2, (okc_out x (hy.2.2.2.2.1 x hx)).1⟩
      cases this
    | false =>
      simp
      refine REr_by _ _ .refl (H true (fun hn => ?_) (fun _ => rfl) _ (hp1.trans hp2))
      exfalso
      rcases hn with hn | hn | hn | hn | ⟨a, x, b, e1, e2, e3⟩
      · cases hn
      · exact a2 (by simpa using hn)
      · exact a5 (by simpa using hn)
      · rw [hgl] at hn
        exact a1 (by simpa using hn)
      · have := k1 a x b e1 (fun y hy => (okc_out y (e2 y hy)).2.2.2) (badc_in x e3)
        cases this
  exact fun b h1 h2 h' hp => ⟨hp, b, rfl, fun hn => h1 (hno hn), fun hy => h2 (hyes hy)⟩

theorem ok6 (h : List Blk) (s : List UInt8) (hl : s.length ≤ 2147483647) : OkR Tryd.prog GT 6 [.p (.string (txt s))] h (CodR s h) := by
  refine OkR_by Tryd.func6 c6_ok r6_ok 4 rfl ?_
  simp [c6, r6]
  refine FF_byR (ok11 h s hl) ?_
  intro v h' hv
  obtain ⟨_, _, rfl, _⟩ := id hv
  simp
  exact REr_by _ _ .refl hv

def exL : List UInt8 := [115, 51, 46, 101, 120, 97, 109, 112, 108, 101, 46, 99, 111, 109]
theorem ex_yes : YesD exL := ⟨by decide, by decide, by decide, by decide, by decide, by decide⟩
theorem ok3 (s : List UInt8) : Ok Tryd.prog GT 3 [.p (.string (txt s))] [] (.p (.bool true)) [] := by
  refine Ok_by Tryd.func3 c3_ok r3_ok 23 rfl ?_
  rcases Nat.lt_or_ge 2147483647 s.length with hl | hl
  · have e : (2147483647 : Int) < (s.length : Int) := by omega
    simp [c3, r3, e]
  have e : ¬ (2147483647 : Int) < (s.length : Int) := by omega
  have ex : ByteArray.mk #[115, 51, 46, 101, 120, 97, 109, 112, 108, 101, 46, 99, 111, 109] = txt exL := rfl
  simp [c3, r3, e]
  refine FF_byR (ok5 [] s hl) ?_
  rintro v h1 ⟨rfl, o, d, rfl, k1, k2⟩
  cases d with
  | false =>
    simp
    rw [ex]
    refine FF_byR (ok6 [] exL (by decide)) ?_
    rintro v h2 ⟨hp, b, rfl, _, hb⟩
    rw [hb ex_yes]
    simp [hp]
  | true =>
    simp
    refine FF_byR (ok6 [] s hl) ?_
    rintro v h2 ⟨hp, b, rfl, hb1, hb2⟩
    have hbo : b = o := by
      cases o with
      | true => exact hb2 (k2 rfl rfl)
      | false => exact hb1 (k1 rfl rfl)
    subst hbo
    simp
    rw [ex]
    refine FF_byR (ok6 h2 exL (by decide)) ?_
    rintro v h3 ⟨hp3, b3, rfl, _, hb3⟩
    rw [hb3 ex_yes]
    simp [hp.trans hp3]
end Go.Proofs.YtbbafeocmchlnaaDoor
