/- Addresses: four numbers: the reader and the reference agree where it decides. -/
import Derived.Test.YtdgnjngbheecnaaIpI
set_option linter.unusedVariables false
set_option linter.unusedSimpArgs false
set_option maxRecDepth 100000
namespace Go.Proofs.Ytdgnjngbheecnaa
open Go Go.Den Go.Proofs

def dgo : List UInt8 → Nat → Nat → Bool
  | [], _, _ => true
  | c :: r, val, dig => dgB c && (!(decide (dig = 1) && decide (val = 0)) && (decide (val * 10 + (c.toNat - 48) ≤ 255) && dgo r (val * 10 + (c.toNat - 48)) (dig + 1)))
def okp (x : List UInt8) : Bool := !decide (x = []) && dgo x 0 0
theorem dgB_46 : dgB 46 = false := rfl
theorem v4_last (x : List UInt8) (hx : (46 : UInt8) ∉ x) : ∀ val dig pos, v4 x val dig pos = (dgo x val dig && decide (3 ≤ pos)) := by
  induction x with
  | nil => intro val dig pos; simp [v4, dgo]
  | cons c x ih =>
    intro val dig pos
    have hc : ¬ c = 46 := fun h => hx (by simp [h])
    have ih' := ih (fun h => hx (by simp [h]))
    simp only [v4, dgo]
    cases hd : dgB c
    · simp [hc]
    · by_cases h1 : dig = 1 ∧ val = 0
      · simp [h1]
      · by_cases h2 : 255 < val * 10 + (c.toNat - 48)
        · have h2' : ¬ (val * 10 + (c.toNat - 48) ≤ 255) := by omega
          simp [h2, h2']
        · have h2' : val * 10 + (c.toNat - 48) ≤ 255 := by omega
          have h1' : (decide (dig = 1) && decide (val = 0)) = false := by simpa using h1
          simp only [if_true, if_neg h1, if_neg h2, ih', h1', h2']
          simp
theorem v4_run (x r : List UInt8) (hx : (46 : UInt8) ∉ x) : ∀ val dig pos, v4 (x ++ 46 :: r) val dig pos = (dgo x val dig && (decide (0 < dig + x.length) && (!decide (r = []) && (!decide (pos = 3) && v4 r 0 0 (pos + 1))))) := by
  induction x with
  | nil =>
    intro val dig pos
    simp only [List.nil_append, v4, dgB_46, dgo]
    by_cases h1 : dig = 0
    · simp [h1]
    · by_cases h2 : r = []
      · simp [h2]
      · by_cases h3 : pos = 3
        · simp [h3]
        · simp [h1, h2, h3]; omega
  | cons c x ih =>
    intro val dig pos
    have hc : ¬ c = 46 := fun h => hx (by simp [h])
    have ih' := ih (fun h => hx (by simp [h]))
    simp only [List.cons_append, v4, dgo]
    cases hd : dgB c
    · simp [hc]
    · by_cases h1 : dig = 1 ∧ val = 0
      · simp [h1]
      · by_cases h2 : 255 < val * 10 + (c.toNat - 48)
        · have h2' : ¬ (val * 10 + (c.toNat - 48) ≤ 255) := by omega
          simp [h2, h2']
        · have h2' : val * 10 + (c.toNat - 48) ≤ 255 := by omega
          have h1' : (decide (dig = 1) && decide (val = 0)) = false := by simpa using h1
          have h3 : decide (0 < dig + 1 + x.length) = decide (0 < dig + (c :: x).length) := by
            rw [Bool.eq_iff_iff]; simp; omega
          simp only [if_true, if_neg h1, if_neg h2, ih', h1', h2', h3]
          simp
theorem parts_pos (c : UInt8) (s : List UInt8) : 1 ≤ (parts c s).length := by simp [parts]
theorem v4_parts : ∀ (n : Nat) (s : List UInt8), s.length ≤ n → ∀ pos, (s ≠ [] ∨ pos < 3) → pos ≤ 3 → v4 s 0 0 pos = ((parts 46 s).all okp && decide (pos + (parts 46 s).length = 4)) := by
  intro n
  induction n with
  | zero =>
    intro s hs pos h1 h2
    have : s = [] := List.eq_nil_of_length_eq_zero (by omega)
    subst this
    have h1' : pos < 3 := by simpa using h1
    simp [v4, parts, spSt, okp]
    omega
  | succ n ih =>
    intro s hs pos h1 h2
    rcases parts_cases 46 s with ⟨hx, hp⟩ | ⟨x, r, hx, rfl, hp⟩
    · rw [hp, v4_last s hx]
      by_cases h3 : s = []
      · subst h3
        have h1' : pos < 3 := by simpa using h1
        simp [okp]; omega
      · rw [Bool.eq_iff_iff]
        simp [okp, h3]
        intro _
        omega
    · rw [hp, v4_run x r hx]
      have hr : r.length ≤ n := by simp at hs; omega
      have h4 := parts_pos 46 r
      by_cases h3 : r = []
      · subst h3
        rw [parts_one 46 [] (by simp)]
        simp [okp]
      · by_cases h5 : pos = 3
        · have h6 : ¬ (pos + (x :: parts 46 r).length = 4) := by simp; omega
          simp [h5]
          intro _ _
          omega
        · rw [ih r hr (pos + 1) (.inl h3) (by omega)]
          have h6 : decide (pos + 1 + (parts 46 r).length = 4) = decide (pos + (x :: parts 46 r).length = 4) := by
            rw [Bool.eq_iff_iff]; simp; omega
          have h7 : decide (0 < 0 + x.length) = !decide (x = []) := by
            rw [Bool.eq_iff_iff]; simp [List.length_pos_iff]
          rw [h6, h7]
          simp [h3, h5, okp]
          cases decide (x = []) <;> cases dgo x 0 0 <;> simp
theorem dgo_all : ∀ (x : List UInt8) (val dig : Nat), dgo x val dig = true → x.all dgB = true := by
  intro x
  induction x with
  | nil => intros; rfl
  | cons c x ih =>
    intro val dig h
    simp only [dgo, Bool.and_eq_true] at h
    simp only [List.all_cons, h.1, ih _ _ h.2.2.2, Bool.and_self]
theorem dgB_iff (c : UInt8) : dgB c = true ↔ 48 ≤ c.toNat ∧ c.toNat ≤ 57 := by simp [dgB]
theorem okp_len (x : List UInt8) (h : okp x = true) : x.length ≤ 3 := by
  match x with
  | [] => simp
  | [_] => simp
  | [_, _] => simp
  | [_, _, _] => simp
  | a :: b :: c :: d :: r =>
    simp only [okp, dgo, Bool.and_eq_true, Bool.not_eq_true', dgB_iff, decide_eq_true_eq, Bool.and_eq_false_iff, decide_eq_false_iff_not, not_true_eq_false, false_or, not_false_eq_true, or_true, true_and] at h
    omega
theorem okp_bad (x : List UInt8) (h1 : bad4 x = true) (h2 : (!digitsB x || lead x) = true) : okp x = false := by
  rw [← Bool.not_eq_true]
  intro h
  have hd : digitsB x = true := by
    simp only [okp, Bool.and_eq_true] at h
    simp only [digitsB, h.1, dgo_all _ _ _ h.2, Bool.and_self]
  have hl := okp_len x h
  rw [hd] at h2
  simp only [bad4, hd, Bool.not_true, Bool.false_or, Bool.or_eq_true, Bool.and_eq_true, decide_eq_true_eq] at h1 h2
  rcases h1 with h1 | ⟨h1, h3⟩
  · omega
  · match x, h3 with
    | [a, b, c], _ =>
      simp only [okp, dgo, Bool.and_eq_true, Bool.not_eq_true', dgB_iff, decide_eq_true_eq, Bool.and_eq_false_iff, decide_eq_false_iff_not, not_true_eq_false, false_or, not_false_eq_true, or_true, true_and] at h
      simp only [over255, Op.bytesLess, Bool.not_eq_true', Bool.or_eq_false_iff, Bool.and_eq_false_iff, decide_eq_false_iff_not, UInt8.lt_iff_toNat_lt, beq_eq_false_iff_ne, ne_eq, List.cons.injEq, not_and, ← UInt8.toNat_inj] at h1
      simp only [lead, List.getD_cons_zero, decide_eq_true_eq, ne_eq, ← UInt8.toNat_inj] at h2
      simp at h1 h2
      omega
theorem okp_good (x : List UInt8) (h1 : bad4 x = false) (h2 : (decide (x.length = 1) || lead x) = true) : okp x = true := by
  simp only [bad4, Bool.or_eq_false_iff, Bool.not_eq_false', decide_eq_false_iff_not, Bool.and_eq_false_iff] at h1
  obtain ⟨hd, hl, ho⟩ := h1
  simp only [digitsB, Bool.and_eq_true] at hd
  match x with
  | [] => simp at hd
  | [a] =>
    simp only [List.all_cons, dgB_iff, Bool.and_eq_true] at hd
    simp only [okp, dgo, Bool.and_eq_true, Bool.not_eq_true', dgB_iff, decide_eq_true_eq, Bool.and_eq_false_iff, decide_eq_false_iff_not, not_true_eq_false, false_or, not_false_eq_true, or_true, true_and]
    simp
    omega
  | [a, b] =>
    simp only [List.all_cons, dgB_iff, Bool.and_eq_true] at hd
    simp only [lead, List.getD_cons_zero, Bool.or_eq_true, decide_eq_true_eq, ne_eq, ← UInt8.toNat_inj] at h2
    simp only [okp, dgo, Bool.and_eq_true, Bool.not_eq_true', dgB_iff, decide_eq_true_eq, Bool.and_eq_false_iff, decide_eq_false_iff_not, not_true_eq_false, false_or, not_false_eq_true, or_true, true_and]
    simp at h2 ⊢
    omega
  | [a, b, c] =>
    simp only [List.all_cons, dgB_iff, Bool.and_eq_true] at hd
    simp only [lead, List.getD_cons_zero, Bool.or_eq_true, decide_eq_true_eq, ne_eq, ← UInt8.toNat_inj] at h2
    have ho : over255 [a, b, c] = false := by simpa using ho
    simp only [over255, Op.bytesLess, Bool.not_eq_false', Bool.or_eq_true, Bool.and_eq_true, decide_eq_true_eq, UInt8.lt_iff_toNat_lt, beq_iff_eq, List.cons.injEq, ← UInt8.toNat_inj] at ho
    simp only [okp, dgo, Bool.and_eq_true, Bool.not_eq_true', dgB_iff, decide_eq_true_eq, Bool.and_eq_false_iff, decide_eq_false_iff_not, not_true_eq_false, false_or, not_false_eq_true, or_true, true_and]
    simp at h2 ho ⊢
    omega
  | a :: b :: c :: d :: r => simp at hl
theorem fourL_false (P : List (List UInt8)) (n : Nat) : (fourL P false n).2 = true → (fourL P false n).1 = false ∧ P.all okp = false := by
  induction P with
  | nil => simp [fourL]
  | cons x r ih =>
    simp only [fourL, Bool.false_and]
    split
    · rename_i hb
      intro h
      simp [okp_bad x hb h]
    · intro h
      obtain ⟨h1, h2⟩ := ih h
      exact ⟨h1, by rw [List.all_cons, h2, Bool.and_false]⟩
theorem fourL_law (P : List (List UInt8)) (n : Nat) : (fourL P true n).2 = true → (fourL P true n).1 = (P.all okp && decide (n = 4)) := by
  induction P with
  | nil => simp [fourL]
  | cons x r ih =>
    simp only [fourL, Bool.true_and]
    split
    · rename_i hb
      intro h
      simp [okp_bad x hb h]
    · rename_i hb
      intro h
      cases hg : (decide (x.length = 1) || lead x)
      · rw [hg] at h
        obtain ⟨h1, h2⟩ := fourL_false r n h
        rw [h1, List.all_cons, h2, Bool.and_false, Bool.false_and]
      · rw [hg] at h
        rw [ih h, List.all_cons, okp_good x (by simpa using hb) hg, Bool.true_and]
theorem four4_law (s : List UInt8) (h : (four4 s).2 = true) : (four4 s).1 = p4 s := by
  rw [four4, fourL_law _ _ h, p4, v4_parts s.length s (Nat.le_refl _) 0 (.inr (by omega)) (by omega)]
  simp
end Go.Proofs.Ytdgnjngbheecnaa
