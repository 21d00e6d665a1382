/- Addresses: the whole reader and the reference agree where it decides. -/
import Derived.Test.YtdgnjngbheecnaaIpK
set_option linter.unusedVariables false
set_option linter.unusedSimpArgs false
set_option maxRecDepth 100000
namespace Go.Proofs.Ytdgnjngbheecnaa
open Go Go.Den Go.Proofs

/-- A sign that is no group's ahead of the first colon. -/
theorem q6_pre (pre r : List UInt8) (c : UInt8) (hpre : (58 : UInt8) ∉ pre) (hc : hxB c = false) (hc2 : c ≠ 58) (h58 : (58 : UInt8) ∈ pre ++ c :: r) : q6 (pre ++ c :: r) = false := by
  have hr : (58 : UInt8) ∈ r := by
    rcases List.mem_append.1 h58 with h | h
    · exact absurd h hpre
    · rcases List.mem_cons.1 h with h | h
      · exact absurd h.symm hc2
      · exact h
  obtain ⟨a, t, rfl, ha⟩ := List.eq_append_cons_of_mem hr
  have h2 : ¬ ((pre ++ c :: (a ++ 58 :: t)).take 2 = [58, 58]) := by
    intro h
    cases pre with
    | nil => simp at h; exact hc2 h.1
    | cons b p => simp at h; exact hpre (by simp [h.1])
  rw [q6, if_neg h2]
  refine p6_colon 7 (pre ++ c :: a) _ false ?_ ?_ ⟨t, by simp⟩
  · rw [List.all_eq_false]; exact ⟨c, by simp, by rw [hc]; simp⟩
  · intro h
    rcases List.mem_append.1 h with h | h
    · exact hpre h
    · rcases List.mem_cons.1 h with h | h
      · exact hc2 h.symm
      · exact ha h
theorem ipGo_law (l : List UInt8) (hd : (ipRef l).2 = true) : ∀ (r pre : List UInt8), l = pre ++ r → (∀ c, c ∈ pre → c ≠ 46 ∧ c ≠ 58 ∧ c ≠ 37) → (ipRef l).1 = ipGo l r := by
  have four : (58 : UInt8) ∉ l → (ipRef l).1 = p4 l := fun h58 => by
    have hb : hasB l 58 = false := by
      rw [← Bool.not_eq_true, hasB_iff]; exact h58
    rw [ipRef, hb, if_neg (by simp)] at hd ⊢
    exact four4_law l hd
  intro r
  induction r with
  | nil =>
    intro pre hl hp
    rw [List.append_nil] at hl
    subst hl
    rw [four (fun h => (hp 58 h).2.1 rfl), p4, v4_parts _ _ (Nat.le_refl _) 0 (.inr (by omega)) (by omega), parts_one 46 l (fun h => (hp 46 h).1 rfl)]
    simp [ipGo]
  | cons c r ih =>
    intro pre hl hp
    have hpre : (58 : UInt8) ∉ pre := fun h => (hp 58 h).2.1 rfl
    rw [ipGo]
    by_cases h1 : c = 46
    · subst h1
      rw [if_pos rfl]
      by_cases h58 : (58 : UInt8) ∈ l
      · rw [q6_ref l h58 hd, p4_no l 58 h58 rfl (by simp), hl, q6_pre pre r 46 hpre rfl (by simp) (by rw [← hl]; exact h58)]
      · exact four h58
    · rw [if_neg h1]
      by_cases h2 : c = 58
      · subst h2
        rw [if_pos rfl]
        exact q6_ref l (by rw [hl]; simp) hd
      · rw [if_neg h2]
        by_cases h3 : c = 37
        · subst h3
          rw [if_pos rfl]
          by_cases h58 : (58 : UInt8) ∈ l
          · rw [q6_ref l h58 hd, hl, q6_pre pre r 37 hpre rfl (by simp) (by rw [← hl]; exact h58)]
          · rw [four h58, p4_no l 37 (by rw [hl]; simp) rfl (by simp)]
        · rw [if_neg h3]
          refine ih (pre ++ [c]) (by rw [hl]; simp) ?_
          intro d hdm
          rcases List.mem_append.1 hdm with h | h
          · exact hp d h
          · have : d = c := by simpa using h
            subst this
            exact ⟨h1, h2, h3⟩
theorem ip_law (l : List UInt8) (hd : (ipRef l).2 = true) : (ipRef l).1 = ipOk l := ipGo_law l hd l [] rfl (by simp)
/-- What is read as eight groups has no sign of a zone. -/
theorem p6_no37 : ∀ (f : Nat) (s : List UInt8) (ell : Bool), p6 f s ell = true → (37 : UInt8) ∉ s := by
  intro f
  induction f with
  | zero =>
    intro s ell h
    rw [p6, Bool.and_eq_true, decide_eq_true_eq] at h
    rw [h.1]; simp
  | succ f ih =>
    intro s ell h
    rcases parts_cases 58 s with ⟨hx, hp⟩ | ⟨x, r, hx, rfl, hp⟩
    · cases hh : s.all hxB
      · obtain ⟨y, c, w, rfl, hy, hc⟩ := hx_split s hh
        have hc2 : c ≠ 58 := fun h => hx (by simp [h])
        rw [p6_other f y w c ell hy hc hc2] at h
        simp only [Bool.and_eq_true] at h
        intro h37
        rw [p4_no _ 37 h37 rfl (by simp)] at h
        simp at h
      · intro h37
        have := List.all_eq_true.1 hh 37 h37
        rw [hxB_37] at this; exact absurd this (by simp)
    · cases hh : x.all hxB
      · rw [p6_colon f x _ ell hh hx ⟨r, rfl⟩] at h
        exact absurd h (by simp)
      · rw [p6_more f x r ell hh] at h
        have hx37 : (37 : UInt8) ∉ x := fun h37 => by
          have := List.all_eq_true.1 hh 37 h37
          rw [hxB_37] at this; exact absurd this (by simp)
        cases r with
        | nil => simp at h
        | cons d r2 =>
          rw [Bool.and_eq_true] at h
          have h2 := h.2
          simp only at h2
          by_cases hd : d = 58
          · subst hd
            rw [if_pos rfl] at h2
            cases ell
            · rw [if_neg (by simp)] at h2
              by_cases hr : r2 = []
              · subst hr; simpa using hx37
              · rw [if_neg hr] at h2
                have := ih r2 true h2
                simp [hx37, this]
            · simp at h2
          · rw [if_neg hd] at h2
            have := ih (d :: r2) ell h2
            simp only [List.mem_append, List.mem_cons, not_or] at this ⊢
            exact ⟨hx37, by simp, this.1, this.2⟩
theorem q6_no37 (s : List UInt8) (h : q6 s = true) : (37 : UInt8) ∉ s := by
  rw [q6] at h
  split at h
  · rename_i h2
    have hs : s = 58 :: 58 :: s.drop 2 := by
      have := List.take_append_drop 2 s
      rw [h2] at this
      exact this.symm
    split at h
    · rename_i h3
      rw [hs, h3]; simp
    · have := p6_no37 _ _ _ h
      rw [hs]
      simp only [List.mem_cons, not_or]
      exact ⟨by simp, by simp, this⟩
  · exact p6_no37 _ _ _ h
end Go.Proofs.Ytdgnjngbheecnaa
