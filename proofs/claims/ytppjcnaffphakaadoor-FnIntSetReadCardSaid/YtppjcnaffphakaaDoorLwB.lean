/- The texts of lists of numbers, plainly. -/
import Derived.Test.YtppjcnaffphakaaDoorJsF
import Derived.Test.YtppjcnaffphakaaDoorJsE
import Derived.Test.YtppjcnaffphakaaDoorPkA
set_option linter.unusedVariables false
set_option linter.unusedSimpArgs false
set_option maxRecDepth 100000
namespace Go.Proofs.YtppjcnaffphakaaDoor
open Go Go.Den Go.Proofs

/-- The elements' text. -/
def jb (sep : List UInt8) : List Int → List UInt8
  | [] => []
  | x :: l => decI x ++ (l.map fun y => sep ++ decI y).flatten
theorem jb_push {sep : List UInt8} {l : List Int} {x : Int} (h : l ≠ []) : jb sep (l ++ [x]) = jb sep l ++ sep ++ decI x := by
  cases l with
  | nil => exact absurd rfl h
  | cons y l => simp [jb]
/-- Blanks, a comma, blanks. -/
def Sep (sep : List UInt8) : Prop := ∃ a b, sep = a ++ 44 :: b ∧ (∀ c, c ∈ a → isB c = true) ∧ (∀ c, c ∈ b → isB c = true) ∧ ∀ c, c ∈ sep → numB c = true
def sepN (way : Nat) : List UInt8 := if way % 3 = 0 then [44] else if way % 3 = 1 then [44, 32] else [32, 44, 10]
theorem sepN_ok (way : Nat) : Sep (sepN way) := by
  unfold sepN
  split
  · exact ⟨[], [], rfl, by simp, by simp, by decide⟩
  · split
    · exact ⟨[], [32], rfl, by simp, by decide, by decide⟩
    · exact ⟨[32], [10], rfl, by decide, by decide, by decide⟩
theorem decI_ne (n : Int) : decI n ≠ [] := by
  rw [decI_eq]
  split
  · simp
  · exact dd_ne _
theorem decI_numB (n : Int) : ∀ c, c ∈ decI n → numB c = true := by
  intro c hc
  rw [decI_eq] at hc
  have h1 : ∀ c, c ∈ Lib.decDigits n.natAbs → numB c = true := fun c hc => by simp [numB, dd_digits _ c hc]
  split at hc
  · rcases List.mem_cons.1 hc with rfl | h
    · decide
    · exact h1 c h
  · exact h1 c hc
theorem isD_notB (c : UInt8) (h : isD c = true) : isB c = false ∧ c ≠ 93 ∧ c ≠ 45 := by
  simp only [isD, Bool.and_eq_true, decide_eq_true_eq] at h
  have h2 : ∀ k : UInt8, k.toNat < 48 ∨ 57 < k.toNat → c ≠ k := fun k hk hh => by subst hh; omega
  refine ⟨?_, h2 93 (by decide), h2 45 (by decide)⟩
  simp only [isB, Bool.or_eq_false_iff, beq_eq_false_iff_ne]
  exact ⟨⟨⟨h2 32 (by decide), h2 9 (by decide)⟩, h2 10 (by decide)⟩, h2 13 (by decide)⟩
theorem decI_head (n : Int) (t : List UInt8) : ∃ c, (decI n ++ t).head? = some c ∧ isB c = false ∧ c ≠ 93 := by
  rw [decI_eq]
  split
  · exact ⟨45, by simp, by decide, by decide⟩
  · obtain ⟨c, l, hl⟩ := List.exists_cons_of_ne_nil (dd_ne n.natAbs)
    have := isD_notB c (dd_digits _ c (by rw [hl]; simp))
    exact ⟨c, by rw [hl]; simp, this.1, this.2.1⟩
/-- A number's text is the number that stands there. -/
theorem numK_dec (n : Int) (t : List UInt8) (ht : ∀ c, t.head? = some c → isD c = false) : numK (decI n ++ t) = some (decI n).length := by
  have key : ∀ (u : Nat), (if (Lib.decDigits u ++ t).head? = some 48 then 1 else ndg (Lib.decDigits u ++ t)) = (Lib.decDigits u).length ∧ ndg (Lib.decDigits u ++ t) ≠ 0 := fun u => by
    have h1 : ndg (Lib.decDigits u ++ t) = (Lib.decDigits u).length := ndg_app (dd_digits u) ht
    have h2 : (Lib.decDigits u).length ≠ 0 := fun h => dd_ne u (List.eq_nil_of_length_eq_zero h)
    refine ⟨?_, by rw [h1]; exact h2⟩
    by_cases h0 : u = 0
    · subst h0
      rw [dd_0]; simp
    · have h3 := dd_head u h0
      obtain ⟨c, l, hl⟩ := List.exists_cons_of_ne_nil (dd_ne u)
      have h5 : (Lib.decDigits u ++ t).head? = (Lib.decDigits u).head? := by rw [hl]; rfl
      rw [if_neg (by rw [h5]; exact h3), h1]
  obtain ⟨k1, k2⟩ := key n.natAbs
  rw [decI_eq]
  unfold numK
  split
  · simp only [List.cons_append, List.head?_cons, if_true, List.drop_succ_cons, List.drop_zero]
    split
    · rename_i h1
      rw [if_pos h1] at k1
      simp; omega
    · rename_i h1
      rw [if_neg h1] at k1
      simp [k1]; try omega
  · obtain ⟨c, l, hl⟩ := List.exists_cons_of_ne_nil (dd_ne n.natAbs)
    have h45 := (isD_notB c (dd_digits n.natAbs c (by rw [hl]; simp))).2.2
    have h46 : ¬ (Lib.decDigits n.natAbs ++ t).head? = some 45 := by rw [hl]; simpa using h45
    simp only [if_neg h46, List.drop_zero]
    split
    · rename_i h1
      rw [if_pos h1] at k1
      simp; omega
    · rename_i h1
      rw [if_neg h1] at k1
      simp [k1]; try omega
theorem elems_ok {sep : List UInt8} (hs : Sep sep) : ∀ (l : List Int) (x : Int) (b : List UInt8) (f : Nat), l.length < f → (∀ c, c ∈ b → isB c = true) →
    elems f (b ++ (decI x ++ ((l.map fun y => sep ++ decI y).flatten ++ [93]))) = some ((x :: l).map decI, []) := by
  obtain ⟨s1, s2, rfl, h1, h2, h3⟩ := hs
  intro l
  induction l with
  | nil =>
    intro x b f hf hb
    obtain ⟨f', rfl⟩ : ∃ f', f = f' + 1 := ⟨f - 1, by simp at hf; omega⟩
    obtain ⟨c, hc1, hc2, hc3⟩ := decI_head x [93]
    have e1 : nb (b ++ (decI x ++ [93])) = b.length := nb_app hb fun c' h => by rw [hc1] at h; cases h; exact hc2
    have e2 : numK (decI x ++ [93]) = some (decI x).length := numK_dec x [93] fun c' h => by cases h; rfl
    simp only [List.map_nil, List.flatten_nil, List.nil_append, elems, e1, List.drop_left, e2]
    have e3 : nb [93] = 0 := rfl
    simp [e3]
  | cons y l ih =>
    intro x b f hf hb
    obtain ⟨f', rfl⟩ : ∃ f', f = f' + 1 := ⟨f - 1, by simp at hf; omega⟩
    obtain ⟨c, hc1, hc2, hc3⟩ := decI_head x ((((y :: l).map fun y => s1 ++ 44 :: s2 ++ decI y).flatten ++ [93]))
    have e1 : nb (b ++ (decI x ++ (((y :: l).map fun y => s1 ++ 44 :: s2 ++ decI y).flatten ++ [93]))) = b.length := nb_app hb fun c' h => by rw [hc1] at h; cases h; exact hc2
    have e4 : ((y :: l).map fun y => s1 ++ 44 :: s2 ++ decI y).flatten ++ [93] = s1 ++ (44 :: (s2 ++ (decI y ++ ((l.map fun y => s1 ++ 44 :: s2 ++ decI y).flatten ++ [93])))) := by simp
    have e2 : numK (decI x ++ (((y :: l).map fun y => s1 ++ 44 :: s2 ++ decI y).flatten ++ [93])) = some (decI x).length := numK_dec x _ fun c' h => by
      rw [e4] at h
      cases s1 with
      | nil => simp at h; subst h; rfl
      | cons z s1 =>
        simp at h
        subst h
        have := h1 z (by simp)
        cases hz : isD z with
        | false => rfl
        | true => rw [(isD_notB z hz).1] at this; cases this
    simp only [elems, e1, List.drop_left, e2, List.take_left]
    have e5 : nb (((y :: l).map fun y => s1 ++ 44 :: s2 ++ decI y).flatten ++ [93]) = s1.length := by
      rw [e4]
      exact nb_app h1 fun c' h => by cases h; rfl
    rw [e5, e4, List.drop_left]
    simp only
    rw [if_neg (by decide)]
    simp only [if_true]
    rw [ih y s2 f' (by simp at hf; omega) h2]
    simp
/-- The bracket must stand there. -/
theorem elems_93 : ∀ (f : Nat) (r : List UInt8) (o : List (List UInt8) × List UInt8), elems f r = some o → (93 : UInt8) ∈ r
  | 0, r, o, h => by cases h
  | f + 1, r, o, h => by
    simp only [elems] at h
    split at h
    · cases h
    · rename_i k hk
      split at h
      · cases h
      · rename_i c r4 hr4
        have hm : ∀ z, z ∈ c :: r4 → z ∈ r := fun z hz => by
          rw [← hr4] at hz
          exact List.mem_of_mem_drop (List.mem_of_mem_drop (List.mem_of_mem_drop hz))
        split at h
        · rename_i h93
          exact hm 93 (by simp [h93])
        · split at h
          · obtain ⟨y, hy, _⟩ := Option.map_eq_some_iff.1 h
            exact hm 93 (List.mem_cons_of_mem _ (elems_93 f r4 y hy))
          · cases h
theorem nb_zero {r : List UInt8} {c : UInt8} (h : r.head? = some c) (hc : isB c = false) : nb r = 0 := by
  have := nb_app (a := []) (t := r) (by simp) (fun c' h' => by rw [h] at h'; cases h'; exact hc)
  simpa using this
theorem fl_len (sep : List UInt8) : ∀ (l : List Int), l.length ≤ ((l.map fun y => sep ++ decI y).flatten).length
  | [] => by simp
  | x :: l => by
    have h1 := fl_len sep l
    have h2 := List.length_pos_iff.2 (decI_ne x)
    simp only [List.map_cons, List.flatten_cons, List.length_append, List.length_cons]
    omega
theorem elemsT_ok {sep : List UInt8} (hs : Sep sep) (a : List Int) : elemsT (jb sep a ++ [93]) = some (a.map decI, []) := by
  cases a with
  | nil => rfl
  | cons x l =>
    obtain ⟨c, hc1, hc2, hc3⟩ := decI_head x ((l.map fun y => sep ++ decI y).flatten ++ [93])
    have e : jb sep (x :: l) ++ [93] = decI x ++ ((l.map fun y => sep ++ decI y).flatten ++ [93]) := by simp [jb]
    rw [e]
    unfold elemsT
    rw [nb_zero hc1 hc2, List.drop_zero, if_neg (by rw [hc1]; simpa using hc3)]
    have h2 := List.length_pos_iff.2 (decI_ne x)
    have h3 := fl_len sep l
    exact elems_ok hs l x [] _ (by simp; simp at h3; omega) (by simp)
theorem jb_numT {sep : List UInt8} (hs : Sep sep) (a : List Int) : numT (jb sep a ++ [93]) := by
  obtain ⟨s1, s2, _, _, _, h3⟩ := hs
  intro c hc
  rcases List.mem_append.1 hc with h | h
  · cases a with
    | nil => cases h
    | cons x l =>
      rcases List.mem_append.1 h with h | h
      · exact decI_numB x c h
      · obtain ⟨l', h1, h2⟩ := List.mem_flatten.1 h
        obtain ⟨y, hy, rfl⟩ := List.mem_map.1 h1
        rcases List.mem_append.1 h2 with h | h
        · exact h3 c h
        · exact decI_numB y c h
  · simp at h; subst h; decide
theorem jb_no93 {sep : List UInt8} (hs : Sep sep) (a : List Int) : (93 : UInt8) ∉ jb sep a := by
  obtain ⟨s1, s2, rfl, h1, h2, h3⟩ := hs
  have hd : ∀ n : Int, (93 : UInt8) ∉ decI n := fun n h => by
    rw [decI_eq] at h
    have hx : (93 : UInt8) ∉ Lib.decDigits n.natAbs := fun h => absurd (dd_digits _ _ h) (by decide)
    split at h
    · rcases List.mem_cons.1 h with h | h
      · cases h
      · exact hx h
    · exact hx h
  have hsep : (93 : UInt8) ∉ s1 ++ 44 :: s2 := fun h => by
    rcases List.mem_append.1 h with h | h
    · exact absurd (h1 _ h) (by decide)
    · rcases List.mem_cons.1 h with h | h
      · cases h
      · exact absurd (h2 _ h) (by decide)
  cases a with
  | nil => simp [jb]
  | cons x l =>
    intro h
    rcases List.mem_append.1 h with h | h
    · exact hd x h
    · obtain ⟨l', h1, h2⟩ := List.mem_flatten.1 h
      obtain ⟨y, hy, rfl⟩ := List.mem_map.1 h1
      rcases List.mem_append.1 h2 with h | h
      · exact hsep h
      · exact hd y h
theorem elemsT_cut {sep : List UInt8} (hs : Sep sep) (a : List Int) (k : Nat) (hk : k < (jb sep a ++ [93]).length) : elemsT ((jb sep a ++ [93]).take k) = none := by
  have h0 : (93 : UInt8) ∉ (jb sep a ++ [93]).take k := fun h => by
    rw [List.take_append_of_le_length (by simp at hk; omega)] at h
    exact jb_no93 hs a (List.mem_of_mem_take h)
  generalize (jb sep a ++ [93]).take k = r at h0
  unfold elemsT
  split
  · rename_i h
    exact absurd (List.mem_of_mem_drop (List.mem_of_mem_head? h)) h0
  · cases h : elems _ (r.drop (nb r)) with
    | none => rfl
    | some o => exact absurd (List.mem_of_mem_drop (elems_93 _ _ _ h)) h0
end Go.Proofs.YtppjcnaffphakaaDoor
