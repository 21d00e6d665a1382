/- The texts of lists of texts, plainly. -/
import Derived.Test.YtppjcnaffphakaaGreatDoorJtE
set_option linter.unusedVariables false
set_option linter.unusedSimpArgs false
set_option maxRecDepth 100000
namespace Go.Proofs.YtppjcnaffphakaaGreatDoor
open Go Go.Den Go.Proofs

/-- A text as it is written. -/
def jsx (s : List UInt8) : List UInt8 := 34 :: jsb s ++ [34]
/-- The elements' text. -/
def jb (sep : List UInt8) : List (List UInt8) → List UInt8
  | [] => []
  | x :: l => jsx x ++ (l.map fun y => sep ++ jsx y).flatten
theorem jb_push {sep : List UInt8} {l : List (List UInt8)} {x : List UInt8} (h : l ≠ []) : jb sep (l ++ [x]) = jb sep l ++ sep ++ jsx x := by
  cases l with
  | nil => exact absurd rfl h
  | cons y l => simp [jb]
def BL (b : List UInt8) : Prop := ∀ c, c ∈ b → isB c = true
/-- Blanks, a comma, blanks. -/
def Sep (sep : List UInt8) : Prop := ∃ a b, sep = a ++ 44 :: b ∧ BL a ∧ BL b
def sepN (way : Nat) : List UInt8 := if way % 3 = 0 then [44] else if way % 3 = 1 then [44, 32] else [32, 44, 10]
theorem BL_of {b : List UInt8} (h : b.all isB = true) : BL b := fun c hc => List.all_eq_true.1 h c hc
theorem sepN_ok (way : Nat) : Sep (sepN way) := by
  unfold sepN
  split
  · exact ⟨[], [], rfl, BL_of rfl, BL_of rfl⟩
  · split
    · exact ⟨[], [32], rfl, BL_of rfl, BL_of rfl⟩
    · exact ⟨[32], [10], rfl, BL_of rfl, BL_of rfl⟩
theorem nb_all {b : List UInt8} (h : BL b) : b.drop (nb b) = [] := by
  have := nb_app (a := b) (t := []) h (fun c hc => by cases hc)
  rw [List.append_nil] at this
  rw [this, List.drop_length]
theorem nb_at {b t : List UInt8} {c : UInt8} (h : BL b) (hc : isB c = false) : (b ++ c :: t).drop (nb (b ++ c :: t)) = c :: t := by
  have := nb_app (a := b) (t := c :: t) h (fun c' hc' => by cases hc'; exact hc)
  rw [this, List.drop_left]
theorem BL.take {b : List UInt8} (h : BL b) (n : Nat) : BL (b.take n) := fun c hc => h c (List.mem_of_mem_take hc)
theorem val_ok {b x t : List UInt8} (hb : BL b) (hx : Plain x) : ValT (b ++ (jsx x ++ t)) (some (x, t)) := by
  have e : b ++ (jsx x ++ t) = b ++ 34 :: (jsb x ++ 34 :: t) := by simp [jsx]
  rw [e]
  exact .inr ⟨_, nb_at hb rfl, JT_whole t x hx⟩
theorem val_cut {b x : List UInt8} (hb : BL b) (hx : Plain x) (k : Nat) (hk : k < b.length + (jsx x).length) : ValT ((b ++ jsx x).take k) none := by
  rcases Nat.lt_or_ge b.length k with h | h
  · obtain ⟨m, hm⟩ : ∃ m, k = b.length + (m + 1) := ⟨k - b.length - 1, by omega⟩
    have e : (b ++ jsx x).take k = b ++ 34 :: (jsb x).take m := by
      rw [hm, List.take_length_add_append]
      congr 1
      have : m ≤ (jsb x).length := by simp [jsx] at hk; omega
      simp only [jsx, List.cons_append, List.take_succ_cons]
      rw [List.take_append_of_le_length this]
    rw [e]
    refine .inr ⟨_, nb_at hb rfl, JT_cut x hx m ?_⟩
    simp [jsx] at hk
    omega
  · rw [List.take_append_of_le_length h]
    exact .inl ⟨nb_all (hb.take k), rfl⟩
theorem el_ok {sep : List UInt8} (hs : Sep sep) : ∀ (l : List (List UInt8)) (x b : List UInt8), BL b → (∀ y, y ∈ x :: l → Plain y) → EL (b ++ (jsx x ++ ((l.map fun y => sep ++ jsx y).flatten ++ [93]))) (some (x :: l, [])) := by
  obtain ⟨s1, s2, rfl, h1, h2⟩ := hs
  intro l
  induction l with
  | nil =>
    intro x b hb hp
    exact .stop _ x [93] [] (val_ok hb (hp x (by simp))) rfl
  | cons y l ih =>
    intro x b hb hp
    have e : ((y :: l).map fun y => s1 ++ 44 :: s2 ++ jsx y).flatten ++ [93] = s1 ++ 44 :: (s2 ++ (jsx y ++ ((l.map fun y => s1 ++ 44 :: s2 ++ jsx y).flatten ++ [93]))) := by simp
    have := ih y s2 h2 fun z hz => hp z (by simp at hz ⊢; exact .inr hz)
    rw [e]
    exact .more _ x _ _ (some (y :: l, [])) (val_ok hb (hp x (by simp))) (nb_at h1 rfl) this
theorem el_cut {sep : List UInt8} (hs : Sep sep) : ∀ (l : List (List UInt8)) (x b : List UInt8), BL b → (∀ y, y ∈ x :: l → Plain y) → ∀ k, k < (b ++ (jsx x ++ ((l.map fun y => sep ++ jsx y).flatten ++ [93]))).length → EL ((b ++ (jsx x ++ ((l.map fun y => sep ++ jsx y).flatten ++ [93]))).take k) none := by
  obtain ⟨s1, s2, rfl, h1, h2⟩ := hs
  intro l
  induction l with
  | nil =>
    intro x b hb hp k hk
    rcases Nat.lt_or_ge k (b.length + (jsx x).length) with h | h
    · have e : (b ++ (jsx x ++ ((([] : List (List UInt8)).map fun y => s1 ++ 44 :: s2 ++ jsx y).flatten ++ [93]))).take k = (b ++ jsx x).take k := by
        rw [← List.append_assoc, List.take_append_of_le_length (by simp; omega)]
      rw [e]
      exact .bad _ (val_cut hb (hp x (by simp)) k h)
    · have : k = (b ++ jsx x).length := by simp at hk ⊢; omega
      have e : (b ++ (jsx x ++ ((([] : List (List UInt8)).map fun y => s1 ++ 44 :: s2 ++ jsx y).flatten ++ [93]))).take k = b ++ (jsx x ++ []) := by
        rw [← List.append_assoc, this, List.take_left, List.append_nil]
      rw [e]
      exact .short _ x [] (val_ok hb (hp x (by simp))) rfl
  | cons y l ih =>
    intro x b hb hp k hk
    have e0 : ((y :: l).map fun y => s1 ++ 44 :: s2 ++ jsx y).flatten ++ [93] = s1 ++ 44 :: (s2 ++ (jsx y ++ ((l.map fun y => s1 ++ 44 :: s2 ++ jsx y).flatten ++ [93]))) := by simp
    have ih := ih y s2 h2 fun z hz => hp z (by simp at hz ⊢; exact .inr hz)
    rw [e0] at hk ⊢
    generalize s2 ++ (jsx y ++ ((l.map fun y => s1 ++ 44 :: s2 ++ jsx y).flatten ++ [93])) = R at ih hk ⊢
    rcases Nat.lt_or_ge k (b.length + (jsx x).length) with h | h
    · have e : (b ++ (jsx x ++ (s1 ++ 44 :: R))).take k = (b ++ jsx x).take k := by
        rw [← List.append_assoc, List.take_append_of_le_length (by simp; omega)]
      rw [e]
      exact .bad _ (val_cut hb (hp x (by simp)) k h)
    · obtain ⟨m, hm⟩ : ∃ m, k = (b ++ jsx x).length + m := ⟨k - (b ++ jsx x).length, by simp; omega⟩
      have e : (b ++ (jsx x ++ (s1 ++ 44 :: R))).take k = b ++ (jsx x ++ (s1 ++ 44 :: R).take m) := by
        rw [← List.append_assoc, hm, List.take_length_add_append, List.append_assoc]
      rw [e]
      rcases Nat.lt_or_ge s1.length m with h3 | h3
      · obtain ⟨m', hm'⟩ : ∃ m', m = s1.length + (m' + 1) := ⟨m - s1.length - 1, by omega⟩
        have e2 : (s1 ++ 44 :: R).take m = s1 ++ 44 :: R.take m' := by
          rw [hm', List.take_length_add_append]; rfl
        rw [e2]
        exact .more _ x _ _ none (val_ok hb (hp x (by simp))) (nb_at h1 rfl) (ih m' (by simp at hk hm; omega))
      · rw [List.take_append_of_le_length h3]
        exact .short _ x _ (val_ok hb (hp x (by simp))) (nb_all (h1.take m))
theorem jsx_head (x t : List UInt8) : jsx x ++ t = 34 :: (jsb x ++ 34 :: t) := by simp [jsx]
/-- The whole text behind the opening bracket. -/
theorem elT_ok {sep b : List UInt8} (hs : Sep sep) (hb : BL b) (a : List (List UInt8)) (hp : ∀ y, y ∈ a → Plain y) : ElT (b ++ (jb sep a ++ [93])) (some (a, [])) := by
  cases a with
  | nil => exact .inl ⟨[], nb_at hb rfl, rfl⟩
  | cons x l =>
    have h := el_ok hs l x [] (BL_of rfl) hp
    have e : b ++ (jb sep (x :: l) ++ [93]) = b ++ (jsx x ++ ((l.map fun y => sep ++ jsx y).flatten ++ [93])) := by simp [jb]
    rw [e]
    rw [List.nil_append, jsx_head] at h
    rw [jsx_head]
    refine .inr ?_
    rw [nb_at hb rfl]
    exact ⟨by simp, h⟩
theorem elT_cut {sep b : List UInt8} (hs : Sep sep) (hb : BL b) (a : List (List UInt8)) (hp : ∀ y, y ∈ a → Plain y) (k : Nat) (hk : k < (b ++ (jb sep a ++ [93])).length) : ElT ((b ++ (jb sep a ++ [93])).take k) none := by
  have hnil : k ≤ b.length → ElT ((b ++ (jb sep a ++ [93])).take k) none := fun h => by
    rw [List.take_append_of_le_length h]
    refine .inr ?_
    rw [nb_all (hb.take k)]
    exact ⟨by simp, .bad _ (.inl ⟨rfl, rfl⟩)⟩
  rcases Nat.lt_or_ge b.length k with h | h
  · obtain ⟨m, hm⟩ : ∃ m, k = b.length + (m + 1) := ⟨k - b.length - 1, by omega⟩
    cases a with
    | nil => simp [jb] at hk; omega
    | cons x l =>
      have e : b ++ (jb sep (x :: l) ++ [93]) = b ++ (jsx x ++ ((l.map fun y => sep ++ jsx y).flatten ++ [93])) := by simp [jb]
      have h := el_cut hs l x [] (BL_of rfl) hp (m + 1)
      rw [e] at hk ⊢
      have h := h (by rw [hm] at hk; simp at hk ⊢; omega)
      rw [hm, List.take_length_add_append]
      rw [List.nil_append, jsx_head, List.take_succ_cons] at h
      rw [jsx_head, List.take_succ_cons]
      refine .inr ?_
      rw [nb_at hb rfl]
      exact ⟨by simp, h⟩
  · exact hnil h
end Go.Proofs.YtppjcnaffphakaaGreatDoor
