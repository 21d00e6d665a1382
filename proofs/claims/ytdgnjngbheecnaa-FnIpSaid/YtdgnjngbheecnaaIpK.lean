/- Addresses: eight groups: the reader and the reference agree where it decides. -/
import Derived.Test.YtdgnjngbheecnaaIpJ
set_option linter.unusedVariables false
set_option linter.unusedSimpArgs false
set_option maxRecDepth 100000
namespace Go.Proofs.Ytdgnjngbheecnaa
open Go Go.Den Go.Proofs

theorem hxB_58 : hxB 58 = false := rfl
theorem hxB_46 : hxB 46 = false := rfl
theorem hxB_37 : hxB 37 = false := rfl
theorem dg_hx (c : UInt8) (h : dgB c = true) : hxB c = true := by
  have : hxB c = (dgB c || ((decide (97 ≤ c.toNat) && decide (c.toNat ≤ 102)) || (decide (65 ≤ c.toNat) && decide (c.toNat ≤ 70)))) := rfl
  rw [this, h, Bool.true_or]
/-- What is read as four numbers has digits and points alone. -/
theorem v4_chars : ∀ (s : List UInt8) (val dig pos : Nat), v4 s val dig pos = true → ∀ c, c ∈ s → dgB c = true ∨ c = 46 := by
  intro s
  induction s with
  | nil => intro val dig pos _ c hc; simp at hc
  | cons y s ih =>
    intro val dig pos h c hc
    rw [v4] at h
    rcases List.mem_cons.1 hc with rfl | hc
    · cases hd : dgB c
      · rw [hd] at h
        by_cases h1 : c = 46
        · exact .inr h1
        · simp [h1] at h
      · exact .inl rfl
    · by_cases hd : dgB y = true
      · rw [if_pos hd] at h
        split at h
        · exact absurd h (by simp)
        · split at h
          · exact absurd h (by simp)
          · exact ih _ _ _ h c hc
      · rw [if_neg hd] at h
        split at h
        · split at h
          · exact absurd h (by simp)
          · split at h
            · exact absurd h (by simp)
            · exact ih _ _ _ h c hc
        · exact absurd h (by simp)
theorem p4_no (s : List UInt8) (c : UInt8) (hc : c ∈ s) (h1 : dgB c = false) (h2 : c ≠ 46) : p4 s = false := by
  rw [← Bool.not_eq_true]
  intro h
  rcases v4_chars s 0 0 0 h c hc with h3 | h3
  · rw [h1] at h3; exact absurd h3 (by simp)
  · exact h2 h3
theorem takeWhile_stop {p : UInt8 → Bool} (y : List UInt8) (c : UInt8) (w : List UInt8) (hy : y.all p = true) (hc : p c = false) : (y ++ c :: w).takeWhile p = y := by
  induction y with
  | nil => simp [hc]
  | cons a y ih =>
    simp only [List.all_cons, Bool.and_eq_true] at hy
    simp [hy.1, ih hy.2]
theorem off6_stop (y : List UInt8) (c : UInt8) (w : List UInt8) (hy : y.all hxB = true) (hc : hxB c = false) : off6 (y ++ c :: w) = y.length := by
  rw [off6, takeWhile_stop y c w hy hc]
theorem off6_all (y : List UInt8) (hy : y.all hxB = true) : off6 y = y.length := by
  rw [off6]
  congr 1
  induction y with
  | nil => rfl
  | cons a y ih =>
    simp only [List.all_cons, Bool.and_eq_true] at hy
    simp [hy.1, ih hy.2]
theorem hx_split (x : List UInt8) (hx : x.all hxB = false) : ∃ y c w, x = y ++ c :: w ∧ y.all hxB = true ∧ hxB c = false := by
  induction x with
  | nil => simp at hx
  | cons a x ih =>
    cases ha : hxB a
    · exact ⟨[], a, x, rfl, rfl, ha⟩
    · simp only [List.all_cons, ha, Bool.true_and] at hx
      obtain ⟨y, c, w, h1, h2, h3⟩ := ih hx
      exact ⟨a :: y, c, w, by rw [h1]; rfl, by simp [ha, h2], h3⟩
theorem hexesB_len (x : List UInt8) (hx : x.all hxB = true) : (off6 x = 0 ∨ 4 < off6 x) ↔ hexesB x = false := by
  rw [off6_all x hx, hexesB, hx, Bool.true_and, Bool.and_eq_false_iff]
  simp
/-- A step: the last group. -/
theorem p6_last (f : Nat) (x : List UInt8) (ell : Bool) (hx : x.all hxB = true) : p6 (f + 1) x ell = (hexesB x && fin6 f ell) := by
  rw [p6]
  cases h1 : hexesB x
  · rw [if_pos ((hexesB_len x hx).2 h1), Bool.false_and]
  · rw [if_neg (fun h => by rw [(hexesB_len x hx).1 h] at h1; exact absurd h1 (by simp)), off6_all x hx]
    simp
/-- A step: a group, and a colon behind it. -/
theorem p6_more (f : Nat) (x r : List UInt8) (ell : Bool) (hx : x.all hxB = true) : p6 (f + 1) (x ++ 58 :: r) ell = (hexesB x && match r with
      | [] => false
      | d :: r2 => if d = 58 then (if ell = true then false else if r2 = [] then fin6 f true else p6 f r2 true) else p6 f (d :: r2) ell) := by
  have h0 : off6 (x ++ 58 :: r) = off6 x := by rw [off6_stop x 58 r hx hxB_58, off6_all x hx]
  rw [p6, h0]
  cases h1 : hexesB x
  · rw [if_pos ((hexesB_len x hx).2 h1), Bool.false_and]
  · rw [if_neg (fun h => by rw [(hexesB_len x hx).1 h] at h1; exact absurd h1 (by simp)), off6_all x hx]
    cases r <;> simp
/-- A step: something that is no group. -/
theorem p6_other (f : Nat) (y w : List UInt8) (c : UInt8) (ell : Bool) (hy : y.all hxB = true) (hc : hxB c = false) (hc2 : c ≠ 58) : p6 (f + 1) (y ++ c :: w) ell = (!(decide (y.length = 0) || decide (4 < y.length)) && (decide (c = 46) && ((ell || decide (f = 1)) && (!decide (f = 0) && (p4 (y ++ c :: w) && fin6 (f - 1) ell))))) := by
  rw [p6, off6_stop y c w hy hc]
  by_cases h1 : y.length = 0 ∨ 4 < y.length
  · rw [if_pos h1]
    have : (decide (y.length = 0) || decide (4 < y.length)) = true := by simpa using h1
    rw [this]; rfl
  · rw [if_neg h1]
    have : (decide (y.length = 0) || decide (4 < y.length)) = false := by simpa using h1
    rw [this]
    simp only [List.drop_left, Bool.not_false, Bool.true_and]
    by_cases h2 : c = 46
    · by_cases h4 : f = 1
      · subst h4; simp [h2]
      · by_cases h5 : f = 0
        · cases ell <;> simp [h2, h5]
        · cases ell <;> simp [h2, h4, h5]
    · simp [h2, hc2]
theorem p6_colon (f : Nat) (x s : List UInt8) (ell : Bool) (hx : x.all hxB = false) (h58 : (58 : UInt8) ∉ x) (hs : ∃ t, s = x ++ 58 :: t) : p6 (f + 1) s ell = false := by
  obtain ⟨t, rfl⟩ := hs
  obtain ⟨y, c, w, rfl, hy, hc⟩ := hx_split x hx
  have hc2 : c ≠ 58 := fun h => h58 (by simp [h])
  rw [show (y ++ c :: w) ++ 58 :: t = y ++ c :: (w ++ 58 :: t) by simp, p6_other f y _ c ell hy hc hc2, p4_no _ 58 (by simp) rfl (by simp)]
  simp
theorem okp_all (x : List UInt8) (h : okp x = true) : x.all hxB = true ∧ x ≠ [] := by
  simp only [okp, Bool.and_eq_true, Bool.not_eq_true', decide_eq_false_iff_not] at h
  refine ⟨?_, h.1⟩
  have := dgo_all x 0 0 h.2
  rw [List.all_eq_true] at this ⊢
  exact fun c hc => dg_hx c (this c hc)
theorem p6_four (f : Nat) (x : List UInt8) (ell : Bool) (h46 : (46 : UInt8) ∈ x) (h58 : (58 : UInt8) ∉ x) : p6 (f + 1) x ell = (p4 x && ((ell || decide (f = 1)) && (!decide (f = 0) && fin6 (f - 1) ell))) := by
  have hx : x.all hxB = false := by
    rw [List.all_eq_false]; exact ⟨46, h46, by rw [hxB_46]; simp⟩
  obtain ⟨y, c, w, rfl, hy, hc⟩ := hx_split x hx
  have hc2 : c ≠ 58 := fun h => h58 (by simp [h])
  rw [p6_other f y w c ell hy hc hc2]
  cases h4 : p4 (y ++ c :: w)
  · simp
  · have hc46 : c = 46 := by
      rcases v4_chars _ 0 0 0 h4 c (by simp) with h | h
      · rw [dg_hx c h] at hc; exact absurd hc (by simp)
      · exact h
    subst hc46
    have h46y : (46 : UInt8) ∉ y := fun h => by
      have := List.all_eq_true.1 hy 46 h
      rw [hxB_46] at this; exact absurd this (by simp)
    rw [p4, v4_parts _ _ (Nat.le_refl _) 0 (.inr (by omega)) (by omega), parts_cons 46 y w h46y, List.all_cons] at h4
    simp only [Bool.and_eq_true] at h4
    have h5 := okp_len y h4.1.1
    have h6 := (okp_all y h4.1.1).2
    have h7 : ¬ y.length = 0 := fun h => h6 (List.eq_nil_of_length_eq_zero h)
    have h8 : (decide (y.length = 0) || decide (4 < y.length)) = false := by simp [h6]; omega
    rw [h8]
    simp
theorem hasB_iff (l : List UInt8) (c : UInt8) : hasB l c = true ↔ c ∈ l := by simp [hasB]
theorem grpL_low (last : Bool) : ∀ (P : List (List UInt8)) (n : Nat), (grpL last P n).1 = -1 ∨ (n : Int) ≤ (grpL last P n).1
  | [], n => by simp [grpL]
  | x :: r, n => by
    have := grpL_low last r (n + 1)
    simp only [grpL]
    split
    · split
      · simp; omega
      · simp
    · split
      · omega
      · simp
theorem grpL_low1 (last : Bool) : ∀ (P : List (List UInt8)) (n : Nat), P ≠ [] → (grpL last P n).1 = -1 ∨ (n : Int) + 1 ≤ (grpL last P n).1
  | [], n => by simp
  | x :: r, n => by
    have := grpL_low last r (n + 1)
    intro _
    simp only [grpL]
    split
    · split
      · simp
      · simp
    · split
      · omega
      · simp
theorem grpL_more (last : Bool) (x : List UInt8) (P : List (List UInt8)) (hP : P ≠ []) (n : Nat) : grpL last (x :: P) n = if hexesB x = true then grpL last P (n + 1) else (-1, true) := by
  rw [grpL, if_neg (by simp [hP])]
theorem parts_ne (c : UInt8) (l : List UInt8) : parts c l ≠ [] := by simp [parts]
theorem hexesB_nil : hexesB [] = false := rfl
theorem grpL_empty (last : Bool) (P : List (List UInt8)) (n : Nat) : (grpL last ([] :: P) n).1 = -1 := by
  rw [grpL]
  have : hasB ([] : List UInt8) 46 = false := rfl
  simp [this, hexesB_nil]
theorem hexesB_not (x : List UInt8) (hx : x.all hxB = false) : hexesB x = false := by rw [hexesB, hx, Bool.false_and]
/-- Behind the two colons. -/
theorem p6_L1 : ∀ (f : Nat) (s : List UInt8) (a n : Nat), a + n + f = 8 → (grpL true (parts 58 s) n).2 = true → p6 f s true = (decide (0 ≤ (grpL true (parts 58 s) n).1) && decide ((a : Int) + (grpL true (parts 58 s) n).1 < 8)) := by
  intro f
  induction f with
  | zero =>
    intro s a n h8 hd
    rw [p6]
    rcases grpL_low true (parts 58 s) n with h | h
    · simp [h]
    · have : ¬ ((a : Int) + (grpL true (parts 58 s) n).1 < 8) := by omega
      simp [this]
  | succ f ih =>
    intro s a n h8 hd
    rcases parts_cases 58 s with ⟨hx, hp⟩ | ⟨x, r, hx, rfl, hp⟩
    · rw [hp] at hd ⊢
      rw [grpL] at hd ⊢
      cases h46 : hasB s 46
      · simp only [h46, Bool.and_false, Bool.false_eq_true, if_false] at hd ⊢
        have h46' : (46 : UInt8) ∉ s := fun h => by rw [← hasB_iff, h46] at h; exact absurd h (by simp)
        cases hh : s.all hxB
        · rw [hexesB_not s hh]
          obtain ⟨y, c, w, rfl, hy, hc⟩ := hx_split s hh
          have hc2 : c ≠ 58 := fun h => hx (by simp [h])
          have hc3 : c ≠ 46 := fun h => h46' (by simp [h])
          rw [p6_other f y w c true hy hc hc2]
          simp [hc3]
        · rw [p6_last f s true hh]
          cases hexesB s
          · simp
          · simp only [if_true, grpL, fin6, Bool.true_and]
            rw [Bool.eq_iff_iff]; simp; omega
      · have h46' : (46 : UInt8) ∈ s := (hasB_iff s 46).1 h46
        simp only [h46, Bool.and_true, decide_true, if_true] at hd ⊢
        rw [p6_four f s true h46' hx]
        have h4 := four4_law s (by cases h : (four4 s).1 <;> (rw [h] at hd; simpa using hd))
        rw [h4]
        cases p4 s
        · simp
        · simp [fin6]
          rw [Bool.eq_iff_iff]; simp; omega
    · rw [hp, grpL_more true x _ (parts_ne 58 r)] at hd ⊢
      cases hh : x.all hxB
      · rw [hexesB_not x hh, p6_colon f x _ true hh hx ⟨r, rfl⟩]
        simp
      · rw [p6_more f x r true hh]
        cases h1 : hexesB x
        · simp
        · rw [h1, if_pos rfl] at hd
          simp only [if_true, Bool.true_and]
          cases r with
          | nil => rw [parts_one 58 [] (by simp), grpL_empty]; simp
          | cons d r2 =>
            by_cases hd58 : d = 58
            · subst hd58
              have : parts 58 (58 :: r2) = [] :: parts 58 r2 := parts_cons 58 [] r2 (by simp)
              rw [this, grpL_empty]; simp
            · simp only [hd58, if_false]
              exact ih (d :: r2) a (n + 1) (by omega) hd
/-- No two colons side by side. -/
def nodd : List UInt8 → Bool
  | [] => true
  | c :: r => !(decide (c = 58) && decide (r.head? = some 58)) && nodd r
theorem nodd_app (x : List UInt8) (hx : (58 : UInt8) ∉ x) (r : List UInt8) : nodd (x ++ r) = nodd r := by
  induction x with
  | nil => rfl
  | cons c x ih =>
    have hc : ¬ c = 58 := fun h => hx (by simp [h])
    simp [nodd, hc, ih (fun h => hx (by simp [h]))]
/-- No two colons at all. -/
theorem p6_L2 : ∀ (f : Nat) (s : List UInt8) (n : Nat), n + f = 8 → s ≠ [] → nodd s = true → (grpL true (parts 58 s) n).2 = true → p6 f s false = decide ((grpL true (parts 58 s) n).1 = 8) := by
  intro f
  induction f with
  | zero =>
    intro s n h8 hs hn hd
    rw [p6]
    have : ¬ (grpL true (parts 58 s) n).1 = 8 := by
      rcases grpL_low1 true (parts 58 s) n (parts_ne 58 s) with h | h <;> omega
    simp [hs, this]
  | succ f ih =>
    intro s n h8 hs hn hd
    rcases parts_cases 58 s with ⟨hx, hp⟩ | ⟨x, r, hx, rfl, hp⟩
    · rw [hp] at hd ⊢
      rw [grpL] at hd ⊢
      cases h46 : hasB s 46
      · simp only [h46, Bool.and_false, Bool.false_eq_true, if_false] at hd ⊢
        have h46' : (46 : UInt8) ∉ s := fun h => by rw [← hasB_iff, h46] at h; exact absurd h (by simp)
        cases hh : s.all hxB
        · rw [hexesB_not s hh]
          obtain ⟨y, c, w, rfl, hy, hc⟩ := hx_split s hh
          have hc2 : c ≠ 58 := fun h => hx (by simp [h])
          have hc3 : c ≠ 46 := fun h => h46' (by simp [h])
          rw [p6_other f y w c false hy hc hc2]
          simp [hc3]
        · rw [p6_last f s false hh]
          cases hexesB s
          · simp
          · simp only [if_true, grpL, fin6, Bool.true_and]
            by_cases hf : 0 < f
            · have : ¬ (((n + 1 : Nat) : Int) = 8) := by omega
              simp [hf]; omega
            · simp [hf]; omega
      · have h46' : (46 : UInt8) ∈ s := (hasB_iff s 46).1 h46
        simp only [h46, Bool.and_true, decide_true, if_true] at hd ⊢
        rw [p6_four f s false h46' hx]
        have h4 := four4_law s (by cases h : (four4 s).1 <;> (rw [h] at hd; simpa using hd))
        rw [h4]
        cases p4 s
        · simp
        · by_cases hf : f = 1
          · subst hf; simp [fin6]; omega
          · simp [hf]; omega
    · rw [hp, grpL_more true x _ (parts_ne 58 r)] at hd ⊢
      cases hh : x.all hxB
      · rw [hexesB_not x hh, p6_colon f x _ false hh hx ⟨r, rfl⟩]
        simp
      · rw [p6_more f x r false hh]
        cases h1 : hexesB x
        · simp
        · rw [h1, if_pos rfl] at hd
          simp only [if_true, Bool.true_and]
          rw [nodd_app x hx] at hn
          cases r with
          | nil => rw [parts_one 58 [] (by simp), grpL_empty]; simp
          | cons d r2 =>
            have hd58 : ¬ d = 58 := by
              rintro rfl
              simp [nodd] at hn
            simp only [hd58, if_false]
            have hn2 : nodd (d :: r2) = true := by
              rw [nodd] at hn
              simp only [Bool.and_eq_true] at hn
              exact hn.2
            exact ih (d :: r2) (n + 1) (by omega) (by simp) hn2 hd
theorem grp_nil (last : Bool) : grp last [] = (0, true) := rfl
theorem grp_ne (last : Bool) (s : List UInt8) (hs : s ≠ []) : grp last s = grpL last (parts 58 s) 0 := by rw [grp, if_neg hs]
/-- The first two colons stand behind a text that is not empty. -/
theorem p6_L3 : ∀ (f : Nat) (w v : List UInt8) (n : Nat), n + f = 8 → w ≠ [] → nodd (w ++ [58]) = true → (grp true v).2 = true → p6 f (w ++ 58 :: 58 :: v) false = (decide (0 ≤ (grpL false (parts 58 w) n).1) && decide (0 ≤ (grp true v).1) && decide ((grpL false (parts 58 w) n).1 + (grp true v).1 < 8)) := by
  intro f
  induction f with
  | zero =>
    intro w v n h8 hw hn hd
    rw [p6]
    have h1 : ¬ (w ++ 58 :: 58 :: v = []) := by simp
    rw [decide_eq_false h1, Bool.false_and]
    rcases grpL_low1 false (parts 58 w) n (parts_ne 58 w) with h | h
    · simp [h]
    · by_cases h2 : 0 ≤ (grp true v).1
      · have : ¬ ((grpL false (parts 58 w) n).1 + (grp true v).1 < 8) := by omega
        simp [this]
      · simp [h2]
  | succ f ih =>
    intro w v n h8 hw hn hd
    rcases parts_cases 58 w with ⟨hx, hp⟩ | ⟨x, r, hx, rfl, hp⟩
    · rw [hp]
      have hg : grpL false [w] n = if hexesB w = true then (((n + 1 : Nat) : Int), true) else (-1, true) := by simp [grpL]
      rw [hg]
      cases hh : w.all hxB
      · rw [hexesB_not w hh, p6_colon f w _ false hh hx ⟨58 :: v, rfl⟩]
        simp
      · rw [p6_more f w _ false hh]
        cases h1 : hexesB w
        · simp
        · simp only [if_true, Bool.true_and, Bool.false_eq_true, if_false]
          have hnn : decide (0 ≤ ((n + 1 : Nat) : Int)) = true := by simp
          rw [hnn, Bool.true_and]
          by_cases hv : v = []
          · subst hv
            rw [if_pos rfl, grp_nil, fin6]
            rw [Bool.eq_iff_iff]
            simp
            omega
          · rw [if_neg hv]
            rw [grp_ne true v hv] at hd ⊢
            exact p6_L1 f v (n + 1) 0 (by omega) hd
    · rw [hp, grpL_more false x _ (parts_ne 58 r)]
      rw [List.append_assoc, nodd_app x hx] at hn
      cases r with
      | nil => simp [nodd] at hn
      | cons d r2 =>
        have hd58 : ¬ d = 58 := by
          rintro rfl
          simp [nodd] at hn
        have hn2 : nodd ((d :: r2) ++ [58]) = true := by
          rw [List.cons_append, nodd] at hn
          simp only [Bool.and_eq_true] at hn
          exact hn.2
        rw [show (x ++ 58 :: (d :: r2)) ++ 58 :: 58 :: v = x ++ 58 :: ((d :: r2) ++ 58 :: 58 :: v) by simp]
        cases hh : x.all hxB
        · rw [hexesB_not x hh, p6_colon f x _ false hh hx ⟨_, rfl⟩]
          simp
        · rw [p6_more f x _ false hh]
          cases h1 : hexesB x
          · simp
          · simp only [if_true, Bool.true_and, List.cons_append, hd58, if_false]
            exact ih (d :: r2) v (n + 1) (by omega) (by simp) hn2 hd
theorem nodd_split (l : List UInt8) : nodd l = true ∨ ∃ w v, l = w ++ 58 :: 58 :: v ∧ nodd (w ++ [58]) = true := by
  induction l with
  | nil => exact .inl rfl
  | cons c r ih =>
    by_cases h : c = 58 ∧ r.head? = some 58
    · obtain ⟨rfl, h2⟩ := h
      cases r with
      | nil => simp at h2
      | cons d v =>
        have : d = 58 := by simpa using h2
        subst this
        exact .inr ⟨[], v, rfl, rfl⟩
    · have hb : (decide (c = 58) && decide (r.head? = some 58)) = false := by simpa using h
      rcases ih with h1 | ⟨w, v, h1, h2⟩
      · left; rw [nodd, hb, h1]; rfl
      · right
        refine ⟨c :: w, v, by rw [h1]; rfl, ?_⟩
        have h3 : (w ++ [58]).head? = r.head? := by rw [h1]; cases w <;> rfl
        rw [List.cons_append, nodd, h3, hb, h2]; rfl
theorem refFrom_no (l : List UInt8) : ∀ (f i : Nat), nodd (l.drop i) = true → refFrom l f i = (decide ((grp true l).1 = 8), (grp true l).2) := by
  intro f
  induction f with
  | zero => intros; rfl
  | succ f ih =>
    intro i hn
    rw [refFrom]
    split
    · rename_i h2
      have hcc : cc l i = false := by
        rw [cc, decide_eq_false_iff_not]
        intro h
        have e : l.drop i = l[i] :: l[i + 1] :: l.drop (i + 1 + 1) := by
          rw [List.drop_eq_getElem_cons (by omega), List.drop_eq_getElem_cons (show i + 1 < l.length by omega)]
        rw [List.drop_take, e, show i + 2 - i = 2 by omega] at h
        simp only [List.take_succ_cons, List.take_zero, List.cons.injEq, and_true] at h
        rw [e, nodd, h.1, h.2] at hn
        simp at hn
      rw [hcc, if_neg (by simp)]
      refine ih (i + 1) ?_
      rw [List.drop_eq_getElem_cons (by omega), nodd] at hn
      simp only [Bool.and_eq_true] at hn
      exact hn.2
    · rfl
theorem refFrom_dd (l : List UInt8) (W v : List UInt8) (hl : l = W ++ 58 :: 58 :: v) : ∀ (w u : List UInt8) (f : Nat), W = u ++ w → nodd (w ++ [58]) = true → w.length < f → refFrom l f u.length = (decide (0 ≤ (grp false W).1) && decide (0 ≤ (grp true v).1) && decide ((grp false W).1 + (grp true v).1 < 8), (grp false W).2 && (grp true v).2) := by
  intro w
  induction w with
  | nil =>
    intro u f hu hn hf
    obtain ⟨f, rfl⟩ : ∃ g, f = g + 1 := ⟨f - 1, by simp at hf; omega⟩
    rw [List.append_nil] at hu
    subst hu
    have hlen : W.length + 2 ≤ l.length := by rw [hl]; simp
    have hcc : cc l W.length = true := by
      rw [cc, hl, List.drop_take, List.drop_left]; simp
    rw [refFrom, if_pos hlen, hcc, if_pos rfl]
    have e1 : l.take W.length = W := by rw [hl, List.take_left]
    have e2 : l.drop (W.length + 2) = v := by rw [hl, ← List.drop_drop, List.drop_left]; rfl
    rw [e1, e2]
  | cons c w ih =>
    intro u f hu hn hf
    obtain ⟨f, rfl⟩ : ∃ g, f = g + 1 := ⟨f - 1, by simp at hf; omega⟩
    have hlu : l = u ++ c :: (w ++ 58 :: 58 :: v) := by rw [hl, hu]; simp
    have hlen : u.length + 2 ≤ l.length := by rw [hlu]; simp; omega
    have hcc : cc l u.length = false := by
      rw [cc, decide_eq_false_iff_not]
      intro h
      rw [List.drop_take, hlu, List.drop_left] at h
      rw [List.cons_append, nodd] at hn
      cases w with
      | nil => simp at h; simp [nodd, h] at hn
      | cons d w => simp at h; simp [h.1, h.2] at hn
    rw [refFrom, if_pos hlen, hcc, if_neg (by simp)]
    have := ih (u ++ [c]) f (by rw [hu]; simp) (by
      rw [List.cons_append, nodd] at hn
      simp only [Bool.and_eq_true] at hn
      exact hn.2) (by simp at hf; omega)
    simpa using this
theorem grp_false_dec (w : List UInt8) : (grp false w).2 = true := by
  rw [grp]
  split
  · rfl
  · have : ∀ (P : List (List UInt8)) (n : Nat), (grpL false P n).2 = true := by
      intro P
      induction P with
      | nil => intros; rfl
      | cons x r ih =>
        intro n
        simp only [grpL, Bool.false_and, Bool.false_eq_true, if_false]
        split
        · exact ih _
        · rfl
    exact this _ _
theorem q6_ref (l : List UInt8) (h58 : (58 : UInt8) ∈ l) (hd : (ipRef l).2 = true) : (ipRef l).1 = q6 l := by
  rw [ipRef, if_pos ((hasB_iff l 58).2 h58)] at hd ⊢
  have hne : l ≠ [] := by rintro rfl; simp at h58
  rcases nodd_split l with hn | ⟨w, v, hl, hn⟩
  · rw [refFrom_no l _ 0 (by simpa using hn)] at hd ⊢
    have h2 : ¬ (l.take 2 = [58, 58]) := by
      intro h
      match l, h with
      | a :: b :: r, h => simp at h; simp [nodd, h.1, h.2] at hn
    rw [q6, if_neg h2]
    rw [grp_ne true l hne] at hd ⊢
    exact (p6_L2 8 l 0 rfl hne hn hd).symm
  · have h1 := refFrom_dd l w v hl w [] (l.length + 1) rfl hn (by rw [hl]; simp; omega)
    simp only [List.length_nil] at h1
    rw [h1, grp_false_dec, Bool.true_and] at hd
    rw [h1]
    by_cases hw : w = []
    · subst hw
      rw [List.nil_append] at hl
      have e2 : l.take 2 = [58, 58] := by rw [hl]; rfl
      have e3 : l.drop 2 = v := by rw [hl]; rfl
      rw [q6, if_pos e2, e3, grp_nil]
      by_cases hv : v = []
      · subst hv
        rw [if_pos rfl, grp_nil]; rfl
      · rw [if_neg hv]
        rw [grp_ne true v hv] at hd ⊢
        rw [p6_L1 8 v 0 0 rfl hd]
        simp
    · have h2 : ¬ (l.take 2 = [58, 58]) := by
        intro h
        rw [hl] at h
        match w, hw with
        | [a], _ => simp at h; simp [nodd, h] at hn
        | a :: b :: r, _ => simp at h; simp [nodd, h.1, h.2] at hn
      rw [q6, if_neg h2, grp_ne false w hw, hl]
      exact (p6_L3 8 w v 0 rfl hw hn hd).symm
end Go.Proofs.Ytdgnjngbheecnaa
