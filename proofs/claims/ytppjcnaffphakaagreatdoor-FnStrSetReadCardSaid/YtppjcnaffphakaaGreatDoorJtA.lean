/- JSON: what a text says, plainly. -/
import Derived.Test.YtppjcnaffphakaaGreatDoorJtB
set_option linter.unusedVariables false
set_option linter.unusedSimpArgs false
set_option maxRecDepth 100000
namespace Go.Proofs.YtppjcnaffphakaaGreatDoor
open Go Go.Den

/-- What a text's reader makes of the bytes behind the opening quote: the text and what follows, or nothing (the bytes end too soon). -/
inductive JT : List UInt8 → Option (List UInt8 × List UInt8) → Prop
  | nil : JT [] none
  | stop (r : List UInt8) : JT (34 :: r) (some ([], r))
  | one (c : UInt8) (r : List UInt8) (o) : 32 ≤ c.toNat → c.toNat < 127 → c ≠ 34 → c ≠ 92 → JT r o → JT (c :: r) (o.map fun x => (c :: x.1, x.2))
  | esc (c : UInt8) (r : List UInt8) (o) : c = 34 ∨ c = 92 → JT r o → JT (92 :: c :: r) (o.map fun x => (c :: x.1, x.2))
  | uni (c0 c1 c2 c3 v : UInt8) (r : List UInt8) (o) : (∀ c, c ∈ [c0, c1, c2, c3] → hexc c) → hval [c0, c1, c2, c3] = v.toNat → v.toNat < 128 → JT r o → JT (92 :: 117 :: c0 :: c1 :: c2 :: c3 :: r) (o.map fun x => (v :: x.1, x.2))
  | cut : JT [92] none
  | cutu (r : List UInt8) : r.length < 4 → JT (92 :: 117 :: r) none

theorem JT.suffix {r : List UInt8} {o} (h : JT r o) : ∀ x t, o = some (x, t) → t <:+ r ∧ x.length + t.length < r.length := by
  induction h with
  | nil => intro x t h; cases h
  | cut => intro x t h; cases h
  | cutu r hr => intro x t h; cases h
  | stop r => intro x t h; cases h; exact ⟨List.suffix_cons _ _, by simp⟩
  | one c r o _ _ _ _ _ ih =>
    intro x t h
    cases o with
    | none => cases h
    | some o => cases h; have := ih _ _ rfl; exact ⟨this.1.trans (List.suffix_cons _ _), by simp; omega⟩
  | esc c r o _ _ ih =>
    intro x t h
    cases o with
    | none => cases h
    | some o => cases h; have := ih _ _ rfl; exact ⟨(this.1.trans (List.suffix_cons _ _)).trans (List.suffix_cons _ _), by simp; omega⟩
  | uni c0 c1 c2 c3 v r o _ _ _ _ ih =>
    intro x t h
    cases o with
    | none => cases h
    | some o => cases h; have := ih _ _ rfl; exact ⟨this.1.trans (List.suffix_append [92, 117, c0, c1, c2, c3] r), by simp; omega⟩

/-- One byte as it is written in a text. -/
def jsc (c : UInt8) : List UInt8 :=
  if c = 34 ∨ c = 92 then [92, c] else if c = 60 then [92, 117, 48, 48, 51, 99] else if c = 62 then [92, 117, 48, 48, 51, 101] else if c = 38 then [92, 117, 48, 48, 50, 54] else [c]
def jsb (s : List UInt8) : List UInt8 := s.flatMap jsc
/-- A text's bytes may be shown. -/
def Plain (s : List UInt8) : Prop := ∀ c, c ∈ s → 32 ≤ c.toNat ∧ c.toNat ≤ 126
theorem hexc_lit {l : List UInt8} (h : (l.all fun c => decide ((48 ≤ c.toNat ∧ c.toNat ≤ 57) ∨ (97 ≤ c.toNat ∧ c.toNat ≤ 102))) = true) : ∀ c, c ∈ l → hexc c := fun c hc => by
  have := List.all_eq_true.1 h c hc
  simpa [hexc] using this
theorem jsc_cases (c : UInt8) (hc : 32 ≤ c.toNat ∧ c.toNat ≤ 126) :
    ((c = 34 ∨ c = 92) ∧ jsc c = [92, c]) ∨ (∃ c0 c1 c2 c3, jsc c = [92, 117, c0, c1, c2, c3] ∧ (∀ d, d ∈ [c0, c1, c2, c3] → hexc d) ∧ hval [c0, c1, c2, c3] = c.toNat) ∨ (c ≠ 34 ∧ c ≠ 92 ∧ jsc c = [c]) := by
  unfold jsc
  by_cases h1 : c = 34 ∨ c = 92
  · rw [if_pos h1]; exact .inl ⟨h1, rfl⟩
  · rw [if_neg h1]
    by_cases h2 : c = 60
    · rw [if_pos h2]; subst h2; exact .inr (.inl ⟨_, _, _, _, rfl, hexc_lit (by decide), by decide⟩)
    · rw [if_neg h2]
      by_cases h3 : c = 62
      · rw [if_pos h3]; subst h3; exact .inr (.inl ⟨_, _, _, _, rfl, hexc_lit (by decide), by decide⟩)
      · rw [if_neg h3]
        by_cases h4 : c = 38
        · rw [if_pos h4]; subst h4; exact .inr (.inl ⟨_, _, _, _, rfl, hexc_lit (by decide), by decide⟩)
        · rw [if_neg h4]; exact .inr (.inr ⟨fun h => h1 (.inl h), fun h => h1 (.inr h), rfl⟩)
theorem JT_whole (t : List UInt8) : ∀ s, Plain s → JT (jsb s ++ 34 :: t) (some (s, t))
  | [], _ => .stop t
  | c :: s, h => by
    have ih := JT_whole t s fun d hd => h d (by simp [hd])
    have hc := h c (by simp)
    have e : jsb (c :: s) ++ 34 :: t = jsc c ++ (jsb s ++ 34 :: t) := by simp [jsb]
    rw [e]
    rcases jsc_cases c hc with ⟨h1, h2⟩ | ⟨c0, c1, c2, c3, h2, h3, h4⟩ | ⟨h1, h3, h2⟩
    · rw [h2]; exact .esc c _ _ h1 ih
    · rw [h2]; exact .uni c0 c1 c2 c3 c _ _ h3 h4 (by omega) ih
    · rw [h2]; exact .one c _ _ hc.1 (by omega) h1 h3 ih
theorem JT_cut : ∀ s, Plain s → ∀ n, n ≤ (jsb s).length → JT ((jsb s).take n) none
  | [], _, n, _ => by simp [jsb]; exact .nil
  | c :: s, h, n, hn => by
    have ih := JT_cut s fun d hd => h d (by simp [hd])
    have hc := h c (by simp)
    have e : jsb (c :: s) = jsc c ++ jsb s := by simp [jsb]
    rw [e] at hn ⊢
    rcases jsc_cases c hc with ⟨h1, h2⟩ | ⟨c0, c1, c2, c3, h2, h3, h4⟩ | ⟨h1, h3, h2⟩
    · rw [h2] at hn ⊢
      match n, hn with
      | 0, _ => exact .nil
      | 1, _ => exact .cut
      | n + 2, hn => exact .esc c _ none h1 (ih n (by simpa using hn))
    · rw [h2] at hn ⊢
      match n, hn with
      | 0, _ => exact .nil
      | 1, _ => exact .cut
      | 2, _ => exact .cutu _ (by simp)
      | 3, _ => exact .cutu [c0] (by simp)
      | 4, _ => exact .cutu [c0, c1] (by simp)
      | 5, _ => exact .cutu [c0, c1, c2] (by simp)
      | n + 6, hn => exact .uni c0 c1 c2 c3 c _ none h3 h4 (by omega) (ih n (by simpa using hn))
    · rw [h2] at hn ⊢
      match n, hn with
      | 0, _ => exact .nil
      | n + 1, hn => exact .one c _ none hc.1 (by omega) h1 h3 (ih n (by simpa using hn))
end Go.Proofs.YtppjcnaffphakaaGreatDoor
