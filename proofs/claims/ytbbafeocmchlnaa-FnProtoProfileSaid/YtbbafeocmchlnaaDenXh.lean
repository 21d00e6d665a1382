/- The library: contracts of functions over denoted values (X). -/
import Derived.Test.YtbbafeocmchlnaaDenXg
set_option linter.unusedVariables false
set_option linter.unusedSimpArgs false
set_option linter.unusedSectionVars false
set_option linter.unnecessarySimpa false
namespace Go.Den
open Go

/-- What reads something off the front of some bytes. -/
abbrev Dec := List UInt8 → Option (Value × List UInt8)
def decs : List Dec → List UInt8 → Option (List Value × List UInt8)
  | [], r => some ([], r)
  | d :: ds, r => match d r with
    | some (v, r') => match decs ds r' with
      | some (vs, r'') => some (v :: vs, r'')
      | none => none
    | none => none
/-- Reads just these bytes, as this; not of fewer. -/
structure Ex {α : Type} (d : List UInt8 → Option (α × List UInt8)) (w : List UInt8) (v : α) : Prop where
  out : ∀ rest, d (w ++ rest) = some (v, rest)
  cut : ∀ p, p <+: w → p.length < w.length → d p = none
theorem Ex.nil : Ex (decs []) [] [] := ⟨fun rest => rfl, fun p _ h => absurd h (by simp)⟩
theorem Ex.cons {d : Dec} {ds : List Dec} {w W : List UInt8} {v : Value} {vs : List Value} (h : Ex d w v) (h' : Ex (decs ds) W vs) : Ex (decs (d :: ds)) (w ++ W) (v :: vs) := by
  refine ⟨fun rest => ?_, fun p hp hl => ?_⟩
  · rw [List.append_assoc, decs, h.out]
    simp only [h'.out]
  · rw [decs]
    rcases Nat.lt_or_ge p.length w.length with h1 | h1
    · have : p <+: w := List.prefix_of_prefix_length_le hp (List.prefix_append _ _) (Nat.le_of_lt h1)
      rw [h.cut p this h1]
    · have hw : w <+: p := List.prefix_of_prefix_length_le (List.prefix_append _ _) hp h1
      obtain ⟨q, rfl⟩ := hw
      rw [h.out]
      have hq : q <+: W := by
        obtain ⟨t, ht⟩ := hp
        rw [List.append_assoc] at ht
        exact ⟨t, List.append_cancel_left ht⟩
      simp only [h'.cut q hq (by simp at hl; omega)]
theorem Ex.of_take {α : Type} {d : List UInt8 → Option (α × List UInt8)} {w : List UInt8} {v : α} (h : Ex d w v) {n : Nat} (hn : n < w.length) : d (w.take n) = none := h.cut _ (List.take_prefix _ _) (by simp; omega)

/-- What a function that decodes into a block leaves. -/
def DecOut (t : TypeId) (h : List Blk) (R : Rd) (xb n : Nat) (F : List Value → List DV) (o : Option (List Value × List UInt8)) (v : DV) (h' : List Blk) : Prop :=
  match o with
  | some (vs, r) => v = .p .nilIface ∧ ∃ R' l', RdSX xb (.cells n [.agg (F vs)]) h' R' r l' ∧ RdX xb h h' R R'
  | none => (∃ x, v = .iface t x) ∧ ∃ R' r' l' X, RdSX xb X h' R' r' l' ∧ RdX xb h h' R R'
end Go.Den
