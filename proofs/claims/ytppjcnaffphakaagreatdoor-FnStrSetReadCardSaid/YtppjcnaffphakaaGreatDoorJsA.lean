/- JSON: lists of numbers, plainly. -/
import Derived.Test.YtppjcnaffphakaaGreatDoorLibE
set_option linter.unusedVariables false
set_option linter.unusedSimpArgs false
set_option maxRecDepth 100000
namespace Go.Proofs.YtppjcnaffphakaaGreatDoor
open Go Go.Den

/-- Blanks; digits. -/
def isB (c : UInt8) : Bool := c == 32 || c == 9 || c == 10 || c == 13
def isD (c : UInt8) : Bool := decide (48 ≤ c.toNat) && decide (c.toNat ≤ 57)
def nb (r : List UInt8) : Nat := (r.takeWhile isB).length
def ndg (r : List UInt8) : Nat := (r.takeWhile isD).length
theorem nb_le (r : List UInt8) : nb r ≤ r.length := by
  have := List.takeWhile_prefix (l := r) isB
  exact this.length_le
theorem ndg_le (r : List UInt8) : ndg r ≤ r.length := (List.takeWhile_prefix (l := r) isD).length_le
/-- How long the number is that stands there. -/
def numK (r : List UInt8) : Option Nat :=
  let s := if r.head? = some 45 then 1 else 0
  if (r.drop s).head? = some 48 then some (s + 1) else if ndg (r.drop s) = 0 then none else some (s + ndg (r.drop s))
/-- The signs of a list of numbers. -/
def numB (c : UInt8) : Bool := isD c || c == 45 || c == 44 || c == 32 || c == 10 || c == 93
/-- Elements: each one's text, and what follows the list. -/
def elems : Nat → List UInt8 → Option (List (List UInt8) × List UInt8)
  | 0, _ => none
  | f + 1, r =>
    let r1 := r.drop (nb r)
    match numK r1 with
    | none => none
    | some k =>
      let r2 := r1.drop k
      let r3 := r2.drop (nb r2)
      match r3 with
      | [] => none
      | c :: r4 => if c = 93 then some ([r1.take k], r4) else if c = 44 then (elems f r4).map fun x => (r1.take k :: x.1, x.2) else none
theorem takeWhile_app {p : UInt8 → Bool} : ∀ {a t : List UInt8}, (∀ c, c ∈ a → p c = true) → (∀ c, t.head? = some c → p c = false) → ((a ++ t).takeWhile p) = a
  | [], [], _, _ => rfl
  | [], c :: t, _, h => by simp [List.takeWhile_cons, h c rfl]
  | x :: a, t, h, h' => by
    rw [List.cons_append, List.takeWhile_cons, h x (by simp), if_pos rfl, takeWhile_app (fun c hc => h c (by simp [hc])) h']
theorem nb_app {a t : List UInt8} (h : ∀ c, c ∈ a → isB c = true) (h' : ∀ c, t.head? = some c → isB c = false) : nb (a ++ t) = a.length := by rw [nb, takeWhile_app h h']
theorem ndg_app {a t : List UInt8} (h : ∀ c, c ∈ a → isD c = true) (h' : ∀ c, t.head? = some c → isD c = false) : ndg (a ++ t) = a.length := by rw [ndg, takeWhile_app h h']
/-- Only signs of lists of numbers. -/
def numT (r : List UInt8) : Prop := ∀ c, c ∈ r → numB c = true
theorem numT.drop {r : List UInt8} (h : numT r) (n : Nat) : numT (r.drop n) := fun c hc => h c (List.mem_of_mem_drop hc)
theorem numT.head {r : List UInt8} (h : numT r) {c : UInt8} (hc : r.head? = some c) : numB c = true := h c (List.mem_of_mem_head? hc)
/-- How far the number's reader goes. -/
def numA (r : List UInt8) : Nat := match numK r with
  | some k => k
  | none => if r.head? = some 45 then 1 else 0
theorem numK_le {r : List UInt8} {k : Nat} (h : numK r = some k) : k ≤ r.length ∧ 0 < k := by
  unfold numK at h
  have hs : (if r.head? = some 45 then 1 else 0) ≤ r.length := by
    split
    · rename_i h1
      cases r with
      | nil => cases h1
      | cons c r => simp
    · omega
  generalize (if r.head? = some 45 then 1 else 0) = s at h hs
  dsimp only at h
  split at h
  · rename_i h1
    cases h
    have : (r.drop s) ≠ [] := fun h2 => by rw [h2] at h1; cases h1
    have := List.length_pos_iff.2 this
    simp at this
    omega
  · split at h
    · cases h
    · cases h
      have := ndg_le (r.drop s)
      simp at this
      omega
end Go.Proofs.YtppjcnaffphakaaGreatDoor
