/- Addresses: what the reader of addresses computes, on lists; the parts' own law. -/
import Derived.Test.YtdgnjngbheecnaaIpH
set_option linter.unusedVariables false
set_option linter.unusedSimpArgs false
set_option maxRecDepth 100000
namespace Go.Proofs.Ytdgnjngbheecnaa
open Go Go.Den Go.Proofs

/-- Four numbers, sign by sign. -/
def v4 : List UInt8 → Nat → Nat → Nat → Bool
  | [], _, _, pos => decide (3 ≤ pos)
  | c :: r, val, dig, pos => if dgB c = true then (if dig = 1 ∧ val = 0 then false else if 255 < val * 10 + (c.toNat - 48) then false else v4 r (val * 10 + (c.toNat - 48)) (dig + 1) pos) else if c = 46 then (if dig = 0 ∨ r = [] then false else if pos = 3 then false else v4 r 0 0 (pos + 1)) else false
def p4 (s : List UInt8) : Bool := v4 s 0 0 0
/-- How an address of eight ends, f groups missing. -/
def fin6 (f : Nat) (ell : Bool) : Bool := if 0 < f then ell else !ell
def off6 (s : List UInt8) : Nat := (s.takeWhile hxB).length
/-- Eight groups, f of them missing. -/
def p6 : Nat → List UInt8 → Bool → Bool
  | 0, s, ell => decide (s = []) && !ell
  | f + 1, s, ell => if off6 s = 0 ∨ 4 < off6 s then false else
    match s.drop (off6 s) with
    | [] => fin6 f ell
    | c :: r => if c = 46 then (if ell = false ∧ f ≠ 1 then false else if f = 0 then false else p4 s && fin6 (f - 1) ell) else if c ≠ 58 then false else
      match r with
      | [] => false
      | d :: r2 => if d = 58 then (if ell = true then false else if r2 = [] then fin6 f true else p6 f r2 true) else p6 f (d :: r2) ell
/-- An address of eight groups, without a zone. -/
def q6 (s : List UInt8) : Bool := if s.take 2 = [58, 58] then (if s.drop 2 = [] then true else p6 8 (s.drop 2) true) else p6 8 s false
/-- The whole reader: the first of three signs decides. -/
def ipGo (l : List UInt8) : List UInt8 → Bool
  | [] => false
  | c :: r => if c = 46 then p4 l else if c = 58 then q6 l else if c = 37 then false else ipGo l r
def ipOk (l : List UInt8) : Bool := ipGo l l

theorem parts_snd (c : UInt8) (x : List UInt8) (hx : c ∉ x) : ∀ s : List (List UInt8) × List UInt8, x.foldl (spStep c) s = (s.1, s.2 ++ x) := by
  induction x with
  | nil => intro s; simp
  | cons y x ih =>
    intro s
    have hy : ¬ y = c := fun h => hx (by simp [h])
    rw [List.foldl_cons, ih (fun h => hx (by simp [h]))]
    simp [spStep, hy]
theorem parts_one (c : UInt8) (x : List UInt8) (hx : c ∉ x) : parts c x = [x] := by simp [parts, spSt, parts_snd c x hx]
theorem spSt_from (c : UInt8) (l : List UInt8) : ∀ (a : List (List UInt8)) , l.foldl (spStep c) (a, []) = (a ++ (spSt c l).1, (spSt c l).2) := by
  have : ∀ (l : List UInt8) (a : List (List UInt8)) (s : List (List UInt8) × List UInt8), l.foldl (spStep c) (a ++ s.1, s.2) = (a ++ (l.foldl (spStep c) s).1, (l.foldl (spStep c) s).2) := by
    intro l a
    induction l with
    | nil => intro s; simp
    | cons y l ih =>
      intro s
      rw [List.foldl_cons, List.foldl_cons, ← ih]
      congr 1
      unfold spStep
      split <;> simp
  intro a
  simpa [spSt] using this l a ([], [])
theorem parts_cons (c : UInt8) (x r : List UInt8) (hx : c ∉ x) : parts c (x ++ c :: r) = x :: parts c r := by
  have h1 : spSt c (x ++ c :: r) = ([x] ++ (spSt c r).1, (spSt c r).2) := by
    rw [spSt, List.foldl_append, parts_snd c x hx, List.foldl_cons]
    have : spStep c (([] : List (List UInt8)), [] ++ x) c = ([x], []) := by simp [spStep]
    rw [this, spSt_from]
  simp [parts, h1]
/-- A text is its first part alone, or goes on. -/
theorem parts_cases (c : UInt8) (s : List UInt8) : (c ∉ s ∧ parts c s = [s]) ∨ ∃ x r, c ∉ x ∧ s = x ++ c :: r ∧ parts c s = x :: parts c r := by
  by_cases h : c ∈ s
  · obtain ⟨x, r, hs, hx⟩ := List.eq_append_cons_of_mem h
    exact .inr ⟨x, r, hx, hs, by rw [hs, parts_cons c x r hx]⟩
  · exact .inl ⟨h, parts_one c s h⟩
end Go.Proofs.Ytdgnjngbheecnaa
