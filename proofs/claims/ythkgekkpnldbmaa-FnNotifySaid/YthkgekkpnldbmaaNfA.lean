/- Configurations of notifications: what steps make, as lists; the plain law. -/
import Derived.Test.YthkgekkpnldbmaaNsA
set_option linter.unusedVariables false
set_option linter.unusedSimpArgs false
set_option maxRecDepth 100000
namespace Go.Proofs.Ythkgekkpnldbmaa
open Go Go.Den Go.Proofs

/-- A notice. -/
structure N where
  k : Int
  a : List UInt8
  b : List UInt8
  c : List UInt8
  d : List UInt8
  e : List UInt8
  ev : List ByteArray
  p : List ByteArray
  s : List ByteArray
deriving DecidableEq
/-- Its ARN. -/
def N.ar (n : N) : List (List UInt8) := [n.a, n.b, n.c, n.d, n.e]
def N.tx (n : N) : List UInt8 := [97, 114, 110, 58] ++ (n.a ++ 58 :: (n.b ++ 58 :: (n.c ++ 58 :: (n.d ++ 58 :: n.e))))
structure Good (n : N) : Prop where
  k0 : 0 ≤ n.k
  k3 : n.k < 3
  ar : ∀ x, x ∈ n.ar → (58 : UInt8) ∉ x ∧ x.length ≤ 20
  ev : n.ev.Nodup
  ev4 : n.ev.length ≤ 4
  p1 : n.p.length ≤ 1
  s1 : n.s.length ≤ 1
  p0 : ∀ x ∈ n.p, x ≠ ⟨#[]⟩
  s0 : ∀ x ∈ n.s, x ≠ ⟨#[]⟩
  pz : ∀ x ∈ n.p, x.size ≤ 100
  sz : ∀ x ∈ n.s, x.size ≤ 100
theorem colon_inj {a b r r' : List UInt8} (ha : (58 : UInt8) ∉ a) (hb : (58 : UInt8) ∉ b) (h : a ++ 58 :: r = b ++ 58 :: r') : a = b ∧ r = r' := by
  induction a generalizing b with
  | nil =>
    cases b with
    | nil => simpa using h
    | cons y b => simp at h; exact absurd (by simp [h.1]) hb
  | cons x a ih =>
    cases b with
    | nil => simp at h; exact absurd (by simp [h.1]) ha
    | cons y b =>
      simp at h
      obtain ⟨h1, h2⟩ := h
      obtain ⟨h3, h4⟩ := ih (fun h => ha (by simp [h])) (fun h => hb (by simp [h])) h2
      exact ⟨by rw [h1, h3], h4⟩
theorem tx_inj {x n : N} (hx : Good x) (hn : Good n) : x.tx = n.tx ↔ x.ar = n.ar := by
  have gx := fun y hy => (hx.ar y hy).1
  have gn := fun y hy => (hn.ar y hy).1
  simp only [N.ar, List.mem_cons, List.not_mem_nil, or_false, forall_eq_or_imp, forall_eq] at gx gn
  constructor
  · intro h
    simp only [N.tx, List.append_cancel_left_eq] at h
    obtain ⟨h1, h⟩ := colon_inj gx.1 gn.1 h
    obtain ⟨h2, h⟩ := colon_inj gx.2.1 gn.2.1 h
    obtain ⟨h3, h⟩ := colon_inj gx.2.2.1 gn.2.2.1 h
    obtain ⟨h4, h⟩ := colon_inj gx.2.2.2.1 gn.2.2.2.1 h
    simp only [N.ar, h1, h2, h3, h4, h]
  · intro h
    simp only [N.ar, List.cons.injEq, and_true] at h
    simp only [N.tx, h]
/-- Those of a list that another one has. -/
def keepIn (a b : List ByteArray) : List ByteArray := setOf (keepT a b true)
def isK (x n : N) : Bool := decide (x.k = n.k) && decide (x.ar = n.ar)
def isOne (x n : N) : Bool := decide (setOf x.ev = setOf n.ev) && (decide (fstOf x.p = fstOf n.p) && decide (fstOf x.s = fstOf n.s))
def isN (x n : N) : Bool := isK x n && isOne x n
/-- What a step makes of a list: the list, ok, none, said. -/
def nDo (l : List N) (kind : Int) (n : N) : List N × Bool × Bool × Bool :=
  if kind = 0 then (if l.any (fun x => isK x n && decide (0 < (keepIn x.ev n.ev).length)) = true then (l, false, false, false) else (l ++ [n], true, false, true))
  else if kind = 1 then (l.filter (fun x => !isK x n), true, false, true)
  else (l.filter (fun x => !isN x n), decide (0 < l.countP fun x => isN x n), decide (l.countP (fun x => isN x n) = 0), decide (l.countP (fun x => isN x n) < 2))
/-- The first one of its ARN, events and filters. -/
def oneAt (l : List N) (n : N) : Option Nat := l.findIdx? fun x => decide (x.tx = n.tx) && nEq x.ev x.p x.s n.ev (fstOf n.p) (fstOf n.s)
/-- What the configuration makes of the list of a kind: the list, ok, none. -/
def iDo (l : List N) (kind : Int) (n : N) : List N × Bool × Bool :=
  if kind = 0 then (l ++ [n], true, false)
  else if kind = 1 then (l.filter (fun x => !decide (x.tx = n.tx)), true, false)
  else match oneAt l n with
    | some i => (l.eraseIdx i, true, false)
    | none => (l, false, true)
/-- Those of a kind. -/
def ofK (k : Int) (l : List N) : List N := l.filter fun x => decide (x.k = k)
theorem nEq_one {x n : N} (hx : Good x) (hn : Good n) : nEq x.ev x.p x.s n.ev (fstOf n.p) (fstOf n.s) = isOne x n := by
  rw [nEq_spec hx.ev hn.ev hx.p1 hx.s1 hx.p0 hx.s0]
  rfl
theorem find_erase {p : N → Bool} : ∀ l : List N, l.countP p = 1 → ∃ i, l.findIdx? p = some i ∧ l.eraseIdx i = l.filter fun x => !p x := by
  intro l
  induction l with
  | nil => intro h; simp at h
  | cons x l ih =>
    intro h
    cases hx : p x
    · rw [List.countP_cons_of_neg (by simp [hx])] at h
      obtain ⟨i, h1, h2⟩ := ih h
      exact ⟨i + 1, by simp [List.findIdx?_cons, hx, h1], by simp [hx, h2]⟩
    · rw [List.countP_cons_of_pos hx] at h
      have h0 : l.countP p = 0 := by omega
      rw [List.countP_eq_zero] at h0
      refine ⟨0, by simp [List.findIdx?_cons, hx], ?_⟩
      simp only [List.eraseIdx_cons_zero, List.filter_cons, hx, Bool.not_true, Bool.false_eq_true, if_false]
      exact (List.filter_eq_self.2 fun y hy => by simpa using h0 y hy).symm
theorem find_none {p : N → Bool} (l : List N) (h : l.countP p = 0) : l.findIdx? p = none ∧ l.filter (fun x => !p x) = l := by
  rw [List.countP_eq_zero] at h
  exact ⟨List.findIdx?_eq_none_iff.2 fun y hy => by simpa using h y hy, List.filter_eq_self.2 fun y hy => by simpa using h y hy⟩
/-- A step: the configuration's list of the notice's kind is that of the reference. -/
theorem step_law (l : List N) (kind : Int) (n : N) (hl : ∀ x ∈ l, Good x) (hn : Good n) (hk : kind = 0 ∨ kind = 1 ∨ kind = 2) (hs : (nDo l kind n).2.2.2 = true) :
    iDo (ofK n.k l) kind n = (ofK n.k (nDo l kind n).1, (nDo l kind n).2.1, (nDo l kind n).2.2.1) ∧ ∀ k, k ≠ n.k → ofK k (nDo l kind n).1 = ofK k l := by
  have hk' : ∀ x ∈ ofK n.k l, Good x ∧ x.k = n.k := fun x hx => by
    simp only [ofK, List.mem_filter, decide_eq_true_eq] at hx
    exact ⟨hl x hx.1, hx.2⟩
  rcases hk with rfl | rfl | rfl
  · simp only [nDo, if_true] at hs ⊢
    split at hs
    · simp at hs
    · rename_i hany
      rw [if_neg hany]
      refine ⟨?_, fun k hk => ?_⟩
      · simp [iDo, ofK]
      · have : ¬ n.k = k := fun h => hk h.symm
        simp [ofK, this]
  · have e1 : ¬ ((1 : Int) = 0) := by decide
    simp only [nDo, e1, if_false, if_true]
    refine ⟨?_, fun k hk => ?_⟩
    · simp only [iDo, e1, if_false, if_true, Prod.mk.injEq, and_true]
      rw [ofK, ofK, List.filter_filter, List.filter_filter]
      refine List.filter_congr fun x hx => ?_
      cases h : decide (x.k = n.k)
      · simp
      · simp only [Bool.and_true]
        rw [Bool.eq_iff_iff]
        simp [isK, tx_inj (hl x hx) hn, of_decide_eq_true h]
    · rw [ofK, ofK, List.filter_filter]
      refine List.filter_congr fun x hx => ?_
      cases h : decide (x.k = k)
      · simp
      · have : ¬ x.k = n.k := fun h2 => hk (by rw [← of_decide_eq_true h, h2])
        simp [isK, this]
  · have e2 : ¬ ((2 : Int) = 0) := by decide
    have e3 : ¬ ((2 : Int) = 1) := by decide
    simp only [nDo, e2, e3, if_false, decide_eq_true_eq] at hs ⊢
    have hp : ∀ x ∈ ofK n.k l, (decide (x.tx = n.tx) && nEq x.ev x.p x.s n.ev (fstOf n.p) (fstOf n.s)) = isN x n := fun x hx => by
      obtain ⟨h1, h2⟩ := hk' x hx
      rw [nEq_one h1 hn, isN, isK]
      have : decide (x.tx = n.tx) = (decide (x.k = n.k) && decide (x.ar = n.ar)) := by
        rw [Bool.eq_iff_iff]; simp [tx_inj h1 hn, h2]
      rw [this]
    have hfind : oneAt (ofK n.k l) n = (ofK n.k l).findIdx? fun x => isN x n := by
      rw [oneAt]
      generalize ofK n.k l = L at hp ⊢
      induction L with
      | nil => rfl
      | cons x L ih => simp only [List.findIdx?_cons, hp x (by simp), ih fun y hy => hp y (by simp [hy])]
    have hcnt : (ofK n.k l).countP (fun x => isN x n) = l.countP fun x => isN x n := by
      rw [ofK, List.countP_filter]
      refine List.countP_congr fun x hx => ?_
      simp [isN, isK]
      intro h _ _
      exact h
    have hfil : ofK n.k (l.filter fun x => !isN x n) = (ofK n.k l).filter fun x => !isN x n := by
      rw [ofK, ofK, List.filter_filter, List.filter_filter]
      exact List.filter_congr fun x hx => Bool.and_comm _ _
    refine ⟨?_, fun k hk => ?_⟩
    · simp only [iDo, e2, e3, if_false, hfind]
      rcases (show l.countP (fun x => isN x n) = 0 ∨ l.countP (fun x => isN x n) = 1 by omega) with h | h
      · obtain ⟨h1, h2⟩ := find_none (p := fun x => isN x n) (ofK n.k l) (by rw [hcnt]; exact h)
        rw [h1, hfil, h2, h]; rfl
      · obtain ⟨i, h1, h2⟩ := find_erase (p := fun x => isN x n) (ofK n.k l) (by rw [hcnt]; exact h)
        rw [h1, hfil, ← h2, h]; rfl
    · rw [ofK, ofK, List.filter_filter]
      refine List.filter_congr fun x hx => ?_
      cases h : decide (x.k = k)
      · simp
      · have : ¬ x.k = n.k := fun h2 => hk (by rw [← of_decide_eq_true h, h2])
        simp [isN, isK, this]
end Go.Proofs.Ythkgekkpnldbmaa
