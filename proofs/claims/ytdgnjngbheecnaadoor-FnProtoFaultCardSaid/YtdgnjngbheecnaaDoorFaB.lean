/- Faults: texts without what stands ahead of them, or around them. -/
import Derived.Test.YtdgnjngbheecnaaDoorSpD
set_option linter.unusedVariables false
set_option linter.unusedSimpArgs false
set_option maxRecDepth 100000
namespace Go.Proofs.YtdgnjngbheecnaaDoor
open Go Go.Den Go.Proofs

/-- A byte that is no sign. -/
def bl (c : UInt8) : Bool := decide (c.toNat ≤ 32)
/-- A text without such bytes at its ends. -/
def tight (l : List UInt8) : List UInt8 := ((l.dropWhile bl).reverse.dropWhile bl).reverse
theorem dropWhile_skip {p q : List UInt8} (h : ∀ x ∈ p, bl x = true) : (p ++ q).dropWhile bl = q.dropWhile bl := by
  induction p with
  | nil => rfl
  | cons c t ih =>
    have hc := h c (by simp)
    rw [List.cons_append, List.dropWhile_cons, hc]
    exact ih fun x hx => h x (by simp [hx])
theorem dropWhile_all {p : List UInt8} (h : ∀ x ∈ p, bl x = true) : p.dropWhile bl = [] := by
  have := dropWhile_skip (q := []) h
  simpa using this
theorem tight_eq {p m q : List UInt8} (hp : ∀ x ∈ p, bl x = true) (hq : ∀ x ∈ q, bl x = true) (hm : m = [] ∨ ((∃ c t, m = c :: t ∧ bl c = false) ∧ ∃ c, m.getLast? = some c ∧ bl c = false)) : tight (p ++ (m ++ q)) = m := by
  unfold tight
  rw [dropWhile_skip hp]
  rcases hm with rfl | ⟨⟨c, t, rfl, hc⟩, d, hd, hd2⟩
  · rw [List.nil_append, dropWhile_all hq]; rfl
  · rw [List.cons_append, List.dropWhile_cons, hc]
    simp only [Bool.false_eq_true, if_false]
    rw [← List.cons_append, List.reverse_append, dropWhile_skip (by simpa using hq)]
    have : ∃ u, (c :: t).reverse = d :: u := by
      rw [List.getLast?_eq_head?_reverse] at hd
      cases hr : (c :: t).reverse with
      | nil => rw [hr] at hd; cases hd
      | cons x u => rw [hr] at hd; cases hd; exact ⟨u, rfl⟩
    obtain ⟨u, hu⟩ := this
    rw [hu, List.dropWhile_cons, hd2]
    simp only [Bool.false_eq_true, if_false]
    rw [← hu, List.reverse_reverse]
theorem tight_length (l : List UInt8) : (tight l).length ≤ l.length := by
  unfold tight
  have h1 : ((l.dropWhile bl).reverse.dropWhile bl).length ≤ (l.dropWhile bl).reverse.length := List.Sublist.length_le (List.dropWhile_sublist _)
  have h2 : (l.dropWhile bl).length ≤ l.length := List.Sublist.length_le (List.dropWhile_sublist _)
  simp at h1 ⊢
  omega

/-- The text behind what stands ahead of it. -/
def tpx (pre s : List UInt8) : List UInt8 := if s.take pre.length = pre then s.drop pre.length else s
theorem tpx_length (pre s : List UInt8) : (tpx pre s).length ≤ s.length := by
  unfold tpx; split <;> simp
theorem take_ne {pre s : List UInt8} (h : s.length < pre.length) : s.take pre.length ≠ pre := by
  intro e
  have := congrArg List.length e
  simp at this
  omega

theorem ok107 {G : Nat → DV} (h : List Blk) (s pre : List UInt8) (hs : s.length ≤ 140737488351232) (hp : pre.length ≤ 140737488351232) : Ok Tryd.prog G 107 [.p (.string (txt s)), .p (.string (txt pre))] h (.p (.bool (decide (s.take pre.length = pre)))) h := by
  refine Ok_by Tryd.func107 c107_ok r107_ok 16 rfl ?_
  by_cases hc : pre.length ≤ s.length
  · simp [c107, r107, hc]
  · have : decide (s.take pre.length = pre) = false := by simpa using take_ne (by omega)
    rw [this]
    simp [c107, r107, hc]
theorem ok88 {G : Nat → DV} (h : List Blk) (s pre : List UInt8) (hs : s.length ≤ 140737488351232) (hp : pre.length ≤ 140737488351232) : Ok Tryd.prog G 88 [.p (.string (txt s)), .p (.string (txt pre))] h (.p (.string (txt (tpx pre s)))) h := by
  refine Ok_by Tryd.func88 c88_ok r88_ok 11 rfl ?_
  simp [c88, r88]
  refine FF_by (ok107 h s pre hs hp) ?_
  simp
  refine CC_by (fun h1 => ?_) (fun h1 => ?_)
  · have h1 : s.take pre.length = pre := by simpa using h1
    have hle : pre.length ≤ s.length := by
      have := congrArg List.length h1
      simp at this; omega
    simp [hle, tpx, h1]
  · have h1 : ¬ s.take pre.length = pre := by simpa using h1
    simp [tpx, h1]
theorem ok61 {G : Nat → DV} (h : List Blk) (s pre : List UInt8) (hs : s.length ≤ 140737488351232) (hp : pre.length ≤ 140737488351232) : Ok Tryd.prog G 61 [.p (.string (txt s)), .p (.string (txt pre))] h (.p (.string (txt (tpx pre s)))) h := by
  refine Ok_by Tryd.func61 c61_ok r61_ok 6 rfl ?_
  simp [c61, r61]
  refine FF_by (ok88 h s pre hs hp) ?_
  simp

/-! A text without signs that are none at its ends. -/
theorem ok20 {G : Nat → DV} (h : List Blk) (s : List UInt8) (hs : s.length ≤ 140737488351232) : Ok Tryd.prog G 20 [.p (.string (txt s))] h (.p (.string (txt (tight s)))) h := by
  refine Ok_by Tryd.func20 c20_ok r20_ok 27 rfl ?_
  simp [c20, r20]
  refine VV_fam (fun a : List UInt8 => ⟨fr 28 [(0, .p (.string (txt a)))], h⟩)
    (fun a => ∃ p, s = p ++ a ∧ ∀ y ∈ p, bl y = true) (fun a => a.length) s ⟨[], by simp, by simp⟩ (Wk.fits (by simp)) ?_
  rintro a ⟨p, hs1, hp⟩ B hb he hr
  have hla : a.length ≤ s.length := by rw [hs1]; simp
  rcases a with _ | ⟨c, t⟩
  · simp
    refine he _ _ ?_
    simp
    refine VV_fam (fun _ : Unit => ⟨fr 28 [(0, .p (.string (txt [])))], h⟩) (fun _ => True) (fun _ => 0) () trivial (Wk.fits (by simp)) ?_
    intro _ _ B2 hb2 he2 hr2
    simp
    refine he2 _ _ ?_
    have : tight s = [] := by
      rw [hs1]
      exact tight_eq (q := []) (m := []) hp (by simp) (.inl rfl)
    simp [this]
  · simp only [List.length_cons] at hla
    have hpos : (0 : Int) < (t.length : Int) + 1 := by omega
    cases hc : bl c with
    | true =>
      have hc' : (c.toNat : Int) ≤ 32 := by simp [bl] at hc; omega
      simp [byteD, hc', hpos]
      refine ⟨by omega, ?_⟩
      refine hb _ t (Wk.fits (by simp)) ⟨p ++ [c], by simp [hs1], ?_⟩ (by simp)
      intro y hy
      rcases List.mem_append.1 hy with hy | hy
      · exact hp y hy
      · rw [List.mem_singleton.1 hy]; exact hc
    | false =>
      have hc' : ¬ (c.toNat : Int) ≤ 32 := by simp [bl] at hc; omega
      simp [byteD, hc', hpos]
      refine he _ _ ?_
      simp
      refine VV_fam (fun a : List UInt8 => ⟨fr 28 [(0, .p (.string (txt a)))], h⟩)
        (fun m => ∃ q, c :: t = m ++ q ∧ ∀ y ∈ q, bl y = true) (fun m => m.length) (c :: t) ⟨[], by simp, by simp⟩ (Wk.fits (by simp)) ?_
      rintro m ⟨q, hm, hq⟩ B2 hb2 he2 hr2
      have hlm : m.length ≤ t.length + 1 := by
        have := congrArg List.length hm
        simp at this; omega
      rcases List.eq_nil_or_concat m with rfl | ⟨m0, d, rfl⟩
      · simp
        refine he2 _ _ ?_
        have : tight s = [] := by
          rw [hs1, hm]
          exact tight_eq hp hq (.inl rfl)
        simp [this]
      · have hne : ¬ (m0 ++ [d] = []) := by simp
        simp only [List.concat_eq_append] at hm hlm ⊢
        simp at hlm
        have hw : IntKind.i64.wrap (m0.length : Int) = (m0.length : Int) := by simp [IntKind.wrap, IntKind.bits, IntKind.signed]; omega
        cases hd : bl d with
        | true =>
          have hd' : (d.toNat : Int) ≤ 32 := by simp [bl] at hd; omega
          simp [byteD, hd', hw]
          refine hb2 _ m0 (Wk.fits (by simp)) ⟨d :: q, by simp [hm], ?_⟩ (by simp)
          intro y hy
          rcases List.mem_cons.1 hy with rfl | hy
          · exact hd
          · exact hq y hy
        | false =>
          have hd' : ¬ (d.toNat : Int) ≤ 32 := by simp [bl] at hd; omega
          simp [byteD, hd', hw]
          refine he2 _ _ ?_
          have : tight s = m0 ++ [d] := by
            rw [hs1, hm]
            refine tight_eq hp hq (.inr ⟨?_, d, by simp, hd⟩)
            cases m0 with
            | nil => simp at hm; exact ⟨d, [], rfl, hd⟩
            | cons x u =>
              rw [List.cons_append, List.cons_append] at hm
              injection hm with h1 h2
              exact ⟨x, u ++ [d], rfl, h1 ▸ hc⟩
          simp [this]

/-- Is a text of printable signs, without a blank at its ends? -/
def okc (c : UInt8) : Bool := decide (32 ≤ c.toNat) && decide (c.toNat < 127)
def plainB (s : List UInt8) : Bool := s.all okc && decide (tight s = s)
theorem ok7 {G : Nat → DV} (h : List Blk) (s : List UInt8) (hs : s.length ≤ 140737488351232) : Ok Tryd.prog G 7 [.p (.string (txt s))] h (.p (.bool (plainB s))) h := by
  refine Ok_by Tryd.func7 c7_ok r7_ok 23 rfl ?_
  simp [c7, r7]
  refine VV_fam (fun i : Nat => ⟨fr 24 [(0, .p (.string (txt s))), (5, .p (.int .i64 s.length)), (6, .p (.int .i64 i))], h⟩)
    (fun i => i ≤ s.length ∧ (s.take i).all okc = true) (fun i => s.length - i) 0 ⟨Nat.zero_le _, by simp⟩ (Wk.fits (by simp)) ?_
  rintro i ⟨hi, hal⟩ B hb he hr
  simp
  refine CC_by (fun h1 => ?_) (fun h1 => ?_)
  · have h1 : i < s.length := by simpa using h1
    have hw : IntKind.i64.wrap ((i : Int) + 1) = ((i + 1 : Nat) : Int) := wrap_succ (n := s.length) h1 (by omega)
    have ht : s.take (i + 1) = s.take i ++ [s[i]] := by rw [List.take_add_one, List.getElem?_eq_getElem h1]; rfl
    cases ho : okc s[i] with
    | true =>
      have ho' : ¬ (s[i].toNat : Int) < 32 ∧ ¬ 127 ≤ (s[i].toNat : Int) := by simp [okc] at ho; omega
      simp [h1, hw, byteD, ho'.1, ho'.2]
      refine hb _ (i + 1) (Wk.fits (by simp)) ⟨h1, by rw [ht, List.all_append, hal]; simp [ho]⟩ (by omega)
    | false =>
      have hf : plainB s = false := by
        have : s.all okc = false := by
          rw [Bool.eq_false_iff]
          intro hall
          rw [List.all_eq_true] at hall
          rw [hall s[i] (List.getElem_mem h1)] at ho
          cases ho
        simp [plainB, this]
      by_cases h32 : (s[i].toNat : Int) < 32
      · simp [h1, hw, byteD, h32]
        refine hr _ ?_
        simp [hf]
      · have h127 : 127 ≤ (s[i].toNat : Int) := by simp [okc] at ho; omega
        simp [h1, hw, byteD, h32, h127]
        refine hr _ ?_
        simp [hf]
  · have h1 : i = s.length := by simp at h1; omega
    subst h1
    rw [List.take_length] at hal
    simp
    refine he _ _ ?_
    simp
    refine FF_by (ok20 h s hs) ?_
    simp [plainB, hal]
end Go.Proofs.YtdgnjngbheecnaaDoor
