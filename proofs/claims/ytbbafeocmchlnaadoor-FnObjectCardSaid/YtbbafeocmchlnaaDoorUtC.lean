/- Letters: the first and the last one, blanks, a text without the blanks around it: to the sign. -/
import Derived.Test.YtbbafeocmchlnaaDoorUtB
import Derived.Test.YtbbafeocmchlnaaDoorDmE
set_option linter.unusedVariables false
set_option linter.unusedSimpArgs false
set_option maxRecDepth 100000
namespace Go.Proofs.YtbbafeocmchlnaaDoor
open Go Go.Den Go.Proofs

theorem ok19p (h : List Blk) (c : UInt8) (t : List UInt8) (hl : t.length ≤ 9223372036854775000) : OkR Tryd.prog GT 19 [.p (.string (txt (c :: t)))] h (RuP (c :: t) h) := by
  refine OkR_by Tryd.func19 c19_ok r19_ok 18 rfl ?_
  have hlt := c.toNat_lt
  have hw : IntKind.i32.wrap (c.toNat : Int) = c.toNat := by simp [IntKind.wrap, IntKind.bits, IntKind.signed]; omega
  have hpos : (0 : Int) < (t.length : Int) + 1 := by omega
  rcases Nat.lt_or_ge c.toNat 128 with a | a
  · have e : (c.toNat : Int) < 128 := by omega
    simp [c19, r19, byteD, e, hw, hpos]
    refine REr_by _ _ .refl ?_
    exact RuP.of 1 (HPre.refl _) (d1 a) rfl
  · have e : ¬ (c.toNat : Int) < 128 := by omega
    simp [c19, r19, byteD, e, hw, hpos]
    refine FF_byR (ok23p h c t a hl) ?_
    rintro v h' ⟨hp, rfl⟩
    simp
    refine REr_by _ _ .refl ?_
    exact ⟨hp, rfl⟩

/-- Is a letter a blank? -/
def spL : List Int := [9, 10, 11, 12, 13, 32, 133, 160, 5760, 8232, 8233, 8239, 8287, 12288]
def spB (r : Int) : Bool := decide (r ∈ spL) || (decide (8192 ≤ r) && decide (r ≤ 8202))
def SpP (r : Int) (h : List Blk) (v : DV) (h' : List Blk) : Prop := h' = h ∧ v = .p (.bool (spB r))
theorem ok20p {G : Nat → DV} (h : List Blk) (r : Int) : OkR Tryd.prog G 20 [.p (.int .i32 r)] h (SpP r h) := by
  refine OkR_by Tryd.func20 c20_ok r20_ok 24 rfl ?_
  simp [c20, r20]
  refine CC_by (fun e => ?_) (fun e => ?_)
  · have e : r = 9 := by simpa using e
    subst e
    simp
    exact REr_by _ _ .refl ⟨rfl, rfl⟩
  have e0 : r ≠ 9 := by simpa using e
  simp
  refine CC_by (fun e => ?_) (fun e => ?_)
  · have e : r = 10 := by simpa using e
    subst e
    simp
    exact REr_by _ _ .refl ⟨rfl, rfl⟩
  have e1 : r ≠ 10 := by simpa using e
  simp
  refine CC_by (fun e => ?_) (fun e => ?_)
  · have e : r = 11 := by simpa using e
    subst e
    simp
    exact REr_by _ _ .refl ⟨rfl, rfl⟩
  have e2 : r ≠ 11 := by simpa using e
  simp
  refine CC_by (fun e => ?_) (fun e => ?_)
  · have e : r = 12 := by simpa using e
    subst e
    simp
    exact REr_by _ _ .refl ⟨rfl, rfl⟩
  have e3 : r ≠ 12 := by simpa using e
  simp
  refine CC_by (fun e => ?_) (fun e => ?_)
  · have e : r = 13 := by simpa using e
    subst e
    simp
    exact REr_by _ _ .refl ⟨rfl, rfl⟩
  have e4 : r ≠ 13 := by simpa using e
  simp
  refine CC_by (fun e => ?_) (fun e => ?_)
  · have e : r = 32 := by simpa using e
    subst e
    simp
    exact REr_by _ _ .refl ⟨rfl, rfl⟩
  have e5 : r ≠ 32 := by simpa using e
  simp
  refine CC_by (fun e => ?_) (fun e => ?_)
  · have e : r = 133 := by simpa using e
    subst e
    simp
    exact REr_by _ _ .refl ⟨rfl, rfl⟩
  have e6 : r ≠ 133 := by simpa using e
  simp
  refine CC_by (fun e => ?_) (fun e => ?_)
  · have e : r = 160 := by simpa using e
    subst e
    simp
    exact REr_by _ _ .refl ⟨rfl, rfl⟩
  have e7 : r ≠ 160 := by simpa using e
  simp
  refine CC_by (fun e => ?_) (fun e => ?_)
  · have e : r = 5760 := by simpa using e
    subst e
    simp
    exact REr_by _ _ .refl ⟨rfl, rfl⟩
  have e8 : r ≠ 5760 := by simpa using e
  simp
  refine CC_by (fun e => ?_) (fun e => ?_)
  · have e : r = 8232 := by simpa using e
    subst e
    simp
    exact REr_by _ _ .refl ⟨rfl, rfl⟩
  have e9 : r ≠ 8232 := by simpa using e
  simp
  refine CC_by (fun e => ?_) (fun e => ?_)
  · have e : r = 8233 := by simpa using e
    subst e
    simp
    exact REr_by _ _ .refl ⟨rfl, rfl⟩
  have e10 : r ≠ 8233 := by simpa using e
  simp
  refine CC_by (fun e => ?_) (fun e => ?_)
  · have e : r = 8239 := by simpa using e
    subst e
    simp
    exact REr_by _ _ .refl ⟨rfl, rfl⟩
  have e11 : r ≠ 8239 := by simpa using e
  simp
  refine CC_by (fun e => ?_) (fun e => ?_)
  · have e : r = 8287 := by simpa using e
    subst e
    simp
    exact REr_by _ _ .refl ⟨rfl, rfl⟩
  have e12 : r ≠ 8287 := by simpa using e
  simp
  refine CC_by (fun e => ?_) (fun e => ?_)
  · have e : r = 12288 := by simpa using e
    subst e
    simp
    exact REr_by _ _ .refl ⟨rfl, rfl⟩
  have e13 : r ≠ 12288 := by simpa using e
  simp
  have hn : r ∉ spL := by simp [spL, e0, e1, e2, e3, e4, e5, e6, e7, e8, e9, e10, e11, e12, e13]
  have hn' : decide (r ∈ spL) = false := by simpa using hn
  rcases Decidable.em ((8192 : Int) ≤ r) with a | a
  · simp [a]
    refine REr_by _ _ .refl ?_
    exact ⟨rfl, by simp [spB, hn', a]⟩
  · simp [a]
    refine REr_by _ _ .refl ?_
    exact ⟨rfl, by simp [spB, hn', a]⟩

/-- What is told of a text's last letter, to the sign. -/
def RuQ (s : List UInt8) (h : List Blk) (v : DV) (h' : List Blk) : Prop := HPre h h' ∧ ∃ (r : Nat) (n : Nat), v = .tup [.p (.int .i32 (r : Int)), .p (.int .i64 (n : Int))] ∧ 1 ≤ n ∧ n ≤ s.length ∧ ((n = 1 ∧ r = 65533) ∨ Utf8.decode (txt (s.drop (s.length - n))) 0 = (r, n))
theorem dec_pos (s : ByteArray) (i : Nat) : 1 ≤ (Utf8.decode s i).2 := by
  unfold Utf8.decode
  dsimp only
  repeat' split
  all_goals simp
theorem dec_le (s : List UInt8) (hs : s ≠ []) : (Utf8.decode (txt s) 0).2 ≤ s.length := by
  have := List.length_pos_iff.2 hs
  rw [dec_unf]
  dsimp only [bad1]
  repeat' split
  all_goals simp_all
  all_goals omega
theorem ok21p (h : List Blk) (s : List UInt8) (hs : s ≠ []) (hl : s.length ≤ 2147483647) : OkR Tryd.prog GT 21 [.p (.string (txt s))] h (RuQ s h) := by
  refine OkR_by Tryd.func21 c21_ok r21_ok 50 rfl ?_
  obtain ⟨k, hk⟩ : ∃ k, s.length = k + 1 := ⟨s.length - 1, by have := List.length_pos_iff.2 hs; omega⟩
  have h0 : ((k : Int) + 1 == 0) = false := beq_eq_false_iff_ne.2 (by omega)
  have hks : k < s.length := by omega
  have w1 : IntKind.i64.wrap ((k : Int) + 1 - 1) = k := by simp [IntKind.wrap, IntKind.bits, IntKind.signed]; omega
  have w2 : IntKind.i64.wrap (k : Int) = k := by simp [IntKind.wrap, IntKind.bits, IntKind.signed]; omega
  have hg : s[k]? = some s[k] := List.getElem?_eq_getElem hks
  have hkl : (k : Int) < (k : Int) + 1 := by omega
  have hlt := s[k].toNat_lt
  have hw : IntKind.i32.wrap (s[k].toNat : Int) = s[k].toNat := by simp [IntKind.wrap, IntKind.bits, IntKind.signed]; omega
  have hlast : s.getLast? = some s[k] := by rw [List.getLast?_eq_getElem?, hk]; simp [hks]
  have hw4 : IntKind.i64.wrap ((k : Int) + 1 - 4) = (k : Int) + 1 - 4 := by simp [IntKind.wrap, IntKind.bits, IntKind.signed]; omega
  have hwk : IntKind.i64.wrap ((k : Int) - 1) = (k : Int) - 1 := by simp [IntKind.wrap, IntKind.bits, IntKind.signed]; omega
  rcases Nat.lt_or_ge s[k].toNat 128 with a | a
  · have e : (s[k].toNat : Int) < 128 := by omega
    simp [c21, r21, hk, h0, w1, w2, hg, hkl, byteD, hw, e]
    refine REr_by _ _ .refl ?_
    refine ⟨HPre.refl _, s[k].toNat, 1, rfl, by omega, by omega, .inr ?_⟩
    rw [hk, Nat.add_sub_cancel, List.drop_eq_getElem_cons hks]
    exact d1 a
  · have e : ¬ (s[k].toNat : Int) < 128 := by omega
    simp [c21, r21, hk, h0, w1, w2, hg, hkl, byteD, hw, e, hw4, hwk]
    have htake : s.take (k + 1) = s := by rw [← hk]; exact List.take_length
    have hlastHi : ∀ x ∈ s.drop (s.length - 1), 128 ≤ x.toNat := by
      have : s.drop (s.length - 1) = [s[k]] := by
        rw [hk, Nat.add_sub_cancel, List.drop_eq_getElem_cons hks, List.drop_of_length_le (by omega)]
      rw [this]
      simpa using a
    generalize hq : (if (k : Int) + 1 - 4 < 0 then (0 : Int) else (k : Int) + 1 - 4) = lim
    have hlim : 0 ≤ lim := by split at hq <;> omega
    refine VV_fam (fun m : Nat => ⟨fr 51 [(0, .p (.string (txt s))), (4, .p (.int .i64 ((k : Int) + 1))), (5, .p (.int .i64 ((m : Int) - 1))), (6, .p (.int .i64 lim))], h⟩)
      (fun m => m ≤ k) (fun m => m) k (Nat.le_refl _) (Wk.fits (by simp)) ?_
    intro m hm B hb he hr
    simp
    refine CC_by (fun h1 => ?_) (fun h1 => ?_)
    · have h1 : lim ≤ (m : Int) - 1 := by simpa using h1
      obtain ⟨j, rfl⟩ : ∃ j, m = j + 1 := ⟨m - 1, by omega⟩
      have hj : j < s.length := by omega
      have gj : s[j]? = some s[j] := List.getElem?_eq_getElem hj
      have hjk : (j : Int) < (k : Int) + 1 := by omega
      simp [hk, gj, hjk, byteD]
      refine FF_by (ok24 _ s[j]) ?_
      simp
      refine CC_by (fun h2 => ?_) (fun h2 => ?_)
      · simp
        rw [KON_blk_ext (by decide)]
        simp
        refine he _ _ ?_
        have hj0 : ¬ (j : Int) < 0 := by omega
        simp [hj0]
        refine ⟨by omega, by omega, ?_⟩
        rw [htake]
        have hdr : s.drop j = s[j] :: s.drop (j + 1) := List.drop_eq_getElem_cons (by omega)
        have key := ok19p h s[j] (s.drop (j + 1)) (by simp; omega)
        rw [← hdr] at key
        refine FF_byR key ?_
        rintro v h' ⟨hp, rfl⟩
        generalize hdc : Utf8.decode (txt (s.drop j)) 0 = dc
        obtain ⟨r, n⟩ := dc
        have n1 : 1 ≤ n := by have := dec_pos (txt (s.drop j)) 0; rw [hdc] at this; exact this
        have n2 : n ≤ ((s.drop j)).length := by have := dec_le (s.drop j) (by intro e; have := congrArg List.length e; simp at this; omega); rw [hdc] at this; exact this
        have n2' : n ≤ k + 1 - j := by simpa [hk] using n2
        have hwn : IntKind.i64.wrap ((j : Int) + (n : Int)) = (j : Int) + (n : Int) := by simp [IntKind.wrap, IntKind.bits, IntKind.signed]; omega
        simp [hwn]
        refine CC_by (fun h3 => ?_) (fun h3 => ?_)
        · simp
          refine REr_by _ _ .refl ?_
          exact ⟨hp, 65533, 1, rfl, by omega, by omega, .inl ⟨rfl, rfl⟩⟩
        · have h3 : (j : Int) + (n : Int) = (k : Int) + 1 := by simpa using h3
          simp
          refine REr_by _ _ .refl ?_
          refine ⟨hp, r, n, rfl, n1, by omega, .inr ?_⟩
          have hn : s.length - n = j := by omega
          rw [hn]
          exact hdc
      · have hwj : IntKind.i64.wrap ((j : Int) - 1) = (j : Int) - 1 := by simp [IntKind.wrap, IntKind.bits, IntKind.signed]; omega
        simp [hwj]
        exact hb _ j (Wk.fits (by simp)) (by omega) (by omega)
    · have h1 : ¬ lim ≤ (m : Int) - 1 := by simpa using h1
      simp
      refine he _ _ ?_
      rcases m with _ | j
      · simp
        refine ⟨by omega, ?_⟩
        rw [htake]
        have hdr : s.drop 0 = s[0] :: s.drop (0 + 1) := List.drop_eq_getElem_cons (by omega)
        have key := ok19p h s[0] (s.drop (0 + 1)) (by simp; omega)
        rw [← hdr, List.drop_zero] at key
        refine FF_byR key ?_
        rintro v h' ⟨hp, rfl⟩
        generalize hdc : Utf8.decode (txt s) 0 = dc
        obtain ⟨r, n⟩ := dc
        have n1 : 1 ≤ n := by have := dec_pos (txt s) 0; rw [hdc] at this; exact this
        have n2 : n ≤ (s).length := by have := dec_le s hs; rw [hdc] at this; exact this
        have n2' : n ≤ k + 1 - 0 := by simpa [hk] using n2
        have hwn : IntKind.i64.wrap ((n : Int)) = (n : Int) := by simp [IntKind.wrap, IntKind.bits, IntKind.signed]; omega
        simp [hwn]
        refine CC_by (fun h3 => ?_) (fun h3 => ?_)
        · simp
          refine REr_by _ _ .refl ?_
          exact ⟨hp, 65533, 1, rfl, by omega, by omega, .inl ⟨rfl, rfl⟩⟩
        · have h3 : (n : Int) = (k : Int) + 1 := by simpa using h3
          simp
          refine REr_by _ _ .refl ?_
          refine ⟨hp, r, n, rfl, n1, by omega, .inr ?_⟩
          have hn : s.length - n = 0 := by omega
          rw [hn]
          rw [List.drop_zero]; exact hdc
      · have hj0 : ¬ (j : Int) < 0 := by omega
        have hj : j < s.length := by omega
        simp [hj0]
        refine ⟨by omega, by omega, ?_⟩
        rw [htake]
        have hdr : s.drop j = s[j] :: s.drop (j + 1) := List.drop_eq_getElem_cons (by omega)
        have key := ok19p h s[j] (s.drop (j + 1)) (by simp; omega)
        rw [← hdr] at key
        refine FF_byR key ?_
        rintro v h' ⟨hp, rfl⟩
        generalize hdc : Utf8.decode (txt (s.drop j)) 0 = dc
        obtain ⟨r, n⟩ := dc
        have n1 : 1 ≤ n := by have := dec_pos (txt (s.drop j)) 0; rw [hdc] at this; exact this
        have n2 : n ≤ ((s.drop j)).length := by have := dec_le (s.drop j) (by intro e; have := congrArg List.length e; simp at this; omega); rw [hdc] at this; exact this
        have n2' : n ≤ k + 1 - j := by simpa [hk] using n2
        have hwn : IntKind.i64.wrap ((j : Int) + (n : Int)) = (j : Int) + (n : Int) := by simp [IntKind.wrap, IntKind.bits, IntKind.signed]; omega
        simp [hwn]
        refine CC_by (fun h3 => ?_) (fun h3 => ?_)
        · simp
          refine REr_by _ _ .refl ?_
          exact ⟨hp, 65533, 1, rfl, by omega, by omega, .inl ⟨rfl, rfl⟩⟩
        · have h3 : (j : Int) + (n : Int) = (k : Int) + 1 := by simpa using h3
          simp
          refine REr_by _ _ .refl ?_
          refine ⟨hp, r, n, rfl, n1, by omega, .inr ?_⟩
          have hn : s.length - n = j := by omega
          rw [hn]
          exact hdc


/-- A whole letter stays what it is, whatever follows. -/
theorem dec_ext {a b : List UInt8} {r n : Nat} (ha : a ≠ []) (h : Utf8.decode (txt a) 0 = (r, n)) (hr : r ≠ 65533) : Utf8.decode (txt (a ++ b)) 0 = (r, n) := by
  have bad : ∀ {x : Nat × Nat}, x = bad1 → x = (r, n) → False := by
    rintro x rfl h
    exact hr (congrArg Prod.fst h).symm
  rcases a with _ | ⟨c, t⟩
  · exact absurd rfl ha
  rw [List.cons_append]
  rcases Nat.lt_or_ge c.toNat 128 with hc | hc
  · rw [d1 hc] at h ⊢
    exact h
  by_cases k1 : c.toNat < 194 ∨ 244 < c.toNat
  · exact (bad (d1x hc k1) h).elim
  rcases Nat.lt_or_ge c.toNat 224 with k2 | k2
  · rcases t with _ | ⟨x, t⟩
    · exact (bad (d2x (by omega) (by omega) (.inl rfl)) h).elim
    · by_cases g : x.toNat < 128 ∨ 191 < x.toNat
      · exact (bad (d2x (by omega) (by omega) (.inr ⟨_, _, rfl, g⟩)) h).elim
      · rw [d2 (by omega) (by omega) (by omega) (by omega)] at h
        rw [List.cons_append, d2 (by omega) (by omega) (by omega) (by omega)]
        exact h
  rcases Nat.lt_or_ge c.toNat 240 with k3 | k3
  · rcases t with _ | ⟨x, _ | ⟨y, t⟩⟩
    · exact (bad (d3x (by omega) (by omega) (.inl (by decide))) h).elim
    · exact (bad (d3x (by omega) (by omega) (.inl (by simp))) h).elim
    · by_cases g : x.toNat < 128 ∨ 191 < x.toNat ∨ (c.toNat = 224 ∧ x.toNat < 160) ∨ (c.toNat = 237 ∧ 159 < x.toNat) ∨ y.toNat < 128 ∨ 191 < y.toNat
      · exact (bad (d3x (by omega) (by omega) (.inr ⟨_, _, _, rfl, g⟩)) h).elim
      · rw [d3 (by omega) (by omega) (by omega) (by omega) (by omega) (by omega) (by omega) (by omega)] at h
        rw [List.cons_append, List.cons_append, d3 (by omega) (by omega) (by omega) (by omega) (by omega) (by omega) (by omega) (by omega)]
        exact h
  · rcases t with _ | ⟨x, _ | ⟨y, _ | ⟨z, t⟩⟩⟩
    · exact (bad (d4x (by omega) (by omega) (.inl (by decide))) h).elim
    · exact (bad (d4x (by omega) (by omega) (.inl (by simp))) h).elim
    · exact (bad (d4x (by omega) (by omega) (.inl (by simp))) h).elim
    · by_cases g : x.toNat < 128 ∨ 191 < x.toNat ∨ (c.toNat = 240 ∧ x.toNat < 144) ∨ (c.toNat = 244 ∧ 143 < x.toNat) ∨ y.toNat < 128 ∨ 191 < y.toNat ∨ z.toNat < 128 ∨ 191 < z.toNat
      · exact (bad (d4x (by omega) (by omega) (.inr ⟨_, _, _, _, rfl, g⟩)) h).elim
      · rw [d4 (by omega) (by omega) (by omega) (by omega) (by omega) (by omega) (by omega) (by omega) (by omega) (by omega)] at h
        rw [List.cons_append, List.cons_append, List.cons_append, d4 (by omega) (by omega) (by omega) (by omega) (by omega) (by omega) (by omega) (by omega) (by omega) (by omega)]
        exact h

/-- From a text to another one by taking blanks away from its front. -/
inductive Bl : List UInt8 → List UInt8 → Prop
  | refl {s : List UInt8} : Bl s s
  | step {s t : List UInt8} (hs : s ≠ []) (hb : spB ((Utf8.decode (txt s) 0).1 : Int) = true) (h : Bl (s.drop (Utf8.decode (txt s) 0).2) t) : Bl s t
theorem Bl.trans {a b c : List UInt8} (h : Bl a b) (h' : Bl b c) : Bl a c := by
  induction h with
  | refl => exact h'
  | step hs hb _ ih => exact .step hs hb (ih h')
theorem Bl.next {a : List UInt8} (h : Bl a []) (ha : a ≠ []) : spB ((Utf8.decode (txt a) 0).1 : Int) = true ∧ Bl (a.drop (Utf8.decode (txt a) 0).2) [] := by
  cases h with
  | refl => exact absurd rfl ha
  | step hs hb h => exact ⟨hb, h⟩
theorem sp_bad : spB 65533 = false := by decide
/-- A byte of a blank. -/
def bB (x : UInt8) : Prop := spB (x.toNat : Int) = true ∨ 128 ≤ x.toNat
/-- The bytes of a letter that is a blank. -/
theorem dec_blank {s : List UInt8} (hs : s ≠ []) (hb : spB ((Utf8.decode (txt s) 0).1 : Int) = true) : ∀ x ∈ s.take (Utf8.decode (txt s) 0).2, bB x := by
  rcases s with _ | ⟨c, t⟩
  · exact absurd rfl hs
  have bad : Utf8.decode (txt (c :: t)) 0 = bad1 → False := fun h => by
    rw [h] at hb
    exact absurd hb (by decide)
  rcases Nat.lt_or_ge c.toNat 128 with hc | hc
  · rw [d1 hc] at hb ⊢
    intro x hx
    have : x = c := by simpa using hx
    exact .inl (this ▸ hb)
  by_cases k1 : c.toNat < 194 ∨ 244 < c.toNat
  · exact (bad (d1x hc k1)).elim
  have cc : bB c := .inr hc
  rcases Nat.lt_or_ge c.toNat 224 with k2 | k2
  · rcases t with _ | ⟨x, t⟩
    · exact (bad (d2x (by omega) (by omega) (.inl rfl))).elim
    · by_cases g : x.toNat < 128 ∨ 191 < x.toNat
      · exact (bad (d2x (by omega) (by omega) (.inr ⟨_, _, rfl, g⟩))).elim
      · rw [d2 (by omega) (by omega) (by omega) (by omega)]
        simp only [List.take_succ_cons, List.take_zero, List.mem_cons, List.not_mem_nil, or_false]
        rintro u (rfl | rfl)
        · exact cc
        · exact .inr (by omega)
  rcases Nat.lt_or_ge c.toNat 240 with k3 | k3
  · rcases t with _ | ⟨x, _ | ⟨y, t⟩⟩
    · exact (bad (d3x (by omega) (by omega) (.inl (by decide)))).elim
    · exact (bad (d3x (by omega) (by omega) (.inl (by simp)))).elim
    · by_cases g : x.toNat < 128 ∨ 191 < x.toNat ∨ (c.toNat = 224 ∧ x.toNat < 160) ∨ (c.toNat = 237 ∧ 159 < x.toNat) ∨ y.toNat < 128 ∨ 191 < y.toNat
      · exact (bad (d3x (by omega) (by omega) (.inr ⟨_, _, _, rfl, g⟩))).elim
      · rw [d3 (by omega) (by omega) (by omega) (by omega) (by omega) (by omega) (by omega) (by omega)]
        simp only [List.take_succ_cons, List.take_zero, List.mem_cons, List.not_mem_nil, or_false]
        rintro u (rfl | rfl | rfl)
        · exact cc
        · exact .inr (by omega)
        · exact .inr (by omega)
  · rcases t with _ | ⟨x, _ | ⟨y, _ | ⟨z, t⟩⟩⟩
    · exact (bad (d4x (by omega) (by omega) (.inl (by decide)))).elim
    · exact (bad (d4x (by omega) (by omega) (.inl (by simp)))).elim
    · exact (bad (d4x (by omega) (by omega) (.inl (by simp)))).elim
    · by_cases g : x.toNat < 128 ∨ 191 < x.toNat ∨ (c.toNat = 240 ∧ x.toNat < 144) ∨ (c.toNat = 244 ∧ 143 < x.toNat) ∨ y.toNat < 128 ∨ 191 < y.toNat ∨ z.toNat < 128 ∨ 191 < z.toNat
      · exact (bad (d4x (by omega) (by omega) (.inr ⟨_, _, _, _, rfl, g⟩))).elim
      · rw [d4 (by omega) (by omega) (by omega) (by omega) (by omega) (by omega) (by omega) (by omega) (by omega) (by omega)]
        simp only [List.take_succ_cons, List.take_zero, List.mem_cons, List.not_mem_nil, or_false]
        rintro u (rfl | rfl | rfl | rfl)
        · exact cc
        · exact .inr (by omega)
        · exact .inr (by omega)
        · exact .inr (by omega)
end Go.Proofs.YtbbafeocmchlnaaDoor
