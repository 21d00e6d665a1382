/- Letters (turned from another seat by mkpe.py) -/
import Derived.Test.YtdgnjngbheecnaaDoorSpC
set_option linter.unusedVariables false
set_option linter.unusedSimpArgs false
set_option maxRecDepth 100000
namespace Go.Proofs.YtdgnjngbheecnaaDoor
open Go Go.Den Go.Proofs



/-- What is told of a text's last letter. -/
def RuL (s : List UInt8) (h : List Blk) (v : DV) (h' : List Blk) : Prop := HPre h h' ∧ ∃ (r : Int) (n : Nat), v = .tup [.p (.int .i32 r), .p (.int .i64 n)] ∧ 1 ≤ n ∧ n ≤ s.length ∧ ((n = 1 ∧ ∃ c, s.getLast? = some c ∧ r = c.toNat ∧ c.toNat < 128) ∨ ∀ x ∈ s.drop (s.length - n), 128 ≤ x.toNat)

theorem ok87 (h : List Blk) (s : List UInt8) (hs : s ≠ []) (hl : s.length ≤ 2147483647) : OkR Tryd.prog GT 87 [.p (.string (txt s))] h (RuL s h) := by
  refine OkR_by Tryd.func87 c87_ok r87_ok 50 rfl ?_
  obtain ⟨k, hk⟩ : ∃ k, s.length = k + 1 := ⟨s.length - 1, by have := List.length_pos_iff.2 hs; omega⟩
  have h0 : ((k : Int) + 1 == 0) = false := beq_eq_false_iff_ne.2 (by omega)
  have hks : k < s.length := by omega
  have w1 : IntKind.i64.wrap ((k : Int) + 1 - 1) = k := by simp [IntKind.wrap, IntKind.bits, IntKind.signed]; omega
  have w2 : IntKind.i64.wrap (k : Int) = k := by simp [IntKind.wrap, IntKind.bits, IntKind.signed]; omega
  have hg : s[k]? = some s[k] := List.getElem?_eq_getElem hks
  have hkl : (k : Int) < (k : Int) + 1 := by omega
  have hlt := s[k].toNat_lt
  have hw : IntKind.i32.wrap (s[k].toNat : Int) = s[k].toNat := by simp [IntKind.wrap, IntKind.bits, IntKind.signed]; omega
  have hlast : s.getLast? = some s[k] := by rw [List.getLast?_eq_getElem?, hk]; simp [hks]
  have hw4 : IntKind.i64.wrap ((k : Int) + 1 - 4) = (k : Int) + 1 - 4 := by simp [IntKind.wrap, IntKind.bits, IntKind.signed]; omega
  have hwk : IntKind.i64.wrap ((k : Int) - 1) = (k : Int) - 1 := by simp [IntKind.wrap, IntKind.bits, IntKind.signed]; omega
  rcases Nat.lt_or_ge s[k].toNat 128 with a | a
  · have e : (s[k].toNat : Int) < 128 := by omega
    simp [c87, r87, hk, h0, w1, w2, hg, hkl, byteD, hw, e]
    refine REr_by _ _ .refl ?_
    exact ⟨HPre.refl _, _, 1, rfl, by omega, by omega, .inl ⟨rfl, _, hlast, rfl, a⟩⟩
  · have e : ¬ (s[k].toNat : Int) < 128 := by omega
    simp [c87, r87, hk, h0, w1, w2, hg, hkl, byteD, hw, e, hw4, hwk]
    have htake : s.take (k + 1) = s := by rw [← hk]; exact List.take_length
    have hlastHi : ∀ x ∈ s.drop (s.length - 1), 128 ≤ x.toNat := by
      have : s.drop (s.length - 1) = [s[k]] := by
        rw [hk, Nat.add_sub_cancel, List.drop_eq_getElem_cons hks, List.drop_of_length_le (by omega)]
      rw [this]
      simpa using a
    generalize hq : (if (k : Int) + 1 - 4 < 0 then (0 : Int) else (k : Int) + 1 - 4) = lim
    have hlim : 0 ≤ lim := by split at hq <;> omega
    refine VV_fam (fun m : Nat => ⟨fr 51 [(0, .p (.string (txt s))), (4, .p (.int .i64 ((k : Int) + 1))), (5, .p (.int .i64 ((m : Int) - 1))), (6, .p (.int .i64 lim))], h⟩)
      (fun m => m ≤ k) (fun m => m) k (Nat.le_refl _) (Wk.fits (by simp)) ?_
    intro m hm B hb he hr
    simp
    refine CC_by (fun h1 => ?_) (fun h1 => ?_)
    · have h1 : lim ≤ (m : Int) - 1 := by simpa using h1
      obtain ⟨j, rfl⟩ : ∃ j, m = j + 1 := ⟨m - 1, by omega⟩
      have hj : j < s.length := by omega
      have gj : s[j]? = some s[j] := List.getElem?_eq_getElem hj
      have hjk : (j : Int) < (k : Int) + 1 := by omega
      simp [hk, gj, hjk, byteD]
      refine FF_by (ok106 _ s[j]) ?_
      simp
      refine CC_by (fun h2 => ?_) (fun h2 => ?_)
      · simp
        rw [KON_blk_ext (by decide)]
        simp
        refine he _ _ ?_
        have hj0 : ¬ (j : Int) < 0 := by omega
        simp [hj0]
        refine ⟨by omega, by omega, ?_⟩
        rw [htake]
        have hdr : s.drop j = s[j] :: s.drop (j + 1) := List.drop_eq_getElem_cons (by omega)
        have key := ok85 h s[j] (s.drop (j + 1)) (by simp; omega)
        rw [← hdr] at key
        refine FF_byR key ?_
        rintro v h' ⟨hp, r, n, rfl, hh⟩
        obtain ⟨n1, n2, n3⟩ := hh (by intro e; have := congrArg List.length e; simp at this; omega)
        have n2' : n ≤ k + 1 - j := by simpa [hk] using n2
        have hwn : IntKind.i64.wrap ((j : Int) + (n : Int)) = (j : Int) + (n : Int) := by simp [IntKind.wrap, IntKind.bits, IntKind.signed]; omega
        simp [hwn]
        refine CC_by (fun h3 => ?_) (fun h3 => ?_)
        · simp
          refine REr_by _ _ .refl ?_
          exact ⟨hp, 65533, 1, rfl, by omega, by omega, .inr hlastHi⟩
        · have h3 : (j : Int) + (n : Int) = (k : Int) + 1 := by simpa using h3
          simp
          refine REr_by _ _ .refl ?_
          refine ⟨hp, r, n, rfl, n1, by omega, .inr ?_⟩
          have hn : s.length - n = j := by omega
          rw [hn]
          rcases n3 with ⟨e1, c, t, e2, e3, e4⟩ | n3
          · skip
            have : j = k := by omega
            subst e1
            have e5 : s[j]? = some c := by
              have := congrArg List.head? e2
              simpa [List.head?_drop] using this
            simp only [this, hg] at e5
            cases e5
            omega
          · rw [List.take_of_length_le (by first | omega | (simp; omega))] at n3
            exact n3
      · have hwj : IntKind.i64.wrap ((j : Int) - 1) = (j : Int) - 1 := by simp [IntKind.wrap, IntKind.bits, IntKind.signed]; omega
        simp [hwj]
        exact hb _ j (Wk.fits (by simp)) (by omega) (by omega)
    · have h1 : ¬ lim ≤ (m : Int) - 1 := by simpa using h1
      simp
      refine he _ _ ?_
      rcases m with _ | j
      · simp
        refine ⟨by omega, ?_⟩
        rw [htake]
        have hdr : s.drop 0 = s[0] :: s.drop (0 + 1) := List.drop_eq_getElem_cons (by omega)
        have key := ok85 h s[0] (s.drop (0 + 1)) (by simp; omega)
        rw [← hdr, List.drop_zero] at key
        refine FF_byR key ?_
        rintro v h' ⟨hp, r, n, rfl, hh⟩
        obtain ⟨n1, n2, n3⟩ := hh hs
        have n2' : n ≤ k + 1 - 0 := by simpa [hk] using n2
        have hwn : IntKind.i64.wrap ((n : Int)) = (n : Int) := by simp [IntKind.wrap, IntKind.bits, IntKind.signed]; omega
        simp [hwn]
        refine CC_by (fun h3 => ?_) (fun h3 => ?_)
        · simp
          refine REr_by _ _ .refl ?_
          exact ⟨hp, 65533, 1, rfl, by omega, by omega, .inr hlastHi⟩
        · have h3 : (n : Int) = (k : Int) + 1 := by simpa using h3
          simp
          refine REr_by _ _ .refl ?_
          refine ⟨hp, r, n, rfl, n1, by omega, .inr ?_⟩
          have hn : s.length - n = 0 := by omega
          rw [hn]
          rcases n3 with ⟨e1, c, t, e2, e3, e4⟩ | n3
          · skip
            have : 0 = k := by omega
            subst e1
            have e5 : s[0]? = some c := by
              have := congrArg List.head? e2
              simpa [List.head?_eq_getElem?] using this
            simp only [this, hg] at e5
            cases e5
            omega
          · rw [List.take_of_length_le (by first | omega | (simp; omega))] at n3
            exact n3
      · have hj0 : ¬ (j : Int) < 0 := by omega
        have hj : j < s.length := by omega
        simp [hj0]
        refine ⟨by omega, by omega, ?_⟩
        rw [htake]
        have hdr : s.drop j = s[j] :: s.drop (j + 1) := List.drop_eq_getElem_cons (by omega)
        have key := ok85 h s[j] (s.drop (j + 1)) (by simp; omega)
        rw [← hdr] at key
        refine FF_byR key ?_
        rintro v h' ⟨hp, r, n, rfl, hh⟩
        obtain ⟨n1, n2, n3⟩ := hh (by intro e; have := congrArg List.length e; simp at this; omega)
        have n2' : n ≤ k + 1 - j := by simpa [hk] using n2
        have hwn : IntKind.i64.wrap ((j : Int) + (n : Int)) = (j : Int) + (n : Int) := by simp [IntKind.wrap, IntKind.bits, IntKind.signed]; omega
        simp [hwn]
        refine CC_by (fun h3 => ?_) (fun h3 => ?_)
        · simp
          refine REr_by _ _ .refl ?_
          exact ⟨hp, 65533, 1, rfl, by omega, by omega, .inr hlastHi⟩
        · have h3 : (j : Int) + (n : Int) = (k : Int) + 1 := by simpa using h3
          simp
          refine REr_by _ _ .refl ?_
          refine ⟨hp, r, n, rfl, n1, by omega, .inr ?_⟩
          have hn : s.length - n = j := by omega
          rw [hn]
          rcases n3 with ⟨e1, c, t, e2, e3, e4⟩ | n3
          · skip
            have : j = k := by omega
            subst e1
            have e5 : s[j]? = some c := by
              have := congrArg List.head? e2
              simpa [List.head?_drop] using this
            simp only [this, hg] at e5
            cases e5
            omega
          · rw [List.take_of_length_le (by first | omega | (simp; omega))] at n3
            exact n3

end Go.Proofs.YtdgnjngbheecnaaDoor
