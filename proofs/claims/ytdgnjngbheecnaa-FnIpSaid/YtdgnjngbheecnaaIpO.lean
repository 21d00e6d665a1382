/- Addresses: four numbers are read. -/
import Derived.Test.YtdgnjngbheecnaaIpN
set_option linter.unusedVariables false
set_option linter.unusedSimpArgs false
set_option maxRecDepth 100000
namespace Go.Proofs.Ytdgnjngbheecnaa
open Go Go.Den Go.Proofs

def IsErr (v : DV) : Prop := ∃ a b c : ByteArray, v = .iface 160 (.agg [.p (.string a), .p (.string b), .p (.string c)])
theorem IsErr.mk {a b c : ByteArray} : IsErr (.iface 160 (.agg [.p (.string a), .p (.string b), .p (.string c)])) := ⟨a, b, c, rfl⟩
/-- Where the reader of four numbers stands behind i signs. -/
structure At4 (s : List UInt8) (i val dig pos : Nat) : Prop where
  le : i ≤ s.length
  hval : val ≤ 255
  hdig : dig ≤ i
  hpos : pos ≤ 3
  d0 : dig = 0 ↔ (i = 0 ∨ s[i - 1]? = some 46)
  go : p4 s = v4 (s.drop i) val dig pos
theorem u8_wrap (n : Nat) : IntKind.u8.wrap (n : Int) = ((UInt8.ofNat n).toNat : Int) := by simp [IntKind.wrap, IntKind.bits, IntKind.signed]
theorem bts_put (L : List UInt8) (k v : Nat) : bts (L.take k) ++ DV.p (.int .u8 (IntKind.u8.wrap (v : Int))) :: bts (L.drop (k + 1)) = bts (L.take k ++ UInt8.ofNat v :: L.drop (k + 1)) := by
  rw [u8_wrap]; simp [bts, byteD]
theorem put_len (L : List UInt8) (k : Nat) (x : UInt8) (hk : k < L.length) : (L.take k ++ x :: L.drop (k + 1)).length = L.length := by simp; omega
theorem ok144 {G : Nat → DV} (h : List Blk) (pre s post : List UInt8) (b N o c : Nat) (l : List UInt8) (hb : h[b]? = some (.cells N [.agg (bts l)])) (hN : l.length = N) (ho : o + 4 ≤ N) (hc : 4 ≤ c) (hs : (pre ++ s ++ post).length ≤ 2147483647) :
    OkR Try.prog G 144 [.p (.string (txt (pre ++ s ++ post))), .p (.int .i64 pre.length), .p (.int .i64 (pre.length + s.length : Nat)), .sa false 1 b 0 o 4 c 1] h
      fun v h' => (∃ l' : List UInt8, l'.length = N ∧ h' = h.set b (.cells N [.agg (bts l')])) ∧ ((p4 s = true ∧ v = .p .nilIface) ∨ (p4 s = false ∧ IsErr v)) := by
  refine OkR_by Try.func144 c144_ok r144_ok 107 rfl ?_
  have hbl : b < h.length := (List.getElem?_eq_some_iff.1 hb).1
  have hlen : s.length ≤ 2147483647 := by simp at hs; omega
  have hsl : List.drop pre.length (List.take ((pre.length : Int) + (s.length : Int)).toNat (pre ++ s ++ post)) = s := by
    rw [show ((pre.length : Int) + (s.length : Int)).toNat = pre.length + s.length by omega, List.append_assoc, List.take_append, List.take_of_length_le (by omega), List.drop_append, List.drop_length]
    simp
  generalize hP : pre ++ s ++ post = P at *
  have hPl : pre.length + s.length ≤ P.length := by rw [← hP]; simp
  simp [c144, r144, hsl]
  refine ⟨by omega, by omega, ?_⟩
  have hset0 : h.set b (.cells N [.agg (bts l)]) = h := set_same hb
  refine VV_fam (fun x : Nat × Nat × Nat × Nat × List UInt8 => ⟨fr 111 [(0, .p (.string (txt P))), (3, .sa false 1 b 0 o 4 c 1), (8, .p .nilIface), (9, .p (.int .i64 x.2.1)), (10, .p (.int .i64 x.2.2.2.1)), (11, .p (.int .i64 x.2.2.1)), (12, .p (.string (txt s))), (13, .p (.int .i64 x.1))], h.set b (.cells N [.agg (bts x.2.2.2.2)])⟩)
    (fun x => x.2.2.2.2.length = N ∧ At4 s x.1 x.2.1 x.2.2.1 x.2.2.2.1) (fun x => s.length - x.1) (0, 0, 0, 0, l) ⟨hN, by simp, by simp, by simp, by simp, by simp, rfl⟩ (Wk.fitsE hset0.symm (by simp)) ?_
  rintro ⟨i, val, dig, pos, L⟩ ⟨hL, hi, hval, hdig, hpos, hd0, hgo⟩ B hbk he hr
  simp only at hL hi hval hdig hpos hd0 hgo
  have hsb : ∀ X, (h.set b X)[b]? = some X := fun X => by simp [hbl]
  have w1 : IntKind.i64.wrap ((i : Int) + 1) = ((i + 1 : Nat) : Int) := by simp [IntKind.wrap, IntKind.bits, IntKind.signed]; omega
  have w2 : IntKind.i64.wrap ((dig : Int) + 1) = ((dig + 1 : Nat) : Int) := by simp [IntKind.wrap, IntKind.bits, IntKind.signed]; omega
  have w3 : IntKind.i64.wrap ((pos : Int) + 1) = ((pos + 1 : Nat) : Int) := by simp [IntKind.wrap, IntKind.bits, IntKind.signed]; omega
  have w4 : IntKind.i64.wrap ((i : Int) - 1) = (i : Int) - 1 := by simp [IntKind.wrap, IntKind.bits, IntKind.signed]; omega
  have w5 : IntKind.i64.wrap ((s.length : Int) - 1) = (s.length : Int) - 1 := by simp [IntKind.wrap, IntKind.bits, IntKind.signed]; omega
  have err : ∀ v, IsErr v → p4 s = false → (∃ l' : List UInt8, l'.length = N ∧ h.set b (.cells N [.agg (bts L)]) = h.set b (.cells N [.agg (bts l')])) ∧ ((p4 s = true ∧ v = .p .nilIface) ∨ (p4 s = false ∧ IsErr v)) := fun v h1 h2 => ⟨⟨L, hL, rfl⟩, .inr ⟨h2, h1⟩⟩
  simp
  refine CC_by (fun h1 => ?_) (fun h1 => ?_)
  · have hi' : i < s.length := by simpa using h1
    rw [List.drop_eq_getElem_cons hi', v4] at hgo
    have hsi : s[i]? = some s[i] := List.getElem?_eq_getElem hi'
    have hc256 := (s[i]).toNat_lt
    simp [hi', byteD]
    generalize hch : s[i] = ch at hgo hsi hc256 ⊢
    cases hdg : dgB ch
    · have hdg' : ¬ (48 ≤ ch.toNat ∧ ch.toNat ≤ 57) := fun h => by rw [← dgB_iff, hdg] at h; exact absurd h (by simp)
      rw [hdg, if_neg (by simp)] at hgo
      by_cases q0 : 48 ≤ ch.toNat
      · have q0' : ((48 : Int) ≤ (ch.toNat : Int)) = True := by simp; omega
        have q1' : ((ch.toNat : Int) ≤ 57) = False := by simp; omega
        have q2' : ((ch.toNat : Int) == 46) = false := by simp; omega
        have q3 : ¬ ch = 46 := by rintro rfl; simp at q0
        rw [if_neg q3] at hgo
        simp [q0', q1', q2', hch, hi', byteD]
        refine ⟨hi, ?_⟩
        refine hr _ ?_
        simp
        exact REr_by _ _ WkV.refl (err _ .mk hgo)
      · have q0' : ((48 : Int) ≤ (ch.toNat : Int)) = False := by simp; omega
        by_cases q1 : ch = 46
        · subst q1
          simp only [if_true] at hgo
          simp [hch, hi', byteD, q0']
          have bad : (dig = 0 ∨ s.drop (i + 1) = []) → p4 s = false := fun h => by rw [hgo, if_pos h]
          cases z1 : ((i : Int) == 0)
          · simp [w5]
            have hi0 : 0 < i := by
              rcases Nat.eq_zero_or_pos i with h | h
              · subst h; simp at z1
              · exact h
            have hdrop : s.drop (i + 1) = [] ↔ i + 1 = s.length := by
              rw [List.drop_eq_nil_iff]; omega
            cases z2 : ((i : Int) == (s.length : Int) - 1)
            · have hne : ¬ i + 1 = s.length := by
                intro h
                rw [← Bool.not_eq_true] at z2
                exact z2 (by simp; omega)
              have hi2 : i - 1 < s.length := by omega
              have t1 : ((i : Int) - 1).toNat = i - 1 := by omega
              have t2 : (0 : Int) ≤ (i : Int) - 1 := by omega
              simp [w4, t1, hi2, byteD]
              refine ⟨by omega, by omega, ?_⟩
              have hd1 : dig = 0 ↔ s[i - 1] = 46 := by
                rw [hd0, List.getElem?_eq_getElem hi2]
                constructor
                · rintro (h | h)
                  · omega
                  · exact Option.some.inj h
                · intro h; exact .inr (by rw [h])
              refine CC_by (fun z3 => ?_) (fun z3 => ?_)
              · have hx : s[i - 1] = 46 := UInt8.toNat_inj.1 (by simp at z3; simp; omega)
                simp
                refine ⟨hi, ?_⟩
                refine hr _ ?_
                simp
                exact REr_by _ _ WkV.refl (err _ .mk (bad (.inl (hd1.2 hx))))
              · have hx : ¬ s[i - 1] = 46 := fun h => by rw [h] at z3; simp at z3
                have hgo' : ¬ (dig = 0 ∨ s.drop (i + 1) = []) := by
                  rw [hd1, hdrop]; simp [hx, hne]
                rw [if_neg hgo'] at hgo
                simp
                refine CC_by (fun z4 => ?_) (fun z4 => ?_)
                · have hp3 : pos = 3 := by simp at z4; omega
                  rw [if_pos hp3] at hgo
                  simp
                  refine hr _ ?_
                  simp
                  exact REr_by _ _ WkV.refl (err _ .mk hgo)
                · have hp3 : ¬ pos = 3 := by simp at z4; omega
                  rw [if_neg hp3] at hgo
                  simp [hsb, w3, w1, bts_put]
                  refine ⟨by omega, by omega, ?_⟩
                  exact hbk _ (i + 1, 0, 0, pos + 1, L.take (o + pos) ++ UInt8.ofNat val :: L.drop (o + pos + 1)) (Wk.fits (by simp)) ⟨by rw [put_len _ _ _ (by omega)]; exact hL, hi', by simp, by simp, show pos + 1 ≤ 3 by omega, by simp [hsi], hgo⟩ (by simp; omega)
            · simp
              have he1 : i + 1 = s.length := by simp at z2; omega
              refine ⟨hi, ?_⟩
              refine hr _ ?_
              simp
              exact REr_by _ _ WkV.refl (err _ .mk (bad (.inr (hdrop.2 he1))))
          · have hi0 : i = 0 := by simp at z1; omega
            simp
            refine ⟨hi, ?_⟩
            refine hr _ ?_
            simp
            exact REr_by _ _ WkV.refl (err _ .mk (bad (.inl (hd0.2 (.inl hi0)))))
        · have q2' : ((ch.toNat : Int) == 46) = false := by
            rw [← Bool.not_eq_true]
            intro h
            exact q1 (UInt8.toNat_inj.1 (by simp at h; simp; omega))
          rw [if_neg q1] at hgo
          simp [q0', q2', hch, hi', byteD]
          refine ⟨hi, ?_⟩
          refine hr _ ?_
          simp
          exact REr_by _ _ WkV.refl (err _ .mk hgo)
    · have hdg' := (dgB_iff ch).1 hdg
      have q0' : ((48 : Int) ≤ (ch.toNat : Int)) = True := by simp; omega
      have q1' : ((ch.toNat : Int) ≤ 57) = True := by simp; omega
      rw [if_pos hdg] at hgo
      obtain ⟨vv, hvv⟩ : ∃ vv, vv = val * 10 + (ch.toNat - 48) := ⟨_, rfl⟩
      rw [← hvv] at hgo
      have w6 : IntKind.i64.wrap ((val : Int) * 10) = (val : Int) * 10 := by simp [IntKind.wrap, IntKind.bits, IntKind.signed]; omega
      have w7 : IntKind.i64.wrap (ch.toNat : Int) = (ch.toNat : Int) := by simp [IntKind.wrap, IntKind.bits, IntKind.signed]; omega
      have w8 : IntKind.i64.wrap ((val : Int) * 10 + (ch.toNat : Int)) = (val : Int) * 10 + (ch.toNat : Int) := by simp [IntKind.wrap, IntKind.bits, IntKind.signed]; omega
      have w9 : IntKind.i64.wrap ((val : Int) * 10 + (ch.toNat : Int) - 48) = (vv : Int) := by simp [IntKind.wrap, IntKind.bits, IntKind.signed]; omega
      simp [q0', q1', hch, hi', byteD]
      have next : ¬ (dig = 1 ∧ val = 0) → vv ≤ 255 → At4 s (i + 1) vv (dig + 1) pos := fun h1 h2 => ⟨hi', h2, by omega, hpos, by
        constructor
        · intro h; omega
        · rintro (h | h)
          · omega
          · rw [Nat.add_sub_cancel, hsi] at h
            have := Option.some.inj h
            subst this
            simp at q0', by rw [hgo, if_neg h1, if_neg (by omega)]⟩
      cases z1 : ((dig : Int) == 1)
      · have hd1 : ¬ (dig = 1 ∧ val = 0) := by
          rintro ⟨h, _⟩; subst h; simp at z1
        simp [hch, hi', byteD, w6, w7, w8, w9, w2]
        refine CC_by (fun z3 => ?_) (fun z3 => ?_)
        · have h3 : 255 < vv := by simp at z3; omega
          rw [if_neg hd1, if_pos h3] at hgo
          simp
          refine hr _ ?_
          simp
          exact REr_by _ _ WkV.refl (err _ .mk hgo)
        · have h3 : vv ≤ 255 := by simp at z3; omega
          simp [w1]
          exact hbk _ (i + 1, vv, dig + 1, pos, L) (Wk.fits (by simp)) ⟨hL, next hd1 h3⟩ (by simp; omega)
      · have hd1 : dig = 1 := by simp at z1; omega
        simp
        refine CC_by (fun z2 => ?_) (fun z2 => ?_)
        · have hv0 : val = 0 := by simp at z2; omega
          rw [if_pos ⟨hd1, hv0⟩] at hgo
          simp
          refine hr _ ?_
          simp
          exact REr_by _ _ WkV.refl (err _ .mk hgo)
        · have hv0 : ¬ (dig = 1 ∧ val = 0) := by
            rintro ⟨_, h⟩; subst h; simp at z2
          simp [hch, hi', byteD, w6, w7, w8, w9, w2]
          refine CC_by (fun z3 => ?_) (fun z3 => ?_)
          · have h3 : 255 < vv := by simp at z3; omega
            rw [if_neg hv0, if_pos h3] at hgo
            simp
            refine hr _ ?_
            simp
            exact REr_by _ _ WkV.refl (err _ .mk hgo)
          · have h3 : vv ≤ 255 := by simp at z3; omega
            simp [w1]
            exact hbk _ (i + 1, vv, dig + 1, pos, L) (Wk.fits (by simp)) ⟨hL, next hv0 h3⟩ (by simp; omega)
  · have : i = s.length := by simp at h1; omega
    subst this
    rw [List.drop_length, v4] at hgo
    simp
    refine he _ _ ?_
    simp
    refine CC_by (fun z1 => ?_) (fun z1 => ?_)
    · have hp : ¬ 3 ≤ pos := by simp at z1; omega
      rw [decide_eq_false hp] at hgo
      simp
      exact REr_by _ _ WkV.refl (err _ .mk hgo)
    · have hp : 3 ≤ pos := by simp at z1; omega
      rw [decide_eq_true hp] at hgo
      simp [hsb, bts_put]
      refine ⟨by omega, ?_⟩
      exact REr_by _ _ WkV.refl ⟨⟨_, by rw [put_len _ _ _ (by omega)]; exact hL, rfl⟩, .inl ⟨hgo, rfl⟩⟩
end Go.Proofs.Ytdgnjngbheecnaa
