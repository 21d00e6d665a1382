/- Addresses: the reader of eight groups: the digits of a group. -/
import Derived.Test.YtdgnjngbheecnaaIpT
set_option linter.unusedVariables false
set_option linter.unusedSimpArgs false
set_option maxRecDepth 100000
namespace Go.Proofs.Ytdgnjngbheecnaa
open Go Go.Den Go.Proofs

set_option maxHeartbeats 4000000 in
theorem dig130 {G : Nat → DV} {R : DV → Prop} {W : Bool} {z : List UInt8} (hR : ∀ v, Out6 W z v → R v) (h : List Blk) (l s : List UInt8) (g off acc : Nat) (ell : Bool) (e : Int) (ip : List UInt8) (B B2 : DX → St → Prop) (hsl : s.length ≤ 2147483647) (hgo : W = p6 (g + 1) s ell) (ho : off ≤ s.length) (ho4 : off ≤ 4) (hall : (s.take off).all hxB = true) (hacc : acc < 16 ^ off)
    (hb2 : ∀ s1 (x' : Nat × Nat), Wk G h s1 (F6b h l s z g e ip x'.1 x'.2) → (x'.1 ≤ s.length ∧ x'.1 ≤ 4 ∧ (s.take x'.1).all hxB = true ∧ x'.2 < 16 ^ x'.1) → s.length - x'.1 < s.length - off → B2 .nrm s1)
    (fin2 : off6 s = off → ∀ s1, Wk G h s1 (F6b h l s z g e ip off acc) → B2 (.ext 2) s1)
    (hr2 : ∀ s1, KON Try.prog G h [Fr.blk 2, Fr.seq c130R, Fr.blk 1] B .ret s1 → B2 .ret s1)
    (hr : ∀ s1, KON Try.prog G h [Fr.blk 0, Fr.seq c130T] (Q6 h R) .ret s1 → B .ret s1) : VV Try.prog G h c130Y (F6b h l s z g e ip off acc) [] B2 := by
  simp [c130Y, F6b, H6, A0, adr]
  refine CC_by (fun c2 => ?_) (fun c2 => ?_)
  rotate_left
  · have hoff : off = s.length := by simp at c2; omega
    simp
    refine fin2 ?_ _ (Wk.fits (by simp))
    rw [hoff, List.take_length] at hall
    rw [off6_all s hall, hoff]
  have ho2 : off < s.length := by simpa using c2
  have hsi : s[off]? = some s[off] := List.getElem?_eq_getElem ho2
  have hc256 := (s[off]).toNat_lt
  have w1 : IntKind.i64.wrap ((off : Int) + 1) = ((off + 1 : Nat) : Int) := by simp [IntKind.wrap, IntKind.bits, IntKind.signed]; omega
  have hpow : (16 : Nat) ^ off ≤ 65536 := by
    have := Nat.pow_le_pow_right (show 0 < 16 by omega) ho4
    omega
  have u0 : ishl .u32 (acc : Int) 4 = (acc : Int) * 16 := by simp [ishl, IntKind.wrap, IntKind.bits, IntKind.signed]; omega
  have htk : s.take (off + 1) = s.take off ++ [s[off]] := List.take_succ_eq_append_getElem ho2
  have hdec : s = s.take off ++ s[off] :: s.drop (off + 1) := by
    rw [← List.drop_eq_getElem_cons ho2, List.take_append_drop]
  have stop : hxB s[off] = false → off6 s = off := fun h => by
    have := off6_stop (s.take off) s[off] (s.drop (off + 1)) hall h
    rw [← hdec] at this
    rw [this, List.length_take]; omega
  have more : hxB s[off] = true → ∀ d, d < 16 → off ≤ 3 → (off + 1 ≤ s.length ∧ off + 1 ≤ 4 ∧ (s.take (off + 1)).all hxB = true ∧ acc * 16 + d < 16 ^ (off + 1)) ∧ acc * 16 + d < 65536 := fun h d hd h3 => by
    have h5 : (16 : Nat) ^ (off + 1) ≤ 65536 := by
      have := Nat.pow_le_pow_right (show 0 < 16 by omega) (show off + 1 ≤ 4 by omega)
      omega
    have h6 : acc * 16 + d < 16 ^ (off + 1) := by rw [Nat.pow_succ]; omega
    exact ⟨⟨ho2, by omega, by rw [htk, List.all_append, hall]; simp [h], h6⟩, by omega⟩
  have bad5 : hxB s[off] = true → 3 < off → W = false := fun h h3 => by
    have h5 : (s.take (off + 1)).all hxB = true := by rw [htk, List.all_append, hall]; simp [h]
    have h6 : 4 < off6 s := by
      rw [off6]
      have h7 : (s.take (off + 1) ++ s.drop (off + 1)).takeWhile hxB = s.take (off + 1) ++ (s.drop (off + 1)).takeWhile hxB := List.takeWhile_append_of_pos (fun a ha => List.all_eq_true.1 h5 a ha)
      rw [List.take_append_drop] at h7
      rw [h7]; simp; omega
    rw [hgo, p6, if_pos (.inr h6)]
  simp [ho2, byteD]
  generalize hch : s[off] = c at hsi hc256 stop more bad5 ⊢
  rcases (show (0 ≤ c.toNat ∧ c.toNat ≤ 47) ∨ (48 ≤ c.toNat ∧ c.toNat ≤ 57) ∨ (58 ≤ c.toNat ∧ c.toNat ≤ 64) ∨ (65 ≤ c.toNat ∧ c.toNat ≤ 70) ∨ (71 ≤ c.toNat ∧ c.toNat ≤ 96) ∨ (97 ≤ c.toNat ∧ c.toNat ≤ 102) ∨ (103 ≤ c.toNat ∧ c.toNat ≤ 255) by omega) with ⟨g1, g2⟩ | ⟨g1, g2⟩ | ⟨g1, g2⟩ | ⟨g1, g2⟩ | ⟨g1, g2⟩ | ⟨g1, g2⟩ | ⟨g1, g2⟩
  · have q0 : ((48 : Int) ≤ (c.toNat : Int)) = False := by simp; omega
    have q1 : ((c.toNat : Int) ≤ 57) = True := by simp; omega
    have q2 : ((97 : Int) ≤ (c.toNat : Int)) = False := by simp; omega
    have q3 : ((c.toNat : Int) ≤ 102) = True := by simp; omega
    have q4 : ((65 : Int) ≤ (c.toNat : Int)) = False := by simp; omega
    have q5 : ((c.toNat : Int) ≤ 70) = True := by simp; omega
    have hx : hxB c = false := by simp [hxB]; omega
    simp [q0, q1, q2, q3, q4, q5, hch, ho2, byteD, KON_blk_ext]
    refine fin2 (stop hx) _ (Wk.fits ?_)
    simp
  · have q0 : ((48 : Int) ≤ (c.toNat : Int)) = True := by simp; omega
    have q1 : ((c.toNat : Int) ≤ 57) = True := by simp; omega
    have q2 : ((97 : Int) ≤ (c.toNat : Int)) = False := by simp; omega
    have q3 : ((c.toNat : Int) ≤ 102) = True := by simp; omega
    have q4 : ((65 : Int) ≤ (c.toNat : Int)) = False := by simp; omega
    have q5 : ((c.toNat : Int) ≤ 70) = True := by simp; omega
    have hx : hxB c = true := by simp [hxB]; omega
    have u1 : IntKind.u8.wrap ((c.toNat : Int) - 48) = (c.toNat : Int) - 48 := by simp [IntKind.wrap, IntKind.bits, IntKind.signed]; omega
    have u3 : IntKind.u32.wrap ((c.toNat : Int) - 48) = (c.toNat : Int) - 48 := by simp [IntKind.wrap, IntKind.bits, IntKind.signed]; omega
    have u4 : IntKind.u32.wrap ((acc : Int) * 16 + ((c.toNat : Int) - 48)) = ((acc * 16 + (c.toNat - 48) : Nat) : Int) := by simp [IntKind.wrap, IntKind.bits, IntKind.signed]; omega
    have hnx := more hx (c.toNat - 48) (by omega)
    generalize acc * 16 + (c.toNat - 48) = acc2 at u4 hnx ⊢
    simp [q0, q1, q2, q3, q4, q5, hch, ho2, byteD, u0, u1, u3, u4]
    refine CC_by (fun c3 => ?_) (fun c3 => ?_)
    · simp
      refine hr2 _ ?_
      simp
      refine hr _ ?_
      simp [Q6, r130]
      exact errv6 hR _ _ _ (bad5 hx (by simp at c3; omega)) _
    · have ho3 : off ≤ 3 := by simp at c3; omega
      simp
      refine CC_by (fun c4 => ?_) (fun c4 => ?_)
      · have := (hnx ho3).2; simp at c4; omega
      · simp [w1]
        exact hb2 _ (off + 1, acc2) (Wk.fits (by simp [H6, A0, adr])) (hnx ho3).1 (by simp; omega)
  · have q0 : ((48 : Int) ≤ (c.toNat : Int)) = True := by simp; omega
    have q1 : ((c.toNat : Int) ≤ 57) = False := by simp; omega
    have q2 : ((97 : Int) ≤ (c.toNat : Int)) = False := by simp; omega
    have q3 : ((c.toNat : Int) ≤ 102) = True := by simp; omega
    have q4 : ((65 : Int) ≤ (c.toNat : Int)) = False := by simp; omega
    have q5 : ((c.toNat : Int) ≤ 70) = True := by simp; omega
    have hx : hxB c = false := by simp [hxB]; omega
    simp [q0, q1, q2, q3, q4, q5, hch, ho2, byteD, KON_blk_ext]
    refine fin2 (stop hx) _ (Wk.fits ?_)
    simp
  · have q0 : ((48 : Int) ≤ (c.toNat : Int)) = True := by simp; omega
    have q1 : ((c.toNat : Int) ≤ 57) = False := by simp; omega
    have q2 : ((97 : Int) ≤ (c.toNat : Int)) = False := by simp; omega
    have q3 : ((c.toNat : Int) ≤ 102) = True := by simp; omega
    have q4 : ((65 : Int) ≤ (c.toNat : Int)) = True := by simp; omega
    have q5 : ((c.toNat : Int) ≤ 70) = True := by simp; omega
    have hx : hxB c = true := by simp [hxB]; omega
    have u1 : IntKind.u8.wrap ((c.toNat : Int) - 65) = (c.toNat : Int) - 65 := by simp [IntKind.wrap, IntKind.bits, IntKind.signed]; omega
    have u2 : IntKind.u8.wrap ((c.toNat : Int) - 65 + 10) = (c.toNat : Int) - 65 + 10 := by simp [IntKind.wrap, IntKind.bits, IntKind.signed]; omega
    have u3 : IntKind.u32.wrap ((c.toNat : Int) - 65 + 10) = (c.toNat : Int) - 65 + 10 := by simp [IntKind.wrap, IntKind.bits, IntKind.signed]; omega
    have u4 : IntKind.u32.wrap ((acc : Int) * 16 + ((c.toNat : Int) - 65 + 10)) = ((acc * 16 + (c.toNat - 55) : Nat) : Int) := by simp [IntKind.wrap, IntKind.bits, IntKind.signed]; omega
    have hnx := more hx (c.toNat - 55) (by omega)
    generalize acc * 16 + (c.toNat - 55) = acc2 at u4 hnx ⊢
    simp [q0, q1, q2, q3, q4, q5, hch, ho2, byteD, u0, u1, u2, u3, u4]
    refine CC_by (fun c3 => ?_) (fun c3 => ?_)
    · simp
      refine hr2 _ ?_
      simp
      refine hr _ ?_
      simp [Q6, r130]
      exact errv6 hR _ _ _ (bad5 hx (by simp at c3; omega)) _
    · have ho3 : off ≤ 3 := by simp at c3; omega
      simp
      refine CC_by (fun c4 => ?_) (fun c4 => ?_)
      · have := (hnx ho3).2; simp at c4; omega
      · simp [w1]
        exact hb2 _ (off + 1, acc2) (Wk.fits (by simp [H6, A0, adr])) (hnx ho3).1 (by simp; omega)
  · have q0 : ((48 : Int) ≤ (c.toNat : Int)) = True := by simp; omega
    have q1 : ((c.toNat : Int) ≤ 57) = False := by simp; omega
    have q2 : ((97 : Int) ≤ (c.toNat : Int)) = False := by simp; omega
    have q3 : ((c.toNat : Int) ≤ 102) = True := by simp; omega
    have q4 : ((65 : Int) ≤ (c.toNat : Int)) = True := by simp; omega
    have q5 : ((c.toNat : Int) ≤ 70) = False := by simp; omega
    have hx : hxB c = false := by simp [hxB]; omega
    simp [q0, q1, q2, q3, q4, q5, hch, ho2, byteD, KON_blk_ext]
    refine fin2 (stop hx) _ (Wk.fits ?_)
    simp
  · have q0 : ((48 : Int) ≤ (c.toNat : Int)) = True := by simp; omega
    have q1 : ((c.toNat : Int) ≤ 57) = False := by simp; omega
    have q2 : ((97 : Int) ≤ (c.toNat : Int)) = True := by simp; omega
    have q3 : ((c.toNat : Int) ≤ 102) = True := by simp; omega
    have q4 : ((65 : Int) ≤ (c.toNat : Int)) = True := by simp; omega
    have q5 : ((c.toNat : Int) ≤ 70) = False := by simp; omega
    have hx : hxB c = true := by simp [hxB]; omega
    have u1 : IntKind.u8.wrap ((c.toNat : Int) - 97) = (c.toNat : Int) - 97 := by simp [IntKind.wrap, IntKind.bits, IntKind.signed]; omega
    have u2 : IntKind.u8.wrap ((c.toNat : Int) - 97 + 10) = (c.toNat : Int) - 97 + 10 := by simp [IntKind.wrap, IntKind.bits, IntKind.signed]; omega
    have u3 : IntKind.u32.wrap ((c.toNat : Int) - 97 + 10) = (c.toNat : Int) - 97 + 10 := by simp [IntKind.wrap, IntKind.bits, IntKind.signed]; omega
    have u4 : IntKind.u32.wrap ((acc : Int) * 16 + ((c.toNat : Int) - 97 + 10)) = ((acc * 16 + (c.toNat - 87) : Nat) : Int) := by simp [IntKind.wrap, IntKind.bits, IntKind.signed]; omega
    have hnx := more hx (c.toNat - 87) (by omega)
    generalize acc * 16 + (c.toNat - 87) = acc2 at u4 hnx ⊢
    simp [q0, q1, q2, q3, q4, q5, hch, ho2, byteD, u0, u1, u2, u3, u4]
    refine CC_by (fun c3 => ?_) (fun c3 => ?_)
    · simp
      refine hr2 _ ?_
      simp
      refine hr _ ?_
      simp [Q6, r130]
      exact errv6 hR _ _ _ (bad5 hx (by simp at c3; omega)) _
    · have ho3 : off ≤ 3 := by simp at c3; omega
      simp
      refine CC_by (fun c4 => ?_) (fun c4 => ?_)
      · have := (hnx ho3).2; simp at c4; omega
      · simp [w1]
        exact hb2 _ (off + 1, acc2) (Wk.fits (by simp [H6, A0, adr])) (hnx ho3).1 (by simp; omega)
  · have q0 : ((48 : Int) ≤ (c.toNat : Int)) = True := by simp; omega
    have q1 : ((c.toNat : Int) ≤ 57) = False := by simp; omega
    have q2 : ((97 : Int) ≤ (c.toNat : Int)) = True := by simp; omega
    have q3 : ((c.toNat : Int) ≤ 102) = False := by simp; omega
    have q4 : ((65 : Int) ≤ (c.toNat : Int)) = True := by simp; omega
    have q5 : ((c.toNat : Int) ≤ 70) = False := by simp; omega
    have hx : hxB c = false := by simp [hxB]; omega
    simp [q0, q1, q2, q3, q4, q5, hch, ho2, byteD, KON_blk_ext]
    refine fin2 (stop hx) _ (Wk.fits ?_)
    simp
end Go.Proofs.Ytdgnjngbheecnaa
