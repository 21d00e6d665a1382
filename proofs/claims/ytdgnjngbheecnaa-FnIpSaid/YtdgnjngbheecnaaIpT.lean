/- Addresses: the reader of eight groups: behind the digits of a group. -/
import Derived.Test.YtdgnjngbheecnaaIpS
set_option linter.unusedVariables false
set_option linter.unusedSimpArgs false
set_option maxRecDepth 100000
namespace Go.Proofs.Ytdgnjngbheecnaa
open Go Go.Den Go.Proofs

def F6b (h : List Blk) (l s z : List UInt8) (g : Nat) (e : Int) (ip : List UInt8) (off acc : Nat) : St := ⟨fr 280 [(0, .p (.string (txt l))), (2, .ptr h.length 0 0 1), (3, .p .nilIface), (4, .p (.string (txt s))), (5, .p (.string (txt z))), (6, .p (.int .i64 (16 - 2 * ((g + 1 : Nat) : Int)))), (7, .ptr (h.length + 1) 0 0 1), (8, .p (.int .i64 e)), (9, .p (.int .i64 off)), (10, .p (.int .u32 acc))], H6 h ip⟩
set_option maxHeartbeats 4000000 in
theorem rest130 {G : Nat → DV} {R : DV → Prop} {W : Bool} {z : List UInt8} (hR : ∀ v, Out6 W z v → R v) (h : List Blk) (l s post : List UInt8) (g off acc : Nat) (pre : List UInt8) (ell : Bool) (e : Int) (ip : List UInt8) (B : DX → St → Prop) (hz : (z = [] ∧ post = []) ∨ (z ≠ [] ∧ post = 37 :: z)) (hll : l.length ≤ 2147483647) (hA : At6 l post W (g + 1) pre s ell e ip) (ho : off ≤ s.length) (ho4 : off ≤ 4) (hoff : off6 s = off) (hacc : acc < 16 ^ off)
    (hb : ∀ s1 (x' : Nat × List UInt8 × List UInt8 × Bool × Int × List UInt8), Wk G h s1 (F6 h l x'.2.2.1 z x'.1 x'.2.2.2.2.1 x'.2.2.2.2.2) → At6 l post W x'.1 x'.2.1 x'.2.2.1 x'.2.2.2.1 x'.2.2.2.2.1 x'.2.2.2.2.2 → x'.1 < g + 1 → B .nrm s1)
    (fin : ∀ (f : Nat) (s : List UInt8) (ell : Bool) (e : Int) (ip : List UInt8), Fin6 W f s ell e ip → ∀ s1, Wk G h s1 (F6 h l s z f e ip) → B (.ext 0) s1)
    (hr : ∀ s1, KON Try.prog G h [Fr.blk 0, Fr.seq c130T] (Q6 h R) .ret s1 → B .ret s1) : VV Try.prog G h c130R (F6b h l s z g e ip off acc) [Fr.blk 1] B := by
  obtain ⟨hf, hl, hip, hee, hgo⟩ := hA
  have hsl : s.length ≤ 2147483647 := by have := congrArg List.length hl; simp at this; omega
  simp [c130R, F6b, H6, A0, adr]
  rw [p6, hoff] at hgo
  refine CC_by (fun c2 => ?_) (fun c2 => ?_)
  · have h0 : off = 0 := by simp at c2; omega
    rw [if_pos (.inl h0)] at hgo
    simp
    refine hr _ ?_
    simp [Q6, r130]
    exact errv6 hR _ _ _ hgo _
  have h0 : ¬ (off = 0 ∨ 4 < off) := by simp at c2; omega
  rw [if_neg h0] at hgo
  obtain ⟨I, hI⟩ : ∃ I : Nat, I + 2 * g = 14 := ⟨14 - 2 * g, by omega⟩
  have i1 : (16 - 2 * ((g : Int) + 1)) = (I : Int) := by omega
  have i2 : IntKind.i64.wrap ((I : Int) + 1) = ((I + 1 : Nat) : Int) := by simp [IntKind.wrap, IntKind.bits, IntKind.signed]; omega
  have i3 : IntKind.i64.wrap ((I : Int) + 2) = ((I + 2 : Nat) : Int) := by simp [IntKind.wrap, IntKind.bits, IntKind.signed]; omega
  have i4 : IntKind.i64.wrap ((I : Int) + 4) = (I : Int) + 4 := by simp [IntKind.wrap, IntKind.bits, IntKind.signed]; omega
  have i6 : ((I : Int) + 4).toNat - I = 4 := by omega
  have i5 : ((I + 1 : Nat) : Int).toNat = I + 1 := by omega
  have b1 : ishr .u32 (acc : Int) 8 = ((acc / 256 : Nat) : Int) := by
    show (acc : Int).fdiv 256 = _
    rw [Int.fdiv_eq_ediv_of_nonneg _ (by omega)]; rfl
  obtain ⟨ip2, hip2⟩ : ∃ ip2, ip2 = (ip.take I ++ UInt8.ofNat (acc / 256) :: ip.drop (I + 1)).take (I + 1) ++ UInt8.ofNat acc :: (ip.take I ++ UInt8.ofNat (acc / 256) :: ip.drop (I + 1)).drop (I + 1 + 1) := ⟨_, rfl⟩
  have hl2 : ip2.length = 16 := by rw [hip2, put_len _ _ _ (by rw [put_len _ _ _ (by omega)]; omega), put_len _ _ _ (by omega)]; exact hip
  have hput : List.take (I + 1) (bts (ip.take I) ++ DV.p (.int .u8 (IntKind.u8.wrap ((acc : Int) / 256))) :: bts (ip.drop (I + 1))) ++ DV.p (.int .u8 (IntKind.u8.wrap (acc : Int))) :: List.drop (I + 1 + 1) (bts (ip.take I) ++ DV.p (.int .u8 (IntKind.u8.wrap ((acc : Int) / 256))) :: bts (ip.drop (I + 1))) = bts ip2 := by
    rw [show ((acc : Int) / 256) = ((acc / 256 : Nat) : Int) by omega, bts_put, hip2]
    simp only [u8_wrap]
    simp [bts, byteD]
  have ends : ∀ (ell2 : Bool) (e2 : Int), ((ell2 = true ∧ 0 ≤ e2 ∧ e2 ≤ 16 - 2 * (g : Int)) ∨ (ell2 = false ∧ e2 = -1)) → W = fin6 g ell2 → ∀ s1, Wk G h s1 (F6 h l [] z g e2 ip2) → B (.ext 0) s1 := fun ell2 e2 h1 h2 s1 hw => fin g [] ell2 e2 ip2 ⟨by omega, hl2, h1, by rw [h2]; rfl⟩ s1 hw
  have hee2 : (ell = true ∧ 0 ≤ e ∧ e ≤ 16 - 2 * (g : Int)) ∨ (ell = false ∧ e = -1) := hee.imp (fun ⟨a1, a2, a3⟩ => ⟨a1, a2, by omega⟩) id
  simp
  have ho1 : off ≤ s.length := ho
  cases hd : s.drop off with
  | nil =>
    rw [hd] at hgo
    have hle : s.length = off := by have := congrArg List.length hd; simp at this; omega
    simp [hle, i1, i2, i3, b1]
    refine ⟨by omega, by omega, by omega, by omega, ?_⟩
    rw [hput]
    simp [KON_blk_ext]
    refine ends ell e hee2 hgo _ (Wk.fits ?_)
    simp [show 16 - 2 * (g : Int) = (I : Int) + 2 by omega]
    rfl
  | cons c r =>
    rw [hd] at hgo
    simp only at hgo
    have hlt : off < s.length := by have := congrArg List.length hd; simp at this; omega
    have hc : s[off] = c := by rw [List.drop_eq_getElem_cons hlt] at hd; exact (List.cons.inj hd).1
    have hrl : s.length = off + (r.length + 1) := by have := congrArg List.length hd; simp at this; omega
    by_cases h46 : c = 46
    · subst h46
      rw [if_pos rfl] at hgo
      simp [hlt, hc, byteD]
      rcases hee with ⟨hel, he1, he2'⟩ | ⟨hel, he1⟩
      · have hen : decide (e < 0) = false := by simp; omega
        have hW46 := hgo
        rw [hel, if_neg (by simp)] at hW46
        rw [hen]
        simp [i1, i4]
        refine CC_by (fun c5 => ?_) (fun c5 => ?_)
        · have hg0 : g = 0 := by simp at c5; omega
          simp
          refine hr _ ?_
          simp [Q6, r130]
          exact errv6 hR _ _ _ (by rw [hW46, if_pos hg0]) _
        have hg0 : ¬ g = 0 := by simp at c5; omega
        rw [if_neg hg0] at hW46
        have hI4 : I + 4 ≤ 16 := by omega
        have key := ok144 (G := G) (H6 h ip) pre s post (h.length + 1) 16 I (16 - I) ip (by simp [H6]) hip hI4 (by omega) (by rw [← hl]; exact hll)
        rw [← hl] at key
        simp [H6, A0, adr] at key
        have fourth : ∀ v h', ((∃ l' : List UInt8, l'.length = 16 ∧ h' = h ++ [.cells 5 [A0], .cells 16 [.agg (bts l')]]) ∧ ((p4 s = true ∧ v = .p .nilIface) ∨ (p4 s = false ∧ IsErr v))) → (p4 s = true ∧ v = .p .nilIface ∧ ∃ l' : List UInt8, l'.length = 16 ∧ h' = H6 h l') ∨ (p4 s = false ∧ ∃ l' : List UInt8, ∃ x y w : ByteArray, l'.length = 16 ∧ h' = H6 h l' ∧ v = .iface 160 (.agg [.p (.string x), .p (.string y), .p (.string w)])) := by
          rintro v h' ⟨⟨l', hl', rfl⟩, ⟨h1, rfl⟩ | ⟨h1, x, y, w, rfl⟩⟩
          · exact .inl ⟨h1, rfl, l', hl', rfl⟩
          · exact .inr ⟨h1, l', x, y, w, hl', rfl, rfl⟩
        simp only [H6, A0, adr] at fourth
        have after : ∀ (k : Nat) (l' : List UInt8), k = g - 1 → l'.length = 16 → p4 s = true → ∀ s1, Wk G h s1 (F6 h l [] z k e l') → B (.ext 0) s1 := fun k l' hk hl' hp s1 hw => fin k [] ell e l' ⟨by omega, hl', hee2.imp (fun ⟨a1, a2, a3⟩ => ⟨a1, a2, by omega⟩) id, by rw [hW46, hp, hk]; simp [hel]⟩ s1 hw
        simp
        refine CC_by (fun c6 => ?_) (fun c6 => ?_)
        · have hzp : z ≠ [] := by rintro rfl; simp at c6
          have hpost : post = 37 :: z := hz.elim (fun h => absurd h.1 hzp) (fun h => h.2)
          have hlen : l.length = pre.length + s.length + (z.length + 1) := by rw [hl, hpost]; simp; omega
          have e1 : IntKind.i64.wrap ((z.length : Int) + 1) = (z.length : Int) + 1 := by simp [IntKind.wrap, IntKind.bits, IntKind.signed]; omega
          have e2 : IntKind.i64.wrap ((l.length : Int) - ((z.length : Int) + 1)) = (pre.length : Int) + (s.length : Int) := by simp [IntKind.wrap, IntKind.bits, IntKind.signed]; omega
          have e3 : IntKind.i64.wrap (pre.length : Int) = (pre.length : Int) := by simp [IntKind.wrap, IntKind.bits, IntKind.signed]; omega
          simp [i1, i4, i6, e1, e2, e3, show (I : Int) ≤ (I : Int) + 4 by omega]
          refine ⟨by omega, ?_⟩
          refine FF_byR key ?_
          intro v h2 hv
          rcases fourth v h2 hv with ⟨hp, rfl, l2, hl2, rfl⟩ | ⟨hp, l2, x, y, w, hl2, rfl, rfl⟩
          · simp [isNilD, H6, A0, adr, i4, KON_blk_ext]
            refine after (g - 1) l2 rfl hl2 hp _ (Wk.fits ?_)
            simp
            omega
          · simp [isNilD, H6, A0, adr]
            refine hr _ ?_
            simp [Q6, r130]
            exact errv6 hR _ _ _ (by rw [hW46, hp]; rfl) _
        · have hzp : z = [] := by
            refine List.eq_nil_of_length_eq_zero ?_
            simp at c6
            simpa using c6
          have hpost : post = [] := hz.elim (fun h => h.2) (fun h => absurd hzp h.1)
          have hlen : l.length = pre.length + s.length := by rw [hl, hpost]; simp
          have e1 : (l.length : Int) = (pre.length : Int) + (s.length : Int) := by omega
          have e2 : True := trivial
          have e3 : IntKind.i64.wrap (pre.length : Int) = (pre.length : Int) := by simp [IntKind.wrap, IntKind.bits, IntKind.signed]; omega
          simp [i1, i4, i6, e1, e2, e3, show (I : Int) ≤ (I : Int) + 4 by omega]
          refine ⟨by omega, ?_⟩
          refine FF_byR key ?_
          intro v h2 hv
          rcases fourth v h2 hv with ⟨hp, rfl, l2, hl2, rfl⟩ | ⟨hp, l2, x, y, w, hl2, rfl, rfl⟩
          · simp [isNilD, H6, A0, adr, i4, KON_blk_ext]
            refine after (g - 1) l2 rfl hl2 hp _ (Wk.fits ?_)
            simp
            omega
          · simp [isNilD, H6, A0, adr]
            refine hr _ ?_
            simp [Q6, r130]
            exact errv6 hR _ _ _ (by rw [hW46, hp]; rfl) _
      · have hen : decide (e < 0) = true := by simp; omega
        rw [hen]
        simp [i1]
        refine CC_by (fun c4 => ?_) (fun c4 => ?_)
        · have hg1 : ¬ g = 1 := by
            rintro rfl
            simp at c4; omega
          rw [hel, if_pos ⟨rfl, hg1⟩] at hgo
          simp
          refine hr _ ?_
          simp [Q6, r130]
          exact errv6 hR _ _ _ hgo _
        · have hg1 : g = 1 := by simp at c4; omega
          have hW46 := hgo
          rw [hel, if_neg (by simp [hg1])] at hW46
          simp [i1, i4]
          refine CC_by (fun c5 => ?_) (fun c5 => ?_)
          · have hg0 : g = 0 := by simp at c5; omega
            simp
            refine hr _ ?_
            simp [Q6, r130]
            exact errv6 hR _ _ _ (by rw [hW46, if_pos hg0]) _
          have hg0 : ¬ g = 0 := by simp at c5; omega
          rw [if_neg hg0] at hW46
          have hI4 : I + 4 ≤ 16 := by omega
          have key := ok144 (G := G) (H6 h ip) pre s post (h.length + 1) 16 I (16 - I) ip (by simp [H6]) hip hI4 (by omega) (by rw [← hl]; exact hll)
          rw [← hl] at key
          simp [H6, A0, adr] at key
          have fourth : ∀ v h', ((∃ l' : List UInt8, l'.length = 16 ∧ h' = h ++ [.cells 5 [A0], .cells 16 [.agg (bts l')]]) ∧ ((p4 s = true ∧ v = .p .nilIface) ∨ (p4 s = false ∧ IsErr v))) → (p4 s = true ∧ v = .p .nilIface ∧ ∃ l' : List UInt8, l'.length = 16 ∧ h' = H6 h l') ∨ (p4 s = false ∧ ∃ l' : List UInt8, ∃ x y w : ByteArray, l'.length = 16 ∧ h' = H6 h l' ∧ v = .iface 160 (.agg [.p (.string x), .p (.string y), .p (.string w)])) := by
            rintro v h' ⟨⟨l', hl', rfl⟩, ⟨h1, rfl⟩ | ⟨h1, x, y, w, rfl⟩⟩
            · exact .inl ⟨h1, rfl, l', hl', rfl⟩
            · exact .inr ⟨h1, l', x, y, w, hl', rfl, rfl⟩
          simp only [H6, A0, adr] at fourth
          have after : ∀ (k : Nat) (l' : List UInt8), k = g - 1 → l'.length = 16 → p4 s = true → ∀ s1, Wk G h s1 (F6 h l [] z k e l') → B (.ext 0) s1 := fun k l' hk hl' hp s1 hw => fin k [] ell e l' ⟨by omega, hl', hee2.imp (fun ⟨a1, a2, a3⟩ => ⟨a1, a2, by omega⟩) id, by rw [hW46, hp, hk]; simp [hel]⟩ s1 hw
          simp
          refine CC_by (fun c6 => ?_) (fun c6 => ?_)
          · have hzp : z ≠ [] := by rintro rfl; simp at c6
            have hpost : post = 37 :: z := hz.elim (fun h => absurd h.1 hzp) (fun h => h.2)
            have hlen : l.length = pre.length + s.length + (z.length + 1) := by rw [hl, hpost]; simp; omega
            have e1 : IntKind.i64.wrap ((z.length : Int) + 1) = (z.length : Int) + 1 := by simp [IntKind.wrap, IntKind.bits, IntKind.signed]; omega
            have e2 : IntKind.i64.wrap ((l.length : Int) - ((z.length : Int) + 1)) = (pre.length : Int) + (s.length : Int) := by simp [IntKind.wrap, IntKind.bits, IntKind.signed]; omega
            have e3 : IntKind.i64.wrap (pre.length : Int) = (pre.length : Int) := by simp [IntKind.wrap, IntKind.bits, IntKind.signed]; omega
            simp [i1, i4, i6, e1, e2, e3, show (I : Int) ≤ (I : Int) + 4 by omega]
            refine ⟨by omega, ?_⟩
            refine FF_byR key ?_
            intro v h2 hv
            rcases fourth v h2 hv with ⟨hp, rfl, l2, hl2, rfl⟩ | ⟨hp, l2, x, y, w, hl2, rfl, rfl⟩
            · simp [isNilD, H6, A0, adr, i4, KON_blk_ext]
              refine after (g - 1) l2 rfl hl2 hp _ (Wk.fits ?_)
              simp
              omega
            · simp [isNilD, H6, A0, adr]
              refine hr _ ?_
              simp [Q6, r130]
              exact errv6 hR _ _ _ (by rw [hW46, hp]; rfl) _
          · have hzp : z = [] := by
              refine List.eq_nil_of_length_eq_zero ?_
              simp at c6
              simpa using c6
            have hpost : post = [] := hz.elim (fun h => h.2) (fun h => absurd hzp h.1)
            have hlen : l.length = pre.length + s.length := by rw [hl, hpost]; simp
            have e1 : (l.length : Int) = (pre.length : Int) + (s.length : Int) := by omega
            have e2 : True := trivial
            have e3 : IntKind.i64.wrap (pre.length : Int) = (pre.length : Int) := by simp [IntKind.wrap, IntKind.bits, IntKind.signed]; omega
            simp [i1, i4, i6, e1, e2, e3, show (I : Int) ≤ (I : Int) + 4 by omega]
            refine ⟨by omega, ?_⟩
            refine FF_byR key ?_
            intro v h2 hv
            rcases fourth v h2 hv with ⟨hp, rfl, l2, hl2, rfl⟩ | ⟨hp, l2, x, y, w, hl2, rfl, rfl⟩
            · simp [isNilD, H6, A0, adr, i4, KON_blk_ext]
              refine after (g - 1) l2 rfl hl2 hp _ (Wk.fits ?_)
              simp
              omega
            · simp [isNilD, H6, A0, adr]
              refine hr _ ?_
              simp [Q6, r130]
              exact errv6 hR _ _ _ (by rw [hW46, hp]; rfl) _
    · rw [if_neg h46] at hgo
      have q46 : ((c.toNat : Int) == 46) = false := by
        rw [← Bool.not_eq_true]
        intro h
        exact h46 (UInt8.toNat_inj.1 (by simp at h; simp; omega))
      have z0 : ((r.length : Int) + 1 == 0) = false := by simp; omega
      simp [hlt, hc, byteD, q46, i1, i2, i3, b1, hd, z0]
      refine ⟨by omega, by omega, by omega, by omega, ?_⟩
      rw [hput]
      refine ⟨ho1, ?_⟩
      refine CC_by (fun c7 => ?_) (fun c7 => ?_)
      · have h58 : c ≠ 58 := by rintro rfl; simp at c7
        rw [if_pos h58] at hgo
        simp
        refine hr _ ?_
        simp [Q6, r130]
        exact errv6 hR _ _ _ hgo _
      have h58 : c = 58 := UInt8.toNat_inj.1 (by simp at c7; simp; omega)
      subst h58
      rw [if_neg (by simp)] at hgo
      simp
      refine CC_by (fun c8 => ?_) (fun c8 => ?_)
      · have hr0 : r = [] := List.eq_nil_of_length_eq_zero (by simp at c8; omega)
        rw [hr0] at hgo
        simp
        refine hr _ ?_
        simp [Q6, r130]
        exact errv6 hR _ _ _ hgo _
      cases r with
      | nil => simp at c8
      | cons d r2 =>
        simp only at hgo
        have hs2 : s = s.take off ++ 58 :: d :: r2 := by rw [← hd, List.take_append_drop]
        have t1 : ((r2.length : Int) + 1 + 1).toNat = r2.length + 1 + 1 := by omega
        simp [byteD, t1]
        refine ⟨by omega, ?_⟩
        have hl3 : ∀ t : List UInt8, s = t ++ r2 → l = (pre ++ t) ++ r2 ++ post := fun t ht => by rw [hl]; simp; rw [ht]; simp
        refine CC_by (fun c9 => ?_) (fun c9 => ?_)
        · have hd58 : d = 58 := UInt8.toNat_inj.1 (by simp at c9; simp; omega)
          subst hd58
          rw [if_pos rfl] at hgo
          simp
          refine CC_by (fun c10 => ?_) (fun c10 => ?_)
          · simp
            refine hr _ ?_
            simp [Q6, r130]
            refine errv6 hR _ _ _ ?_ _
            rcases hee with ⟨a1, a2, a3⟩ | ⟨a1, a2⟩
            · rw [a1, if_pos rfl] at hgo; exact hgo
            · simp at c10; omega
          · have hel : ell = false := by
              rcases hee with ⟨a1, a2, a3⟩ | ⟨a1, a2⟩
              · simp at c10; omega
              · exact a1
            rw [hel, if_neg (by simp)] at hgo
            have t2 : ((r2.length : Int) + 1).toNat = r2.length + 1 := by omega
            simp [t2]
            refine ⟨by omega, ?_⟩
            refine CC_by (fun c11 => ?_) (fun c11 => ?_)
            · have hr2 : r2 = [] := by simpa using c11
              rw [if_pos hr2] at hgo
              simp [KON_blk_ext]
              refine ends true ((I : Int) + 2) (.inl ⟨rfl, by omega, by omega⟩) hgo _ (Wk.fits ?_)
              simp [hr2, show 16 - 2 * (g : Int) = (I : Int) + 2 by omega]
            · have hr2 : ¬ r2 = [] := by rintro rfl; simp at c11
              rw [if_neg hr2] at hgo
              simp [KON_blk_ext]
              refine hb _ (g, pre ++ (s.take off ++ [58, 58]), r2, true, (I : Int) + 2, ip2) (Wk.fits ?_) ⟨by simp; omega, hl3 _ (by rw [List.append_assoc]; exact hs2), hl2, .inl ⟨rfl, by simp; omega, by simp; omega⟩, hgo⟩ (by simp)
              simp [F6, show 16 - 2 * (g : Int) = (I : Int) + 2 by omega]
        · have hd58 : ¬ d = 58 := by rintro rfl; simp at c9
          rw [if_neg hd58] at hgo
          simp [KON_blk_ext]
          refine hb _ (g, pre ++ (s.take off ++ [58]), d :: r2, ell, e, ip2) (Wk.fits ?_) ⟨by simp; omega, by rw [hl]; simp; simpa using congrArg (· ++ post) hs2, hl2, hee2, hgo⟩ (by simp)
          simp [F6, show 16 - 2 * (g : Int) = (I : Int) + 2 by omega]
end Go.Proofs.Ytdgnjngbheecnaa
