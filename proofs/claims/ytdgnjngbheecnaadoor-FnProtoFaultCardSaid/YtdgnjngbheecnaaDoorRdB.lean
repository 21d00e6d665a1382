/- The reader: bytes (turned from another seat by mkpe.py) -/
import Derived.Test.YtdgnjngbheecnaaDoorRdA
set_option linter.unusedVariables false
set_option linter.unusedSimpArgs false
set_option maxRecDepth 100000
namespace Go.Proofs.YtdgnjngbheecnaaDoor
open Go Go.Den Go.Proofs



/-- So many bytes have been read. -/
def RdN (h : List Blk) (R : Rd) (r : List UInt8) (n : Nat) (v : DV) (h' : List Blk) : Prop := v = .p .nilIface ∧ ∃ R', RdS h' R' (r.drop n) (r.take n) ∧ RdK h h' R R'
/-- A byte has been read, or there was none. -/
def RdC (h : List Blk) (R : Rd) (c : UInt8) (r : List UInt8) (v : DV) (h' : List Blk) : Prop := v = .tup [byteD c, .p .nilIface] ∧ ∃ R', RdS h' R' r [c] ∧ RdK h h' R R'
def RdCe (h : List Blk) (R : Rd) (v : DV) (h' : List Blk) : Prop := (∃ x, v = .tup [.p (.int .u8 0), .iface 170 x]) ∧ ∃ R' r' l', RdS h' R' r' l' ∧ RdK h h' R R'
theorem ok116 {G : Nat → DV} (h : List Blk) (R : Rd) (r l : List UInt8) (hn : l.length ≤ r.length) (hr : r.length ≤ 140737488355328) (s : RdS h R r l) : OkR Tryd.prog G 116 [.ptr R.rb 0 0 1, R.f] h (RdN h R r l.length) := by
  refine OkR_by Tryd.func116 c116_ok r116_ok 30 rfl ?_
  have hlt := s.rlt
  have hne : R.bb ≠ R.rb := Ne.symm s.ne
  have hlb := s.blt
  have hf := s.f
  have hd := s.d
  have hlt' : ¬ r.length < l.length := by omega
  rcases hf with ⟨hf, rfl⟩ | ⟨b, rest, hf, hb⟩
  · rcases hd with ⟨hd, rfl⟩ | ⟨db, i, D, hd, hdb, hD⟩
    · simp [c116, r116, s.rb, hf, hd]
      refine REr_by _ _ .refl ⟨rfl, R, ?_, ?_⟩
      · have : h.set R.rb (.cells 2 [.agg [.p (.slice none 0 0), .ptr R.bb 0 0 1]]) = h := set_same (by rw [s.rb, hd])
        rw [this]; simpa using s
      · have : h.set R.rb (.cells 2 [.agg [.p (.slice none 0 0), .ptr R.bb 0 0 1]]) = h := set_same (by rw [s.rb, hd])
        rw [this]; exact .refl
    · have g0 : decide ((r.length : Int) < 0) = false := by simp
      simp [c116, r116, s.rb, hf, hd, hdb, g0]
      refine REr_by _ _ .refl ⟨rfl, R, ?_, ?_⟩
      · have : h.set R.rb (.cells 2 [.agg [.sl db i r.length D.length, .ptr R.bb 0 0 1]]) = h := set_same (by rw [s.rb, hd])
        rw [this]; simpa using s
      · have : h.set R.rb (.cells 2 [.agg [.sl db i r.length D.length, .ptr R.bb 0 0 1]]) = h := set_same (by rw [s.rb, hd])
        rw [this]; exact .refl
  · have hbb : b ≠ R.bb := fun h => s.fb (by rw [hf]; exact h.symm)
    have hbr : b ≠ R.rb := fun h => s.fr (by rw [hf]; exact h.symm)
    have hblt : b < h.length := (List.getElem?_eq_some_iff.1 hb).1
    rcases hd with ⟨hd, rfl⟩ | ⟨db, i, D, hd, hdb, hD⟩
    · have hl0 : l = [] := List.eq_nil_of_length_eq_zero (by simpa using hn)
      subst hl0
      have e0 : h.set b (.cells ([] ++ rest).length [.agg (bts ([] ++ rest))]) = h := set_same (by simpa using hb)
      simp at e0 hb
      simp [c116, r116, s.rb, hf, hd, hb, e0]
      have e1 : h.set R.rb (.cells 2 [.agg [.p (.slice none 0 0), .ptr R.bb 0 0 1]]) = h := set_same (by rw [s.rb, hd])
      rw [e1]
      exact REr_by _ _ .refl ⟨rfl, R, by simpa using s, .refl⟩
    · have hdbn : ¬ R.own db := s.dn db (by rw [hd]; rfl)
      have hdb1 : db ≠ R.rb := fun h => hdbn (.inl h)
      have hdb2 : db ≠ R.bb := fun h => hdbn (.inr (.inl h))
      have hdb3 : db ≠ b := fun h => hdbn (.inr (.inr (by rw [hf]; exact h)))
      have hy : (bts D).drop i = bts r := by rw [hD]; simp [bts]
      have hrl : r.length = D.length - i := by rw [hD]; simp
      have g1 : ∀ X, (h.set b X)[R.rb]? = h[R.rb]? := fun X => List.getElem?_set_ne hbr
      have hmin : min r.length l.length = l.length := by omega
      have e1 : (bts (l ++ rest)).drop l.length = bts rest := by simp [bts]
      have e2 : (bts r).take l.length ++ bts rest = bts (r.take l.length ++ rest) := by simp [bts]
      have hone : ((bts r).take l.length).all DV.one = true := by
        rw [List.all_eq_true]
        intro x hx
        obtain ⟨y, _, rfl⟩ := List.mem_map.1 (List.mem_of_mem_take hx)
        rfl
      have htk : (bts r).take r.length = bts r := List.take_of_length_le (by simp)
      have g2 : ∀ X, (h.set b X)[db]? = h[db]? := fun X => List.getElem?_set_ne (Ne.symm hdb3)
      have g3 : ((l.length : Int) ≤ (r.length : Int)) := by omega
      have hall : ((bts r).take l.length).all DV.one = true := hone
      simp [c116, r116, s.rb, hf, hd, hb, hdb, hy, htk, g1, g2, hlt', hmin, e1, e2, g3]
      refine ⟨by simpa using hone, ?_⟩
      refine REr_by _ _ .refl ⟨rfl, ⟨R.rb, R.bb, .sl db (i + l.length) (r.length - l.length) D.length, R.f⟩, ⟨?_, ?_, ?_, ?_, s.ne, s.fr, s.fb, ?_⟩, ?_⟩
      · simp [hlt]
      · rw [List.getElem?_set_ne s.ne, List.getElem?_set_ne hbb]; exact s.bb
      · refine .inr ⟨db, i + l.length, D, by simp, ?_, by rw [hD]; simp [Nat.add_comm]⟩
        rw [List.getElem?_set_ne (Ne.symm hdb1), g2]; exact hdb
      · refine .inr ⟨b, rest, ?_, ?_⟩
        · rw [hf]; simp; omega
        · rw [List.getElem?_set_ne (Ne.symm hbr)]
          have : (r.take l.length).length = l.length := by simp; omega
          simp [hblt, this, bts_append]
      · intro j hj ho
        simp only [inBlk] at hj
        subst hj
        exact hdbn (by simpa [Rd.own] using ho)
      · refine ⟨by simp, fun j hj hnj => ?_, rfl, rfl, fun _ h => .inl h, fun j h => by rw [hd]; exact h⟩
        rw [List.getElem?_set_ne fun h => hnj (.inl h.symm), List.getElem?_set_ne fun h => hnj (.inr (.inr (by rw [hf]; exact h.symm)))]

theorem DataS.len {P : Program} {G : Nat → DV} {h : List Blk} {d : DV} {r : List UInt8} (hs : DataS h d r) {ev : Opd → DV} {x : Opd} (hx : ev x = d) {K : DV → List Blk → Prop} (hK : K (.p (.int .i64 r.length)) h) : vcO P G (.lenl x) ev h K := by
  rcases hs with ⟨rfl, rfl⟩ | ⟨b, i, D, rfl, h3, h4⟩ <;> simp only [vcO, hx] <;> exact hK

/-- So many bytes are there. -/
theorem ok102 {G : Nat → DV} (h : List Blk) (R : Rd) (r l : List UInt8) (n : Nat) (hn : n ≤ r.length) (hr : r.length ≤ 140737488355328) (s : RdS h R r l) : OkR Tryd.prog G 102 [.ptr R.rb 0 0 1, .p (.int .i64 n)] h (RdN h R r n) := by
  refine OkR_by Tryd.func102 c102_ok r102_ok 28 rfl ?_
  have hd := s.d
  have hlt' : ¬ r.length < n := by omega
  rcases hd with ⟨hd, hr0⟩ | ⟨db, i, D, hd, hdb, hD⟩
  · subst hr0
    have hn0 : n = 0 := by simpa using hn
    subst hn0
    simp [c102, r102, s.rb, hd]
    refine FF_byR (ok115 _ R _ l 0 (by omega) s) ?_
    rintro v h1 ⟨rfl, R1, l1, hl1, s1, k1, hd1⟩
    have g1 := s1.rb
    rw [k1.rb] at g1
    have g2 := s1.bb
    simp [g1, g2]
    rw [← k1.rb]
    refine FF_byR (ok116 _ R1 _ l1 (by omega) (by omega) s1) ?_
    rintro v h2 ⟨rfl, R2, s2, k2⟩
    rw [hl1] at s2
    simp
    exact REr_by _ _ .refl ⟨rfl, R2, s2, k1.trans k2⟩
  · simp [c102, r102, s.rb, hd, hlt']
    refine FF_byR (ok115 _ R _ l n (by omega) s) ?_
    rintro v h1 ⟨rfl, R1, l1, hl1, s1, k1, hd1⟩
    have g1 := s1.rb
    rw [k1.rb] at g1
    have g2 := s1.bb
    simp [g1, g2]
    rw [← k1.rb]
    refine FF_byR (ok116 _ R1 _ l1 (by omega) (by omega) s1) ?_
    rintro v h2 ⟨rfl, R2, s2, k2⟩
    rw [hl1] at s2
    simp
    exact REr_by _ _ .refl ⟨rfl, R2, s2, k1.trans k2⟩

/-- There are fewer bytes. -/
theorem ok171e {G : Nat → DV} (h : List Blk) (R : Rd) (r l : List UInt8) (n : Nat) (hn : r.length < n) (s : RdS h R r l) : OkR Tryd.prog G 102 [.ptr R.rb 0 0 1, .p (.int .i64 n)] h (RdErr h R) := by
  refine OkR_by Tryd.func102 c102_ok r102_ok 28 rfl ?_
  have hd := s.d
  rcases hd with ⟨hd, rfl⟩ | ⟨db, i, D, hd, hdb, hD⟩
  all_goals
    have hlt2 := hn
    try simp at hlt2
    simp [c102, r102, s.rb, hd, hlt2]
    refine FF_byR (ok114 _ R _ l s) ?_
    rintro v h1 ⟨⟨x, rfl⟩, R1, r1, l1, s1, k1⟩
    simp
    refine FF_by (ok84 _ _ _ _) ?_
    simp
    exact REr_by _ _ .refl ⟨⟨_, rfl⟩, R1, r1, l1, s1.push, k1.trans .push⟩

/-- One byte. -/
theorem ok120 {G : Nat → DV} (h : List Blk) (R : Rd) (c : UInt8) (r l : List UInt8) (hr : r.length < 140737488355328) (s : RdS h R (c :: r) l) : OkR Tryd.prog G 120 [.ptr R.rb 0 0 1] h (RdC h R c r) := by
  refine OkR_by Tryd.func120 c120_ok r120_ok 18 rfl ?_
  simp [c120, r120]
  refine FF_byR (ok102 _ R _ l 1 (by simp) (by simp; omega) s) ?_
  rintro v h1 ⟨rfl, R1, s1, k1⟩
  simp at s1
  have g1 := s1.rb
  rw [k1.rb] at g1
  have g2 := s1.bb
  rcases s1.f with ⟨_, h0⟩ | ⟨b, rest, hf, hb⟩
  · cases h0
  · simp [g1, g2, hf, hb, bts]
    exact REr_by _ _ .refl ⟨rfl, R1, s1, k1⟩
theorem ok139e {G : Nat → DV} (h : List Blk) (R : Rd) (l : List UInt8) (s : RdS h R [] l) : OkR Tryd.prog G 120 [.ptr R.rb 0 0 1] h (RdCe h R) := by
  refine OkR_by Tryd.func120 c120_ok r120_ok 18 rfl ?_
  simp [c120, r120]
  refine FF_byR (ok171e _ R _ l 1 (by simp) s) ?_
  rintro v h1 ⟨⟨x, rfl⟩, R1, r1, l1, s1, k1⟩
  simp
  exact REr_by _ _ .refl ⟨⟨_, rfl⟩, R1, r1, l1, s1, k1⟩
theorem ok89 {G : Nat → DV} (h : List Blk) (R : Rd) (c : UInt8) (r l : List UInt8) (hr : r.length < 140737488355328) (s : RdS h R (c :: r) l) : OkR Tryd.prog G 89 [.ptr R.rb 0 0 1] h (RdC h R c r) := by
  refine OkR_by Tryd.func89 c89_ok r89_ok 19 rfl ?_
  simp [c89, r89]
  refine FF_byR (ok102 _ R _ l 1 (by simp) (by simp; omega) s) ?_
  rintro v h1 ⟨rfl, R1, s1, k1⟩
  simp at s1
  have g1 := s1.rb
  rw [k1.rb] at g1
  have g2 := s1.bb
  rcases s1.f with ⟨_, h0⟩ | ⟨b, rest, hf, hb⟩
  · cases h0
  · simp [g1, g2, hf, hb, bts]
    exact REr_by _ _ .refl ⟨rfl, R1, s1, k1⟩
theorem ok142e {G : Nat → DV} (h : List Blk) (R : Rd) (l : List UInt8) (s : RdS h R [] l) : OkR Tryd.prog G 89 [.ptr R.rb 0 0 1] h (RdCe h R) := by
  refine OkR_by Tryd.func89 c89_ok r89_ok 19 rfl ?_
  simp [c89, r89]
  refine FF_byR (ok171e _ R _ l 1 (by simp) s) ?_
  rintro v h1 ⟨⟨x, rfl⟩, R1, r1, l1, s1, k1⟩
  simp
  refine FF_by (ok84 _ _ _ _) ?_
  simp
  exact REr_by _ _ .refl ⟨⟨_, rfl⟩, R1, r1, l1, s1.push, k1.trans .push⟩

/-- How a number in sevens of bits is read: so many more bytes at most. -/
def rdU : Nat → Nat → List UInt8 → Option (Nat × List UInt8)
  | 0, _, _ => none
  | _ + 1, _, [] => none
  | k + 1, a, b :: r => if b.toNat < 128 then (if k = 0 ∧ 1 < b.toNat then none else some (a + b.toNat * 2 ^ (7 * (9 - k)), r)) else rdU k (a + (b.toNat - 128) * 2 ^ (7 * (9 - k))) r

/-- A number is read, or an error is told. -/
def RdOut (h : List Blk) (R : Rd) (z : DV) (o : Option (DV × List UInt8)) (v : DV) (h' : List Blk) : Prop :=
  match o with
  | some (d, r) => v = .tup [d, .p .nilIface] ∧ ∃ R' l', RdS h' R' r l' ∧ RdK h h' R R'
  | none => (∃ x, v = .tup [z, .iface 170 x]) ∧ ∃ R' r' l', RdS h' R' r' l' ∧ RdK h h' R R'

theorem ok119 {G : Nat → DV} (h : List Blk) (R : Rd) (r l : List UInt8) (hr : r.length < 140737488355328) (s : RdS h R r l) : OkR Tryd.prog G 119 [.ptr R.rb 0 0 1] h
    (RdOut h R (.p (.int .u64 0)) ((rdU 10 0 r).map fun x => (.p (.int .u64 x.1), x.2))) := by
  refine OkR_by Tryd.func119 c119_ok r119_ok 45 rfl ?_
  simp [c119, r119]
  refine VV_fam (fun x : Nat × Nat × List UInt8 × List UInt8 × Rd × List Blk × DV => ⟨fr 46 [(0, .ptr R.rb 0 0 1), (4, x.2.2.2.2.2.2), (5, .p (.int .u64 (7 * x.1 : Nat))), (6, .p (.int .i64 x.1))], x.2.2.2.2.2.1⟩)
    (fun x => x.1 ≤ 10 ∧ (x.1 < 10 → x.2.2.2.2.2.2 = .p (.int .u64 x.2.1) ∧ x.2.1 < 2 ^ (7 * x.1)) ∧ x.2.2.1.length ≤ r.length ∧ rdU 10 0 r = rdU (10 - x.1) x.2.1 x.2.2.1 ∧ RdS x.2.2.2.2.2.1 x.2.2.2.2.1 x.2.2.1 x.2.2.2.1 ∧ RdK h x.2.2.2.2.2.1 R x.2.2.2.2.1)
    (fun x => 10 - x.1) (0, 0, r, l, R, h, .p (.int .u64 0)) ⟨by simp, by simp, by simp, by simp, s, .refl⟩ (Wk.fits (by simp)) ?_
  rintro ⟨i, a, r1, l1, R1, h1, da⟩ ⟨hi, ha, hrl, hU, s1, k1⟩ B hb he hret
  simp only at hi ha hrl hU s1 k1
  simp
  refine CC_by (fun hc => ?_) (fun hc => ?_)
  · have hi10 : i < 10 := by simp at hc; omega
    obtain ⟨rfl, ha2⟩ := ha hi10
    obtain ⟨k, hk⟩ : ∃ k, 10 - i = k + 1 := ⟨9 - i, by omega⟩
    have hk9 : 9 - k = i := by omega
    rw [hk] at hU
    simp
    rw [← k1.rb]
    cases r1 with
    | nil =>
      refine FF_byR (ok139e h1 R1 l1 s1) ?_
      rintro v h2 ⟨⟨x, rfl⟩, R2, r2, l2, s2, k2⟩
      simp
      refine FF_by (ok84 _ _ _ _) ?_
      simp
      refine hret _ ?_
      simp
      refine REr_by _ _ .refl ?_
      rw [hU]
      exact ⟨⟨_, rfl⟩, R2, r2, l2, s2.push, (k1.trans k2).trans .push⟩
    | cons c r2 =>
      simp at hrl
      have hc256 : c.toNat < 256 := c.toNat_lt
      have hp : 2 ^ (7 * i) ≤ 2 ^ 63 := Nat.pow_le_pow_right (by decide) (by omega)
      have hp2 : i < 9 → 2 ^ (7 * i) ≤ 2 ^ 56 := fun h => Nat.pow_le_pow_right (by decide) (by omega)
      refine FF_byR (ok120 h1 R1 c r2 l1 (by omega) s1) ?_
      rintro v h2 ⟨rfl, R2, s2, k2⟩
      simp only [rdU, hk9] at hU
      simp [byteD]
      refine CC_by (fun hc1 => ?_) (fun hc1 => ?_)
      · have hc1 : c.toNat < 128 := by simp at hc1; omega
        rw [if_pos hc1] at hU
        simp
        have fin : ¬ (i = 9 ∧ 1 < c.toNat) → KON Tryd.prog G h [] B .ret ⟨(fr 46 []), h2⟩ → True := fun _ _ => trivial
        by_cases h9 : i = 9 ∧ 1 < c.toNat
        · obtain ⟨rfl, hc2⟩ := h9
          have hk0 : k = 0 := by omega
          have hc2' : decide ((1 : Int) < (c.toNat : Int)) = true := by simp; omega
          simp [hc2', hc2, KON_blk_ext]
          refine he _ _ ?_
          simp
          refine FF_by (ok108 _ _) ?_
          simp
          refine REr_by _ _ .refl ?_
          rw [hU, if_pos ⟨hk0, hc2⟩]
          exact ⟨⟨_, rfl⟩, R2, r2, [c], s2.push, (k1.trans k2).trans .push⟩
        · have hval : c.toNat * 2 ^ (7 * i) < 2 ^ 64 := by
            by_cases h8 : i < 9
            · calc c.toNat * 2 ^ (7 * i) ≤ 128 * 2 ^ 56 := Nat.mul_le_mul (by omega) (hp2 h8)
                _ < 2 ^ 64 := by decide
            · have h9' : i = 9 := by omega
              subst h9'
              have : c.toNat ≤ 1 := by omega
              calc c.toNat * 2 ^ (7 * 9) ≤ 1 * 2 ^ 63 := Nat.mul_le_mul this (Nat.le_refl _)
                _ < 2 ^ 64 := by decide
          have w1 : IntKind.u64.wrap (c.toNat : Int) = c.toNat := wrap_u rfl _ (by simp [IntKind.bits]; omega)
          obtain ⟨V, hV⟩ : ∃ V, V = c.toNat * 2 ^ (7 * i) := ⟨_, rfl⟩
          have w2 : ishl .u64 (c.toNat : Int) (7 * (i : Int)) = (V : Int) := by
            have := ishl_nat (k := .u64) rfl (a := c.toNat) (b := 7 * i) (by simpa [IntKind.bits] using hval) (by simp [IntKind.bits]; omega)
            rw [← hV] at this
            rw [← this]; simp
          have w3 : ior .u64 (a : Int) (V : Int) = (a : Int) + (V : Int) := by
            rw [ior_nat rfl (by simp [IntKind.bits]; omega) (by rw [hV]; simpa [IntKind.bits] using hval), hV, or_add ha2]
            simp
          have hif : ¬ (k = 0 ∧ 1 < c.toNat) := by rintro ⟨h1, h2⟩; exact h9 ⟨by omega, h2⟩
          rw [if_neg hif, ← hV] at hU
          have fin : REr h (some [.p (.int .u64 ((a : Int) + (V : Int))), .p .nilIface]) h2 (RdOut h R (.p (.int .u64 0)) ((rdU 10 0 r).map fun x => (.p (.int .u64 x.1), x.2))) := by
            refine REr_by _ _ .refl ?_
            rw [hU]
            exact ⟨by simp, R2, [c], s2, k1.trans k2⟩
          cases h9b : (i == 9)
          · have h9c : ((i : Int) == 9) = false := by simp at h9b ⊢; omega
            simp [h9c, w1, w2, w3]
            refine ⟨by omega, hret _ ?_⟩
            simpa using fin
          · have h9c : ((i : Int) == 9) = true := by simp at h9b ⊢; omega
            have hc2' : decide ((1 : Int) < (c.toNat : Int)) = false := by simp at h9b ⊢; omega
            simp [h9c, hc2', w1, w2, w3]
            refine ⟨by omega, hret _ ?_⟩
            simpa using fin
      · have hc1 : 128 ≤ c.toNat := by simp at hc1; omega
        rw [if_neg (by omega)] at hU
        have w0 : iand .u8 (c.toNat : Int) 127 = ((c.toNat - 128 : Nat) : Int) := by
          have := iand_nat (k := .u8) rfl (a := c.toNat) (b := 127) (by simpa [IntKind.bits] using hc256) (by decide)
          have e : c.toNat &&& 127 = c.toNat - 128 := by
            have h7 := Nat.and_two_pow_sub_one_eq_mod c.toNat 7
            have : c.toNat &&& 127 = c.toNat % 128 := h7
            omega
          rw [e] at this
          exact this
        have w1 : IntKind.u64.wrap ((c.toNat - 128 : Nat) : Int) = ((c.toNat - 128 : Nat) : Int) := wrap_u rfl _ (by simp [IntKind.bits]; omega)
        have w5 : IntKind.u64.wrap (7 * (i : Int) + 7) = ((7 * (i + 1) : Nat) : Int) := by
          have := wrap_u (k := .u64) rfl (7 * (i + 1)) (by simp [IntKind.bits]; omega)
          have e : (7 * (i : Int) + 7) = ((7 * (i + 1) : Nat) : Int) := by omega
          rw [e]; exact this
        have w6 : IntKind.i64.wrap ((i : Int) + 1) = ((i + 1 : Nat) : Int) := wrap_succ (n := 10) hi10 (by omega)
        simp [w0, w1, w5, w6]
        by_cases h8 : i < 9
        · have hval : (c.toNat - 128) * 2 ^ (7 * i) < 2 ^ 64 := by
            calc (c.toNat - 128) * 2 ^ (7 * i) ≤ 128 * 2 ^ 56 := Nat.mul_le_mul (by omega) (hp2 h8)
              _ < 2 ^ 64 := by decide
          obtain ⟨V, hV⟩ : ∃ V, V = (c.toNat - 128) * 2 ^ (7 * i) := ⟨_, rfl⟩
          have w2 : ishl .u64 ((c.toNat - 128 : Nat) : Int) (7 * (i : Int)) = (V : Int) := by
            have := ishl_nat (k := .u64) rfl (a := c.toNat - 128) (b := 7 * i) (by simpa [IntKind.bits] using hval) (by simp [IntKind.bits]; omega)
            rw [← hV] at this
            rw [← this]; simp
          have w3 : ior .u64 (a : Int) (V : Int) = (a : Int) + (V : Int) := by
            rw [ior_nat rfl (by simp [IntKind.bits]; omega) (by rw [hV]; simpa [IntKind.bits] using hval), hV, or_add ha2]
            simp
          have hbnd : a + V < 2 ^ (7 * (i + 1)) := by
            rw [hV]
            have e : 2 ^ (7 * (i + 1)) = 128 * 2 ^ (7 * i) := by rw [show 7 * (i + 1) = 7 * i + 7 by omega, Nat.pow_add, Nat.mul_comm]
            rw [e]
            calc a + (c.toNat - 128) * 2 ^ (7 * i) < 2 ^ (7 * i) + (c.toNat - 128) * 2 ^ (7 * i) := by omega
              _ = (c.toNat - 128 + 1) * 2 ^ (7 * i) := by rw [Nat.add_mul]; omega
              _ ≤ 128 * 2 ^ (7 * i) := Nat.mul_le_mul_right _ (by omega)
          rw [← hV] at hU
          simp [w2, w3]
          refine ⟨by omega, ?_⟩
          refine hb _ (i + 1, a + V, r2, [c], R2, h2, .p (.int .u64 ((a + V : Nat) : Int))) (Wk.fits ?_) ⟨by omega, fun _ => ⟨rfl, hbnd⟩, by simp; omega, ?_, s2, k1.trans k2⟩ (by simp; omega)
          · simp [k1.rb]
          · rw [hU]; simp only; congr 1; omega
        · have h9 : i = 9 := by omega
          subst h9
          have hk0 : k = 0 := by omega
          subst hk0
          refine ⟨by omega, ?_⟩
          refine hb _ (10, 0, r2, [c], R2, h2, .any) (Wk.fits ?_) ⟨by omega, fun h => absurd h (by simp), by simp; omega, ?_, s2, k1.trans k2⟩ (by simp)
          · simp [k1.rb]
          · rw [hU]; simp [rdU]
  · have hi10 : i = 10 := by simp at hc; omega
    subst hi10
    simp
    refine he _ _ ?_
    simp
    refine FF_by (ok108 _ _) ?_
    simp
    refine REr_by _ _ .refl ?_
    rw [hU]
    exact ⟨⟨_, rfl⟩, R1, r1, l1, s1.push, k1.trans .push⟩

end Go.Proofs.YtdgnjngbheecnaaDoor
