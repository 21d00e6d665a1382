/- The reader: texts (turned from another seat by mkpe.py) -/
import Derived.Test.YtdgnjngbheecnaaDoorRdC
set_option linter.unusedVariables false
set_option linter.unusedSimpArgs false
set_option maxRecDepth 100000
namespace Go.Proofs.YtdgnjngbheecnaaDoor
open Go Go.Den Go.Proofs



theorem CapS.slice {h : List Blk} {f : DV} {l : List UInt8} (hs : CapS h f l) : sliceOf h 1 f = some (bts l) := by
  rcases hs with ⟨rfl, rfl⟩ | ⟨b, rest, rfl, hb⟩
  · rfl
  · simp [hb, sub]
    apply List.ext_getElem
    · simp
    · intro i h1 h2
      simp at h1 h2
      simp [bts, h2, List.getElem?_append]

theorem ok117 {G : Nat → DV} (h : List Blk) (R : Rd) (r l : List UInt8) (rb : Nat) (hrb : R.rb = rb) (hr : r.length < 140737488355328) (s : RdS h R r l) : OkR Tryd.prog G 117 [.ptr rb 0 0 1] h (RdOutV h R (.int .i64 0) ((rdU 10 0 r).map fun x => (.int .i64 (IntKind.i64.wrap x.1), x.2))) := by
  refine OkR_by Tryd.func117 c117_ok r117_ok 16 rfl ?_
  simp [c117, r117]
  refine FF_byR (ok119' h R r l rb hrb hr s) ?_
  intro v h1 ho
  unfold dU at ho
  cases hU : rdU 10 0 r with
  | none =>
    rw [hU] at ho
    obtain ⟨⟨x, rfl⟩, R1, r1, l1, s1, k1⟩ := ho
    simp
    refine FF_by (ok84 _ _ _ _) ?_
    simp
    exact REr_by _ _ .refl ⟨⟨_, rfl⟩, R1, r1, l1, s1.push, k1.trans .push⟩
  | some x =>
    rw [hU] at ho
    obtain ⟨rfl, R1, l1, s1, k1⟩ := ho
    simp
    exact REr_by _ _ .refl ⟨rfl, R1, l1, s1, k1⟩

/-- A length. -/
def dL (r : List UInt8) : Option (Nat × List UInt8) := match rdU 10 0 r with
  | some (n, r1) => if n < 9223372036854775808 then some (n, r1) else none
  | none => none
theorem rdU_lt : ∀ (k i : Nat) (a : Nat) (r : List UInt8) (x : Nat × List UInt8), i + k = 10 → a < 2 ^ (7 * i) → rdU k a r = some x → x.1 < 18446744073709551616 := by
  intro k
  induction k with
  | zero => intro i a r x hi ha h; cases h
  | succ k ih =>
    intro i a r x hi ha h
    cases r with
    | nil => cases h
    | cons c r =>
      have hk9 : 9 - k = i := by omega
      have hp : 2 ^ (7 * i) ≤ 2 ^ 63 := Nat.pow_le_pow_right (by decide) (by omega)
      simp only [rdU, hk9] at h
      split at h
      · rename_i h1
        split at h
        · cases h
        · rename_i h2
          cases h
          simp only
          by_cases h8 : i < 9
          · have hp2 : 2 ^ (7 * i) ≤ 2 ^ 56 := Nat.pow_le_pow_right (by decide) (by omega)
            have : c.toNat * 2 ^ (7 * i) ≤ 127 * 2 ^ 56 := Nat.mul_le_mul (by omega) hp2
            omega
          · have h9 : i = 9 := by omega
            subst h9
            have : c.toNat * 2 ^ (7 * 9) ≤ 1 * 2 ^ (7 * 9) := Nat.mul_le_mul_right _ (by omega)
            omega
      · rename_i h1
        have hc := c.toNat_lt
        by_cases hk0 : k = 0
        · subst hk0; cases h
        · refine ih (i + 1) _ r x (by omega) ?_ h
          have e : 2 ^ (7 * (i + 1)) = 128 * 2 ^ (7 * i) := by rw [show 7 * (i + 1) = 7 * i + 7 by omega, Nat.pow_add, Nat.mul_comm]
          rw [e]
          calc a + (c.toNat - 128) * 2 ^ (7 * i) < 2 ^ (7 * i) + (c.toNat - 128) * 2 ^ (7 * i) := by omega
            _ = (c.toNat - 128 + 1) * 2 ^ (7 * i) := by rw [Nat.add_mul]; omega
            _ ≤ 128 * 2 ^ (7 * i) := Nat.mul_le_mul_right _ (by omega)

theorem ok104 {G : Nat → DV} (h : List Blk) (R : Rd) (r l : List UInt8) (rb : Nat) (hrb : R.rb = rb) (hr : r.length < 140737488355328) (s : RdS h R r l) : OkR Tryd.prog G 104 [.ptr rb 0 0 1] h (RdOutV h R (.int .i64 0) ((dL r).map fun x => (.int .i64 x.1, x.2))) := by
  refine OkR_by Tryd.func104 c104_ok r104_ok 21 rfl ?_
  simp [c104, r104]
  refine FF_byR (ok117 h R r l rb hrb hr s) ?_
  intro v h1 ho
  cases hU : rdU 10 0 r with
  | none =>
    rw [hU] at ho
    obtain ⟨⟨x, rfl⟩, R1, r1, l1, s1, k1⟩ := ho
    simp
    refine FF_by (ok84 _ _ _ _) ?_
    simp
    refine REr_by _ _ .refl ?_
    simp only [dL, hU]
    exact ⟨⟨_, rfl⟩, R1, r1, l1, s1.push, k1.trans .push⟩
  | some x =>
    have hlt := rdU_lt 10 0 0 r x (by omega) (by simp) hU
    rw [hU] at ho
    obtain ⟨rfl, R1, l1, s1, k1⟩ := ho
    simp
    refine CC_by (fun hc => ?_) (fun hc => ?_)
    · have hc : ¬ x.1 < 9223372036854775808 := by
        simp [IntKind.wrap, IntKind.bits, IntKind.signed] at hc; omega
      simp
      refine FF_by (ok90 _ _ _) ?_
      simp
      refine REr_by _ _ .refl ?_
      simp only [dL, hU, hc, if_false]
      exact ⟨⟨_, rfl⟩, R1, x.2, l1, s1.push, k1.trans .push⟩
    · have hc : x.1 < 9223372036854775808 := by
        simp [IntKind.wrap, IntKind.bits, IntKind.signed] at hc; omega
      have hw : IntKind.i64.wrap (x.1 : Int) = x.1 := by simp [IntKind.wrap, IntKind.bits, IntKind.signed]; omega
      simp [hw]
      refine REr_by _ _ .refl ?_
      simp only [dL, hU, hc, if_true]
      exact ⟨rfl, R1, l1, s1, k1⟩

/-- A text's bytes lie in the buffer. -/
def RdRaw (h : List Blk) (R : Rd) (o : Option (List UInt8 × List UInt8)) (v : DV) (h' : List Blk) : Prop :=
  match o with
  | some (w, r) => ∃ R', v = .tup [R'.f, .p .nilIface] ∧ RdS h' R' r w ∧ RdK h h' R R'
  | none => (∃ x, v = .tup [.p (.slice none 0 0), .iface 170 x]) ∧ ∃ R' r' l', RdS h' R' r' l' ∧ RdK h h' R R'
def dR (r : List UInt8) : Option (List UInt8 × List UInt8) := match dL r with
  | some (n, r1) => if n ≤ r1.length then some (r1.take n, r1.drop n) else none
  | none => none
theorem dL_len {r : List UInt8} {x : Nat × List UInt8} (h : dL r = some x) : x.2.length ≤ r.length := by
  unfold dL at h
  split at h
  · rename_i n r1 hU
    split at h
    · cases h; exact rdU_len _ _ _ _ hU
    · cases h
  · cases h
theorem ok83 {G : Nat → DV} (h : List Blk) (R : Rd) (r l : List UInt8) (rb : Nat) (hrb : R.rb = rb) (hr : r.length < 140737488355328) (s : RdS h R r l) : OkR Tryd.prog G 83 [.ptr rb 0 0 1] h (RdRaw h R (dR r)) := by
  refine OkR_by Tryd.func83 c83_ok r83_ok 29 rfl ?_
  simp [c83, r83]
  refine FF_byR (ok104 h R r l rb hrb hr s) ?_
  intro v h1 ho
  cases hU : dL r with
  | none =>
    rw [hU] at ho
    obtain ⟨⟨x, rfl⟩, R1, r1, l1, s1, k1⟩ := ho
    simp
    refine FF_by (ok84 _ _ _ _) ?_
    simp
    refine REr_by _ _ .refl ?_
    simp only [dR, hU]
    exact ⟨⟨_, rfl⟩, R1, r1, l1, s1.push, k1.trans .push⟩
  | some x =>
    have hlen := dL_len hU
    rw [hU] at ho
    obtain ⟨rfl, R1, l1, s1, k1⟩ := ho
    have hrb1 : R1.rb = rb := k1.rb.trans hrb
    simp
    by_cases hc : x.1 ≤ x.2.length
    · refine FF_byR (hrb1 ▸ ok102 h1 R1 x.2 l1 x.1 hc (by omega) s1) ?_
      rintro v h2 ⟨rfl, R2, s2, k2⟩
      have g1 := s2.rb
      rw [k2.rb, hrb1] at g1
      have g2 := s2.bb
      simp [g1, g2]
      refine REr_by _ _ .refl ?_
      simp only [dR, hU, hc, if_true]
      exact ⟨R2, rfl, s2, k1.trans k2⟩
    · refine FF_byR (hrb1 ▸ ok171e h1 R1 x.2 l1 x.1 (by omega) s1) ?_
      rintro v h2 ⟨⟨y, rfl⟩, R2, r2, l2, s2, k2⟩
      simp
      refine FF_by (ok84 _ _ _ _) ?_
      simp
      refine REr_by _ _ .refl ?_
      simp only [dR, hU, hc, if_false]
      exact ⟨⟨_, rfl⟩, R2, r2, l2, s2.push, (k1.trans k2).trans .push⟩

/-- The buffer is emptied, its room kept. -/
def RstP (h : List Blk) (R : Rd) (r : List UInt8) (v : DV) (h' : List Blk) : Prop := v = .tup [] ∧ ∃ R', RdS h' R' r [] ∧ RdK h h' R R'
theorem ok82 {G : Nat → DV} (h : List Blk) (R : Rd) (r l : List UInt8) (s : RdS h R r l) : OkD Tryd.prog G 82 [.ptr R.bb 0 0 1] h (RstP h R r) := by
  refine OkD_by Tryd.func82 c82_ok r82_ok 9 rfl ?_
  have hne : R.bb ≠ R.rb := Ne.symm s.ne
  have hlb := s.blt
  have hf := s.f
  rcases hf with ⟨hf, rfl⟩ | ⟨b, rest, hf, hb⟩
  · simp [c82, r82, s.bb, hf]
    have : h.set R.bb (.cells 1 [.agg [.p (.slice none 0 0)]]) = h := set_same (by rw [s.bb, hf])
    rw [this]
    exact REr_by _ _ .refl ⟨rfl, R, s, .refl⟩
  · have hbn : b ≠ R.bb := fun h => s.fb (by rw [hf]; exact h.symm)
    have hbr : b ≠ R.rb := fun h => s.fr (by rw [hf]; exact h.symm)
    simp [c82, r82, s.bb, hf, hb]
    refine ⟨by omega, ?_⟩
    refine REr_by _ _ .refl ⟨rfl, ⟨R.rb, R.bb, R.d, .sa false 1 b 0 0 0 (l.length + rest.length) 1⟩, ⟨?_, ?_, ?_, ?_, s.ne, ?_, ?_, ?_⟩, ?_⟩
    · rw [List.getElem?_set_ne hne]; exact s.rb
    · simp [hlb]
    · exact s.d.of fun i hi => List.getElem?_set_ne fun h => s.dn i hi (.inr (.inl h.symm))
    · refine .inr ⟨b, l ++ rest, by simp, ?_⟩
      rw [List.getElem?_set_ne (Ne.symm hbn)]
      simpa using hb
    · simp only [inSa]; exact fun h => hbr h.symm
    · simp only [inSa]; exact fun h => hbn h.symm
    · intro i hi ho
      rcases ho with h1 | h1 | h1
      · exact s.dn i hi (.inl h1)
      · exact s.dn i hi (.inr (.inl h1))
      · exact s.dn i hi (.inr (.inr (by rw [hf]; exact h1)))
    · refine ⟨by simp, fun i hi hn => ?_, rfl, rfl, fun i h => .inl (by rw [hf]; exact h), fun _ h => h⟩
      rw [List.getElem?_set_ne fun h => hn (.inr (.inl h.symm))]

def dS : Dec := fun r => (dR r).map fun x => (.string (txt x.1), x.2)
theorem dS_len {r : List UInt8} {x : Value} {r' : List UInt8} (h : dS r = some (x, r')) : r'.length ≤ r.length := by
  unfold dS dR at h
  obtain ⟨y, h1, h2⟩ := Option.map_eq_some_iff.1 h
  split at h1
  · rename_i n r1 hU
    have := dL_len hU
    simp only at this
    split at h1
    · cases h1; cases h2; simp; omega
    · cases h1
  · cases h1
theorem ok59' {G : Nat → DV} (h : List Blk) (R : Rd) (r l : List UInt8) (rb : Nat) (hrb : R.rb = rb) (hr : r.length < 140737488355328) (s : RdS h R r l) : OkR Tryd.prog G 59 [.ptr rb 0 0 1] h (RdOutV h R (.string ⟨#[]⟩) (dS r)) := by
  subst hrb
  refine OkR_by_defer Tryd.func59 c59_ok r59_ok 21 rfl ?_
  have hlb := s.blt
  simp [c59, r59, s.rb, hlb]
  refine FF_byR (ok83 h R r l R.rb rfl hr s) ?_
  intro v h1 ho
  unfold dS
  cases hU : dR r with
  | none =>
    rw [hU] at ho
    obtain ⟨⟨x, rfl⟩, R1, r1, l1, s1, k1⟩ := ho
    simp
    refine FF_by (ok84 _ _ _ _) ?_
    simp
    refine RDE_by (k1.bb ▸ ok82 _ R1 r1 l1 s1.push) ?_
    rintro v2 h2 ⟨rfl, R2, s2, k2⟩
    simp
    exact REr_by _ _ .refl ⟨⟨_, rfl⟩, R2, r1, [], s2, (k1.trans .push).trans k2⟩
  | some x =>
    rw [hU] at ho
    obtain ⟨R1, rfl, s1, k1⟩ := ho
    have hsl := CapS.slice s1.f
    simp [hsl]
    refine RDE_by (k1.bb ▸ ok82 _ R1 x.2 x.1 s1) ?_
    rintro v2 h2 ⟨rfl, R2, s2, k2⟩
    simp
    exact REr_by _ _ .refl ⟨rfl, R2, [], s2, k1.trans k2⟩

theorem ex_dS (w : List UInt8) (hw : w.length < 9223372036854775808) : Ex dS (uv w.length ++ w) (.string (txt w)) := by
  have h64 : w.length < B64 := by simp [B64]; omega
  refine ⟨fun rest => ?_, fun p hp hl => ?_⟩
  · have : dR (uv w.length ++ w ++ rest) = some (w, rest) := by
      unfold dR dL
      rw [List.append_assoc, rdU_uv 9 0 w.length 0 (w ++ rest) (by omega) (by simpa [B64] using h64)]
      simp [hw]
    unfold dS
    rw [this]; rfl
  · have : dR p = none := by
      unfold dR dL
      rcases Nat.lt_or_ge p.length (uv w.length).length with h1 | h1
      · have hp2 : p <+: uv w.length := List.prefix_of_prefix_length_le hp (List.prefix_append _ _) (Nat.le_of_lt h1)
        rw [rdU_cut _ _ _ _ hp2 h1]
      · have hw2 : uv w.length <+: p := List.prefix_of_prefix_length_le (List.prefix_append _ _) hp h1
        obtain ⟨q, rfl⟩ := hw2
        rw [rdU_uv 9 0 w.length 0 q (by omega) (by simpa [B64] using h64)]
        simp at hl
        simp [hw]
        omega
    unfold dS
    rw [this]; rfl


theorem ok23 {G : Nat → DV} (h : List Blk) (b : Bool) : Ok Tryd.prog G 23 [.p (.bool b)] h (.p (.string (txt (yn b)))) h := by
  refine Ok_by Tryd.func23 c23_ok r23_ok 3 rfl ?_
  cases b
  · simp [c23, r23]; exact .refl
  · simp [c23, r23]; exact .refl



/-- A reader in a frame: a block of the result's ahead, the receiver's behind. -/
def rdFrame (n : Nat) (c x : Blk) (D : List UInt8) : List Blk := [c, .cells 1 (bts D), .cells 1 [.agg [.p (.slice none 0 0)]], .cells 2 [.agg [.sl (n + 1) 0 D.length D.length, .ptr (n + 1 + 1) 0 0 1]], x]
theorem rdFrame_s (h : List Blk) (c : Blk) (n : Nat) (k : List DV) (D : List UInt8) : RdSX (h.length + 4) (.cells n k) (h ++ rdFrame h.length c (.cells n k) D) (rdNew (h.length + 1) D) D [] := by
  refine ⟨?_, ?_, ?_, ?_⟩
  · have := (rdNew_s (h ++ [c]) D).push (x := [.cells n k])
    simpa [rdBs, rdFrame] using this
  · simp [rdFrame]
  · simp [Rd.own, rdNew, inSa]
  · simp [rdNew, inBlk]
theorem rdFrame_own {n i : Nat} {D : List UInt8} (h : i ≤ n) : ¬ (rdNew (n + 1) D).own i := by
  simp [Rd.own, rdNew, inSa]; omega
/-- What a frame with a reader leaves of what was there, and of its result's block. -/
theorem rdFrame_keep {h h' : List Blk} {c x : Blk} {D : List UInt8} {R' : Rd} (q : RdX (h.length + 4) (h ++ rdFrame h.length c x D) h' (rdNew (h.length + 1) D) R') : HPre h h' ∧ h'[h.length]? = some c ∧ R'.rb = h.length + 3 ∧ ∀ X, (h'.set h.length X)[h.length]? = some X := by
  refine ⟨q.pre (HPre.append _ _) (fun i hi => rdFrame_own (by omega)) (by omega), ?_, q.rb, ?_⟩
  · rw [q.old h.length (by simp [rdFrame]) (by omega) (rdFrame_own (Nat.le_refl _))]
    simp [rdFrame]
  · intro X
    have := q.len
    simp [rdFrame] at this
    rw [List.getElem?_set_self (by omega)]

end Go.Proofs.YtdgnjngbheecnaaDoor
