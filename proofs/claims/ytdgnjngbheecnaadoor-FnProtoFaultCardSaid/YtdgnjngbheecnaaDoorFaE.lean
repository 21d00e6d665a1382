/- Faults: one is read. (ok45 is printed by a program.) -/
import Derived.Test.YtdgnjngbheecnaaDoorFaD
set_option linter.unusedVariables false
set_option linter.unusedSimpArgs false
set_option maxRecDepth 100000
namespace Go.Proofs.YtdgnjngbheecnaaDoor
open Go Go.Den Go.Proofs

theorem d4_len' {r : List UInt8} {x : Value} {r' : List UInt8} (h : d4 r = some (x, r')) : r'.length ≤ r.length := by
  have := d4_len h; omega
theorem d4_some {r : List UInt8} {x : Value} {r' : List UInt8} (h : d4 r = some (x, r')) : ∃ c, x = .int .i32 c := by
  unfold d4 at h
  split at h
  · cases h; exact ⟨_, rfl⟩
  · cases h
theorem dS_some {r : List UInt8} {x : Value} {r' : List UInt8} (h : dS r = some (x, r')) : ∃ s, x = .string (txt s) := by
  unfold dS at h
  obtain ⟨y, h1, h2⟩ := Option.map_eq_some_iff.1 h
  cases h2
  exact ⟨_, rfl⟩
theorem dB_some {r : List UInt8} {x : Value} {r' : List UInt8} (h : dB r = some (x, r')) : ∃ b, x = .bool b := by
  unfold dB at h
  split at h
  · cases h
  · split at h
    · cases h; exact ⟨_, rfl⟩
    · split at h
      · cases h; exact ⟨_, rfl⟩
      · cases h
/-- What an exception's block holds. -/
def exF : List Value → List DV
  | [c, .string n, .string m, t, b] => [.p c, .p (.string n), .p (.string ⟨#[]⟩), .p (.string (txt (tight (tpx (n.data.toList ++ [58]) m.data.toList)))), .p t, .p (.slice none 0 0), .p b]
  | _ => []
theorem ok45 (h : List Blk) (R : Rd) (r l : List UInt8) (xb rb : Nat) (hrb : R.rb = rb) (hr : r.length < 140737488355328) (hpl : ∀ c n ms r3, decs [d4, dS, dS] r = some ([c, .string (txt n), .string (txt ms)], r3) → pl (tpx (n ++ [58]) ms) ∧ n.length ≤ 5000 ∧ ms.length ≤ 5000)
    (s0 : RdSX xb (.cells 7 [.agg [.p (.int .i32 0), .p (.string ⟨#[]⟩), .p (.string ⟨#[]⟩), .p (.string ⟨#[]⟩), .p (.string ⟨#[]⟩), .p (.slice none 0 0), .p (.bool false)]]) h R r l) : OkR Tryd.prog GT 45 [.ptr xb 0 0 1, .ptr rb 0 0 1] h (DecOut 170 h R xb 7 exF (decs [d4, dS, dS, dS, dB] r)) := by
  refine OkR_by Tryd.func45 c45_ok r45_ok 72 rfl ?_
  subst hrb
  simp [c45, r45]
  have q0 : RdX xb h h R R := .refl
  refine FF_byR (ok58 GT rfl _ R r _ R.rb q0.rb (by omega) s0.s) ?_
  intro v h1 ho
  cases hd1 : d4 r with
  | none =>
    rw [hd1] at ho
    obtain ⟨⟨x, rfl⟩, R1, r1, l1, s, k⟩ := ho
    have t := s0.next s k
    simp [t.x]
    refine REr_by _ _ .refl ?_
    simp only [DecOut, decs, hd1]
    exact ⟨⟨_, rfl⟩, R1, r1, l1, _, t.set, (q0.trans k.toX).set⟩
  | some x1 =>
    obtain ⟨w0, r1⟩ := x1
    have hl1 := d4_len' hd1
    obtain ⟨c, rfl⟩ := d4_some hd1
    rw [hd1] at ho
    obtain ⟨rfl, R1, l1, s, k⟩ := ho
    have t := s0.next s k
    simp [t.x]
    have s1 := t.set (x' := .cells 7 [.agg [.p (.int .i32 c), .p (.string ⟨#[]⟩), .p (.string ⟨#[]⟩), .p (.string ⟨#[]⟩), .p (.string ⟨#[]⟩), .p (.slice none 0 0), .p (.bool false)]])
    have q1 := (q0.trans k.toX).set (k := .cells 7 [.agg [.p (.int .i32 c), .p (.string ⟨#[]⟩), .p (.string ⟨#[]⟩), .p (.string ⟨#[]⟩), .p (.string ⟨#[]⟩), .p (.slice none 0 0), .p (.bool false)]])
    refine FF_byR (ok59' _ R1 r1 _ R.rb q1.rb (by omega) s1.s) ?_
    intro v h2 ho
    cases hd2 : dS r1 with
    | none =>
      rw [hd2] at ho
      obtain ⟨⟨x, rfl⟩, R2, r2, l2, s, k⟩ := ho
      have t := s1.next s k
      simp [t.x]
      refine REr_by _ _ .refl ?_
      simp only [DecOut, decs, hd1, hd2]
      exact ⟨⟨_, rfl⟩, R2, r2, l2, _, t.set, (q1.trans k.toX).set⟩
    | some x2 =>
      obtain ⟨w1, r2⟩ := x2
      have hl2 := dS_len hd2
      obtain ⟨n, rfl⟩ := dS_some hd2
      rw [hd2] at ho
      obtain ⟨rfl, R2, l2, s, k⟩ := ho
      have t := s1.next s k
      simp [t.x]
      have s2 := t.set (x' := .cells 7 [.agg [.p (.int .i32 c), .p (.string (txt n)), .p (.string ⟨#[]⟩), .p (.string ⟨#[]⟩), .p (.string ⟨#[]⟩), .p (.slice none 0 0), .p (.bool false)]])
      have q2 := (q1.trans k.toX).set (k := .cells 7 [.agg [.p (.int .i32 c), .p (.string (txt n)), .p (.string ⟨#[]⟩), .p (.string ⟨#[]⟩), .p (.string ⟨#[]⟩), .p (.slice none 0 0), .p (.bool false)]])
      refine FF_byR (ok59' _ R2 r2 _ R.rb q2.rb (by omega) s2.s) ?_
      intro v h3 ho
      cases hd3 : dS r2 with
      | none =>
        rw [hd3] at ho
        obtain ⟨⟨x, rfl⟩, R3, r3, l3, s, k⟩ := ho
        have t := s2.next s k
        simp [t.x]
        refine REr_by _ _ .refl ?_
        simp only [DecOut, decs, hd1, hd2, hd3]
        exact ⟨⟨_, rfl⟩, R3, r3, l3, _, t.set, (q2.trans k.toX).set⟩
      | some x3 =>
        obtain ⟨w2, r3⟩ := x3
        have hl3 := dS_len hd3
        obtain ⟨ms, rfl⟩ := dS_some hd3
        rw [hd3] at ho
        obtain ⟨rfl, R3, l3, s, k⟩ := ho
        have t := s2.next s k
        have s3' := t.set (x' := .cells 7 [.agg [.p (.int .i32 c), .p (.string (txt n)), .p (.string ⟨#[]⟩), .p (.string (txt ms)), .p (.string ⟨#[]⟩), .p (.slice none 0 0), .p (.bool false)]])
        have hp := hpl (.int .i32 c) n ms r3 (by simp only [decs, hd1, hd2, hd3])
        have hpx := tpx_length (n ++ [58]) ms
        have hs3 := s3'.x
        have hlt3 := t.lt
        simp [t.x, hs3]
        refine ⟨by omega, ?_⟩
        refine DF_by (ok61 _ ms (n ++ [58]) (by omega) (by simp; omega)) ?_
        simp
        refine DF_by (ok60t _ _ (by omega) hp.1) ?_
        simp [hs3]
        have s3 := t.set (x' := .cells 7 [.agg [.p (.int .i32 c), .p (.string (txt n)), .p (.string ⟨#[]⟩), .p (.string (txt (tight (tpx (n ++ [58]) ms)))), .p (.string ⟨#[]⟩), .p (.slice none 0 0), .p (.bool false)]])
        have q3 := (q2.trans k.toX).set (k := .cells 7 [.agg [.p (.int .i32 c), .p (.string (txt n)), .p (.string ⟨#[]⟩), .p (.string (txt (tight (tpx (n ++ [58]) ms)))), .p (.string ⟨#[]⟩), .p (.slice none 0 0), .p (.bool false)]])
        refine FF_byR (ok59' _ R3 r3 _ R.rb q3.rb (by omega) s3.s) ?_
        intro v h4 ho
        cases hd4 : dS r3 with
        | none =>
          rw [hd4] at ho
          obtain ⟨⟨x, rfl⟩, R4, r4, l4, s, k⟩ := ho
          have t := s3.next s k
          simp [t.x]
          refine REr_by _ _ .refl ?_
          simp only [DecOut, decs, hd1, hd2, hd3, hd4]
          exact ⟨⟨_, rfl⟩, R4, r4, l4, _, t.set, (q3.trans k.toX).set⟩
        | some x4 =>
          obtain ⟨w3, r4⟩ := x4
          have hl4 := dS_len hd4
          obtain ⟨tr, rfl⟩ := dS_some hd4
          rw [hd4] at ho
          obtain ⟨rfl, R4, l4, s, k⟩ := ho
          have t := s3.next s k
          simp [t.x]
          have s4 := t.set (x' := .cells 7 [.agg [.p (.int .i32 c), .p (.string (txt n)), .p (.string ⟨#[]⟩), .p (.string (txt (tight (tpx (n ++ [58]) ms)))), .p (.string (txt tr)), .p (.slice none 0 0), .p (.bool false)]])
          have q4 := (q3.trans k.toX).set (k := .cells 7 [.agg [.p (.int .i32 c), .p (.string (txt n)), .p (.string ⟨#[]⟩), .p (.string (txt (tight (tpx (n ++ [58]) ms)))), .p (.string (txt tr)), .p (.slice none 0 0), .p (.bool false)]])
          refine FF_byR (ok62' _ R4 r4 _ R.rb q4.rb (by omega) s4.s) ?_
          intro v h5 ho
          cases hd5 : dB r4 with
          | none =>
            rw [hd5] at ho
            obtain ⟨⟨x, rfl⟩, R5, r5, l5, s, k⟩ := ho
            have t := s4.next s k
            simp [t.x]
            refine REr_by _ _ .refl ?_
            simp only [DecOut, decs, hd1, hd2, hd3, hd4, hd5]
            exact ⟨⟨_, rfl⟩, R5, r5, l5, _, t.set, (q4.trans k.toX).set⟩
          | some x5 =>
            obtain ⟨w4, r5⟩ := x5
            have hl5 := dB_len hd5
            obtain ⟨b, rfl⟩ := dB_some hd5
            rw [hd5] at ho
            obtain ⟨rfl, R5, l5, s, k⟩ := ho
            have t := s4.next s k
            simp [t.x]
            have s5 := t.set (x' := .cells 7 [.agg [.p (.int .i32 c), .p (.string (txt n)), .p (.string ⟨#[]⟩), .p (.string (txt (tight (tpx (n ++ [58]) ms)))), .p (.string (txt tr)), .p (.slice none 0 0), .p (.bool b)]])
            have q5 := (q4.trans k.toX).set (k := .cells 7 [.agg [.p (.int .i32 c), .p (.string (txt n)), .p (.string ⟨#[]⟩), .p (.string (txt (tight (tpx (n ++ [58]) ms)))), .p (.string (txt tr)), .p (.slice none 0 0), .p (.bool b)]])
            refine REr_by _ _ .refl ?_
            simp only [DecOut, decs, hd1, hd2, hd3, hd4, hd5]
            exact ⟨rfl, _, _, s5, q5⟩
end Go.Proofs.YtdgnjngbheecnaaDoor
