/- Progress: what is read. -/
import Derived.Test.YtbbafeocmchlnaaCodP
set_option linter.unusedVariables false
set_option linter.unusedSimpArgs false
set_option maxRecDepth 100000
namespace Go.Proofs.Ytbbafeocmchlnaa
open Go Go.Den Go.Proofs

theorem dU_int {r r' : List UInt8} {x : Value} (h : dU r = some (x, r')) : ∃ n : Nat, x = .int .u64 n := by
  unfold dU at h
  obtain ⟨y, h1, h2⟩ := Option.map_eq_some_iff.1 h
  cases h2
  exact ⟨_, rfl⟩
def elapV : Value → Value
  | .int _ n => .int .i64 (IntKind.i64.wrap (IntKind.i64.wrap n))
  | v => v
theorem ok77a {G : Nat → DV} (h : List Blk) (R : Rd) (r l : List UInt8) (xb : Nat) (rev : Nat) (g1 : ¬ 54420 ≤ rev) (g2 : ¬ 54460 ≤ rev) (hr : r.length < 140737488355328) (s0 : RdSX xb (.cells 7 [.agg [.p (.int .u64 0), .p (.int .u64 0), .p (.int .u64 0), .p (.int .u64 0), .p (.int .u64 0), .p (.int .i64 0), .p (.bool false)]]) h R r l) : OkR Try.prog G 77 [.ptr xb 0 0 1, .ptr R.rb 0 0 1, .p (.int .u64 rev)] h
    (DecOut 265 h R xb 7 (fun vs => match vs with | [w0, w1, w2] => [.p (w0), .p (w1), .p (w2), .p (.int .u64 0), .p (.int .u64 0), .p (.int .i64 0), .p (.bool false)] | _ => []) (decs [dU, dU, dU] r)) := by
  refine OkR_by Try.func77 c77_ok r77_ok 81 rfl ?_
  have hx0 := s0.x
  simp [c77, r77, hx0, show ¬ (54420 : Int) ≤ (rev : Int) by omega, show ¬ (54460 : Int) ≤ (rev : Int) by omega]
  have q0 : RdX xb h h R R := .refl
  refine FF_byR (ok104' _ R r _ R.rb q0.rb (by omega) s0.s) ?_
  intro v h1 ho
  cases hd1 : dU r with
  | none =>
    rw [hd1] at ho
    obtain ⟨⟨x, rfl⟩, R1, r1, l1, s, k⟩ := ho
    have t := s0.next s k
    have tx := t.x
    simp [tx, show ¬ (54420 : Int) ≤ (rev : Int) by omega, show ¬ (54460 : Int) ≤ (rev : Int) by omega]
    refine REr_by _ _ .refl ?_
    simp only [DecOut, decs, hd1]
    exact ⟨⟨_, rfl⟩, R1, r1, l1, _, t.set, (q0.trans k.toX).set⟩
  | some x1 =>
    obtain ⟨w0, r1⟩ := x1
    rw [hd1] at ho
    obtain ⟨rfl, R1, l1, s, k⟩ := ho
    have t := s0.next s k
    have tx := t.x
    have ts : ∀ X, (h1.set xb X)[xb]? = some X := fun X => by rw [List.getElem?_set_self t.lt]
    have hl1 := dU_len hd1
    simp [tx, ts, show ¬ (54420 : Int) ≤ (rev : Int) by omega, show ¬ (54460 : Int) ≤ (rev : Int) by omega]
    have s1 := t.set (x' := .cells 7 [.agg [.p (w0), .p (.int .u64 0), .p (.int .u64 0), .p (.int .u64 0), .p (.int .u64 0), .p (.int .i64 0), .p (.bool false)]])
    have q1 := (q0.trans k.toX).set (k := .cells 7 [.agg [.p (w0), .p (.int .u64 0), .p (.int .u64 0), .p (.int .u64 0), .p (.int .u64 0), .p (.int .i64 0), .p (.bool false)]])
    refine FF_byR (ok104' _ R1 r1 _ R.rb q1.rb (by omega) s1.s) ?_
    intro v h2 ho
    cases hd2 : dU r1 with
    | none =>
      rw [hd2] at ho
      obtain ⟨⟨x, rfl⟩, R2, r2, l2, s, k⟩ := ho
      have t := s1.next s k
      have tx := t.x
      simp [tx, show ¬ (54420 : Int) ≤ (rev : Int) by omega, show ¬ (54460 : Int) ≤ (rev : Int) by omega]
      refine REr_by _ _ .refl ?_
      simp only [DecOut, decs, hd1, hd2]
      exact ⟨⟨_, rfl⟩, R2, r2, l2, _, t.set, (q1.trans k.toX).set⟩
    | some x2 =>
      obtain ⟨w1, r2⟩ := x2
      rw [hd2] at ho
      obtain ⟨rfl, R2, l2, s, k⟩ := ho
      have t := s1.next s k
      have tx := t.x
      have ts : ∀ X, (h2.set xb X)[xb]? = some X := fun X => by rw [List.getElem?_set_self t.lt]
      have hl2 := dU_len hd2
      simp [tx, ts, show ¬ (54420 : Int) ≤ (rev : Int) by omega, show ¬ (54460 : Int) ≤ (rev : Int) by omega]
      have s2 := t.set (x' := .cells 7 [.agg [.p (w0), .p (w1), .p (.int .u64 0), .p (.int .u64 0), .p (.int .u64 0), .p (.int .i64 0), .p (.bool false)]])
      have q2 := (q1.trans k.toX).set (k := .cells 7 [.agg [.p (w0), .p (w1), .p (.int .u64 0), .p (.int .u64 0), .p (.int .u64 0), .p (.int .i64 0), .p (.bool false)]])
      refine FF_byR (ok104' _ R2 r2 _ R.rb q2.rb (by omega) s2.s) ?_
      intro v h3 ho
      cases hd3 : dU r2 with
      | none =>
        rw [hd3] at ho
        obtain ⟨⟨x, rfl⟩, R3, r3, l3, s, k⟩ := ho
        have t := s2.next s k
        have tx := t.x
        simp [tx, show ¬ (54420 : Int) ≤ (rev : Int) by omega, show ¬ (54460 : Int) ≤ (rev : Int) by omega]
        refine REr_by _ _ .refl ?_
        simp only [DecOut, decs, hd1, hd2, hd3]
        exact ⟨⟨_, rfl⟩, R3, r3, l3, _, t.set, (q2.trans k.toX).set⟩
      | some x3 =>
        obtain ⟨w2, r3⟩ := x3
        rw [hd3] at ho
        obtain ⟨rfl, R3, l3, s, k⟩ := ho
        have t := s2.next s k
        have tx := t.x
        have ts : ∀ X, (h3.set xb X)[xb]? = some X := fun X => by rw [List.getElem?_set_self t.lt]
        have hl3 := dU_len hd3
        simp [tx, ts, show ¬ (54420 : Int) ≤ (rev : Int) by omega, show ¬ (54460 : Int) ≤ (rev : Int) by omega]
        have s3 := t.set (x' := .cells 7 [.agg [.p (w0), .p (w1), .p (w2), .p (.int .u64 0), .p (.int .u64 0), .p (.int .i64 0), .p (.bool false)]])
        have q3 := (q2.trans k.toX).set (k := .cells 7 [.agg [.p (w0), .p (w1), .p (w2), .p (.int .u64 0), .p (.int .u64 0), .p (.int .i64 0), .p (.bool false)]])
        refine REr_by _ _ .refl ?_
        simp only [DecOut, decs, hd1, hd2, hd3]
        exact ⟨rfl, _, _, s3, q3⟩
theorem ok77b {G : Nat → DV} (h : List Blk) (R : Rd) (r l : List UInt8) (xb : Nat) (rev : Nat) (g1 : 54420 ≤ rev) (g2 : ¬ 54460 ≤ rev) (hr : r.length < 140737488355328) (s0 : RdSX xb (.cells 7 [.agg [.p (.int .u64 0), .p (.int .u64 0), .p (.int .u64 0), .p (.int .u64 0), .p (.int .u64 0), .p (.int .i64 0), .p (.bool false)]]) h R r l) : OkR Try.prog G 77 [.ptr xb 0 0 1, .ptr R.rb 0 0 1, .p (.int .u64 rev)] h
    (DecOut 265 h R xb 7 (fun vs => match vs with | [w0, w1, w2, w3, w4] => [.p (w0), .p (w1), .p (w2), .p (w3), .p (w4), .p (.int .i64 0), .p (.bool true)] | _ => []) (decs [dU, dU, dU, dU, dU] r)) := by
  refine OkR_by Try.func77 c77_ok r77_ok 81 rfl ?_
  have hx0 := s0.x
  simp [c77, r77, hx0, show (54420 : Int) ≤ (rev : Int) by omega, show ¬ (54460 : Int) ≤ (rev : Int) by omega]
  have q0 : RdX xb h h R R := .refl
  refine FF_byR (ok104' _ R r _ R.rb q0.rb (by omega) s0.s) ?_
  intro v h1 ho
  cases hd1 : dU r with
  | none =>
    rw [hd1] at ho
    obtain ⟨⟨x, rfl⟩, R1, r1, l1, s, k⟩ := ho
    have t := s0.next s k
    have tx := t.x
    simp [tx, show (54420 : Int) ≤ (rev : Int) by omega, show ¬ (54460 : Int) ≤ (rev : Int) by omega]
    refine REr_by _ _ .refl ?_
    simp only [DecOut, decs, hd1]
    exact ⟨⟨_, rfl⟩, R1, r1, l1, _, t.set, (q0.trans k.toX).set⟩
  | some x1 =>
    obtain ⟨w0, r1⟩ := x1
    rw [hd1] at ho
    obtain ⟨rfl, R1, l1, s, k⟩ := ho
    have t := s0.next s k
    have tx := t.x
    have ts : ∀ X, (h1.set xb X)[xb]? = some X := fun X => by rw [List.getElem?_set_self t.lt]
    have hl1 := dU_len hd1
    simp [tx, ts, show (54420 : Int) ≤ (rev : Int) by omega, show ¬ (54460 : Int) ≤ (rev : Int) by omega]
    have s1 := t.set (x' := .cells 7 [.agg [.p (w0), .p (.int .u64 0), .p (.int .u64 0), .p (.int .u64 0), .p (.int .u64 0), .p (.int .i64 0), .p (.bool false)]])
    have q1 := (q0.trans k.toX).set (k := .cells 7 [.agg [.p (w0), .p (.int .u64 0), .p (.int .u64 0), .p (.int .u64 0), .p (.int .u64 0), .p (.int .i64 0), .p (.bool false)]])
    refine FF_byR (ok104' _ R1 r1 _ R.rb q1.rb (by omega) s1.s) ?_
    intro v h2 ho
    cases hd2 : dU r1 with
    | none =>
      rw [hd2] at ho
      obtain ⟨⟨x, rfl⟩, R2, r2, l2, s, k⟩ := ho
      have t := s1.next s k
      have tx := t.x
      simp [tx, show (54420 : Int) ≤ (rev : Int) by omega, show ¬ (54460 : Int) ≤ (rev : Int) by omega]
      refine REr_by _ _ .refl ?_
      simp only [DecOut, decs, hd1, hd2]
      exact ⟨⟨_, rfl⟩, R2, r2, l2, _, t.set, (q1.trans k.toX).set⟩
    | some x2 =>
      obtain ⟨w1, r2⟩ := x2
      rw [hd2] at ho
      obtain ⟨rfl, R2, l2, s, k⟩ := ho
      have t := s1.next s k
      have tx := t.x
      have ts : ∀ X, (h2.set xb X)[xb]? = some X := fun X => by rw [List.getElem?_set_self t.lt]
      have hl2 := dU_len hd2
      simp [tx, ts, show (54420 : Int) ≤ (rev : Int) by omega, show ¬ (54460 : Int) ≤ (rev : Int) by omega]
      have s2 := t.set (x' := .cells 7 [.agg [.p (w0), .p (w1), .p (.int .u64 0), .p (.int .u64 0), .p (.int .u64 0), .p (.int .i64 0), .p (.bool false)]])
      have q2 := (q1.trans k.toX).set (k := .cells 7 [.agg [.p (w0), .p (w1), .p (.int .u64 0), .p (.int .u64 0), .p (.int .u64 0), .p (.int .i64 0), .p (.bool false)]])
      refine FF_byR (ok104' _ R2 r2 _ R.rb q2.rb (by omega) s2.s) ?_
      intro v h3 ho
      cases hd3 : dU r2 with
      | none =>
        rw [hd3] at ho
        obtain ⟨⟨x, rfl⟩, R3, r3, l3, s, k⟩ := ho
        have t := s2.next s k
        have tx := t.x
        simp [tx, show (54420 : Int) ≤ (rev : Int) by omega, show ¬ (54460 : Int) ≤ (rev : Int) by omega]
        refine REr_by _ _ .refl ?_
        simp only [DecOut, decs, hd1, hd2, hd3]
        exact ⟨⟨_, rfl⟩, R3, r3, l3, _, t.set, (q2.trans k.toX).set⟩
      | some x3 =>
        obtain ⟨w2, r3⟩ := x3
        rw [hd3] at ho
        obtain ⟨rfl, R3, l3, s, k⟩ := ho
        have t := s2.next s k
        have tx := t.x
        have ts : ∀ X, (h3.set xb X)[xb]? = some X := fun X => by rw [List.getElem?_set_self t.lt]
        have hl3 := dU_len hd3
        simp [tx, ts, show (54420 : Int) ≤ (rev : Int) by omega, show ¬ (54460 : Int) ≤ (rev : Int) by omega]
        have s3 := t.set (x' := .cells 7 [.agg [.p (w0), .p (w1), .p (w2), .p (.int .u64 0), .p (.int .u64 0), .p (.int .i64 0), .p (.bool true)]])
        have q3 := (q2.trans k.toX).set (k := .cells 7 [.agg [.p (w0), .p (w1), .p (w2), .p (.int .u64 0), .p (.int .u64 0), .p (.int .i64 0), .p (.bool true)]])
        refine FF_byR (ok104' _ R3 r3 _ R.rb q3.rb (by omega) s3.s) ?_
        intro v h4 ho
        cases hd4 : dU r3 with
        | none =>
          rw [hd4] at ho
          obtain ⟨⟨x, rfl⟩, R4, r4, l4, s, k⟩ := ho
          have t := s3.next s k
          have tx := t.x
          simp [tx, show (54420 : Int) ≤ (rev : Int) by omega, show ¬ (54460 : Int) ≤ (rev : Int) by omega]
          refine REr_by _ _ .refl ?_
          simp only [DecOut, decs, hd1, hd2, hd3, hd4]
          exact ⟨⟨_, rfl⟩, R4, r4, l4, _, t.set, (q3.trans k.toX).set⟩
        | some x4 =>
          obtain ⟨w3, r4⟩ := x4
          rw [hd4] at ho
          obtain ⟨rfl, R4, l4, s, k⟩ := ho
          have t := s3.next s k
          have tx := t.x
          have ts : ∀ X, (h4.set xb X)[xb]? = some X := fun X => by rw [List.getElem?_set_self t.lt]
          have hl4 := dU_len hd4
          simp [tx, ts, show (54420 : Int) ≤ (rev : Int) by omega, show ¬ (54460 : Int) ≤ (rev : Int) by omega]
          have s4 := t.set (x' := .cells 7 [.agg [.p (w0), .p (w1), .p (w2), .p (w3), .p (.int .u64 0), .p (.int .i64 0), .p (.bool true)]])
          have q4 := (q3.trans k.toX).set (k := .cells 7 [.agg [.p (w0), .p (w1), .p (w2), .p (w3), .p (.int .u64 0), .p (.int .i64 0), .p (.bool true)]])
          refine FF_byR (ok104' _ R4 r4 _ R.rb q4.rb (by omega) s4.s) ?_
          intro v h5 ho
          cases hd5 : dU r4 with
          | none =>
            rw [hd5] at ho
            obtain ⟨⟨x, rfl⟩, R5, r5, l5, s, k⟩ := ho
            have t := s4.next s k
            have tx := t.x
            simp [tx, show (54420 : Int) ≤ (rev : Int) by omega, show ¬ (54460 : Int) ≤ (rev : Int) by omega]
            refine REr_by _ _ .refl ?_
            simp only [DecOut, decs, hd1, hd2, hd3, hd4, hd5]
            exact ⟨⟨_, rfl⟩, R5, r5, l5, _, t.set, (q4.trans k.toX).set⟩
          | some x5 =>
            obtain ⟨w4, r5⟩ := x5
            rw [hd5] at ho
            obtain ⟨rfl, R5, l5, s, k⟩ := ho
            have t := s4.next s k
            have tx := t.x
            have ts : ∀ X, (h5.set xb X)[xb]? = some X := fun X => by rw [List.getElem?_set_self t.lt]
            have hl5 := dU_len hd5
            simp [tx, ts, show (54420 : Int) ≤ (rev : Int) by omega, show ¬ (54460 : Int) ≤ (rev : Int) by omega]
            have s5 := t.set (x' := .cells 7 [.agg [.p (w0), .p (w1), .p (w2), .p (w3), .p (w4), .p (.int .i64 0), .p (.bool true)]])
            have q5 := (q4.trans k.toX).set (k := .cells 7 [.agg [.p (w0), .p (w1), .p (w2), .p (w3), .p (w4), .p (.int .i64 0), .p (.bool true)]])
            refine REr_by _ _ .refl ?_
            simp only [DecOut, decs, hd1, hd2, hd3, hd4, hd5]
            exact ⟨rfl, _, _, s5, q5⟩
theorem ok77c {G : Nat → DV} (h : List Blk) (R : Rd) (r l : List UInt8) (xb : Nat) (rev : Nat) (g1 : 54420 ≤ rev) (g2 : 54460 ≤ rev) (hr : r.length < 140737488355328) (s0 : RdSX xb (.cells 7 [.agg [.p (.int .u64 0), .p (.int .u64 0), .p (.int .u64 0), .p (.int .u64 0), .p (.int .u64 0), .p (.int .i64 0), .p (.bool false)]]) h R r l) : OkR Try.prog G 77 [.ptr xb 0 0 1, .ptr R.rb 0 0 1, .p (.int .u64 rev)] h
    (DecOut 265 h R xb 7 (fun vs => match vs with | [w0, w1, w2, w3, w4, w5] => [.p (w0), .p (w1), .p (w2), .p (w3), .p (w4), .p (elapV w5), .p (.bool true)] | _ => []) (decs [dU, dU, dU, dU, dU, dU] r)) := by
  refine OkR_by Try.func77 c77_ok r77_ok 81 rfl ?_
  have hx0 := s0.x
  simp [c77, r77, hx0, show (54420 : Int) ≤ (rev : Int) by omega, show (54460 : Int) ≤ (rev : Int) by omega]
  have q0 : RdX xb h h R R := .refl
  refine FF_byR (ok104' _ R r _ R.rb q0.rb (by omega) s0.s) ?_
  intro v h1 ho
  cases hd1 : dU r with
  | none =>
    rw [hd1] at ho
    obtain ⟨⟨x, rfl⟩, R1, r1, l1, s, k⟩ := ho
    have t := s0.next s k
    have tx := t.x
    simp [tx, show (54420 : Int) ≤ (rev : Int) by omega, show (54460 : Int) ≤ (rev : Int) by omega]
    refine REr_by _ _ .refl ?_
    simp only [DecOut, decs, hd1]
    exact ⟨⟨_, rfl⟩, R1, r1, l1, _, t.set, (q0.trans k.toX).set⟩
  | some x1 =>
    obtain ⟨w0, r1⟩ := x1
    rw [hd1] at ho
    obtain ⟨rfl, R1, l1, s, k⟩ := ho
    have t := s0.next s k
    have tx := t.x
    have ts : ∀ X, (h1.set xb X)[xb]? = some X := fun X => by rw [List.getElem?_set_self t.lt]
    have hl1 := dU_len hd1
    simp [tx, ts, show (54420 : Int) ≤ (rev : Int) by omega, show (54460 : Int) ≤ (rev : Int) by omega]
    have s1 := t.set (x' := .cells 7 [.agg [.p (w0), .p (.int .u64 0), .p (.int .u64 0), .p (.int .u64 0), .p (.int .u64 0), .p (.int .i64 0), .p (.bool false)]])
    have q1 := (q0.trans k.toX).set (k := .cells 7 [.agg [.p (w0), .p (.int .u64 0), .p (.int .u64 0), .p (.int .u64 0), .p (.int .u64 0), .p (.int .i64 0), .p (.bool false)]])
    refine FF_byR (ok104' _ R1 r1 _ R.rb q1.rb (by omega) s1.s) ?_
    intro v h2 ho
    cases hd2 : dU r1 with
    | none =>
      rw [hd2] at ho
      obtain ⟨⟨x, rfl⟩, R2, r2, l2, s, k⟩ := ho
      have t := s1.next s k
      have tx := t.x
      simp [tx, show (54420 : Int) ≤ (rev : Int) by omega, show (54460 : Int) ≤ (rev : Int) by omega]
      refine REr_by _ _ .refl ?_
      simp only [DecOut, decs, hd1, hd2]
      exact ⟨⟨_, rfl⟩, R2, r2, l2, _, t.set, (q1.trans k.toX).set⟩
    | some x2 =>
      obtain ⟨w1, r2⟩ := x2
      rw [hd2] at ho
      obtain ⟨rfl, R2, l2, s, k⟩ := ho
      have t := s1.next s k
      have tx := t.x
      have ts : ∀ X, (h2.set xb X)[xb]? = some X := fun X => by rw [List.getElem?_set_self t.lt]
      have hl2 := dU_len hd2
      simp [tx, ts, show (54420 : Int) ≤ (rev : Int) by omega, show (54460 : Int) ≤ (rev : Int) by omega]
      have s2 := t.set (x' := .cells 7 [.agg [.p (w0), .p (w1), .p (.int .u64 0), .p (.int .u64 0), .p (.int .u64 0), .p (.int .i64 0), .p (.bool false)]])
      have q2 := (q1.trans k.toX).set (k := .cells 7 [.agg [.p (w0), .p (w1), .p (.int .u64 0), .p (.int .u64 0), .p (.int .u64 0), .p (.int .i64 0), .p (.bool false)]])
      refine FF_byR (ok104' _ R2 r2 _ R.rb q2.rb (by omega) s2.s) ?_
      intro v h3 ho
      cases hd3 : dU r2 with
      | none =>
        rw [hd3] at ho
        obtain ⟨⟨x, rfl⟩, R3, r3, l3, s, k⟩ := ho
        have t := s2.next s k
        have tx := t.x
        simp [tx, show (54420 : Int) ≤ (rev : Int) by omega, show (54460 : Int) ≤ (rev : Int) by omega]
        refine REr_by _ _ .refl ?_
        simp only [DecOut, decs, hd1, hd2, hd3]
        exact ⟨⟨_, rfl⟩, R3, r3, l3, _, t.set, (q2.trans k.toX).set⟩
      | some x3 =>
        obtain ⟨w2, r3⟩ := x3
        rw [hd3] at ho
        obtain ⟨rfl, R3, l3, s, k⟩ := ho
        have t := s2.next s k
        have tx := t.x
        have ts : ∀ X, (h3.set xb X)[xb]? = some X := fun X => by rw [List.getElem?_set_self t.lt]
        have hl3 := dU_len hd3
        simp [tx, ts, show (54420 : Int) ≤ (rev : Int) by omega, show (54460 : Int) ≤ (rev : Int) by omega]
        have s3 := t.set (x' := .cells 7 [.agg [.p (w0), .p (w1), .p (w2), .p (.int .u64 0), .p (.int .u64 0), .p (.int .i64 0), .p (.bool true)]])
        have q3 := (q2.trans k.toX).set (k := .cells 7 [.agg [.p (w0), .p (w1), .p (w2), .p (.int .u64 0), .p (.int .u64 0), .p (.int .i64 0), .p (.bool true)]])
        refine FF_byR (ok104' _ R3 r3 _ R.rb q3.rb (by omega) s3.s) ?_
        intro v h4 ho
        cases hd4 : dU r3 with
        | none =>
          rw [hd4] at ho
          obtain ⟨⟨x, rfl⟩, R4, r4, l4, s, k⟩ := ho
          have t := s3.next s k
          have tx := t.x
          simp [tx, show (54420 : Int) ≤ (rev : Int) by omega, show (54460 : Int) ≤ (rev : Int) by omega]
          refine REr_by _ _ .refl ?_
          simp only [DecOut, decs, hd1, hd2, hd3, hd4]
          exact ⟨⟨_, rfl⟩, R4, r4, l4, _, t.set, (q3.trans k.toX).set⟩
        | some x4 =>
          obtain ⟨w3, r4⟩ := x4
          rw [hd4] at ho
          obtain ⟨rfl, R4, l4, s, k⟩ := ho
          have t := s3.next s k
          have tx := t.x
          have ts : ∀ X, (h4.set xb X)[xb]? = some X := fun X => by rw [List.getElem?_set_self t.lt]
          have hl4 := dU_len hd4
          simp [tx, ts, show (54420 : Int) ≤ (rev : Int) by omega, show (54460 : Int) ≤ (rev : Int) by omega]
          have s4 := t.set (x' := .cells 7 [.agg [.p (w0), .p (w1), .p (w2), .p (w3), .p (.int .u64 0), .p (.int .i64 0), .p (.bool true)]])
          have q4 := (q3.trans k.toX).set (k := .cells 7 [.agg [.p (w0), .p (w1), .p (w2), .p (w3), .p (.int .u64 0), .p (.int .i64 0), .p (.bool true)]])
          refine FF_byR (ok104' _ R4 r4 _ R.rb q4.rb (by omega) s4.s) ?_
          intro v h5 ho
          cases hd5 : dU r4 with
          | none =>
            rw [hd5] at ho
            obtain ⟨⟨x, rfl⟩, R5, r5, l5, s, k⟩ := ho
            have t := s4.next s k
            have tx := t.x
            simp [tx, show (54420 : Int) ≤ (rev : Int) by omega, show (54460 : Int) ≤ (rev : Int) by omega]
            refine REr_by _ _ .refl ?_
            simp only [DecOut, decs, hd1, hd2, hd3, hd4, hd5]
            exact ⟨⟨_, rfl⟩, R5, r5, l5, _, t.set, (q4.trans k.toX).set⟩
          | some x5 =>
            obtain ⟨w4, r5⟩ := x5
            rw [hd5] at ho
            obtain ⟨rfl, R5, l5, s, k⟩ := ho
            have t := s4.next s k
            have tx := t.x
            have ts : ∀ X, (h5.set xb X)[xb]? = some X := fun X => by rw [List.getElem?_set_self t.lt]
            have hl5 := dU_len hd5
            simp [tx, ts, show (54420 : Int) ≤ (rev : Int) by omega, show (54460 : Int) ≤ (rev : Int) by omega]
            have s5 := t.set (x' := .cells 7 [.agg [.p (w0), .p (w1), .p (w2), .p (w3), .p (w4), .p (.int .i64 0), .p (.bool true)]])
            have q5 := (q4.trans k.toX).set (k := .cells 7 [.agg [.p (w0), .p (w1), .p (w2), .p (w3), .p (w4), .p (.int .i64 0), .p (.bool true)]])
            refine FF_byR (ok104' _ R5 r5 _ R.rb q5.rb (by omega) s5.s) ?_
            intro v h6 ho
            cases hd6 : dU r5 with
            | none =>
              rw [hd6] at ho
              obtain ⟨⟨x, rfl⟩, R6, r6, l6, s, k⟩ := ho
              have t := s5.next s k
              have tx := t.x
              simp [tx, show (54420 : Int) ≤ (rev : Int) by omega, show (54460 : Int) ≤ (rev : Int) by omega]
              refine REr_by _ _ .refl ?_
              simp only [DecOut, decs, hd1, hd2, hd3, hd4, hd5, hd6]
              exact ⟨⟨_, rfl⟩, R6, r6, l6, _, t, q5.trans k.toX⟩
            | some x6 =>
              obtain ⟨w5, r6⟩ := x6
              rw [hd6] at ho
              obtain ⟨rfl, R6, l6, s, k⟩ := ho
              have t := s5.next s k
              have tx := t.x
              have ts : ∀ X, (h6.set xb X)[xb]? = some X := fun X => by rw [List.getElem?_set_self t.lt]
              have hl6 := dU_len hd6
              obtain ⟨n5, rfl⟩ := dU_int hd6
              simp [tx, ts, show (54420 : Int) ≤ (rev : Int) by omega, show (54460 : Int) ≤ (rev : Int) by omega]
              have s6 := t.set (x' := .cells 7 [.agg [.p (w0), .p (w1), .p (w2), .p (w3), .p (w4), .p (elapV (.int .u64 n5)), .p (.bool true)]])
              have q6 := (q5.trans k.toX).set (k := .cells 7 [.agg [.p (w0), .p (w1), .p (w2), .p (w3), .p (w4), .p (elapV (.int .u64 n5)), .p (.bool true)]])
              refine REr_by _ _ .refl ?_
              simp only [DecOut, decs, hd1, hd2, hd3, hd4, hd5, hd6]
              exact ⟨rfl, _, _, s6, q6⟩
end Go.Proofs.Ytbbafeocmchlnaa
