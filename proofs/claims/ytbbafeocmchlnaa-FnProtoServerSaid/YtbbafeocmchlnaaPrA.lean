/- Profiles: what is read. -/
import Derived.Test.YtbbafeocmchlnaaCodQ
set_option linter.unusedVariables false
set_option linter.unusedSimpArgs false
set_option maxRecDepth 100000
namespace Go.Proofs.Ytbbafeocmchlnaa
open Go Go.Den Go.Proofs

theorem ok61 {G : Nat → DV} (h : List Blk) (R : Rd) (r l : List UInt8) (xb : Nat) (rev : Nat) (hr : r.length < 140737488355328) (s0 : RdSX xb (.cells 6 [.agg [.p (.int .u64 0), .p (.int .u64 0), .p (.int .u64 0), .p (.bool false), .p (.int .u64 0), .p (.bool false)]]) h R r l) : OkR Try.prog G 61 [.ptr xb 0 0 1, .ptr R.rb 0 0 1, .p (.int .u64 rev)] h
    (DecOut 265 h R xb 6 (fun vs => match vs with | [w0, w1, w2, w3, w4, w5] => [.p w0, .p w2, .p w1, .p w3, .p w4, .p w5] | _ => []) (decs [dU, dU, dU, dB, dU, dB] r)) := by
  refine OkR_by Try.func61 c61_ok r61_ok 70 rfl ?_
  simp [c61, r61]
  have q0 : RdX xb h h R R := .refl
  have z0 : R.rb = R.rb := rfl
  refine FF_byR (ok104' _ R r _ R.rb q0.rb (by omega) s0.s) ?_
  intro v h1 ho
  cases hd1 : dU r with
  | none =>
    rw [hd1] at ho
    obtain ⟨⟨x, rfl⟩, R1, r1, l1, s, k⟩ := ho
    have t := s0.next s k
    simp [t.x]
    refine REr_by _ _ .refl ?_
    simp only [DecOut, decs, hd1]
    exact ⟨⟨_, rfl⟩, R1, r1, l1, _, t.set, (q0.trans k.toX).set⟩
  | some x1 =>
    obtain ⟨w0, r1⟩ := x1
    rw [hd1] at ho
    obtain ⟨rfl, R1, l1, s, k⟩ := ho
    have t := s0.next s k
    have hl1 := dU_len hd1
    simp [t.x]
    have s1 := t.set (x' := .cells 6 [.agg [.p w0, .p (.int .u64 0), .p (.int .u64 0), .p (.bool false), .p (.int .u64 0), .p (.bool false)]])
    have q1 := (q0.trans k.toX).set (k := .cells 6 [.agg [.p w0, .p (.int .u64 0), .p (.int .u64 0), .p (.bool false), .p (.int .u64 0), .p (.bool false)]])
    refine FF_byR (ok104' _ R1 r1 _ R.rb q1.rb (by omega) s1.s) ?_
    intro v h2 ho
    cases hd2 : dU r1 with
    | none =>
      rw [hd2] at ho
      obtain ⟨⟨x, rfl⟩, R2, r2, l2, s, k⟩ := ho
      have t := s1.next s k
      simp [t.x]
      refine REr_by _ _ .refl ?_
      simp only [DecOut, decs, hd1, hd2]
      exact ⟨⟨_, rfl⟩, R2, r2, l2, _, t.set, (q1.trans k.toX).set⟩
    | some x2 =>
      obtain ⟨w1, r2⟩ := x2
      rw [hd2] at ho
      obtain ⟨rfl, R2, l2, s, k⟩ := ho
      have t := s1.next s k
      have hl2 := dU_len hd2
      simp [t.x]
      have s2 := t.set (x' := .cells 6 [.agg [.p w0, .p (.int .u64 0), .p w1, .p (.bool false), .p (.int .u64 0), .p (.bool false)]])
      have q2 := (q1.trans k.toX).set (k := .cells 6 [.agg [.p w0, .p (.int .u64 0), .p w1, .p (.bool false), .p (.int .u64 0), .p (.bool false)]])
      refine FF_byR (ok104' _ R2 r2 _ R.rb q2.rb (by omega) s2.s) ?_
      intro v h3 ho
      cases hd3 : dU r2 with
      | none =>
        rw [hd3] at ho
        obtain ⟨⟨x, rfl⟩, R3, r3, l3, s, k⟩ := ho
        have t := s2.next s k
        simp [t.x]
        refine REr_by _ _ .refl ?_
        simp only [DecOut, decs, hd1, hd2, hd3]
        exact ⟨⟨_, rfl⟩, R3, r3, l3, _, t.set, (q2.trans k.toX).set⟩
      | some x3 =>
        obtain ⟨w2, r3⟩ := x3
        rw [hd3] at ho
        obtain ⟨rfl, R3, l3, s, k⟩ := ho
        have t := s2.next s k
        have hl3 := dU_len hd3
        simp [t.x]
        have s3 := t.set (x' := .cells 6 [.agg [.p w0, .p w2, .p w1, .p (.bool false), .p (.int .u64 0), .p (.bool false)]])
        have q3 := (q2.trans k.toX).set (k := .cells 6 [.agg [.p w0, .p w2, .p w1, .p (.bool false), .p (.int .u64 0), .p (.bool false)]])
        refine FF_byR (ok105' _ R3 r3 _ R.rb q3.rb (by omega) s3.s) ?_
        intro v h4 ho
        cases hd4 : dB r3 with
        | none =>
          rw [hd4] at ho
          obtain ⟨⟨x, rfl⟩, R4, r4, l4, s, k⟩ := ho
          have t := s3.next s k
          simp [t.x]
          refine REr_by _ _ .refl ?_
          simp only [DecOut, decs, hd1, hd2, hd3, hd4]
          exact ⟨⟨_, rfl⟩, R4, r4, l4, _, t.set, (q3.trans k.toX).set⟩
        | some x4 =>
          obtain ⟨w3, r4⟩ := x4
          rw [hd4] at ho
          obtain ⟨rfl, R4, l4, s, k⟩ := ho
          have t := s3.next s k
          have hl4 := dB_len hd4
          simp [t.x]
          have s4 := t.set (x' := .cells 6 [.agg [.p w0, .p w2, .p w1, .p w3, .p (.int .u64 0), .p (.bool false)]])
          have q4 := (q3.trans k.toX).set (k := .cells 6 [.agg [.p w0, .p w2, .p w1, .p w3, .p (.int .u64 0), .p (.bool false)]])
          refine FF_byR (ok104' _ R4 r4 _ R.rb q4.rb (by omega) s4.s) ?_
          intro v h5 ho
          cases hd5 : dU r4 with
          | none =>
            rw [hd5] at ho
            obtain ⟨⟨x, rfl⟩, R5, r5, l5, s, k⟩ := ho
            have t := s4.next s k
            simp [t.x]
            refine REr_by _ _ .refl ?_
            simp only [DecOut, decs, hd1, hd2, hd3, hd4, hd5]
            exact ⟨⟨_, rfl⟩, R5, r5, l5, _, t.set, (q4.trans k.toX).set⟩
          | some x5 =>
            obtain ⟨w4, r5⟩ := x5
            rw [hd5] at ho
            obtain ⟨rfl, R5, l5, s, k⟩ := ho
            have t := s4.next s k
            have hl5 := dU_len hd5
            simp [t.x]
            have s5 := t.set (x' := .cells 6 [.agg [.p w0, .p w2, .p w1, .p w3, .p w4, .p (.bool false)]])
            have q5 := (q4.trans k.toX).set (k := .cells 6 [.agg [.p w0, .p w2, .p w1, .p w3, .p w4, .p (.bool false)]])
            refine FF_byR (ok105' _ R5 r5 _ R.rb q5.rb (by omega) s5.s) ?_
            intro v h6 ho
            cases hd6 : dB r5 with
            | none =>
              rw [hd6] at ho
              obtain ⟨⟨x, rfl⟩, R6, r6, l6, s, k⟩ := ho
              have t := s5.next s k
              simp [t.x]
              refine REr_by _ _ .refl ?_
              simp only [DecOut, decs, hd1, hd2, hd3, hd4, hd5, hd6]
              exact ⟨⟨_, rfl⟩, R6, r6, l6, _, t.set, (q5.trans k.toX).set⟩
            | some x6 =>
              obtain ⟨w5, r6⟩ := x6
              rw [hd6] at ho
              obtain ⟨rfl, R6, l6, s, k⟩ := ho
              have t := s5.next s k
              have hl6 := dB_len hd6
              simp [t.x]
              have s6 := t.set (x' := .cells 6 [.agg [.p w0, .p w2, .p w1, .p w3, .p w4, .p w5]])
              have q6 := (q5.trans k.toX).set (k := .cells 6 [.agg [.p w0, .p w2, .p w1, .p w3, .p w4, .p w5]])
              refine REr_by _ _ .refl ?_
              simp only [DecOut, decs, hd1, hd2, hd3, hd4, hd5, hd6]
              exact ⟨rfl, _, _, s6, q6⟩

theorem ok106 {G : Nat → DV} (h : List Blk) (n : Nat) (hn : n < B64) : Ok Try.prog G 106 [.p (.int .u64 n)] h (.p (.string (txt (dig n)))) h := by
  refine Ok_by Try.func106 c106_ok r106_ok 4 rfl ?_
  simp [c106, r106]
  refine FF_by (ok107 _ n hn) ?_
  simp
def bstr (b : Bool) : List UInt8 := if b = true then [116, 114, 117, 101] else [102, 97, 108, 115, 101]
theorem bstr_length (b : Bool) : (bstr b).length ≤ 5 := by cases b <;> decide
theorem ok108 {G : Nat → DV} (h : List Blk) (b : Bool) : Ok Try.prog G 108 [.p (.bool b)] h (.p (.string (txt (bstr b)))) h := by
  refine Ok_by Try.func108 c108_ok r108_ok 3 rfl ?_
  cases b
  · simp [c108, r108]; exact .refl
  · simp [c108, r108]; exact .refl
theorem ok59 {G : Nat → DV} (h : List Blk) (b : Bool) : Ok Try.prog G 59 [.p (.bool b)] h (.p (.string (txt (yn b)))) h := by
  refine Ok_by Try.func59 c59_ok r59_ok 3 rfl ?_
  cases b
  · simp [c59, r59]; exact .refl
  · simp [c59, r59]; exact .refl
def profT (a b c d : Nat) (e f : Bool) : List UInt8 :=
  [114, 111, 119, 115, 61] ++ dig a ++ [44, 32, 98, 121, 116, 101, 115, 61] ++ dig b ++ [44, 32, 98, 108, 111, 99, 107, 115, 61] ++ dig c ++
    [44, 32, 114, 111, 119, 115, 32, 98, 101, 102, 111, 114, 101, 32, 108, 105, 109, 105, 116, 61] ++ dig d ++ [44, 32, 97, 112, 112, 108, 105, 101, 100, 32, 108, 105, 109, 105, 116, 61] ++ bstr e ++
    [44, 32, 99, 97, 108, 99, 117, 108, 97, 116, 101, 100, 32, 114, 111, 119, 115, 32, 98, 101, 102, 111, 114, 101, 32, 108, 105, 109, 105, 116, 61] ++ bstr f
theorem cf106 : cFunc Try.prog 106 = true := by kernel_rfl
theorem ok62 {G : Nat → DV} (h : List Blk) (xb : Nat) (a b c d : Nat) (e f : Bool) (ha : a < B64) (hb : b < B64) (hc : c < B64) (hd : d < B64)
    (hx : h[xb]? = some (.cells 6 [.agg [.p (.int .u64 a), .p (.int .u64 b), .p (.int .u64 c), .p (.bool e), .p (.int .u64 d), .p (.bool f)]])) :
    Ok Try.prog G 62 [.ptr xb 0 0 1] h (.p (.string (txt (profT a b c d e f)))) h := by
  refine Ok_by Try.func62 c62_ok r62_ok 48 rfl ?_
  have la := dig_length a ha
  have lb := dig_length b hb
  have lc := dig_length c hc
  have ld := dig_length d hd
  have le := bstr_length e
  have lf := bstr_length f
  simp [c62, r62, hx]
  refine DCV_by cf106 ?_
  refine DF_by (ok106 _ a ha) ?_
  simp [hx]
  refine ⟨by omega, by omega, ?_⟩
  refine DCV_by cf106 ?_
  refine DF_by (ok106 _ b hb) ?_
  simp [hx]
  refine ⟨by omega, by omega, ?_⟩
  refine DCV_by cf106 ?_
  refine DF_by (ok106 _ c hc) ?_
  simp [hx]
  refine ⟨by omega, by omega, ?_⟩
  refine DCV_by cf106 ?_
  refine DF_by (ok106 _ d hd) ?_
  simp [hx]
  refine ⟨by omega, by omega, ?_⟩
  refine DF_by (ok108 _ e) ?_
  simp [hx]
  refine ⟨by omega, by omega, ?_⟩
  refine DF_by (ok108 _ f) ?_
  simp [hx]
  refine ⟨by omega, ?_⟩
  simp [profT]
end Go.Proofs.Ytbbafeocmchlnaa
