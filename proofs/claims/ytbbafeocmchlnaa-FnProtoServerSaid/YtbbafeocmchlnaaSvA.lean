/- Servers' handshakes: what is read. -/
import Derived.Test.YtbbafeocmchlnaaCodW
set_option linter.unusedVariables false
set_option linter.unusedSimpArgs false
set_option maxRecDepth 100000
namespace Go.Proofs.Ytbbafeocmchlnaa
open Go Go.Den Go.Proofs

theorem _root_.Go.Den.RdSX.push {xb : Nat} {x : Blk} {h y : List Blk} {R : Rd} {r l : List UInt8} (s : RdSX xb x h R r l) : RdSX xb x (h ++ y) R r l :=
  ⟨s.s.push, by rw [List.getElem?_append_left s.lt]; exact s.x, s.n, s.d⟩
theorem _root_.Go.Den.RdX.push {xb : Nat} {h h' y : List Blk} {R R' : Rd} (a : RdX xb h h' R R') : RdX xb h (h' ++ y) R R' :=
  ⟨Nat.le_trans a.len (by simp), fun i hi hx hn => by rw [List.getElem?_append_left (Nat.lt_of_lt_of_le hi a.len)]; exact a.old i hi hx hn, a.rb, a.bb, a.new, a.dsub⟩
theorem _root_.Go.Den.RdS.own_lt {h : List Blk} {R : Rd} {r l : List UInt8} (s : RdS h R r l) {i : Nat} (ho : R.own i) : i < h.length := by
  rcases ho with rfl | rfl | ho
  · exact s.rlt
  · exact s.blt
  · exact s.f.lt ho

theorem dU_nat {r r' : List UInt8} {x : Value} (h : dU r = some (x, r')) : ∃ n : Nat, x = .int .u64 n := by
  unfold dU at h
  obtain ⟨y, h1, h2⟩ := Option.map_eq_some_iff.1 h
  cases h2
  exact ⟨_, rfl⟩

theorem ok114 {G : Nat → DV} (h : List Blk) (s : Value) : Ok Try.prog G 114 [.p s] h (.iface 246 (.ptr h.length 0 0 1)) (h ++ [.cells 1 [.agg [.p s]]]) := by
  refine Ok_by Try.func114 c114_ok r114_ok 6 rfl ?_
  cases s
  all_goals
    simp [c114, r114]
    try exact .refl

def utc : List UInt8 := [85, 84, 67]
def locD : DV := .agg [.p (.string (txt utc)), .p (.bool true), .p (.slice none 0 0), .p (.slice none 0 0), .p (.string ⟨#[]⟩), .p (.int .i64 0), .p (.int .i64 0), .p (.pointer none)]
def locB : Blk := .cells 8 [locD]
theorem ok149 {G : Nat → DV} (h : List Blk) : Ok Try.prog G 149 [] h (.ptr h.length 0 0 1) (h ++ [locB]) := by
  refine Ok_by Try.func149 c149_ok r149_ok 3 rfl ?_
  simp [c149, r149]
  exact .refl
theorem ok115 {G : Nat → DV} (h : List Blk) : Ok Try.prog G 115 [.p (.string (txt utc))] h (.tup [.ptr h.length 0 0 1, .p .nilIface]) (h ++ [locB]) := by
  refine Ok_by Try.func115 c115_ok r115_ok 14 rfl ?_
  have e1 : decide (txt utc = ⟨#[]⟩) = false := by decide
  have e2 : decide (txt utc = ⟨#[85, 84, 67]⟩) = true := by decide
  simp [c115, r115, utc]
  refine FF_by (ok149 _) ?_
  simp
  exact .refl
theorem ok116 {G : Nat → DV} (h : List Blk) (b : Nat) (hb : h[b]? = some locB) : Ok Try.prog G 116 [.ptr b 0 0 1] h (.ptr b 0 0 1) h := by
  refine Ok_by Try.func116 c116_ok r116_ok 6 rfl ?_
  simp [c116, r116, hb, locB]
theorem ok76 {G : Nat → DV} (h : List Blk) (b : Nat) (hb : h[b]? = some locB) : Ok Try.prog G 76 [.ptr b 0 0 1] h (.p (.string (txt utc))) h := by
  refine Ok_by Try.func76 c76_ok r76_ok 7 rfl ?_
  simp [c76, r76]
  refine FF_by (ok116 _ b hb) ?_
  simp [hb, locB, locD]

def revOf : List Value → Nat
  | [_, _, _, .int _ n] => n.toNat
  | _ => 0
def tailD (n : Nat) : List Dec := (if 54058 ≤ n then [dS] else []) ++ ((if 54372 ≤ n then [dS] else []) ++ (if 54401 ≤ n then [dU] else []))
/-- What is read, of bytes. -/
def srvD (r : List UInt8) : Option (List Value × List UInt8) := match decs [dS, dU, dU, dU] r with
  | some (vs, r4) => match decs (tailD (revOf vs)) r4 with
    | some (us, r') => some (vs ++ us, r')
    | none => none
  | none => none
def srvF : List Value → DV → List DV
  | [a, b, c, d], z => [.p a, .p (.string ⟨#[]⟩), .p d, .p b, .p c, .p d, z]
  | [a, b, c, d, _], z => [.p a, .p (.string ⟨#[]⟩), .p d, .p b, .p c, .p d, z]
  | [a, b, c, d, _, e], z => [.p a, .p e, .p d, .p b, .p c, .p d, z]
  | [a, b, c, d, _, e, f], z => [.p a, .p e, .p d, .p b, .p c, .p f, z]
  | _, _ => []
def SrvOut (h : List Blk) (R : Rd) (xb : Nat) (r : List UInt8) (v : DV) (h' : List Blk) : Prop :=
  match srvD r with
  | some (vs, r') => v = .p .nilIface ∧ ∃ R' l' z, RdSX xb (.cells 7 [.agg (srvF vs z)]) h' R' r' l' ∧ RdX xb h h' R R' ∧ ((vs.length = 4 ∧ z = .p (.pointer none)) ∨ (vs.length ≠ 4 ∧ ∃ lb, z = .ptr lb 0 0 1 ∧ h'[lb]? = some locB))
  | none => (∃ x, v = .iface 246 x) ∧ ∃ R' r' l' X, RdSX xb X h' R' r' l' ∧ RdX xb h h' R R'
theorem SrvOut.err {h h' : List Blk} {R R' : Rd} {xb : Nat} {r r' l' : List UInt8} {x : DV} {X : Blk} (e : srvD r = none) (s : RdSX xb X h' R' r' l') (q : RdX xb h h' R R') : SrvOut h R xb r (.iface 246 x) h' := by
  unfold SrvOut
  rw [e]
  exact ⟨⟨_, rfl⟩, _, _, _, _, s, q⟩
theorem SrvOut.ok {h h' : List Blk} {R R' : Rd} {xb : Nat} {r r' l' : List UInt8} {vs : List Value} {z : DV} (e : srvD r = some (vs, r')) (s : RdSX xb (.cells 7 [.agg (srvF vs z)]) h' R' r' l') (q : RdX xb h h' R R') (hz : (vs.length = 4 ∧ z = .p (.pointer none)) ∨ (vs.length ≠ 4 ∧ ∃ lb, z = .ptr lb 0 0 1 ∧ h'[lb]? = some locB)) : SrvOut h R xb r (.p .nilIface) h' := by
  unfold SrvOut
  rw [e]
  exact ⟨rfl, _, _, _, s, q, hz⟩

theorem ok74 {G : Nat → DV} (h : List Blk) (R : Rd) (r l : List UInt8) (xb : Nat) (hr : r.length < 140737488355328) (s0 : RdSX xb (.cells 7 [.agg [.p (.string ⟨#[]⟩), .p (.string ⟨#[]⟩), .p (.int .u64 0), .p (.int .u64 0), .p (.int .u64 0), .p (.int .u64 0), .p (.pointer none)]]) h R r l)
    (hz : ∀ vs r4 w r5, decs [dS, dU, dU, dU] r = some (vs, r4) → 54058 ≤ revOf vs → dS r4 = some (w, r5) → w = .string (txt utc)) : OkR Try.prog G 74 [.ptr xb 0 0 1, .ptr R.rb 0 0 1] h (SrvOut h R xb r) := by
  refine OkR_by Try.func74 c74_ok r74_ok 116 rfl ?_
  have hx0 := s0.x
  simp [c74, r74, hx0]
  have q0 : RdX xb h h R R := .refl
  refine FF_byR (ok109' _ R r _ R.rb q0.rb (by omega) s0.s) ?_
  intro v h1 ho
  cases hd1 : dS r with
  | none =>
    rw [hd1] at ho
    obtain ⟨⟨x, rfl⟩, R', r', l', s, k⟩ := ho
    have t := s0.next s k
    have tx := t.x
    simp [tx]
    refine FF_by (ok114 _ _) ?_
    simp
    have e : srvD r = none := by simp [srvD, decs, hd1]
    refine REr_by _ _ .refl ?_
    exact SrvOut.err e t.set.push (q0.trans k.toX).set.push
  | some x1 =>
    obtain ⟨w0, r1⟩ := x1
    rw [hd1] at ho
    obtain ⟨rfl, R1, l1, s, k⟩ := ho
    have t := s0.next s k
    have tx := t.x
    have ts : ∀ X, (h1.set xb X)[xb]? = some X := fun X => by rw [List.getElem?_set_self t.lt]
    have hl1 := dS_len hd1
    simp [tx, ts]
    have s1 := t.set (x' := .cells 7 [.agg [.p (w0), .p (.string ⟨#[]⟩), .p (.int .u64 0), .p (.int .u64 0), .p (.int .u64 0), .p (.int .u64 0), .p (.pointer none)]])
    have q1 := (q0.trans k.toX).set (k := .cells 7 [.agg [.p (w0), .p (.string ⟨#[]⟩), .p (.int .u64 0), .p (.int .u64 0), .p (.int .u64 0), .p (.int .u64 0), .p (.pointer none)]])
    refine FF_byR (ok104' _ R1 r1 _ R.rb q1.rb (by omega) s1.s) ?_
    intro v h2 ho
    cases hd2 : dU r1 with
    | none =>
      rw [hd2] at ho
      obtain ⟨⟨x, rfl⟩, R', r', l', s, k⟩ := ho
      have t := s1.next s k
      have tx := t.x
      simp [tx]
      refine FF_by (ok114 _ _) ?_
      simp
      have e : srvD r = none := by simp [srvD, decs, hd1, hd2]
      refine REr_by _ _ .refl ?_
      exact SrvOut.err e t.set.push (q1.trans k.toX).set.push
    | some x2 =>
      obtain ⟨w1, r2⟩ := x2
      rw [hd2] at ho
      obtain ⟨rfl, R2, l2, s, k⟩ := ho
      have t := s1.next s k
      have tx := t.x
      have ts : ∀ X, (h2.set xb X)[xb]? = some X := fun X => by rw [List.getElem?_set_self t.lt]
      have hl2 := dU_len hd2
      simp [tx, ts]
      have s2 := t.set (x' := .cells 7 [.agg [.p (w0), .p (.string ⟨#[]⟩), .p (.int .u64 0), .p (w1), .p (.int .u64 0), .p (.int .u64 0), .p (.pointer none)]])
      have q2 := (q1.trans k.toX).set (k := .cells 7 [.agg [.p (w0), .p (.string ⟨#[]⟩), .p (.int .u64 0), .p (w1), .p (.int .u64 0), .p (.int .u64 0), .p (.pointer none)]])
      refine FF_byR (ok104' _ R2 r2 _ R.rb q2.rb (by omega) s2.s) ?_
      intro v h3 ho
      cases hd3 : dU r2 with
      | none =>
        rw [hd3] at ho
        obtain ⟨⟨x, rfl⟩, R', r', l', s, k⟩ := ho
        have t := s2.next s k
        have tx := t.x
        simp [tx]
        refine FF_by (ok114 _ _) ?_
        simp
        have e : srvD r = none := by simp [srvD, decs, hd1, hd2, hd3]
        refine REr_by _ _ .refl ?_
        exact SrvOut.err e t.set.push (q2.trans k.toX).set.push
      | some x3 =>
        obtain ⟨w2, r3⟩ := x3
        rw [hd3] at ho
        obtain ⟨rfl, R3, l3, s, k⟩ := ho
        have t := s2.next s k
        have tx := t.x
        have ts : ∀ X, (h3.set xb X)[xb]? = some X := fun X => by rw [List.getElem?_set_self t.lt]
        have hl3 := dU_len hd3
        simp [tx, ts]
        have s3 := t.set (x' := .cells 7 [.agg [.p (w0), .p (.string ⟨#[]⟩), .p (.int .u64 0), .p (w1), .p (w2), .p (.int .u64 0), .p (.pointer none)]])
        have q3 := (q2.trans k.toX).set (k := .cells 7 [.agg [.p (w0), .p (.string ⟨#[]⟩), .p (.int .u64 0), .p (w1), .p (w2), .p (.int .u64 0), .p (.pointer none)]])
        refine FF_byR (ok104' _ R3 r3 _ R.rb q3.rb (by omega) s3.s) ?_
        intro v h4 ho
        cases hd4 : dU r3 with
        | none =>
          rw [hd4] at ho
          obtain ⟨⟨x, rfl⟩, R', r', l', s, k⟩ := ho
          have t := s3.next s k
          have tx := t.x
          simp [tx]
          refine FF_by (ok114 _ _) ?_
          simp
          have e : srvD r = none := by simp [srvD, decs, hd1, hd2, hd3, hd4]
          refine REr_by _ _ .refl ?_
          exact SrvOut.err e t.set.push (q3.trans k.toX).set.push
        | some x4 =>
          obtain ⟨w3, r4⟩ := x4
          rw [hd4] at ho
          obtain ⟨rfl, R4, l4, s, k⟩ := ho
          have t := s3.next s k
          have tx := t.x
          have ts : ∀ X, (h4.set xb X)[xb]? = some X := fun X => by rw [List.getElem?_set_self t.lt]
          have hl4 := dU_len hd4
          obtain ⟨n3, rfl⟩ := dU_nat hd4
          have hrev : revOf [w0, w1, w2, .int .u64 n3] = n3 := by simp [revOf]
          have hd0 : decs [dS, dU, dU, dU] r = some ([w0, w1, w2, .int .u64 n3], r4) := by simp [decs, hd1, hd2, hd3, hd4]
          have s4 := t.set (x' := .cells 7 [.agg [.p (w0), .p (.string ⟨#[]⟩), .p (.int .u64 n3), .p (w1), .p (w2), .p (.int .u64 0), .p (.pointer none)]])
          have q4 := (q3.trans k.toX).set (k := .cells 7 [.agg [.p (w0), .p (.string ⟨#[]⟩), .p (.int .u64 n3), .p (w1), .p (w2), .p (.int .u64 0), .p (.pointer none)]])
          rcases Nat.lt_or_ge n3 54058 with b0 | b0
          · clear hz
            have f0 : ¬ 54058 ≤ n3 := by omega
            have g0 : ¬ (54058 : Int) ≤ (n3 : Int) := by omega
            have f1 : ¬ 54372 ≤ n3 := by omega
            have g1 : ¬ (54372 : Int) ≤ (n3 : Int) := by omega
            have f2 : ¬ 54401 ≤ n3 := by omega
            have g2 : ¬ (54401 : Int) ≤ (n3 : Int) := by omega
            simp [tx, ts, g0, g1, g2]
            have e : srvD r = some ([w0, w1, w2, .int .u64 n3], r4) := by simp [srvD, decs, hd1, hd2, hd3, hd4, tailD, revOf, f0, f1, f2]
            refine REr_by _ _ .refl ?_
            have s5 := s4.set (x' := .cells 7 [.agg [.p (w0), .p (.string ⟨#[]⟩), .p (.int .u64 n3), .p (w1), .p (w2), .p (.int .u64 n3), .p (.pointer none)]])
            have q5 := q4.set (k := .cells 7 [.agg [.p (w0), .p (.string ⟨#[]⟩), .p (.int .u64 n3), .p (w1), .p (w2), .p (.int .u64 n3), .p (.pointer none)]])
            simp only [List.set_set] at s5 q5
            exact SrvOut.ok e (z := .p (.pointer none)) s5 q5 (.inl ⟨rfl, rfl⟩)
          · rcases Nat.lt_or_ge n3 54372 with b1 | b1
            · skip
              have f0 : 54058 ≤ n3 := by omega
              have g0 : (54058 : Int) ≤ (n3 : Int) := by omega
              have f1 : ¬ 54372 ≤ n3 := by omega
              have g1 : ¬ (54372 : Int) ≤ (n3 : Int) := by omega
              have f2 : ¬ 54401 ≤ n3 := by omega
              have g2 : ¬ (54401 : Int) ≤ (n3 : Int) := by omega
              simp [tx, ts, g0, g1, g2]
              refine FF_byR (ok109' _ R4 r4 _ R.rb q4.rb (by omega) s4.s) ?_
              intro v h5 ho
              cases hd5 : dS r4 with
              | none =>
                rw [hd5] at ho
                obtain ⟨⟨x, rfl⟩, R', r', l', s, k⟩ := ho
                have t := s4.next s k
                have tx := t.x
                simp [tx, g0, g1, g2]
                refine FF_by (ok114 _ _) ?_
                simp
                have e : srvD r = none := by simp [srvD, decs, hd1, hd2, hd3, hd4, hd5, tailD, revOf, f0, f1, f2]
                refine REr_by _ _ .refl ?_
                exact SrvOut.err e t.push (q4.trans k.toX).push
              | some x5 =>
                obtain ⟨w4, r5⟩ := x5
                rw [hd5] at ho
                obtain ⟨rfl, R5, l5, s, k⟩ := ho
                have t := s4.next s k
                have tx := t.x
                have ts : ∀ X, (h5.set xb X)[xb]? = some X := fun X => by rw [List.getElem?_set_self t.lt]
                have hl5 := dS_len hd5
                obtain rfl := hz _ _ _ _ hd0 (by rw [hrev]; exact f0) hd5
                have tpx := (t.push (y := [locB])).x
                have tps : ∀ X, ((h5 ++ [locB]).set xb X)[xb]? = some X := fun X => by rw [List.getElem?_set_self (t.push (y := [locB])).lt]
                simp [tx, g0, g1, g2]
                refine FF_by (ok115 _) ?_
                simp [tpx, tps, g0, g1, g2]
                have s5 := (t.push (y := [locB])).set (x' := .cells 7 [.agg [.p (w0), .p (.string ⟨#[]⟩), .p (.int .u64 n3), .p (w1), .p (w2), .p (.int .u64 0), .ptr h5.length 0 0 1]])
                have q5 := ((q4.trans k.toX).push (y := [locB])).set (k := .cells 7 [.agg [.p (w0), .p (.string ⟨#[]⟩), .p (.int .u64 n3), .p (w1), .p (w2), .p (.int .u64 0), .ptr h5.length 0 0 1]])
                have z5 : ((h5 ++ [locB]).set xb (.cells 7 [.agg [.p (w0), .p (.string ⟨#[]⟩), .p (.int .u64 n3), .p (w1), .p (w2), .p (.int .u64 0), .ptr h5.length 0 0 1]]))[h5.length]? = some locB := by rw [List.getElem?_set_ne (Nat.ne_of_lt t.lt)]; simp
                have o5 : ¬ R5.own h5.length := fun ho => Nat.lt_irrefl _ (s.own_lt ho)
                have z5_lt : xb < h5.length := t.lt
                have e : srvD r = some ([w0, w1, w2, .int .u64 n3, .string (txt utc)], r5) := by simp [srvD, decs, hd1, hd2, hd3, hd4, hd5, tailD, revOf, f0, f1, f2]
                refine REr_by _ _ .refl ?_
                have s6 := s5.set (x' := .cells 7 [.agg [.p (w0), .p (.string ⟨#[]⟩), .p (.int .u64 n3), .p (w1), .p (w2), .p (.int .u64 n3), .ptr h5.length 0 0 1]])
                have q6 := q5.set (k := .cells 7 [.agg [.p (w0), .p (.string ⟨#[]⟩), .p (.int .u64 n3), .p (w1), .p (w2), .p (.int .u64 n3), .ptr h5.length 0 0 1]])
                have z6 : (List.set _ xb (.cells 7 [.agg [.p (w0), .p (.string ⟨#[]⟩), .p (.int .u64 n3), .p (w1), .p (w2), .p (.int .u64 n3), .ptr h5.length 0 0 1]]))[h5.length]? = some locB := (List.getElem?_set_ne (Nat.ne_of_lt z5_lt)).trans z5
                simp only [List.set_set] at s6 q6 z6
                exact SrvOut.ok e (z := .ptr h5.length 0 0 1) s6 q6 (.inr ⟨by simp, _, rfl, z6⟩)
            · rcases Nat.lt_or_ge n3 54401 with b2 | b2
              · skip
                have f0 : 54058 ≤ n3 := by omega
                have g0 : (54058 : Int) ≤ (n3 : Int) := by omega
                have f1 : 54372 ≤ n3 := by omega
                have g1 : (54372 : Int) ≤ (n3 : Int) := by omega
                have f2 : ¬ 54401 ≤ n3 := by omega
                have g2 : ¬ (54401 : Int) ≤ (n3 : Int) := by omega
                simp [tx, ts, g0, g1, g2]
                refine FF_byR (ok109' _ R4 r4 _ R.rb q4.rb (by omega) s4.s) ?_
                intro v h5 ho
                cases hd5 : dS r4 with
                | none =>
                  rw [hd5] at ho
                  obtain ⟨⟨x, rfl⟩, R', r', l', s, k⟩ := ho
                  have t := s4.next s k
                  have tx := t.x
                  simp [tx, g0, g1, g2]
                  refine FF_by (ok114 _ _) ?_
                  simp
                  have e : srvD r = none := by simp [srvD, decs, hd1, hd2, hd3, hd4, hd5, tailD, revOf, f0, f1, f2]
                  refine REr_by _ _ .refl ?_
                  exact SrvOut.err e t.push (q4.trans k.toX).push
                | some x5 =>
                  obtain ⟨w4, r5⟩ := x5
                  rw [hd5] at ho
                  obtain ⟨rfl, R5, l5, s, k⟩ := ho
                  have t := s4.next s k
                  have tx := t.x
                  have ts : ∀ X, (h5.set xb X)[xb]? = some X := fun X => by rw [List.getElem?_set_self t.lt]
                  have hl5 := dS_len hd5
                  obtain rfl := hz _ _ _ _ hd0 (by rw [hrev]; exact f0) hd5
                  have tpx := (t.push (y := [locB])).x
                  have tps : ∀ X, ((h5 ++ [locB]).set xb X)[xb]? = some X := fun X => by rw [List.getElem?_set_self (t.push (y := [locB])).lt]
                  simp [tx, g0, g1, g2]
                  refine FF_by (ok115 _) ?_
                  simp [tpx, tps, g0, g1, g2]
                  have s5 := (t.push (y := [locB])).set (x' := .cells 7 [.agg [.p (w0), .p (.string ⟨#[]⟩), .p (.int .u64 n3), .p (w1), .p (w2), .p (.int .u64 0), .ptr h5.length 0 0 1]])
                  have q5 := ((q4.trans k.toX).push (y := [locB])).set (k := .cells 7 [.agg [.p (w0), .p (.string ⟨#[]⟩), .p (.int .u64 n3), .p (w1), .p (w2), .p (.int .u64 0), .ptr h5.length 0 0 1]])
                  have z5 : ((h5 ++ [locB]).set xb (.cells 7 [.agg [.p (w0), .p (.string ⟨#[]⟩), .p (.int .u64 n3), .p (w1), .p (w2), .p (.int .u64 0), .ptr h5.length 0 0 1]]))[h5.length]? = some locB := by rw [List.getElem?_set_ne (Nat.ne_of_lt t.lt)]; simp
                  have o5 : ¬ R5.own h5.length := fun ho => Nat.lt_irrefl _ (s.own_lt ho)
                  have z5_lt : xb < h5.length := t.lt
                  refine FF_byR (ok109' _ R5 r5 _ R.rb q5.rb (by omega) s5.s) ?_
                  intro v h6 ho
                  cases hd6 : dS r5 with
                  | none =>
                    rw [hd6] at ho
                    obtain ⟨⟨x, rfl⟩, R', r', l', s, k⟩ := ho
                    have t := s5.next s k
                    have tx := t.x
                    simp [tx, g0, g1, g2]
                    refine FF_by (ok114 _ _) ?_
                    simp
                    have e : srvD r = none := by simp [srvD, decs, hd1, hd2, hd3, hd4, hd5, hd6, tailD, revOf, f0, f1, f2]
                    refine REr_by _ _ .refl ?_
                    exact SrvOut.err e t.set.push (q5.trans k.toX).set.push
                  | some x6 =>
                    obtain ⟨w5, r6⟩ := x6
                    rw [hd6] at ho
                    obtain ⟨rfl, R6, l6, s, k⟩ := ho
                    have t := s5.next s k
                    have tx := t.x
                    have ts : ∀ X, (h6.set xb X)[xb]? = some X := fun X => by rw [List.getElem?_set_self t.lt]
                    have hl6 := dS_len hd6
                    simp [tx, ts, g0, g1, g2]
                    have s6 := t.set (x' := .cells 7 [.agg [.p (w0), .p (w5), .p (.int .u64 n3), .p (w1), .p (w2), .p (.int .u64 0), .ptr h5.length 0 0 1]])
                    have q6 := (q5.trans k.toX).set (k := .cells 7 [.agg [.p (w0), .p (w5), .p (.int .u64 n3), .p (w1), .p (w2), .p (.int .u64 0), .ptr h5.length 0 0 1]])
                    have z6 : (h6.set xb (.cells 7 [.agg [.p (w0), .p (w5), .p (.int .u64 n3), .p (w1), .p (w2), .p (.int .u64 0), .ptr h5.length 0 0 1]]))[h5.length]? = some locB := by rw [List.getElem?_set_ne (Nat.ne_of_lt z5_lt), k.get z5 o5]
                    have o6 : ¬ R6.own h5.length := k.own (List.getElem?_eq_some_iff.1 z5).1 o5
                    have z6_lt : xb < h5.length := z5_lt
                    have e : srvD r = some ([w0, w1, w2, .int .u64 n3, .string (txt utc), w5], r6) := by simp [srvD, decs, hd1, hd2, hd3, hd4, hd5, hd6, tailD, revOf, f0, f1, f2]
                    refine REr_by _ _ .refl ?_
                    have s7 := s6.set (x' := .cells 7 [.agg [.p (w0), .p (w5), .p (.int .u64 n3), .p (w1), .p (w2), .p (.int .u64 n3), .ptr h5.length 0 0 1]])
                    have q7 := q6.set (k := .cells 7 [.agg [.p (w0), .p (w5), .p (.int .u64 n3), .p (w1), .p (w2), .p (.int .u64 n3), .ptr h5.length 0 0 1]])
                    have z7 : (List.set _ xb (.cells 7 [.agg [.p (w0), .p (w5), .p (.int .u64 n3), .p (w1), .p (w2), .p (.int .u64 n3), .ptr h5.length 0 0 1]]))[h5.length]? = some locB := (List.getElem?_set_ne (Nat.ne_of_lt z6_lt)).trans z6
                    simp only [List.set_set] at s7 q7 z7
                    exact SrvOut.ok e (z := .ptr h5.length 0 0 1) s7 q7 (.inr ⟨by simp, _, rfl, z7⟩)
              · skip
                have f0 : 54058 ≤ n3 := by omega
                have g0 : (54058 : Int) ≤ (n3 : Int) := by omega
                have f1 : 54372 ≤ n3 := by omega
                have g1 : (54372 : Int) ≤ (n3 : Int) := by omega
                have f2 : 54401 ≤ n3 := by omega
                have g2 : (54401 : Int) ≤ (n3 : Int) := by omega
                simp [tx, ts, g0, g1, g2]
                refine FF_byR (ok109' _ R4 r4 _ R.rb q4.rb (by omega) s4.s) ?_
                intro v h5 ho
                cases hd5 : dS r4 with
                | none =>
                  rw [hd5] at ho
                  obtain ⟨⟨x, rfl⟩, R', r', l', s, k⟩ := ho
                  have t := s4.next s k
                  have tx := t.x
                  simp [tx, g0, g1, g2]
                  refine FF_by (ok114 _ _) ?_
                  simp
                  have e : srvD r = none := by simp [srvD, decs, hd1, hd2, hd3, hd4, hd5, tailD, revOf, f0, f1, f2]
                  refine REr_by _ _ .refl ?_
                  exact SrvOut.err e t.push (q4.trans k.toX).push
                | some x5 =>
                  obtain ⟨w4, r5⟩ := x5
                  rw [hd5] at ho
                  obtain ⟨rfl, R5, l5, s, k⟩ := ho
                  have t := s4.next s k
                  have tx := t.x
                  have ts : ∀ X, (h5.set xb X)[xb]? = some X := fun X => by rw [List.getElem?_set_self t.lt]
                  have hl5 := dS_len hd5
                  obtain rfl := hz _ _ _ _ hd0 (by rw [hrev]; exact f0) hd5
                  have tpx := (t.push (y := [locB])).x
                  have tps : ∀ X, ((h5 ++ [locB]).set xb X)[xb]? = some X := fun X => by rw [List.getElem?_set_self (t.push (y := [locB])).lt]
                  simp [tx, g0, g1, g2]
                  refine FF_by (ok115 _) ?_
                  simp [tpx, tps, g0, g1, g2]
                  have s5 := (t.push (y := [locB])).set (x' := .cells 7 [.agg [.p (w0), .p (.string ⟨#[]⟩), .p (.int .u64 n3), .p (w1), .p (w2), .p (.int .u64 0), .ptr h5.length 0 0 1]])
                  have q5 := ((q4.trans k.toX).push (y := [locB])).set (k := .cells 7 [.agg [.p (w0), .p (.string ⟨#[]⟩), .p (.int .u64 n3), .p (w1), .p (w2), .p (.int .u64 0), .ptr h5.length 0 0 1]])
                  have z5 : ((h5 ++ [locB]).set xb (.cells 7 [.agg [.p (w0), .p (.string ⟨#[]⟩), .p (.int .u64 n3), .p (w1), .p (w2), .p (.int .u64 0), .ptr h5.length 0 0 1]]))[h5.length]? = some locB := by rw [List.getElem?_set_ne (Nat.ne_of_lt t.lt)]; simp
                  have o5 : ¬ R5.own h5.length := fun ho => Nat.lt_irrefl _ (s.own_lt ho)
                  have z5_lt : xb < h5.length := t.lt
                  refine FF_byR (ok109' _ R5 r5 _ R.rb q5.rb (by omega) s5.s) ?_
                  intro v h6 ho
                  cases hd6 : dS r5 with
                  | none =>
                    rw [hd6] at ho
                    obtain ⟨⟨x, rfl⟩, R', r', l', s, k⟩ := ho
                    have t := s5.next s k
                    have tx := t.x
                    simp [tx, g0, g1, g2]
                    refine FF_by (ok114 _ _) ?_
                    simp
                    have e : srvD r = none := by simp [srvD, decs, hd1, hd2, hd3, hd4, hd5, hd6, tailD, revOf, f0, f1, f2]
                    refine REr_by _ _ .refl ?_
                    exact SrvOut.err e t.set.push (q5.trans k.toX).set.push
                  | some x6 =>
                    obtain ⟨w5, r6⟩ := x6
                    rw [hd6] at ho
                    obtain ⟨rfl, R6, l6, s, k⟩ := ho
                    have t := s5.next s k
                    have tx := t.x
                    have ts : ∀ X, (h6.set xb X)[xb]? = some X := fun X => by rw [List.getElem?_set_self t.lt]
                    have hl6 := dS_len hd6
                    simp [tx, ts, g0, g1, g2]
                    have s6 := t.set (x' := .cells 7 [.agg [.p (w0), .p (w5), .p (.int .u64 n3), .p (w1), .p (w2), .p (.int .u64 0), .ptr h5.length 0 0 1]])
                    have q6 := (q5.trans k.toX).set (k := .cells 7 [.agg [.p (w0), .p (w5), .p (.int .u64 n3), .p (w1), .p (w2), .p (.int .u64 0), .ptr h5.length 0 0 1]])
                    have z6 : (h6.set xb (.cells 7 [.agg [.p (w0), .p (w5), .p (.int .u64 n3), .p (w1), .p (w2), .p (.int .u64 0), .ptr h5.length 0 0 1]]))[h5.length]? = some locB := by rw [List.getElem?_set_ne (Nat.ne_of_lt z5_lt), k.get z5 o5]
                    have o6 : ¬ R6.own h5.length := k.own (List.getElem?_eq_some_iff.1 z5).1 o5
                    have z6_lt : xb < h5.length := z5_lt
                    refine FF_byR (ok104' _ R6 r6 _ R.rb q6.rb (by omega) s6.s) ?_
                    intro v h7 ho
                    cases hd7 : dU r6 with
                    | none =>
                      rw [hd7] at ho
                      obtain ⟨⟨x, rfl⟩, R', r', l', s, k⟩ := ho
                      have t := s6.next s k
                      have tx := t.x
                      simp [tx, g0, g1, g2]
                      refine FF_by (ok114 _ _) ?_
                      simp
                      have e : srvD r = none := by simp [srvD, decs, hd1, hd2, hd3, hd4, hd5, hd6, hd7, tailD, revOf, f0, f1, f2]
                      refine REr_by _ _ .refl ?_
                      exact SrvOut.err e t.set.push (q6.trans k.toX).set.push
                    | some x7 =>
                      obtain ⟨w6, r7⟩ := x7
                      rw [hd7] at ho
                      obtain ⟨rfl, R7, l7, s, k⟩ := ho
                      have t := s6.next s k
                      have tx := t.x
                      have ts : ∀ X, (h7.set xb X)[xb]? = some X := fun X => by rw [List.getElem?_set_self t.lt]
                      have hl7 := dU_len hd7
                      simp [tx, ts, g0, g1, g2]
                      have s7 := t.set (x' := .cells 7 [.agg [.p (w0), .p (w5), .p (.int .u64 n3), .p (w1), .p (w2), .p (w6), .ptr h5.length 0 0 1]])
                      have q7 := (q6.trans k.toX).set (k := .cells 7 [.agg [.p (w0), .p (w5), .p (.int .u64 n3), .p (w1), .p (w2), .p (w6), .ptr h5.length 0 0 1]])
                      have z7 : (h7.set xb (.cells 7 [.agg [.p (w0), .p (w5), .p (.int .u64 n3), .p (w1), .p (w2), .p (w6), .ptr h5.length 0 0 1]]))[h5.length]? = some locB := by rw [List.getElem?_set_ne (Nat.ne_of_lt z6_lt), k.get z6 o6]
                      have o7 : ¬ R7.own h5.length := k.own (List.getElem?_eq_some_iff.1 z6).1 o6
                      have z7_lt : xb < h5.length := z6_lt
                      have e : srvD r = some ([w0, w1, w2, .int .u64 n3, .string (txt utc), w5, w6], r7) := by simp [srvD, decs, hd1, hd2, hd3, hd4, hd5, hd6, hd7, tailD, revOf, f0, f1, f2]
                      refine REr_by _ _ .refl ?_
                      exact SrvOut.ok e (z := .ptr h5.length 0 0 1) s7 q7 (.inr ⟨by simp, _, rfl, z7⟩)

end Go.Proofs.Ytbbafeocmchlnaa
