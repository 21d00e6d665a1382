/- Letters (turned from another seat by mkpe.py) -/
import Derived.Test.YtdgnjngbheecnaaDoorSpA
import GoSem.PinnedTables
set_option linter.unusedVariables false
set_option linter.unusedSimpArgs false
set_option maxRecDepth 100000
namespace Go.Proofs.YtdgnjngbheecnaaDoor
open Go Go.Den Go.Proofs



def firstD : DV := .agg (Go.Pinned.utf8FirstZ.map fun n : Nat => .p (.int .u8 (n : Int)))
def accL : List (Nat × Nat) := [(128, 191), (160, 191), (128, 159), (144, 191), (128, 143), (0, 0), (0, 0), (0, 0), (0, 0), (0, 0), (0, 0), (0, 0), (0, 0), (0, 0), (0, 0), (0, 0)]
def accD : DV := .agg (accL.flatMap fun p => [.p (.int .u8 (p.1 : Int)), .p (.int .u8 (p.2 : Int))])
/-- The tables of package utf8. -/
def GT (g : Nat) : DV := if g = 2 then .fp firstD else if g = 3 then .fp accD else if g = 1 then .fp (.agg []) else .any
theorem first_len : Go.Pinned.utf8FirstZ.length = 256 := by decide +kernel
theorem first_hi : ∀ i : Fin 128, Go.Pinned.utf8FirstZ[i.val + 128]? = some 241 ∨ Go.Pinned.utf8FirstZ[i.val + 128]? = some 2 ∨ Go.Pinned.utf8FirstZ[i.val + 128]? = some 19 ∨ Go.Pinned.utf8FirstZ[i.val + 128]? = some 3 ∨ Go.Pinned.utf8FirstZ[i.val + 128]? = some 35 ∨ Go.Pinned.utf8FirstZ[i.val + 128]? = some 52 ∨ Go.Pinned.utf8FirstZ[i.val + 128]? = some 4 ∨ Go.Pinned.utf8FirstZ[i.val + 128]? = some 68 := by decide +kernel

/-- What is told of a text's first letter. -/
def RuR (s : List UInt8) (h : List Blk) (v : DV) (h' : List Blk) : Prop := HPre h h' ∧ ∃ (r : Int) (n : Nat), v = .tup [.p (.int .i32 r), .p (.int .i64 n)] ∧ (s ≠ [] → 1 ≤ n ∧ n ≤ s.length ∧ ((n = 1 ∧ ∃ c t, s = c :: t ∧ r = c.toNat ∧ c.toNat < 128) ∨ ∀ x ∈ s.take n, 128 ≤ x.toNat))

theorem RuR.hi {s : List UInt8} {h h' : List Blk} {r : Int} (n : Nat) (hp : HPre h h') (h1 : 1 ≤ n) (h2 : n ≤ s.length) (h3 : ∀ x, x ∈ s.take n → 128 ≤ x.toNat) : RuR s h (.tup [.p (.int .i32 r), .p (.int .i64 (n : Int))]) h' := ⟨hp, r, n, rfl, fun _ => ⟨h1, h2, .inr h3⟩⟩
set_option maxHeartbeats 4000000 in
theorem ok105 (h : List Blk) (c : UInt8) (t : List UInt8) (hc : 128 ≤ c.toNat) (hl : t.length ≤ 9223372036854775000) : OkR Tryd.prog GT 105 [.p (.string (txt (c :: t)))] h (RuR (c :: t) h) := by
  refine OkR_by Tryd.func105 c105_ok r105_ok 116 rfl ?_
  have hlt := c.toNat_lt
  have hfst := first_hi ⟨c.toNat - 128, by omega⟩
  have e128 : c.toNat - 128 + 128 = c.toNat := by omega
  simp only [e128] at hfst
  have l256 : (Go.Pinned.utf8FirstZ.map fun n : Nat => DV.p (Value.int .u8 (n : Int))).length = 256 := by simp [first_len]
  have h256 : (c.toNat : Int) < 256 := by omega
  have hpos : ¬ (t.length : Int) + 1 < 1 := by omega
  rcases hfst with hx | hx | hx | hx | hx | hx | hx | hx
  · simp [c105, r105, byteD, GT, firstD, l256, first_len, h256, hpos, hx]
    refine REr_by _ _ .refl ?_
    exact RuR.hi 1 (HPre.refl _) (by omega) (by simp) (by simpa using hc)
  · rcases t with _ | ⟨b1, t⟩
    · have hq : (0 + 1 : Int) < 2 := by decide
      simp [c105, r105, byteD, GT, firstD, l256, first_len, h256, hx, accD, accL, show iand .u8 2 7 = 2 from by decide, show ishr .u8 2 4 = 0 from by decide, show IntKind.i64.wrap 2 = 2 from by decide]
      refine REr_by _ _ .refl ?_
      exact RuR.hi 1 (HPre.append _ _) (by omega) (by simp) (by simpa using hc)
    · have hp : ¬ (t.length : Int) + 1 + 1 < 2 := by omega
      have hp0 : ¬ (t.length : Int) + 1 + 1 < 1 := by omega
      rcases Nat.lt_or_ge b1.toNat 128 with u1 | u1
      · have v1 : (b1.toNat : Int) < 128 := by omega
        simp [c105, r105, byteD, GT, firstD, l256, first_len, h256, hx, accD, accL, hp, hp0, show iand .u8 2 7 = 2 from by decide, show ishr .u8 2 4 = 0 from by decide, show IntKind.i64.wrap 2 = 2 from by decide, v1]
        refine ⟨by omega, by omega, ?_⟩
        refine REr_by _ _ .refl ?_
        exact RuR.hi 1 (HPre.append _ _) (by omega) (by simp) (by simpa using hc)
      · have v1 : ¬ (b1.toNat : Int) < 128 := by omega
        rcases Nat.lt_or_ge 191 b1.toNat with x1 | x1
        · have y1 : (191 : Int) < (b1.toNat : Int) := by omega
          simp [c105, r105, byteD, GT, firstD, l256, first_len, h256, hx, accD, accL, hp, hp0, show iand .u8 2 7 = 2 from by decide, show ishr .u8 2 4 = 0 from by decide, show IntKind.i64.wrap 2 = 2 from by decide, v1, y1]
          refine ⟨by omega, by omega, ?_⟩
          refine REr_by _ _ .refl ?_
          exact RuR.hi 1 (HPre.append _ _) (by omega) (by simp) (by simpa using hc)
        · have y1 : ¬ (191 : Int) < (b1.toNat : Int) := by omega
          simp [c105, r105, byteD, GT, firstD, l256, first_len, h256, hx, accD, accL, hp, hp0, show iand .u8 2 7 = 2 from by decide, show ishr .u8 2 4 = 0 from by decide, show IntKind.i64.wrap 2 = 2 from by decide, v1, y1]
          refine ⟨by omega, by omega, ?_⟩
          refine REr_by _ _ .refl ?_
          exact RuR.hi 2 (HPre.append _ _) (by omega) (by simp) (by simp; omega)
  · rcases t with _ | ⟨b1, t⟩
    · have hq : (0 + 1 : Int) < 3 := by decide
      simp [c105, r105, byteD, GT, firstD, l256, first_len, h256, hx, accD, accL, show iand .u8 19 7 = 3 from by decide, show ishr .u8 19 4 = 1 from by decide, show IntKind.i64.wrap 3 = 3 from by decide]
      refine REr_by _ _ .refl ?_
      exact RuR.hi 1 (HPre.append _ _) (by omega) (by simp) (by simpa using hc)
    · rcases t with _ | ⟨b2, t⟩
      · have hq : (0 + 1 + 1 : Int) < 3 := by decide
        simp [c105, r105, byteD, GT, firstD, l256, first_len, h256, hx, accD, accL, show iand .u8 19 7 = 3 from by decide, show ishr .u8 19 4 = 1 from by decide, show IntKind.i64.wrap 3 = 3 from by decide]
        refine REr_by _ _ .refl ?_
        exact RuR.hi 1 (HPre.append _ _) (by omega) (by simp) (by simpa using hc)
      · have hp : ¬ (t.length : Int) + 1 + 1 + 1 < 3 := by omega
        have hp0 : ¬ (t.length : Int) + 1 + 1 + 1 < 1 := by omega
        rcases Nat.lt_or_ge b1.toNat 160 with u1 | u1
        · have v1 : (b1.toNat : Int) < 160 := by omega
          simp [c105, r105, byteD, GT, firstD, l256, first_len, h256, hx, accD, accL, hp, hp0, show iand .u8 19 7 = 3 from by decide, show ishr .u8 19 4 = 1 from by decide, show IntKind.i64.wrap 3 = 3 from by decide, v1]
          refine ⟨by omega, by omega, ?_⟩
          refine REr_by _ _ .refl ?_
          exact RuR.hi 1 (HPre.append _ _) (by omega) (by simp) (by simpa using hc)
        · have v1 : ¬ (b1.toNat : Int) < 160 := by omega
          rcases Nat.lt_or_ge 191 b1.toNat with x1 | x1
          · have y1 : (191 : Int) < (b1.toNat : Int) := by omega
            simp [c105, r105, byteD, GT, firstD, l256, first_len, h256, hx, accD, accL, hp, hp0, show iand .u8 19 7 = 3 from by decide, show ishr .u8 19 4 = 1 from by decide, show IntKind.i64.wrap 3 = 3 from by decide, v1, y1]
            refine ⟨by omega, by omega, ?_⟩
            refine REr_by _ _ .refl ?_
            exact RuR.hi 1 (HPre.append _ _) (by omega) (by simp) (by simpa using hc)
          · have y1 : ¬ (191 : Int) < (b1.toNat : Int) := by omega
            rcases Nat.lt_or_ge b2.toNat 128 with u2 | u2
            · have v2 : (b2.toNat : Int) < 128 := by omega
              simp [c105, r105, byteD, GT, firstD, l256, first_len, h256, hx, accD, accL, hp, hp0, show iand .u8 19 7 = 3 from by decide, show ishr .u8 19 4 = 1 from by decide, show IntKind.i64.wrap 3 = 3 from by decide, v1, y1, v2]
              refine ⟨by omega, by omega, by omega, ?_⟩
              refine REr_by _ _ .refl ?_
              exact RuR.hi 1 (HPre.append _ _) (by omega) (by simp) (by simpa using hc)
            · have v2 : ¬ (b2.toNat : Int) < 128 := by omega
              rcases Nat.lt_or_ge 191 b2.toNat with x2 | x2
              · have y2 : (191 : Int) < (b2.toNat : Int) := by omega
                simp [c105, r105, byteD, GT, firstD, l256, first_len, h256, hx, accD, accL, hp, hp0, show iand .u8 19 7 = 3 from by decide, show ishr .u8 19 4 = 1 from by decide, show IntKind.i64.wrap 3 = 3 from by decide, v1, y1, v2, y2]
                refine ⟨by omega, by omega, by omega, ?_⟩
                refine REr_by _ _ .refl ?_
                exact RuR.hi 1 (HPre.append _ _) (by omega) (by simp) (by simpa using hc)
              · have y2 : ¬ (191 : Int) < (b2.toNat : Int) := by omega
                simp [c105, r105, byteD, GT, firstD, l256, first_len, h256, hx, accD, accL, hp, hp0, show iand .u8 19 7 = 3 from by decide, show ishr .u8 19 4 = 1 from by decide, show IntKind.i64.wrap 3 = 3 from by decide, v1, y1, v2, y2]
                refine ⟨by omega, by omega, by omega, ?_⟩
                refine REr_by _ _ .refl ?_
                exact RuR.hi 3 (HPre.append _ _) (by omega) (by simp) (by simp; omega)
  · rcases t with _ | ⟨b1, t⟩
    · have hq : (0 + 1 : Int) < 3 := by decide
      simp [c105, r105, byteD, GT, firstD, l256, first_len, h256, hx, accD, accL, show iand .u8 3 7 = 3 from by decide, show ishr .u8 3 4 = 0 from by decide, show IntKind.i64.wrap 3 = 3 from by decide]
      refine REr_by _ _ .refl ?_
      exact RuR.hi 1 (HPre.append _ _) (by omega) (by simp) (by simpa using hc)
    · rcases t with _ | ⟨b2, t⟩
      · have hq : (0 + 1 + 1 : Int) < 3 := by decide
        simp [c105, r105, byteD, GT, firstD, l256, first_len, h256, hx, accD, accL, show iand .u8 3 7 = 3 from by decide, show ishr .u8 3 4 = 0 from by decide, show IntKind.i64.wrap 3 = 3 from by decide]
        refine REr_by _ _ .refl ?_
        exact RuR.hi 1 (HPre.append _ _) (by omega) (by simp) (by simpa using hc)
      · have hp : ¬ (t.length : Int) + 1 + 1 + 1 < 3 := by omega
        have hp0 : ¬ (t.length : Int) + 1 + 1 + 1 < 1 := by omega
        rcases Nat.lt_or_ge b1.toNat 128 with u1 | u1
        · have v1 : (b1.toNat : Int) < 128 := by omega
          simp [c105, r105, byteD, GT, firstD, l256, first_len, h256, hx, accD, accL, hp, hp0, show iand .u8 3 7 = 3 from by decide, show ishr .u8 3 4 = 0 from by decide, show IntKind.i64.wrap 3 = 3 from by decide, v1]
          refine ⟨by omega, by omega, ?_⟩
          refine REr_by _ _ .refl ?_
          exact RuR.hi 1 (HPre.append _ _) (by omega) (by simp) (by simpa using hc)
        · have v1 : ¬ (b1.toNat : Int) < 128 := by omega
          rcases Nat.lt_or_ge 191 b1.toNat with x1 | x1
          · have y1 : (191 : Int) < (b1.toNat : Int) := by omega
            simp [c105, r105, byteD, GT, firstD, l256, first_len, h256, hx, accD, accL, hp, hp0, show iand .u8 3 7 = 3 from by decide, show ishr .u8 3 4 = 0 from by decide, show IntKind.i64.wrap 3 = 3 from by decide, v1, y1]
            refine ⟨by omega, by omega, ?_⟩
            refine REr_by _ _ .refl ?_
            exact RuR.hi 1 (HPre.append _ _) (by omega) (by simp) (by simpa using hc)
          · have y1 : ¬ (191 : Int) < (b1.toNat : Int) := by omega
            rcases Nat.lt_or_ge b2.toNat 128 with u2 | u2
            · have v2 : (b2.toNat : Int) < 128 := by omega
              simp [c105, r105, byteD, GT, firstD, l256, first_len, h256, hx, accD, accL, hp, hp0, show iand .u8 3 7 = 3 from by decide, show ishr .u8 3 4 = 0 from by decide, show IntKind.i64.wrap 3 = 3 from by decide, v1, y1, v2]
              refine ⟨by omega, by omega, by omega, ?_⟩
              refine REr_by _ _ .refl ?_
              exact RuR.hi 1 (HPre.append _ _) (by omega) (by simp) (by simpa using hc)
            · have v2 : ¬ (b2.toNat : Int) < 128 := by omega
              rcases Nat.lt_or_ge 191 b2.toNat with x2 | x2
              · have y2 : (191 : Int) < (b2.toNat : Int) := by omega
                simp [c105, r105, byteD, GT, firstD, l256, first_len, h256, hx, accD, accL, hp, hp0, show iand .u8 3 7 = 3 from by decide, show ishr .u8 3 4 = 0 from by decide, show IntKind.i64.wrap 3 = 3 from by decide, v1, y1, v2, y2]
                refine ⟨by omega, by omega, by omega, ?_⟩
                refine REr_by _ _ .refl ?_
                exact RuR.hi 1 (HPre.append _ _) (by omega) (by simp) (by simpa using hc)
              · have y2 : ¬ (191 : Int) < (b2.toNat : Int) := by omega
                simp [c105, r105, byteD, GT, firstD, l256, first_len, h256, hx, accD, accL, hp, hp0, show iand .u8 3 7 = 3 from by decide, show ishr .u8 3 4 = 0 from by decide, show IntKind.i64.wrap 3 = 3 from by decide, v1, y1, v2, y2]
                refine ⟨by omega, by omega, by omega, ?_⟩
                refine REr_by _ _ .refl ?_
                exact RuR.hi 3 (HPre.append _ _) (by omega) (by simp) (by simp; omega)
  · rcases t with _ | ⟨b1, t⟩
    · have hq : (0 + 1 : Int) < 3 := by decide
      simp [c105, r105, byteD, GT, firstD, l256, first_len, h256, hx, accD, accL, show iand .u8 35 7 = 3 from by decide, show ishr .u8 35 4 = 2 from by decide, show IntKind.i64.wrap 3 = 3 from by decide]
      refine REr_by _ _ .refl ?_
      exact RuR.hi 1 (HPre.append _ _) (by omega) (by simp) (by simpa using hc)
    · rcases t with _ | ⟨b2, t⟩
      · have hq : (0 + 1 + 1 : Int) < 3 := by decide
        simp [c105, r105, byteD, GT, firstD, l256, first_len, h256, hx, accD, accL, show iand .u8 35 7 = 3 from by decide, show ishr .u8 35 4 = 2 from by decide, show IntKind.i64.wrap 3 = 3 from by decide]
        refine REr_by _ _ .refl ?_
        exact RuR.hi 1 (HPre.append _ _) (by omega) (by simp) (by simpa using hc)
      · have hp : ¬ (t.length : Int) + 1 + 1 + 1 < 3 := by omega
        have hp0 : ¬ (t.length : Int) + 1 + 1 + 1 < 1 := by omega
        rcases Nat.lt_or_ge b1.toNat 128 with u1 | u1
        · have v1 : (b1.toNat : Int) < 128 := by omega
          simp [c105, r105, byteD, GT, firstD, l256, first_len, h256, hx, accD, accL, hp, hp0, show iand .u8 35 7 = 3 from by decide, show ishr .u8 35 4 = 2 from by decide, show IntKind.i64.wrap 3 = 3 from by decide, v1]
          refine ⟨by omega, by omega, ?_⟩
          refine REr_by _ _ .refl ?_
          exact RuR.hi 1 (HPre.append _ _) (by omega) (by simp) (by simpa using hc)
        · have v1 : ¬ (b1.toNat : Int) < 128 := by omega
          rcases Nat.lt_or_ge 159 b1.toNat with x1 | x1
          · have y1 : (159 : Int) < (b1.toNat : Int) := by omega
            simp [c105, r105, byteD, GT, firstD, l256, first_len, h256, hx, accD, accL, hp, hp0, show iand .u8 35 7 = 3 from by decide, show ishr .u8 35 4 = 2 from by decide, show IntKind.i64.wrap 3 = 3 from by decide, v1, y1]
            refine ⟨by omega, by omega, ?_⟩
            refine REr_by _ _ .refl ?_
            exact RuR.hi 1 (HPre.append _ _) (by omega) (by simp) (by simpa using hc)
          · have y1 : ¬ (159 : Int) < (b1.toNat : Int) := by omega
            rcases Nat.lt_or_ge b2.toNat 128 with u2 | u2
            · have v2 : (b2.toNat : Int) < 128 := by omega
              simp [c105, r105, byteD, GT, firstD, l256, first_len, h256, hx, accD, accL, hp, hp0, show iand .u8 35 7 = 3 from by decide, show ishr .u8 35 4 = 2 from by decide, show IntKind.i64.wrap 3 = 3 from by decide, v1, y1, v2]
              refine ⟨by omega, by omega, by omega, ?_⟩
              refine REr_by _ _ .refl ?_
              exact RuR.hi 1 (HPre.append _ _) (by omega) (by simp) (by simpa using hc)
            · have v2 : ¬ (b2.toNat : Int) < 128 := by omega
              rcases Nat.lt_or_ge 191 b2.toNat with x2 | x2
              · have y2 : (191 : Int) < (b2.toNat : Int) := by omega
                simp [c105, r105, byteD, GT, firstD, l256, first_len, h256, hx, accD, accL, hp, hp0, show iand .u8 35 7 = 3 from by decide, show ishr .u8 35 4 = 2 from by decide, show IntKind.i64.wrap 3 = 3 from by decide, v1, y1, v2, y2]
                refine ⟨by omega, by omega, by omega, ?_⟩
                refine REr_by _ _ .refl ?_
                exact RuR.hi 1 (HPre.append _ _) (by omega) (by simp) (by simpa using hc)
              · have y2 : ¬ (191 : Int) < (b2.toNat : Int) := by omega
                simp [c105, r105, byteD, GT, firstD, l256, first_len, h256, hx, accD, accL, hp, hp0, show iand .u8 35 7 = 3 from by decide, show ishr .u8 35 4 = 2 from by decide, show IntKind.i64.wrap 3 = 3 from by decide, v1, y1, v2, y2]
                refine ⟨by omega, by omega, by omega, ?_⟩
                refine REr_by _ _ .refl ?_
                exact RuR.hi 3 (HPre.append _ _) (by omega) (by simp) (by simp; omega)
  · rcases t with _ | ⟨b1, t⟩
    · have hq : (0 + 1 : Int) < 4 := by decide
      simp [c105, r105, byteD, GT, firstD, l256, first_len, h256, hx, accD, accL, show iand .u8 52 7 = 4 from by decide, show ishr .u8 52 4 = 3 from by decide, show IntKind.i64.wrap 4 = 4 from by decide]
      refine REr_by _ _ .refl ?_
      exact RuR.hi 1 (HPre.append _ _) (by omega) (by simp) (by simpa using hc)
    · rcases t with _ | ⟨b2, t⟩
      · have hq : (0 + 1 + 1 : Int) < 4 := by decide
        simp [c105, r105, byteD, GT, firstD, l256, first_len, h256, hx, accD, accL, show iand .u8 52 7 = 4 from by decide, show ishr .u8 52 4 = 3 from by decide, show IntKind.i64.wrap 4 = 4 from by decide]
        refine REr_by _ _ .refl ?_
        exact RuR.hi 1 (HPre.append _ _) (by omega) (by simp) (by simpa using hc)
      · rcases t with _ | ⟨b3, t⟩
        · have hq : (0 + 1 + 1 + 1 : Int) < 4 := by decide
          simp [c105, r105, byteD, GT, firstD, l256, first_len, h256, hx, accD, accL, show iand .u8 52 7 = 4 from by decide, show ishr .u8 52 4 = 3 from by decide, show IntKind.i64.wrap 4 = 4 from by decide]
          refine REr_by _ _ .refl ?_
          exact RuR.hi 1 (HPre.append _ _) (by omega) (by simp) (by simpa using hc)
        · have hp : ¬ (t.length : Int) + 1 + 1 + 1 + 1 < 4 := by omega
          have hp0 : ¬ (t.length : Int) + 1 + 1 + 1 + 1 < 1 := by omega
          rcases Nat.lt_or_ge b1.toNat 144 with u1 | u1
          · have v1 : (b1.toNat : Int) < 144 := by omega
            simp [c105, r105, byteD, GT, firstD, l256, first_len, h256, hx, accD, accL, hp, hp0, show iand .u8 52 7 = 4 from by decide, show ishr .u8 52 4 = 3 from by decide, show IntKind.i64.wrap 4 = 4 from by decide, v1]
            refine ⟨by omega, by omega, ?_⟩
            refine REr_by _ _ .refl ?_
            exact RuR.hi 1 (HPre.append _ _) (by omega) (by simp) (by simpa using hc)
          · have v1 : ¬ (b1.toNat : Int) < 144 := by omega
            rcases Nat.lt_or_ge 191 b1.toNat with x1 | x1
            · have y1 : (191 : Int) < (b1.toNat : Int) := by omega
              simp [c105, r105, byteD, GT, firstD, l256, first_len, h256, hx, accD, accL, hp, hp0, show iand .u8 52 7 = 4 from by decide, show ishr .u8 52 4 = 3 from by decide, show IntKind.i64.wrap 4 = 4 from by decide, v1, y1]
              refine ⟨by omega, by omega, ?_⟩
              refine REr_by _ _ .refl ?_
              exact RuR.hi 1 (HPre.append _ _) (by omega) (by simp) (by simpa using hc)
            · have y1 : ¬ (191 : Int) < (b1.toNat : Int) := by omega
              rcases Nat.lt_or_ge b2.toNat 128 with u2 | u2
              · have v2 : (b2.toNat : Int) < 128 := by omega
                simp [c105, r105, byteD, GT, firstD, l256, first_len, h256, hx, accD, accL, hp, hp0, show iand .u8 52 7 = 4 from by decide, show ishr .u8 52 4 = 3 from by decide, show IntKind.i64.wrap 4 = 4 from by decide, v1, y1, v2]
                refine ⟨by omega, by omega, by omega, ?_⟩
                refine REr_by _ _ .refl ?_
                exact RuR.hi 1 (HPre.append _ _) (by omega) (by simp) (by simpa using hc)
              · have v2 : ¬ (b2.toNat : Int) < 128 := by omega
                rcases Nat.lt_or_ge 191 b2.toNat with x2 | x2
                · have y2 : (191 : Int) < (b2.toNat : Int) := by omega
                  simp [c105, r105, byteD, GT, firstD, l256, first_len, h256, hx, accD, accL, hp, hp0, show iand .u8 52 7 = 4 from by decide, show ishr .u8 52 4 = 3 from by decide, show IntKind.i64.wrap 4 = 4 from by decide, v1, y1, v2, y2]
                  refine ⟨by omega, by omega, by omega, ?_⟩
                  refine REr_by _ _ .refl ?_
                  exact RuR.hi 1 (HPre.append _ _) (by omega) (by simp) (by simpa using hc)
                · have y2 : ¬ (191 : Int) < (b2.toNat : Int) := by omega
                  rcases Nat.lt_or_ge b3.toNat 128 with u3 | u3
                  · have v3 : (b3.toNat : Int) < 128 := by omega
                    simp [c105, r105, byteD, GT, firstD, l256, first_len, h256, hx, accD, accL, hp, hp0, show iand .u8 52 7 = 4 from by decide, show ishr .u8 52 4 = 3 from by decide, show IntKind.i64.wrap 4 = 4 from by decide, v1, y1, v2, y2, v3]
                    refine ⟨by omega, by omega, by omega, by omega, ?_⟩
                    refine REr_by _ _ .refl ?_
                    exact RuR.hi 1 (HPre.append _ _) (by omega) (by simp) (by simpa using hc)
                  · have v3 : ¬ (b3.toNat : Int) < 128 := by omega
                    rcases Nat.lt_or_ge 191 b3.toNat with x3 | x3
                    · have y3 : (191 : Int) < (b3.toNat : Int) := by omega
                      simp [c105, r105, byteD, GT, firstD, l256, first_len, h256, hx, accD, accL, hp, hp0, show iand .u8 52 7 = 4 from by decide, show ishr .u8 52 4 = 3 from by decide, show IntKind.i64.wrap 4 = 4 from by decide, v1, y1, v2, y2, v3, y3]
                      refine ⟨by omega, by omega, by omega, by omega, ?_⟩
                      refine REr_by _ _ .refl ?_
                      exact RuR.hi 1 (HPre.append _ _) (by omega) (by simp) (by simpa using hc)
                    · have y3 : ¬ (191 : Int) < (b3.toNat : Int) := by omega
                      simp [c105, r105, byteD, GT, firstD, l256, first_len, h256, hx, accD, accL, hp, hp0, show iand .u8 52 7 = 4 from by decide, show ishr .u8 52 4 = 3 from by decide, show IntKind.i64.wrap 4 = 4 from by decide, v1, y1, v2, y2, v3, y3]
                      refine ⟨by omega, by omega, by omega, by omega, ?_⟩
                      refine REr_by _ _ .refl ?_
                      exact RuR.hi 4 (HPre.append _ _) (by omega) (by simp) (by simp; omega)
  · rcases t with _ | ⟨b1, t⟩
    · have hq : (0 + 1 : Int) < 4 := by decide
      simp [c105, r105, byteD, GT, firstD, l256, first_len, h256, hx, accD, accL, show iand .u8 4 7 = 4 from by decide, show ishr .u8 4 4 = 0 from by decide, show IntKind.i64.wrap 4 = 4 from by decide]
      refine REr_by _ _ .refl ?_
      exact RuR.hi 1 (HPre.append _ _) (by omega) (by simp) (by simpa using hc)
    · rcases t with _ | ⟨b2, t⟩
      · have hq : (0 + 1 + 1 : Int) < 4 := by decide
        simp [c105, r105, byteD, GT, firstD, l256, first_len, h256, hx, accD, accL, show iand .u8 4 7 = 4 from by decide, show ishr .u8 4 4 = 0 from by decide, show IntKind.i64.wrap 4 = 4 from by decide]
        refine REr_by _ _ .refl ?_
        exact RuR.hi 1 (HPre.append _ _) (by omega) (by simp) (by simpa using hc)
      · rcases t with _ | ⟨b3, t⟩
        · have hq : (0 + 1 + 1 + 1 : Int) < 4 := by decide
          simp [c105, r105, byteD, GT, firstD, l256, first_len, h256, hx, accD, accL, show iand .u8 4 7 = 4 from by decide, show ishr .u8 4 4 = 0 from by decide, show IntKind.i64.wrap 4 = 4 from by decide]
          refine REr_by _ _ .refl ?_
          exact RuR.hi 1 (HPre.append _ _) (by omega) (by simp) (by simpa using hc)
        · have hp : ¬ (t.length : Int) + 1 + 1 + 1 + 1 < 4 := by omega
          have hp0 : ¬ (t.length : Int) + 1 + 1 + 1 + 1 < 1 := by omega
          rcases Nat.lt_or_ge b1.toNat 128 with u1 | u1
          · have v1 : (b1.toNat : Int) < 128 := by omega
            simp [c105, r105, byteD, GT, firstD, l256, first_len, h256, hx, accD, accL, hp, hp0, show iand .u8 4 7 = 4 from by decide, show ishr .u8 4 4 = 0 from by decide, show IntKind.i64.wrap 4 = 4 from by decide, v1]
            refine ⟨by omega, by omega, ?_⟩
            refine REr_by _ _ .refl ?_
            exact RuR.hi 1 (HPre.append _ _) (by omega) (by simp) (by simpa using hc)
          · have v1 : ¬ (b1.toNat : Int) < 128 := by omega
            rcases Nat.lt_or_ge 191 b1.toNat with x1 | x1
            · have y1 : (191 : Int) < (b1.toNat : Int) := by omega
              simp [c105, r105, byteD, GT, firstD, l256, first_len, h256, hx, accD, accL, hp, hp0, show iand .u8 4 7 = 4 from by decide, show ishr .u8 4 4 = 0 from by decide, show IntKind.i64.wrap 4 = 4 from by decide, v1, y1]
              refine ⟨by omega, by omega, ?_⟩
              refine REr_by _ _ .refl ?_
              exact RuR.hi 1 (HPre.append _ _) (by omega) (by simp) (by simpa using hc)
            · have y1 : ¬ (191 : Int) < (b1.toNat : Int) := by omega
              rcases Nat.lt_or_ge b2.toNat 128 with u2 | u2
              · have v2 : (b2.toNat : Int) < 128 := by omega
                simp [c105, r105, byteD, GT, firstD, l256, first_len, h256, hx, accD, accL, hp, hp0, show iand .u8 4 7 = 4 from by decide, show ishr .u8 4 4 = 0 from by decide, show IntKind.i64.wrap 4 = 4 from by decide, v1, y1, v2]
                refine ⟨by omega, by omega, by omega, ?_⟩
                refine REr_by _ _ .refl ?_
                exact RuR.hi 1 (HPre.append _ _) (by omega) (by simp) (by simpa using hc)
              · have v2 : ¬ (b2.toNat : Int) < 128 := by omega
                rcases Nat.lt_or_ge 191 b2.toNat with x2 | x2
                · have y2 : (191 : Int) < (b2.toNat : Int) := by omega
                  simp [c105, r105, byteD, GT, firstD, l256, first_len, h256, hx, accD, accL, hp, hp0, show iand .u8 4 7 = 4 from by decide, show ishr .u8 4 4 = 0 from by decide, show IntKind.i64.wrap 4 = 4 from by decide, v1, y1, v2, y2]
                  refine ⟨by omega, by omega, by omega, ?_⟩
                  refine REr_by _ _ .refl ?_
                  exact RuR.hi 1 (HPre.append _ _) (by omega) (by simp) (by simpa using hc)
                · have y2 : ¬ (191 : Int) < (b2.toNat : Int) := by omega
                  rcases Nat.lt_or_ge b3.toNat 128 with u3 | u3
                  · have v3 : (b3.toNat : Int) < 128 := by omega
                    simp [c105, r105, byteD, GT, firstD, l256, first_len, h256, hx, accD, accL, hp, hp0, show iand .u8 4 7 = 4 from by decide, show ishr .u8 4 4 = 0 from by decide, show IntKind.i64.wrap 4 = 4 from by decide, v1, y1, v2, y2, v3]
                    refine ⟨by omega, by omega, by omega, by omega, ?_⟩
                    refine REr_by _ _ .refl ?_
                    exact RuR.hi 1 (HPre.append _ _) (by omega) (by simp) (by simpa using hc)
                  · have v3 : ¬ (b3.toNat : Int) < 128 := by omega
                    rcases Nat.lt_or_ge 191 b3.toNat with x3 | x3
                    · have y3 : (191 : Int) < (b3.toNat : Int) := by omega
                      simp [c105, r105, byteD, GT, firstD, l256, first_len, h256, hx, accD, accL, hp, hp0, show iand .u8 4 7 = 4 from by decide, show ishr .u8 4 4 = 0 from by decide, show IntKind.i64.wrap 4 = 4 from by decide, v1, y1, v2, y2, v3, y3]
                      refine ⟨by omega, by omega, by omega, by omega, ?_⟩
                      refine REr_by _ _ .refl ?_
                      exact RuR.hi 1 (HPre.append _ _) (by omega) (by simp) (by simpa using hc)
                    · have y3 : ¬ (191 : Int) < (b3.toNat : Int) := by omega
                      simp [c105, r105, byteD, GT, firstD, l256, first_len, h256, hx, accD, accL, hp, hp0, show iand .u8 4 7 = 4 from by decide, show ishr .u8 4 4 = 0 from by decide, show IntKind.i64.wrap 4 = 4 from by decide, v1, y1, v2, y2, v3, y3]
                      refine ⟨by omega, by omega, by omega, by omega, ?_⟩
                      refine REr_by _ _ .refl ?_
                      exact RuR.hi 4 (HPre.append _ _) (by omega) (by simp) (by simp; omega)
  · rcases t with _ | ⟨b1, t⟩
    · have hq : (0 + 1 : Int) < 4 := by decide
      simp [c105, r105, byteD, GT, firstD, l256, first_len, h256, hx, accD, accL, show iand .u8 68 7 = 4 from by decide, show ishr .u8 68 4 = 4 from by decide, show IntKind.i64.wrap 4 = 4 from by decide]
      refine REr_by _ _ .refl ?_
      exact RuR.hi 1 (HPre.append _ _) (by omega) (by simp) (by simpa using hc)
    · rcases t with _ | ⟨b2, t⟩
      · have hq : (0 + 1 + 1 : Int) < 4 := by decide
        simp [c105, r105, byteD, GT, firstD, l256, first_len, h256, hx, accD, accL, show iand .u8 68 7 = 4 from by decide, show ishr .u8 68 4 = 4 from by decide, show IntKind.i64.wrap 4 = 4 from by decide]
        refine REr_by _ _ .refl ?_
        exact RuR.hi 1 (HPre.append _ _) (by omega) (by simp) (by simpa using hc)
      · rcases t with _ | ⟨b3, t⟩
        · have hq : (0 + 1 + 1 + 1 : Int) < 4 := by decide
          simp [c105, r105, byteD, GT, firstD, l256, first_len, h256, hx, accD, accL, show iand .u8 68 7 = 4 from by decide, show ishr .u8 68 4 = 4 from by decide, show IntKind.i64.wrap 4 = 4 from by decide]
          refine REr_by _ _ .refl ?_
          exact RuR.hi 1 (HPre.append _ _) (by omega) (by simp) (by simpa using hc)
        · have hp : ¬ (t.length : Int) + 1 + 1 + 1 + 1 < 4 := by omega
          have hp0 : ¬ (t.length : Int) + 1 + 1 + 1 + 1 < 1 := by omega
          rcases Nat.lt_or_ge b1.toNat 128 with u1 | u1
          · have v1 : (b1.toNat : Int) < 128 := by omega
            simp [c105, r105, byteD, GT, firstD, l256, first_len, h256, hx, accD, accL, hp, hp0, show iand .u8 68 7 = 4 from by decide, show ishr .u8 68 4 = 4 from by decide, show IntKind.i64.wrap 4 = 4 from by decide, v1]
            refine ⟨by omega, by omega, ?_⟩
            refine REr_by _ _ .refl ?_
            exact RuR.hi 1 (HPre.append _ _) (by omega) (by simp) (by simpa using hc)
          · have v1 : ¬ (b1.toNat : Int) < 128 := by omega
            rcases Nat.lt_or_ge 143 b1.toNat with x1 | x1
            · have y1 : (143 : Int) < (b1.toNat : Int) := by omega
              simp [c105, r105, byteD, GT, firstD, l256, first_len, h256, hx, accD, accL, hp, hp0, show iand .u8 68 7 = 4 from by decide, show ishr .u8 68 4 = 4 from by decide, show IntKind.i64.wrap 4 = 4 from by decide, v1, y1]
              refine ⟨by omega, by omega, ?_⟩
              refine REr_by _ _ .refl ?_
              exact RuR.hi 1 (HPre.append _ _) (by omega) (by simp) (by simpa using hc)
            · have y1 : ¬ (143 : Int) < (b1.toNat : Int) := by omega
              rcases Nat.lt_or_ge b2.toNat 128 with u2 | u2
              · have v2 : (b2.toNat : Int) < 128 := by omega
                simp [c105, r105, byteD, GT, firstD, l256, first_len, h256, hx, accD, accL, hp, hp0, show iand .u8 68 7 = 4 from by decide, show ishr .u8 68 4 = 4 from by decide, show IntKind.i64.wrap 4 = 4 from by decide, v1, y1, v2]
                refine ⟨by omega, by omega, by omega, ?_⟩
                refine REr_by _ _ .refl ?_
                exact RuR.hi 1 (HPre.append _ _) (by omega) (by simp) (by simpa using hc)
              · have v2 : ¬ (b2.toNat : Int) < 128 := by omega
                rcases Nat.lt_or_ge 191 b2.toNat with x2 | x2
                · have y2 : (191 : Int) < (b2.toNat : Int) := by omega
                  simp [c105, r105, byteD, GT, firstD, l256, first_len, h256, hx, accD, accL, hp, hp0, show iand .u8 68 7 = 4 from by decide, show ishr .u8 68 4 = 4 from by decide, show IntKind.i64.wrap 4 = 4 from by decide, v1, y1, v2, y2]
                  refine ⟨by omega, by omega, by omega, ?_⟩
                  refine REr_by _ _ .refl ?_
                  exact RuR.hi 1 (HPre.append _ _) (by omega) (by simp) (by simpa using hc)
                · have y2 : ¬ (191 : Int) < (b2.toNat : Int) := by omega
                  rcases Nat.lt_or_ge b3.toNat 128 with u3 | u3
                  · have v3 : (b3.toNat : Int) < 128 := by omega
                    simp [c105, r105, byteD, GT, firstD, l256, first_len, h256, hx, accD, accL, hp, hp0, show iand .u8 68 7 = 4 from by decide, show ishr .u8 68 4 = 4 from by decide, show IntKind.i64.wrap 4 = 4 from by decide, v1, y1, v2, y2, v3]
                    refine ⟨by omega, by omega, by omega, by omega, ?_⟩
                    refine REr_by _ _ .refl ?_
                    exact RuR.hi 1 (HPre.append _ _) (by omega) (by simp) (by simpa using hc)
                  · have v3 : ¬ (b3.toNat : Int) < 128 := by omega
                    rcases Nat.lt_or_ge 191 b3.toNat with x3 | x3
                    · have y3 : (191 : Int) < (b3.toNat : Int) := by omega
                      simp [c105, r105, byteD, GT, firstD, l256, first_len, h256, hx, accD, accL, hp, hp0, show iand .u8 68 7 = 4 from by decide, show ishr .u8 68 4 = 4 from by decide, show IntKind.i64.wrap 4 = 4 from by decide, v1, y1, v2, y2, v3, y3]
                      refine ⟨by omega, by omega, by omega, by omega, ?_⟩
                      refine REr_by _ _ .refl ?_
                      exact RuR.hi 1 (HPre.append _ _) (by omega) (by simp) (by simpa using hc)
                    · have y3 : ¬ (191 : Int) < (b3.toNat : Int) := by omega
                      simp [c105, r105, byteD, GT, firstD, l256, first_len, h256, hx, accD, accL, hp, hp0, show iand .u8 68 7 = 4 from by decide, show ishr .u8 68 4 = 4 from by decide, show IntKind.i64.wrap 4 = 4 from by decide, v1, y1, v2, y2, v3, y3]
                      refine ⟨by omega, by omega, by omega, by omega, ?_⟩
                      refine REr_by _ _ .refl ?_
                      exact RuR.hi 4 (HPre.append _ _) (by omega) (by simp) (by simp; omega)

end Go.Proofs.YtdgnjngbheecnaaDoor
