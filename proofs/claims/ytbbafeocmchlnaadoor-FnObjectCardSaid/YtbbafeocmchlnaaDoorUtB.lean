/- Letters: what the code decodes, told to the sign. -/
import Derived.Test.YtbbafeocmchlnaaDoorDmB
import Derived.Test.YtbbafeocmchlnaaDoorUtA
set_option linter.unusedVariables false
set_option linter.unusedSimpArgs false
set_option maxRecDepth 100000
namespace Go.Proofs.YtbbafeocmchlnaaDoor
open Go Go.Den Go.Proofs

theorem first_at : ∀ i : Fin 128, (Go.Pinned.utf8FirstZ[i.val + 128]? = some 241 ∧ (i.val + 128 < 194 ∨ 244 < i.val + 128)) ∨ (Go.Pinned.utf8FirstZ[i.val + 128]? = some 2 ∧ 194 ≤ i.val + 128 ∧ i.val + 128 ≤ 223) ∨ (Go.Pinned.utf8FirstZ[i.val + 128]? = some 19 ∧ i.val + 128 = 224) ∨ (Go.Pinned.utf8FirstZ[i.val + 128]? = some 3 ∧ 225 ≤ i.val + 128 ∧ i.val + 128 ≤ 239 ∧ i.val + 128 ≠ 237) ∨ (Go.Pinned.utf8FirstZ[i.val + 128]? = some 35 ∧ i.val + 128 = 237) ∨ (Go.Pinned.utf8FirstZ[i.val + 128]? = some 52 ∧ i.val + 128 = 240) ∨ (Go.Pinned.utf8FirstZ[i.val + 128]? = some 4 ∧ 241 ≤ i.val + 128 ∧ i.val + 128 ≤ 243) ∨ (Go.Pinned.utf8FirstZ[i.val + 128]? = some 68 ∧ i.val + 128 = 244) := by decide +kernel

/-- What is told of a text's first letter, to the sign. -/
def RuP (s : List UInt8) (h : List Blk) (v : DV) (h' : List Blk) : Prop := HPre h h' ∧ v = .tup [.p (.int .i32 ((Utf8.decode (txt s) 0).1 : Int)), .p (.int .i64 ((Utf8.decode (txt s) 0).2 : Int))]
theorem RuP.of {s : List UInt8} {h h' : List Blk} {r : Nat} {x : Int} (n : Nat) (hp : HPre h h') (hd : Utf8.decode (txt s) 0 = (r, n)) (hx : x = (r : Int)) : RuP s h (.tup [.p (.int .i32 x), .p (.int .i64 (n : Int))]) h' := ⟨hp, by rw [hd, hx]⟩
theorem maskx (c : UInt8) : ior .i32 (iandn .i32 (IntKind.i32.wrap (c.toNat : Int)) (-1)) 65533 = 65533 := by
  have h0 : iandn .i32 (IntKind.i32.wrap (c.toNat : Int)) (-1) = 0 := by
    unfold iandn
    have : (~~~(BitVec.ofInt IntKind.i32.bits (-1))) = 0#_ := by decide
    rw [this, BitVec.and_zero]
    rfl
  rw [h0]
  decide
set_option maxHeartbeats 4000000 in
theorem ok23p (h : List Blk) (c : UInt8) (t : List UInt8) (hc : 128 ≤ c.toNat) (hl : t.length ≤ 9223372036854775000) : OkR Tryd.prog GT 23 [.p (.string (txt (c :: t)))] h (RuP (c :: t) h) := by
  refine OkR_by Tryd.func23 c23_ok r23_ok 116 rfl ?_
  have hlt := c.toNat_lt
  have hfst := first_at ⟨c.toNat - 128, by omega⟩
  have e128 : c.toNat - 128 + 128 = c.toNat := by omega
  simp only [e128] at hfst
  have l256 : (Go.Pinned.utf8FirstZ.map fun n : Nat => DV.p (Value.int .u8 (n : Int))).length = 256 := by simp [first_len]
  have h256 : (c.toNat : Int) < 256 := by omega
  have hpos : ¬ (t.length : Int) + 1 < 1 := by omega
  rcases hfst with ⟨hx, hr⟩ | ⟨hx, hr⟩ | ⟨hx, hr⟩ | ⟨hx, hr⟩ | ⟨hx, hr⟩ | ⟨hx, hr⟩ | ⟨hx, hr⟩ | ⟨hx, hr⟩
  · simp [c23, r23, byteD, GT, firstD, l256, first_len, h256, hpos, hx]
    refine REr_by _ _ .refl ?_
    exact RuP.of 1 (HPre.refl _) (d1x hc (by omega)) (maskx c)
  · rcases t with _ | ⟨b1, t⟩
    · have hq : (0 + 1 : Int) < 2 := by decide
      simp [c23, r23, byteD, GT, firstD, l256, first_len, h256, hx, accD, accL, show iand .u8 2 7 = 2 from by decide, show ishr .u8 2 4 = 0 from by decide, show IntKind.i64.wrap 2 = 2 from by decide]
      refine REr_by _ _ .refl ?_
      exact RuP.of 1 (HPre.append _ _) (d2x (by omega) (by omega) (by first | exact .inr ⟨_, _,  rfl, by omega⟩ | exact .inl (by simp))) rfl
    · have hp : ¬ (t.length : Int) + 1 + 1 < 2 := by omega
      have hp0 : ¬ (t.length : Int) + 1 + 1 < 1 := by omega
      rcases Nat.lt_or_ge b1.toNat 128 with u1 | u1
      · have v1 : (b1.toNat : Int) < 128 := by omega
        simp [c23, r23, byteD, GT, firstD, l256, first_len, h256, hx, accD, accL, hp, hp0, show iand .u8 2 7 = 2 from by decide, show ishr .u8 2 4 = 0 from by decide, show IntKind.i64.wrap 2 = 2 from by decide, v1]
        refine ⟨by omega, by omega, ?_⟩
        refine REr_by _ _ .refl ?_
        exact RuP.of 1 (HPre.append _ _) (d2x (by omega) (by omega) (by first | exact .inr ⟨_, _,  rfl, by omega⟩ | exact .inl (by simp))) rfl
      · have v1 : ¬ (b1.toNat : Int) < 128 := by omega
        rcases Nat.lt_or_ge 191 b1.toNat with x1 | x1
        · have y1 : (191 : Int) < (b1.toNat : Int) := by omega
          simp [c23, r23, byteD, GT, firstD, l256, first_len, h256, hx, accD, accL, hp, hp0, show iand .u8 2 7 = 2 from by decide, show ishr .u8 2 4 = 0 from by decide, show IntKind.i64.wrap 2 = 2 from by decide, v1, y1]
          refine ⟨by omega, by omega, ?_⟩
          refine REr_by _ _ .refl ?_
          exact RuP.of 1 (HPre.append _ _) (d2x (by omega) (by omega) (by first | exact .inr ⟨_, _,  rfl, by omega⟩ | exact .inl (by simp))) rfl
        · have y1 : ¬ (191 : Int) < (b1.toNat : Int) := by omega
          simp [c23, r23, byteD, GT, firstD, l256, first_len, h256, hx, accD, accL, hp, hp0, show iand .u8 2 7 = 2 from by decide, show ishr .u8 2 4 = 0 from by decide, show IntKind.i64.wrap 2 = 2 from by decide, v1, y1]
          refine ⟨by omega, by omega, ?_⟩
          refine REr_by _ _ .refl ?_
          exact RuP.of 2 (HPre.append _ _) (d2 (by omega) (by omega) (by omega) (by omega)) (v2 c b1)
  · rcases t with _ | ⟨b1, t⟩
    · have hq : (0 + 1 : Int) < 3 := by decide
      simp [c23, r23, byteD, GT, firstD, l256, first_len, h256, hx, accD, accL, show iand .u8 19 7 = 3 from by decide, show ishr .u8 19 4 = 1 from by decide, show IntKind.i64.wrap 3 = 3 from by decide]
      refine REr_by _ _ .refl ?_
      exact RuP.of 1 (HPre.append _ _) (d3x (by omega) (by omega) (by first | exact .inr ⟨_, _, _,  rfl, by omega⟩ | exact .inl (by simp))) rfl
    · rcases t with _ | ⟨b2, t⟩
      · have hq : (0 + 1 + 1 : Int) < 3 := by decide
        simp [c23, r23, byteD, GT, firstD, l256, first_len, h256, hx, accD, accL, show iand .u8 19 7 = 3 from by decide, show ishr .u8 19 4 = 1 from by decide, show IntKind.i64.wrap 3 = 3 from by decide]
        refine REr_by _ _ .refl ?_
        exact RuP.of 1 (HPre.append _ _) (d3x (by omega) (by omega) (by first | exact .inr ⟨_, _, _,  rfl, by omega⟩ | exact .inl (by simp))) rfl
      · have hp : ¬ (t.length : Int) + 1 + 1 + 1 < 3 := by omega
        have hp0 : ¬ (t.length : Int) + 1 + 1 + 1 < 1 := by omega
        rcases Nat.lt_or_ge b1.toNat 160 with u1 | u1
        · have v1 : (b1.toNat : Int) < 160 := by omega
          simp [c23, r23, byteD, GT, firstD, l256, first_len, h256, hx, accD, accL, hp, hp0, show iand .u8 19 7 = 3 from by decide, show ishr .u8 19 4 = 1 from by decide, show IntKind.i64.wrap 3 = 3 from by decide, v1]
          refine ⟨by omega, by omega, ?_⟩
          refine REr_by _ _ .refl ?_
          exact RuP.of 1 (HPre.append _ _) (d3x (by omega) (by omega) (by first | exact .inr ⟨_, _, _,  rfl, by omega⟩ | exact .inl (by simp))) rfl
        · have v1 : ¬ (b1.toNat : Int) < 160 := by omega
          rcases Nat.lt_or_ge 191 b1.toNat with x1 | x1
          · have y1 : (191 : Int) < (b1.toNat : Int) := by omega
            simp [c23, r23, byteD, GT, firstD, l256, first_len, h256, hx, accD, accL, hp, hp0, show iand .u8 19 7 = 3 from by decide, show ishr .u8 19 4 = 1 from by decide, show IntKind.i64.wrap 3 = 3 from by decide, v1, y1]
            refine ⟨by omega, by omega, ?_⟩
            refine REr_by _ _ .refl ?_
            exact RuP.of 1 (HPre.append _ _) (d3x (by omega) (by omega) (by first | exact .inr ⟨_, _, _,  rfl, by omega⟩ | exact .inl (by simp))) rfl
          · have y1 : ¬ (191 : Int) < (b1.toNat : Int) := by omega
            rcases Nat.lt_or_ge b2.toNat 128 with u2 | u2
            · have v2 : (b2.toNat : Int) < 128 := by omega
              simp [c23, r23, byteD, GT, firstD, l256, first_len, h256, hx, accD, accL, hp, hp0, show iand .u8 19 7 = 3 from by decide, show ishr .u8 19 4 = 1 from by decide, show IntKind.i64.wrap 3 = 3 from by decide, v1, y1, v2]
              refine ⟨by omega, by omega, by omega, ?_⟩
              refine REr_by _ _ .refl ?_
              exact RuP.of 1 (HPre.append _ _) (d3x (by omega) (by omega) (by first | exact .inr ⟨_, _, _,  rfl, by omega⟩ | exact .inl (by simp))) rfl
            · have v2 : ¬ (b2.toNat : Int) < 128 := by omega
              rcases Nat.lt_or_ge 191 b2.toNat with x2 | x2
              · have y2 : (191 : Int) < (b2.toNat : Int) := by omega
                simp [c23, r23, byteD, GT, firstD, l256, first_len, h256, hx, accD, accL, hp, hp0, show iand .u8 19 7 = 3 from by decide, show ishr .u8 19 4 = 1 from by decide, show IntKind.i64.wrap 3 = 3 from by decide, v1, y1, v2, y2]
                refine ⟨by omega, by omega, by omega, ?_⟩
                refine REr_by _ _ .refl ?_
                exact RuP.of 1 (HPre.append _ _) (d3x (by omega) (by omega) (by first | exact .inr ⟨_, _, _,  rfl, by omega⟩ | exact .inl (by simp))) rfl
              · have y2 : ¬ (191 : Int) < (b2.toNat : Int) := by omega
                simp [c23, r23, byteD, GT, firstD, l256, first_len, h256, hx, accD, accL, hp, hp0, show iand .u8 19 7 = 3 from by decide, show ishr .u8 19 4 = 1 from by decide, show IntKind.i64.wrap 3 = 3 from by decide, v1, y1, v2, y2]
                refine ⟨by omega, by omega, by omega, ?_⟩
                refine REr_by _ _ .refl ?_
                exact RuP.of 3 (HPre.append _ _) (d3 (by omega) (by omega) (by omega) (by omega) (by omega) (by omega) (by omega) (by omega)) (v3 c b1 b2)
  · rcases t with _ | ⟨b1, t⟩
    · have hq : (0 + 1 : Int) < 3 := by decide
      simp [c23, r23, byteD, GT, firstD, l256, first_len, h256, hx, accD, accL, show iand .u8 3 7 = 3 from by decide, show ishr .u8 3 4 = 0 from by decide, show IntKind.i64.wrap 3 = 3 from by decide]
      refine REr_by _ _ .refl ?_
      exact RuP.of 1 (HPre.append _ _) (d3x (by omega) (by omega) (by first | exact .inr ⟨_, _, _,  rfl, by omega⟩ | exact .inl (by simp))) rfl
    · rcases t with _ | ⟨b2, t⟩
      · have hq : (0 + 1 + 1 : Int) < 3 := by decide
        simp [c23, r23, byteD, GT, firstD, l256, first_len, h256, hx, accD, accL, show iand .u8 3 7 = 3 from by decide, show ishr .u8 3 4 = 0 from by decide, show IntKind.i64.wrap 3 = 3 from by decide]
        refine REr_by _ _ .refl ?_
        exact RuP.of 1 (HPre.append _ _) (d3x (by omega) (by omega) (by first | exact .inr ⟨_, _, _,  rfl, by omega⟩ | exact .inl (by simp))) rfl
      · have hp : ¬ (t.length : Int) + 1 + 1 + 1 < 3 := by omega
        have hp0 : ¬ (t.length : Int) + 1 + 1 + 1 < 1 := by omega
        rcases Nat.lt_or_ge b1.toNat 128 with u1 | u1
        · have v1 : (b1.toNat : Int) < 128 := by omega
          simp [c23, r23, byteD, GT, firstD, l256, first_len, h256, hx, accD, accL, hp, hp0, show iand .u8 3 7 = 3 from by decide, show ishr .u8 3 4 = 0 from by decide, show IntKind.i64.wrap 3 = 3 from by decide, v1]
          refine ⟨by omega, by omega, ?_⟩
          refine REr_by _ _ .refl ?_
          exact RuP.of 1 (HPre.append _ _) (d3x (by omega) (by omega) (by first | exact .inr ⟨_, _, _,  rfl, by omega⟩ | exact .inl (by simp))) rfl
        · have v1 : ¬ (b1.toNat : Int) < 128 := by omega
          rcases Nat.lt_or_ge 191 b1.toNat with x1 | x1
          · have y1 : (191 : Int) < (b1.toNat : Int) := by omega
            simp [c23, r23, byteD, GT, firstD, l256, first_len, h256, hx, accD, accL, hp, hp0, show iand .u8 3 7 = 3 from by decide, show ishr .u8 3 4 = 0 from by decide, show IntKind.i64.wrap 3 = 3 from by decide, v1, y1]
            refine ⟨by omega, by omega, ?_⟩
            refine REr_by _ _ .refl ?_
            exact RuP.of 1 (HPre.append _ _) (d3x (by omega) (by omega) (by first | exact .inr ⟨_, _, _,  rfl, by omega⟩ | exact .inl (by simp))) rfl
          · have y1 : ¬ (191 : Int) < (b1.toNat : Int) := by omega
            rcases Nat.lt_or_ge b2.toNat 128 with u2 | u2
            · have v2 : (b2.toNat : Int) < 128 := by omega
              simp [c23, r23, byteD, GT, firstD, l256, first_len, h256, hx, accD, accL, hp, hp0, show iand .u8 3 7 = 3 from by decide, show ishr .u8 3 4 = 0 from by decide, show IntKind.i64.wrap 3 = 3 from by decide, v1, y1, v2]
              refine ⟨by omega, by omega, by omega, ?_⟩
              refine REr_by _ _ .refl ?_
              exact RuP.of 1 (HPre.append _ _) (d3x (by omega) (by omega) (by first | exact .inr ⟨_, _, _,  rfl, by omega⟩ | exact .inl (by simp))) rfl
            · have v2 : ¬ (b2.toNat : Int) < 128 := by omega
              rcases Nat.lt_or_ge 191 b2.toNat with x2 | x2
              · have y2 : (191 : Int) < (b2.toNat : Int) := by omega
                simp [c23, r23, byteD, GT, firstD, l256, first_len, h256, hx, accD, accL, hp, hp0, show iand .u8 3 7 = 3 from by decide, show ishr .u8 3 4 = 0 from by decide, show IntKind.i64.wrap 3 = 3 from by decide, v1, y1, v2, y2]
                refine ⟨by omega, by omega, by omega, ?_⟩
                refine REr_by _ _ .refl ?_
                exact RuP.of 1 (HPre.append _ _) (d3x (by omega) (by omega) (by first | exact .inr ⟨_, _, _,  rfl, by omega⟩ | exact .inl (by simp))) rfl
              · have y2 : ¬ (191 : Int) < (b2.toNat : Int) := by omega
                simp [c23, r23, byteD, GT, firstD, l256, first_len, h256, hx, accD, accL, hp, hp0, show iand .u8 3 7 = 3 from by decide, show ishr .u8 3 4 = 0 from by decide, show IntKind.i64.wrap 3 = 3 from by decide, v1, y1, v2, y2]
                refine ⟨by omega, by omega, by omega, ?_⟩
                refine REr_by _ _ .refl ?_
                exact RuP.of 3 (HPre.append _ _) (d3 (by omega) (by omega) (by omega) (by omega) (by omega) (by omega) (by omega) (by omega)) (v3 c b1 b2)
  · rcases t with _ | ⟨b1, t⟩
    · have hq : (0 + 1 : Int) < 3 := by decide
      simp [c23, r23, byteD, GT, firstD, l256, first_len, h256, hx, accD, accL, show iand .u8 35 7 = 3 from by decide, show ishr .u8 35 4 = 2 from by decide, show IntKind.i64.wrap 3 = 3 from by decide]
      refine REr_by _ _ .refl ?_
      exact RuP.of 1 (HPre.append _ _) (d3x (by omega) (by omega) (by first | exact .inr ⟨_, _, _,  rfl, by omega⟩ | exact .inl (by simp))) rfl
    · rcases t with _ | ⟨b2, t⟩
      · have hq : (0 + 1 + 1 : Int) < 3 := by decide
        simp [c23, r23, byteD, GT, firstD, l256, first_len, h256, hx, accD, accL, show iand .u8 35 7 = 3 from by decide, show ishr .u8 35 4 = 2 from by decide, show IntKind.i64.wrap 3 = 3 from by decide]
        refine REr_by _ _ .refl ?_
        exact RuP.of 1 (HPre.append _ _) (d3x (by omega) (by omega) (by first | exact .inr ⟨_, _, _,  rfl, by omega⟩ | exact .inl (by simp))) rfl
      · have hp : ¬ (t.length : Int) + 1 + 1 + 1 < 3 := by omega
        have hp0 : ¬ (t.length : Int) + 1 + 1 + 1 < 1 := by omega
        rcases Nat.lt_or_ge b1.toNat 128 with u1 | u1
        · have v1 : (b1.toNat : Int) < 128 := by omega
          simp [c23, r23, byteD, GT, firstD, l256, first_len, h256, hx, accD, accL, hp, hp0, show iand .u8 35 7 = 3 from by decide, show ishr .u8 35 4 = 2 from by decide, show IntKind.i64.wrap 3 = 3 from by decide, v1]
          refine ⟨by omega, by omega, ?_⟩
          refine REr_by _ _ .refl ?_
          exact RuP.of 1 (HPre.append _ _) (d3x (by omega) (by omega) (by first | exact .inr ⟨_, _, _,  rfl, by omega⟩ | exact .inl (by simp))) rfl
        · have v1 : ¬ (b1.toNat : Int) < 128 := by omega
          rcases Nat.lt_or_ge 159 b1.toNat with x1 | x1
          · have y1 : (159 : Int) < (b1.toNat : Int) := by omega
            simp [c23, r23, byteD, GT, firstD, l256, first_len, h256, hx, accD, accL, hp, hp0, show iand .u8 35 7 = 3 from by decide, show ishr .u8 35 4 = 2 from by decide, show IntKind.i64.wrap 3 = 3 from by decide, v1, y1]
            refine ⟨by omega, by omega, ?_⟩
            refine REr_by _ _ .refl ?_
            exact RuP.of 1 (HPre.append _ _) (d3x (by omega) (by omega) (by first | exact .inr ⟨_, _, _,  rfl, by omega⟩ | exact .inl (by simp))) rfl
          · have y1 : ¬ (159 : Int) < (b1.toNat : Int) := by omega
            rcases Nat.lt_or_ge b2.toNat 128 with u2 | u2
            · have v2 : (b2.toNat : Int) < 128 := by omega
              simp [c23, r23, byteD, GT, firstD, l256, first_len, h256, hx, accD, accL, hp, hp0, show iand .u8 35 7 = 3 from by decide, show ishr .u8 35 4 = 2 from by decide, show IntKind.i64.wrap 3 = 3 from by decide, v1, y1, v2]
              refine ⟨by omega, by omega, by omega, ?_⟩
              refine REr_by _ _ .refl ?_
              exact RuP.of 1 (HPre.append _ _) (d3x (by omega) (by omega) (by first | exact .inr ⟨_, _, _,  rfl, by omega⟩ | exact .inl (by simp))) rfl
            · have v2 : ¬ (b2.toNat : Int) < 128 := by omega
              rcases Nat.lt_or_ge 191 b2.toNat with x2 | x2
              · have y2 : (191 : Int) < (b2.toNat : Int) := by omega
                simp [c23, r23, byteD, GT, firstD, l256, first_len, h256, hx, accD, accL, hp, hp0, show iand .u8 35 7 = 3 from by decide, show ishr .u8 35 4 = 2 from by decide, show IntKind.i64.wrap 3 = 3 from by decide, v1, y1, v2, y2]
                refine ⟨by omega, by omega, by omega, ?_⟩
                refine REr_by _ _ .refl ?_
                exact RuP.of 1 (HPre.append _ _) (d3x (by omega) (by omega) (by first | exact .inr ⟨_, _, _,  rfl, by omega⟩ | exact .inl (by simp))) rfl
              · have y2 : ¬ (191 : Int) < (b2.toNat : Int) := by omega
                simp [c23, r23, byteD, GT, firstD, l256, first_len, h256, hx, accD, accL, hp, hp0, show iand .u8 35 7 = 3 from by decide, show ishr .u8 35 4 = 2 from by decide, show IntKind.i64.wrap 3 = 3 from by decide, v1, y1, v2, y2]
                refine ⟨by omega, by omega, by omega, ?_⟩
                refine REr_by _ _ .refl ?_
                exact RuP.of 3 (HPre.append _ _) (d3 (by omega) (by omega) (by omega) (by omega) (by omega) (by omega) (by omega) (by omega)) (v3 c b1 b2)
  · rcases t with _ | ⟨b1, t⟩
    · have hq : (0 + 1 : Int) < 4 := by decide
      simp [c23, r23, byteD, GT, firstD, l256, first_len, h256, hx, accD, accL, show iand .u8 52 7 = 4 from by decide, show ishr .u8 52 4 = 3 from by decide, show IntKind.i64.wrap 4 = 4 from by decide]
      refine REr_by _ _ .refl ?_
      exact RuP.of 1 (HPre.append _ _) (d4x (by omega) (by omega) (by first | exact .inr ⟨_, _, _, _,  rfl, by omega⟩ | exact .inl (by simp))) rfl
    · rcases t with _ | ⟨b2, t⟩
      · have hq : (0 + 1 + 1 : Int) < 4 := by decide
        simp [c23, r23, byteD, GT, firstD, l256, first_len, h256, hx, accD, accL, show iand .u8 52 7 = 4 from by decide, show ishr .u8 52 4 = 3 from by decide, show IntKind.i64.wrap 4 = 4 from by decide]
        refine REr_by _ _ .refl ?_
        exact RuP.of 1 (HPre.append _ _) (d4x (by omega) (by omega) (by first | exact .inr ⟨_, _, _, _,  rfl, by omega⟩ | exact .inl (by simp))) rfl
      · rcases t with _ | ⟨b3, t⟩
        · have hq : (0 + 1 + 1 + 1 : Int) < 4 := by decide
          simp [c23, r23, byteD, GT, firstD, l256, first_len, h256, hx, accD, accL, show iand .u8 52 7 = 4 from by decide, show ishr .u8 52 4 = 3 from by decide, show IntKind.i64.wrap 4 = 4 from by decide]
          refine REr_by _ _ .refl ?_
          exact RuP.of 1 (HPre.append _ _) (d4x (by omega) (by omega) (by first | exact .inr ⟨_, _, _, _,  rfl, by omega⟩ | exact .inl (by simp))) rfl
        · have hp : ¬ (t.length : Int) + 1 + 1 + 1 + 1 < 4 := by omega
          have hp0 : ¬ (t.length : Int) + 1 + 1 + 1 + 1 < 1 := by omega
          rcases Nat.lt_or_ge b1.toNat 144 with u1 | u1
          · have v1 : (b1.toNat : Int) < 144 := by omega
            simp [c23, r23, byteD, GT, firstD, l256, first_len, h256, hx, accD, accL, hp, hp0, show iand .u8 52 7 = 4 from by decide, show ishr .u8 52 4 = 3 from by decide, show IntKind.i64.wrap 4 = 4 from by decide, v1]
            refine ⟨by omega, by omega, ?_⟩
            refine REr_by _ _ .refl ?_
            exact RuP.of 1 (HPre.append _ _) (d4x (by omega) (by omega) (by first | exact .inr ⟨_, _, _, _,  rfl, by omega⟩ | exact .inl (by simp))) rfl
          · have v1 : ¬ (b1.toNat : Int) < 144 := by omega
            rcases Nat.lt_or_ge 191 b1.toNat with x1 | x1
            · have y1 : (191 : Int) < (b1.toNat : Int) := by omega
              simp [c23, r23, byteD, GT, firstD, l256, first_len, h256, hx, accD, accL, hp, hp0, show iand .u8 52 7 = 4 from by decide, show ishr .u8 52 4 = 3 from by decide, show IntKind.i64.wrap 4 = 4 from by decide, v1, y1]
              refine ⟨by omega, by omega, ?_⟩
              refine REr_by _ _ .refl ?_
              exact RuP.of 1 (HPre.append _ _) (d4x (by omega) (by omega) (by first | exact .inr ⟨_, _, _, _,  rfl, by omega⟩ | exact .inl (by simp))) rfl
            · have y1 : ¬ (191 : Int) < (b1.toNat : Int) := by omega
              rcases Nat.lt_or_ge b2.toNat 128 with u2 | u2
              · have v2 : (b2.toNat : Int) < 128 := by omega
                simp [c23, r23, byteD, GT, firstD, l256, first_len, h256, hx, accD, accL, hp, hp0, show iand .u8 52 7 = 4 from by decide, show ishr .u8 52 4 = 3 from by decide, show IntKind.i64.wrap 4 = 4 from by decide, v1, y1, v2]
                refine ⟨by omega, by omega, by omega, ?_⟩
                refine REr_by _ _ .refl ?_
                exact RuP.of 1 (HPre.append _ _) (d4x (by omega) (by omega) (by first | exact .inr ⟨_, _, _, _,  rfl, by omega⟩ | exact .inl (by simp))) rfl
              · have v2 : ¬ (b2.toNat : Int) < 128 := by omega
                rcases Nat.lt_or_ge 191 b2.toNat with x2 | x2
                · have y2 : (191 : Int) < (b2.toNat : Int) := by omega
                  simp [c23, r23, byteD, GT, firstD, l256, first_len, h256, hx, accD, accL, hp, hp0, show iand .u8 52 7 = 4 from by decide, show ishr .u8 52 4 = 3 from by decide, show IntKind.i64.wrap 4 = 4 from by decide, v1, y1, v2, y2]
                  refine ⟨by omega, by omega, by omega, ?_⟩
                  refine REr_by _ _ .refl ?_
                  exact RuP.of 1 (HPre.append _ _) (d4x (by omega) (by omega) (by first | exact .inr ⟨_, _, _, _,  rfl, by omega⟩ | exact .inl (by simp))) rfl
                · have y2 : ¬ (191 : Int) < (b2.toNat : Int) := by omega
                  rcases Nat.lt_or_ge b3.toNat 128 with u3 | u3
                  · have v3 : (b3.toNat : Int) < 128 := by omega
                    simp [c23, r23, byteD, GT, firstD, l256, first_len, h256, hx, accD, accL, hp, hp0, show iand .u8 52 7 = 4 from by decide, show ishr .u8 52 4 = 3 from by decide, show IntKind.i64.wrap 4 = 4 from by decide, v1, y1, v2, y2, v3]
                    refine ⟨by omega, by omega, by omega, by omega, ?_⟩
                    refine REr_by _ _ .refl ?_
                    exact RuP.of 1 (HPre.append _ _) (d4x (by omega) (by omega) (by first | exact .inr ⟨_, _, _, _,  rfl, by omega⟩ | exact .inl (by simp))) rfl
                  · have v3 : ¬ (b3.toNat : Int) < 128 := by omega
                    rcases Nat.lt_or_ge 191 b3.toNat with x3 | x3
                    · have y3 : (191 : Int) < (b3.toNat : Int) := by omega
                      simp [c23, r23, byteD, GT, firstD, l256, first_len, h256, hx, accD, accL, hp, hp0, show iand .u8 52 7 = 4 from by decide, show ishr .u8 52 4 = 3 from by decide, show IntKind.i64.wrap 4 = 4 from by decide, v1, y1, v2, y2, v3, y3]
                      refine ⟨by omega, by omega, by omega, by omega, ?_⟩
                      refine REr_by _ _ .refl ?_
                      exact RuP.of 1 (HPre.append _ _) (d4x (by omega) (by omega) (by first | exact .inr ⟨_, _, _, _,  rfl, by omega⟩ | exact .inl (by simp))) rfl
                    · have y3 : ¬ (191 : Int) < (b3.toNat : Int) := by omega
                      simp [c23, r23, byteD, GT, firstD, l256, first_len, h256, hx, accD, accL, hp, hp0, show iand .u8 52 7 = 4 from by decide, show ishr .u8 52 4 = 3 from by decide, show IntKind.i64.wrap 4 = 4 from by decide, v1, y1, v2, y2, v3, y3]
                      refine ⟨by omega, by omega, by omega, by omega, ?_⟩
                      refine REr_by _ _ .refl ?_
                      exact RuP.of 4 (HPre.append _ _) (d4 (by omega) (by omega) (by omega) (by omega) (by omega) (by omega) (by omega) (by omega) (by omega) (by omega)) (v4 c b1 b2 b3)
  · rcases t with _ | ⟨b1, t⟩
    · have hq : (0 + 1 : Int) < 4 := by decide
      simp [c23, r23, byteD, GT, firstD, l256, first_len, h256, hx, accD, accL, show iand .u8 4 7 = 4 from by decide, show ishr .u8 4 4 = 0 from by decide, show IntKind.i64.wrap 4 = 4 from by decide]
      refine REr_by _ _ .refl ?_
      exact RuP.of 1 (HPre.append _ _) (d4x (by omega) (by omega) (by first | exact .inr ⟨_, _, _, _,  rfl, by omega⟩ | exact .inl (by simp))) rfl
    · rcases t with _ | ⟨b2, t⟩
      · have hq : (0 + 1 + 1 : Int) < 4 := by decide
        simp [c23, r23, byteD, GT, firstD, l256, first_len, h256, hx, accD, accL, show iand .u8 4 7 = 4 from by decide, show ishr .u8 4 4 = 0 from by decide, show IntKind.i64.wrap 4 = 4 from by decide]
        refine REr_by _ _ .refl ?_
        exact RuP.of 1 (HPre.append _ _) (d4x (by omega) (by omega) (by first | exact .inr ⟨_, _, _, _,  rfl, by omega⟩ | exact .inl (by simp))) rfl
      · rcases t with _ | ⟨b3, t⟩
        · have hq : (0 + 1 + 1 + 1 : Int) < 4 := by decide
          simp [c23, r23, byteD, GT, firstD, l256, first_len, h256, hx, accD, accL, show iand .u8 4 7 = 4 from by decide, show ishr .u8 4 4 = 0 from by decide, show IntKind.i64.wrap 4 = 4 from by decide]
          refine REr_by _ _ .refl ?_
          exact RuP.of 1 (HPre.append _ _) (d4x (by omega) (by omega) (by first | exact .inr ⟨_, _, _, _,  rfl, by omega⟩ | exact .inl (by simp))) rfl
        · have hp : ¬ (t.length : Int) + 1 + 1 + 1 + 1 < 4 := by omega
          have hp0 : ¬ (t.length : Int) + 1 + 1 + 1 + 1 < 1 := by omega
          rcases Nat.lt_or_ge b1.toNat 128 with u1 | u1
          · have v1 : (b1.toNat : Int) < 128 := by omega
            simp [c23, r23, byteD, GT, firstD, l256, first_len, h256, hx, accD, accL, hp, hp0, show iand .u8 4 7 = 4 from by decide, show ishr .u8 4 4 = 0 from by decide, show IntKind.i64.wrap 4 = 4 from by decide, v1]
            refine ⟨by omega, by omega, ?_⟩
            refine REr_by _ _ .refl ?_
            exact RuP.of 1 (HPre.append _ _) (d4x (by omega) (by omega) (by first | exact .inr ⟨_, _, _, _,  rfl, by omega⟩ | exact .inl (by simp))) rfl
          · have v1 : ¬ (b1.toNat : Int) < 128 := by omega
            rcases Nat.lt_or_ge 191 b1.toNat with x1 | x1
            · have y1 : (191 : Int) < (b1.toNat : Int) := by omega
              simp [c23, r23, byteD, GT, firstD, l256, first_len, h256, hx, accD, accL, hp, hp0, show iand .u8 4 7 = 4 from by decide, show ishr .u8 4 4 = 0 from by decide, show IntKind.i64.wrap 4 = 4 from by decide, v1, y1]
              refine ⟨by omega, by omega, ?_⟩
              refine REr_by _ _ .refl ?_
              exact RuP.of 1 (HPre.append _ _) (d4x (by omega) (by omega) (by first | exact .inr ⟨_, _, _, _,  rfl, by omega⟩ | exact .inl (by simp))) rfl
            · have y1 : ¬ (191 : Int) < (b1.toNat : Int) := by omega
              rcases Nat.lt_or_ge b2.toNat 128 with u2 | u2
              · have v2 : (b2.toNat : Int) < 128 := by omega
                simp [c23, r23, byteD, GT, firstD, l256, first_len, h256, hx, accD, accL, hp, hp0, show iand .u8 4 7 = 4 from by decide, show ishr .u8 4 4 = 0 from by decide, show IntKind.i64.wrap 4 = 4 from by decide, v1, y1, v2]
                refine ⟨by omega, by omega, by omega, ?_⟩
                refine REr_by _ _ .refl ?_
                exact RuP.of 1 (HPre.append _ _) (d4x (by omega) (by omega) (by first | exact .inr ⟨_, _, _, _,  rfl, by omega⟩ | exact .inl (by simp))) rfl
              · have v2 : ¬ (b2.toNat : Int) < 128 := by omega
                rcases Nat.lt_or_ge 191 b2.toNat with x2 | x2
                · have y2 : (191 : Int) < (b2.toNat : Int) := by omega
                  simp [c23, r23, byteD, GT, firstD, l256, first_len, h256, hx, accD, accL, hp, hp0, show iand .u8 4 7 = 4 from by decide, show ishr .u8 4 4 = 0 from by decide, show IntKind.i64.wrap 4 = 4 from by decide, v1, y1, v2, y2]
                  refine ⟨by omega, by omega, by omega, ?_⟩
                  refine REr_by _ _ .refl ?_
                  exact RuP.of 1 (HPre.append _ _) (d4x (by omega) (by omega) (by first | exact .inr ⟨_, _, _, _,  rfl, by omega⟩ | exact .inl (by simp))) rfl
                · have y2 : ¬ (191 : Int) < (b2.toNat : Int) := by omega
                  rcases Nat.lt_or_ge b3.toNat 128 with u3 | u3
                  · have v3 : (b3.toNat : Int) < 128 := by omega
                    simp [c23, r23, byteD, GT, firstD, l256, first_len, h256, hx, accD, accL, hp, hp0, show iand .u8 4 7 = 4 from by decide, show ishr .u8 4 4 = 0 from by decide, show IntKind.i64.wrap 4 = 4 from by decide, v1, y1, v2, y2, v3]
                    refine ⟨by omega, by omega, by omega, by omega, ?_⟩
                    refine REr_by _ _ .refl ?_
                    exact RuP.of 1 (HPre.append _ _) (d4x (by omega) (by omega) (by first | exact .inr ⟨_, _, _, _,  rfl, by omega⟩ | exact .inl (by simp))) rfl
                  · have v3 : ¬ (b3.toNat : Int) < 128 := by omega
                    rcases Nat.lt_or_ge 191 b3.toNat with x3 | x3
                    · have y3 : (191 : Int) < (b3.toNat : Int) := by omega
                      simp [c23, r23, byteD, GT, firstD, l256, first_len, h256, hx, accD, accL, hp, hp0, show iand .u8 4 7 = 4 from by decide, show ishr .u8 4 4 = 0 from by decide, show IntKind.i64.wrap 4 = 4 from by decide, v1, y1, v2, y2, v3, y3]
                      refine ⟨by omega, by omega, by omega, by omega, ?_⟩
                      refine REr_by _ _ .refl ?_
                      exact RuP.of 1 (HPre.append _ _) (d4x (by omega) (by omega) (by first | exact .inr ⟨_, _, _, _,  rfl, by omega⟩ | exact .inl (by simp))) rfl
                    · have y3 : ¬ (191 : Int) < (b3.toNat : Int) := by omega
                      simp [c23, r23, byteD, GT, firstD, l256, first_len, h256, hx, accD, accL, hp, hp0, show iand .u8 4 7 = 4 from by decide, show ishr .u8 4 4 = 0 from by decide, show IntKind.i64.wrap 4 = 4 from by decide, v1, y1, v2, y2, v3, y3]
                      refine ⟨by omega, by omega, by omega, by omega, ?_⟩
                      refine REr_by _ _ .refl ?_
                      exact RuP.of 4 (HPre.append _ _) (d4 (by omega) (by omega) (by omega) (by omega) (by omega) (by omega) (by omega) (by omega) (by omega) (by omega)) (v4 c b1 b2 b3)
  · rcases t with _ | ⟨b1, t⟩
    · have hq : (0 + 1 : Int) < 4 := by decide
      simp [c23, r23, byteD, GT, firstD, l256, first_len, h256, hx, accD, accL, show iand .u8 68 7 = 4 from by decide, show ishr .u8 68 4 = 4 from by decide, show IntKind.i64.wrap 4 = 4 from by decide]
      refine REr_by _ _ .refl ?_
      exact RuP.of 1 (HPre.append _ _) (d4x (by omega) (by omega) (by first | exact .inr ⟨_, _, _, _,  rfl, by omega⟩ | exact .inl (by simp))) rfl
    · rcases t with _ | ⟨b2, t⟩
      · have hq : (0 + 1 + 1 : Int) < 4 := by decide
        simp [c23, r23, byteD, GT, firstD, l256, first_len, h256, hx, accD, accL, show iand .u8 68 7 = 4 from by decide, show ishr .u8 68 4 = 4 from by decide, show IntKind.i64.wrap 4 = 4 from by decide]
        refine REr_by _ _ .refl ?_
        exact RuP.of 1 (HPre.append _ _) (d4x (by omega) (by omega) (by first | exact .inr ⟨_, _, _, _,  rfl, by omega⟩ | exact .inl (by simp))) rfl
      · rcases t with _ | ⟨b3, t⟩
        · have hq : (0 + 1 + 1 + 1 : Int) < 4 := by decide
          simp [c23, r23, byteD, GT, firstD, l256, first_len, h256, hx, accD, accL, show iand .u8 68 7 = 4 from by decide, show ishr .u8 68 4 = 4 from by decide, show IntKind.i64.wrap 4 = 4 from by decide]
          refine REr_by _ _ .refl ?_
          exact RuP.of 1 (HPre.append _ _) (d4x (by omega) (by omega) (by first | exact .inr ⟨_, _, _, _,  rfl, by omega⟩ | exact .inl (by simp))) rfl
        · have hp : ¬ (t.length : Int) + 1 + 1 + 1 + 1 < 4 := by omega
          have hp0 : ¬ (t.length : Int) + 1 + 1 + 1 + 1 < 1 := by omega
          rcases Nat.lt_or_ge b1.toNat 128 with u1 | u1
          · have v1 : (b1.toNat : Int) < 128 := by omega
            simp [c23, r23, byteD, GT, firstD, l256, first_len, h256, hx, accD, accL, hp, hp0, show iand .u8 68 7 = 4 from by decide, show ishr .u8 68 4 = 4 from by decide, show IntKind.i64.wrap 4 = 4 from by decide, v1]
            refine ⟨by omega, by omega, ?_⟩
            refine REr_by _ _ .refl ?_
            exact RuP.of 1 (HPre.append _ _) (d4x (by omega) (by omega) (by first | exact .inr ⟨_, _, _, _,  rfl, by omega⟩ | exact .inl (by simp))) rfl
          · have v1 : ¬ (b1.toNat : Int) < 128 := by omega
            rcases Nat.lt_or_ge 143 b1.toNat with x1 | x1
            · have y1 : (143 : Int) < (b1.toNat : Int) := by omega
              simp [c23, r23, byteD, GT, firstD, l256, first_len, h256, hx, accD, accL, hp, hp0, show iand .u8 68 7 = 4 from by decide, show ishr .u8 68 4 = 4 from by decide, show IntKind.i64.wrap 4 = 4 from by decide, v1, y1]
              refine ⟨by omega, by omega, ?_⟩
              refine REr_by _ _ .refl ?_
              exact RuP.of 1 (HPre.append _ _) (d4x (by omega) (by omega) (by first | exact .inr ⟨_, _, _, _,  rfl, by omega⟩ | exact .inl (by simp))) rfl
            · have y1 : ¬ (143 : Int) < (b1.toNat : Int) := by omega
              rcases Nat.lt_or_ge b2.toNat 128 with u2 | u2
              · have v2 : (b2.toNat : Int) < 128 := by omega
                simp [c23, r23, byteD, GT, firstD, l256, first_len, h256, hx, accD, accL, hp, hp0, show iand .u8 68 7 = 4 from by decide, show ishr .u8 68 4 = 4 from by decide, show IntKind.i64.wrap 4 = 4 from by decide, v1, y1, v2]
                refine ⟨by omega, by omega, by omega, ?_⟩
                refine REr_by _ _ .refl ?_
                exact RuP.of 1 (HPre.append _ _) (d4x (by omega) (by omega) (by first | exact .inr ⟨_, _, _, _,  rfl, by omega⟩ | exact .inl (by simp))) rfl
              · have v2 : ¬ (b2.toNat : Int) < 128 := by omega
                rcases Nat.lt_or_ge 191 b2.toNat with x2 | x2
                · have y2 : (191 : Int) < (b2.toNat : Int) := by omega
                  simp [c23, r23, byteD, GT, firstD, l256, first_len, h256, hx, accD, accL, hp, hp0, show iand .u8 68 7 = 4 from by decide, show ishr .u8 68 4 = 4 from by decide, show IntKind.i64.wrap 4 = 4 from by decide, v1, y1, v2, y2]
                  refine ⟨by omega, by omega, by omega, ?_⟩
                  refine REr_by _ _ .refl ?_
                  exact RuP.of 1 (HPre.append _ _) (d4x (by omega) (by omega) (by first | exact .inr ⟨_, _, _, _,  rfl, by omega⟩ | exact .inl (by simp))) rfl
                · have y2 : ¬ (191 : Int) < (b2.toNat : Int) := by omega
                  rcases Nat.lt_or_ge b3.toNat 128 with u3 | u3
                  · have v3 : (b3.toNat : Int) < 128 := by omega
                    simp [c23, r23, byteD, GT, firstD, l256, first_len, h256, hx, accD, accL, hp, hp0, show iand .u8 68 7 = 4 from by decide, show ishr .u8 68 4 = 4 from by decide, show IntKind.i64.wrap 4 = 4 from by decide, v1, y1, v2, y2, v3]
                    refine ⟨by omega, by omega, by omega, by omega, ?_⟩
                    refine REr_by _ _ .refl ?_
                    exact RuP.of 1 (HPre.append _ _) (d4x (by omega) (by omega) (by first | exact .inr ⟨_, _, _, _,  rfl, by omega⟩ | exact .inl (by simp))) rfl
                  · have v3 : ¬ (b3.toNat : Int) < 128 := by omega
                    rcases Nat.lt_or_ge 191 b3.toNat with x3 | x3
                    · have y3 : (191 : Int) < (b3.toNat : Int) := by omega
                      simp [c23, r23, byteD, GT, firstD, l256, first_len, h256, hx, accD, accL, hp, hp0, show iand .u8 68 7 = 4 from by decide, show ishr .u8 68 4 = 4 from by decide, show IntKind.i64.wrap 4 = 4 from by decide, v1, y1, v2, y2, v3, y3]
                      refine ⟨by omega, by omega, by omega, by omega, ?_⟩
                      refine REr_by _ _ .refl ?_
                      exact RuP.of 1 (HPre.append _ _) (d4x (by omega) (by omega) (by first | exact .inr ⟨_, _, _, _,  rfl, by omega⟩ | exact .inl (by simp))) rfl
                    · have y3 : ¬ (191 : Int) < (b3.toNat : Int) := by omega
                      simp [c23, r23, byteD, GT, firstD, l256, first_len, h256, hx, accD, accL, hp, hp0, show iand .u8 68 7 = 4 from by decide, show ishr .u8 68 4 = 4 from by decide, show IntKind.i64.wrap 4 = 4 from by decide, v1, y1, v2, y2, v3, y3]
                      refine ⟨by omega, by omega, by omega, by omega, ?_⟩
                      refine REr_by _ _ .refl ?_
                      exact RuP.of 4 (HPre.append _ _) (d4 (by omega) (by omega) (by omega) (by omega) (by omega) (by omega) (by omega) (by omega) (by omega) (by omega)) (v4 c b1 b2 b3)
end Go.Proofs.YtbbafeocmchlnaaDoor
