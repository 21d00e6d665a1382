/- MessagePack: a text is read. -/
import Derived.Test.YtppjcnaffphakaaGreatDoorMpA
import Derived.Test.YtppjcnaffphakaaGreatDoorCodB
set_option linter.unusedVariables false
set_option linter.unusedSimpArgs false
set_option maxRecDepth 100000
set_option maxHeartbeats 4000000
namespace Go.Proofs.YtppjcnaffphakaaGreatDoor
open Go Go.Den Go.Proofs

theorem and224 (c : UInt8) : (iand .u8 (c.toNat : Int) 224 == 160) = decide (c.toNat / 32 = 5) := by
  have key : ∀ n : Fin 256, (iand .u8 (n.val : Int) 224 == 160) = decide (n.val / 32 = 5) := by decide
  exact key ⟨c.toNat, c.toNat_lt⟩
theorem and31 (c : UInt8) : iand .u8 (c.toNat : Int) 31 = ((c.toNat % 32 : Nat) : Int) := by
  have key : ∀ n : Fin 256, iand .u8 (n.val : Int) 31 = ((n.val % 32 : Nat) : Int) := by decide
  exact key ⟨c.toNat, c.toNat_lt⟩
theorem ok48 {G : Nat → DV} (h : List Blk) (b : List UInt8) (hb : b.length ≤ 140737488351232) : OkR Tryz.prog G 48 [.fz 1 (bts b)] h fun v h' => h' = h ∧ Out3 (fun l : List UInt8 => .string (txt l)) (.string ⟨#[]⟩) (readStr b) v := by
  refine OkR_by Tryz.func48 c48_ok r48_ok 63 rfl ?_
  cases b with
  | nil =>
    simp [c48, r48]
    exact REr_by _ _ WkV.refl ⟨rfl, Out3.none (r := [])⟩
  | cons c r =>
    have hc := c.toNat_lt
    have hr : r.length ≤ 140737488351232 := by simp at hb; omega
    have hne : ((r.length : Int) + 1 == 0) = false := by simp; omega
    have e3 : (bts (c :: r))[0]?.getD .any = .p (.int .u8 c.toNat) := rfl
    have hlr : (1 : Int) ≤ (r.length : Int) + 1 := by omega
    by_cases h1 : c.toNat / 32 = 5
    · have f1 : (iand .u8 (c.toNat : Int) 224 == 160) = true := by rw [and224]; simpa using h1
      obtain ⟨n, hn⟩ : ∃ n, n = c.toNat % 32 := ⟨_, rfl⟩
      have f2 : iand .u8 (c.toNat : Int) 31 = (n : Int) := by rw [and31, hn]
      have w1 : IntKind.u64.wrap (n : Int) = (n : Int) := by simp [IntKind.wrap, IntKind.bits, IntKind.signed]; omega
      have w2 : IntKind.u64.wrap (r.length : Int) = (r.length : Int) := by simp [IntKind.wrap, IntKind.bits, IntKind.signed]; omega
      have r0 : readStr (c :: r) = takeD n r := by rw [readStr, if_pos h1, hn]
      rw [r0]
      by_cases h4 : r.length < n
      · have h5 : (r.length : Int) < (n : Int) := by omega
        simp [c48, r48, hne, e3, f1, f2, w1, w2, hlr, h5, h4]
        refine REr_by _ _ WkV.refl ⟨rfl, ?_⟩
        rw [takeD, if_pos h4]
        exact Out3.none (f := fun l : List UInt8 => Value.string (txt l)) (r := c :: r)
      · have h5 : ¬ (r.length : Int) < (n : Int) := by omega
        have h6 : n ≤ r.length := by omega
        simp [c48, r48, hne, e3, f1, f2, w1, w2, hlr, h5, h4, h6]
        refine REr_by _ _ WkV.refl ⟨rfl, ?_⟩
        rw [takeD, if_neg h4]
        exact Out3.some (f := fun l : List UInt8 => Value.string (txt l))
    by_cases u217 : c.toNat = 217
    · have r0 : readStr (c :: r) = bindD (numD 1) takeD r := by rw [readStr, if_neg h1, if_pos (by omega), u217]
      rw [r0]
      have f1 : (iand .u8 217 224 == 160) = false := by decide
      simp [c48, r48, hne, e3, u217, f1, show IntKind.u8.wrap 0 = 0 by decide, show ishl .i64 1 0 = 1 by decide]
      refine FF_byR (ok68 h c r 1 (by omega) hr) ?_
      rintro v h1 ⟨rfl, hv⟩
      cases h3 : numD 1 r with
      | none =>
        rw [h3] at hv
        obtain ⟨r2, t, x, rfl⟩ := hv
        simp
        refine REr_by _ _ WkV.refl ⟨rfl, ?_⟩
        rw [bindD, h3]
        exact Out3.none (r := c :: r)
      | some o =>
        obtain ⟨n, r2⟩ := o
        rw [h3] at hv
        obtain rfl : v = _ := hv
        have hr2 := (numD_lt h3).2
        have w2 : IntKind.u64.wrap (r2.length : Int) = (r2.length : Int) := by simp [IntKind.wrap, IntKind.bits, IntKind.signed]; omega
        by_cases h4 : r2.length < n
        · have h5 : (r2.length : Int) < (n : Int) := by omega
          simp [w2, h5, h4]
          refine REr_by _ _ WkV.refl ⟨rfl, ?_⟩
          simp only [bindD, h3, takeD, if_pos h4]
          exact Out3.none (f := fun l : List UInt8 => Value.string (txt l)) (r := c :: r)
        · have h5 : ¬ (r2.length : Int) < (n : Int) := by omega
          have h6 : n ≤ r2.length := by omega
          simp [w2, h5, h4, h6]
          refine REr_by _ _ WkV.refl ⟨rfl, ?_⟩
          simp only [bindD, h3, takeD, if_neg h4]
          exact Out3.some (f := fun l : List UInt8 => Value.string (txt l))
    by_cases u218 : c.toNat = 218
    · have r0 : readStr (c :: r) = bindD (numD 2) takeD r := by rw [readStr, if_neg h1, if_pos (by omega), u218]
      rw [r0]
      have f1 : (iand .u8 218 224 == 160) = false := by decide
      simp [c48, r48, hne, e3, u218, f1, show IntKind.u8.wrap 1 = 1 by decide, show ishl .i64 1 1 = 2 by decide]
      refine FF_byR (ok68 h c r 2 (by omega) hr) ?_
      rintro v h1 ⟨rfl, hv⟩
      cases h3 : numD 2 r with
      | none =>
        rw [h3] at hv
        obtain ⟨r2, t, x, rfl⟩ := hv
        simp
        refine REr_by _ _ WkV.refl ⟨rfl, ?_⟩
        rw [bindD, h3]
        exact Out3.none (r := c :: r)
      | some o =>
        obtain ⟨n, r2⟩ := o
        rw [h3] at hv
        obtain rfl : v = _ := hv
        have hr2 := (numD_lt h3).2
        have w2 : IntKind.u64.wrap (r2.length : Int) = (r2.length : Int) := by simp [IntKind.wrap, IntKind.bits, IntKind.signed]; omega
        by_cases h4 : r2.length < n
        · have h5 : (r2.length : Int) < (n : Int) := by omega
          simp [w2, h5, h4]
          refine REr_by _ _ WkV.refl ⟨rfl, ?_⟩
          simp only [bindD, h3, takeD, if_pos h4]
          exact Out3.none (f := fun l : List UInt8 => Value.string (txt l)) (r := c :: r)
        · have h5 : ¬ (r2.length : Int) < (n : Int) := by omega
          have h6 : n ≤ r2.length := by omega
          simp [w2, h5, h4, h6]
          refine REr_by _ _ WkV.refl ⟨rfl, ?_⟩
          simp only [bindD, h3, takeD, if_neg h4]
          exact Out3.some (f := fun l : List UInt8 => Value.string (txt l))
    by_cases u219 : c.toNat = 219
    · have r0 : readStr (c :: r) = bindD (numD 4) takeD r := by rw [readStr, if_neg h1, if_pos (by omega), u219]
      rw [r0]
      have f1 : (iand .u8 219 224 == 160) = false := by decide
      simp [c48, r48, hne, e3, u219, f1, show IntKind.u8.wrap 2 = 2 by decide, show ishl .i64 1 2 = 4 by decide]
      refine FF_byR (ok68 h c r 4 (by omega) hr) ?_
      rintro v h1 ⟨rfl, hv⟩
      cases h3 : numD 4 r with
      | none =>
        rw [h3] at hv
        obtain ⟨r2, t, x, rfl⟩ := hv
        simp
        refine REr_by _ _ WkV.refl ⟨rfl, ?_⟩
        rw [bindD, h3]
        exact Out3.none (r := c :: r)
      | some o =>
        obtain ⟨n, r2⟩ := o
        rw [h3] at hv
        obtain rfl : v = _ := hv
        have hr2 := (numD_lt h3).2
        have w2 : IntKind.u64.wrap (r2.length : Int) = (r2.length : Int) := by simp [IntKind.wrap, IntKind.bits, IntKind.signed]; omega
        by_cases h4 : r2.length < n
        · have h5 : (r2.length : Int) < (n : Int) := by omega
          simp [w2, h5, h4]
          refine REr_by _ _ WkV.refl ⟨rfl, ?_⟩
          simp only [bindD, h3, takeD, if_pos h4]
          exact Out3.none (f := fun l : List UInt8 => Value.string (txt l)) (r := c :: r)
        · have h5 : ¬ (r2.length : Int) < (n : Int) := by omega
          have h6 : n ≤ r2.length := by omega
          simp [w2, h5, h4, h6]
          refine REr_by _ _ WkV.refl ⟨rfl, ?_⟩
          simp only [bindD, h3, takeD, if_neg h4]
          exact Out3.some (f := fun l : List UInt8 => Value.string (txt l))
    have r0 : readStr (c :: r) = none := by rw [readStr, if_neg h1, if_neg (by omega)]
    rw [r0]
    have f1 : (iand .u8 (c.toNat : Int) 224 == 160) = false := by rw [and224]; simpa using h1
    have f2 : ((c.toNat : Int) == 217) = false := by simp; omega
    have f3 : ((c.toNat : Int) == 218) = false := by simp; omega
    have f4 : ((c.toNat : Int) == 219) = false := by simp; omega
    simp [c48, r48, hne, e3, f1, f2, f3, f4]
    exact REr_by _ _ WkV.refl ⟨rfl, Out3.none (r := c :: r)⟩
end Go.Proofs.YtppjcnaffphakaaGreatDoor
