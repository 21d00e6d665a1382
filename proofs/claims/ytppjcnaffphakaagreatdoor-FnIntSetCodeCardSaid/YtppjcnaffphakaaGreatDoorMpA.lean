/- MessagePack: the reader's functions. (turned from another seat by mkpu.py) -/
import Derived.Test.YtppjcnaffphakaaGreatDoorCodA
import Derived.Test.YtppjcnaffphakaaGreatDoorPkA
import Derived.Test.YtppjcnaffphakaaGreatDoorLibE
set_option linter.unusedVariables false
set_option linter.unusedSimpArgs false
set_option maxRecDepth 100000
set_option maxHeartbeats 4000000
namespace Go.Proofs.YtppjcnaffphakaaGreatDoor
open Go Go.Den Go.Proofs

/-- What is read, what is left, no error; or an error. -/
def Out3 {α : Type} (f : α → Value) (z : Value) (o : Option (α × List UInt8)) (v : DV) : Prop :=
  match o with
  | some (x, r) => v = .tup [.p (f x), .fz 1 (bts r), .p .nilIface]
  | none => ∃ r t x, v = .tup [.p z, .fz 1 (bts r), .iface t (.p (.string x))]

theorem Out3.some {α : Type} {f : α → Value} {z : Value} {x : α} {r : List UInt8} : Out3 f z (.some (x, r)) (.tup [.p (f x), .fz 1 (bts r), .p .nilIface]) := rfl

theorem Out3.none {α : Type} {f : α → Value} {z : Value} {r : List UInt8} {t : TypeId} {x : ByteArray} : Out3 f z Option.none (.tup [.p z, .fz 1 (bts r), .iface t (.p (.string x))]) := ⟨_, _, _, rfl⟩
@[simp] theorem bts_tail {l : List UInt8} : (bts l).tail = bts l.tail := by cases l <;> simp [bts]

@[simp] theorem take_drop_all {α : Type} {l : List α} {i : Nat} : (l.drop i).take (l.length - i) = l.drop i := List.take_of_length_le (by simp)

theorem shl_or (n : Nat) (c : UInt8) (h : n < 72057594037927936) : ior .u64 (ishl .u64 (n : Int) 8) (c.toNat : Int) = ((n * 256 + c.toNat : Nat) : Int) := by
  have hc := c.toNat_lt
  have e1 : ishl .u64 (n : Int) 8 = ((n * 2 ^ 8 : Nat) : Int) := ishl_nat (b := 8) rfl (by simp [IntKind.bits]; omega) (by decide)
  rw [e1, ior_nat rfl (by simp [IntKind.bits]; omega) (by simp [IntKind.bits]; omega)]
  congr 1
  rw [Nat.mul_comm, Nat.two_pow_add_eq_or_of_lt (by omega : c.toNat < 2 ^ 8)]

theorem be_take_succ {r : List UInt8} {i : Nat} (h : i < r.length) : be (r.take (i + 1)) = be (r.take i) * 256 + r[i].toNat := by
  rw [List.take_succ_eq_append_getElem h, be_push]

theorem pow256_le {i : Nat} (h : i ≤ 7) : (256 : Nat) ^ i ≤ 72057594037927936 := by
  have : (256 : Nat) ^ 7 = 72057594037927936 := by decide
  rw [← this]
  exact Nat.pow_le_pow_right (by decide) h
theorem ok68 {G : Nat → DV} (h : List Blk) (c : UInt8) (r : List UInt8) (k : Nat) (hk : k ≤ 8) (hb : r.length ≤ 140737488351232) : OkR Tryz.prog G 68 [.fz 1 (bts (c :: r)), .p (.int .i64 k)] h fun v h' => h' = h ∧ Out3 (fun n : Nat => .int .u64 n) (.int .u64 0) (numD k r) v := by
  refine OkR_by Tryz.func68 c68_ok r68_ok 34 rfl ?_
  have e0 : IntKind.i64.wrap (1 + (k : Int)) = (k : Int) + 1 := by simp [IntKind.wrap, IntKind.bits, IntKind.signed]; omega
  simp [c68, r68, e0]
  refine CC_by (fun h1 => ?_) (fun h1 => ?_)
  · simp
    refine REr_by _ _ WkV.refl ⟨rfl, ?_⟩
    have : r.length < k := by simp at h1; omega
    rw [numD, if_pos this]
    exact Out3.none
  · have hkr : k ≤ r.length := by simp at h1; omega
    have e2 : min k r.length = k := Nat.min_eq_left hkr
    simp [e0, e2]
    refine ⟨by omega, by omega, ?_⟩
    refine VV_fam (fun i : Nat => ⟨fr 36 [(0, .fz 1 (bts (c :: r))), (1, .p (.int .i64 k)), (4, .p (.int .u64 (be (r.take i)))), (19, .fz 1 (bts (r.take k))), (20, .p (.int .i64 k)), (21, .p (.int .i64 i))], h⟩)
      (fun i => i ≤ k) (fun i => k - i) 0 (by omega) (Wk.fits (by simp [be])) ?_
    intro i hi B hbk he hr
    simp
    refine CC_by (fun h2 => ?_) (fun h2 => ?_)
    · have hik : i < k := by simp at h2; omega
      have hir : i < r.length := by omega
      have hlt := be_lt (r.take i)
      rw [List.length_take, Nat.min_eq_left (by omega)] at hlt
      have hp := pow256_le (i := i) (by omega)
      have e3 : IntKind.u64.wrap (r[i].toNat : Int) = (r[i].toNat : Int) := by
        have := r[i].toNat_lt
        simp [IntKind.wrap, IntKind.bits, IntKind.signed]; omega
      have e4 : IntKind.i64.wrap ((i : Int) + 1) = ((i + 1 : Nat) : Int) := wrap_succ hik (by omega)
      have e5 := shl_or (be (r.take i)) r[i] (by omega)
      simp [e2, hik, e3, e4, e5]
      refine hbk _ (i + 1) ?_ hik (by omega)
      rw [be_take_succ hir]
      exact Wk.fits (by simp)
    · have : i = k := by simp at h2; omega
      subst this
      simp
      refine he _ _ ?_
      simp [e0]
      refine ⟨by omega, ?_⟩
      refine REr_by _ _ WkV.refl ⟨rfl, ?_⟩
      rw [numD, if_neg (by omega)]
      exact Out3.some
theorem and240 (c : UInt8) : (iand .u8 (c.toNat : Int) 240 == 144) = decide (c.toNat / 16 = 9) := by
  have key : ∀ n : Fin 256, (iand .u8 (n.val : Int) 240 == 144) = decide (n.val / 16 = 9) := by decide
  exact key ⟨c.toNat, c.toNat_lt⟩

theorem and15 (c : UInt8) : iand .u8 (c.toNat : Int) 15 = ((c.toNat % 16 : Nat) : Int) := by
  have key : ∀ n : Fin 256, iand .u8 (n.val : Int) 15 = ((n.val % 16 : Nat) : Int) := by decide
  exact key ⟨c.toNat, c.toNat_lt⟩

theorem ok47 {G : Nat → DV} (h : List Blk) (b : List UInt8) (hb : b.length ≤ 140737488351232) : OkR Tryz.prog G 47 [.fz 1 (bts b)] h fun v h' => h' = h ∧ Out3 (fun n : Nat => .int .i64 n) (.int .i64 0) (readArr b) v := by
  refine OkR_by Tryz.func47 c47_ok r47_ok 49 rfl ?_
  cases b with
  | nil =>
    simp [c47, r47]
    exact REr_by _ _ WkV.refl ⟨rfl, Out3.none (r := [])⟩
  | cons c r =>
    have hc := c.toNat_lt
    have hr : r.length ≤ 140737488351232 := by simp at hb; omega
    have hne : ((r.length : Int) + 1 == 0) = false := by simp; omega
    have e1 : IntKind.i64.wrap ((c.toNat % 16 : Nat) : Int) = ((c.toNat % 16 : Nat) : Int) := by simp [IntKind.wrap, IntKind.bits, IntKind.signed]; omega
    have e2 : IntKind.i64.wrap ((c.toNat : Int) % 16) = (c.toNat : Int) % 16 := by simp [IntKind.wrap, IntKind.bits, IntKind.signed]; omega
    have e3 : (bts (c :: r))[0]?.getD .any = .p (.int .u8 c.toNat) := rfl
    simp [c47, r47, hne, e3, and240, and15]
    refine CC_by (fun h1 => ?_) (fun h1 => ?_)
    · simp at h1
      simp [and15, e2]
      refine ⟨by omega, REr_by _ _ WkV.refl ⟨rfl, ?_⟩⟩
      rw [readArr, if_pos h1]
      exact Out3.some (f := fun n : Nat => Value.int .i64 n)
    · simp at h1
      by_cases h2 : c.toNat = 220
      · have r0 : readArr (c :: r) = numD 2 r := by rw [readArr, if_neg h1, if_pos h2]
        rw [r0]
        simp [h2]
        refine FF_byR (ok68 h c r 2 (by omega) hr) ?_
        rintro v h1 ⟨rfl, hv⟩
        cases h3 : numD 2 r with
        | none =>
          rw [h3] at hv
          obtain ⟨r2, t, x, rfl⟩ := hv
          simp
          exact REr_by _ _ WkV.refl ⟨rfl, Out3.none⟩
        | some o =>
          obtain ⟨n, r2⟩ := o
          rw [h3] at hv
          obtain rfl : v = _ := hv
          have hn := (numD_lt h3).1
          rw [pow_lits.2.1] at hn
          have e5 : IntKind.i64.wrap (n : Int) = n := by simp [IntKind.wrap, IntKind.bits, IntKind.signed]; omega
          simp [e5]
          exact REr_by _ _ WkV.refl ⟨rfl, Out3.some (f := fun n : Nat => Value.int .i64 n)⟩
      by_cases h3 : c.toNat = 221
      · have r0 : readArr (c :: r) = numD 4 r := by rw [readArr, if_neg h1, if_neg h2, if_pos h3]
        rw [r0]
        simp [h3]
        refine FF_byR (ok68 h c r 4 (by omega) hr) ?_
        rintro v h1 ⟨rfl, hv⟩
        cases h3 : numD 4 r with
        | none =>
          rw [h3] at hv
          obtain ⟨r2, t, x, rfl⟩ := hv
          simp
          exact REr_by _ _ WkV.refl ⟨rfl, Out3.none⟩
        | some o =>
          obtain ⟨n, r2⟩ := o
          rw [h3] at hv
          obtain rfl : v = _ := hv
          have hn := (numD_lt h3).1
          rw [pow_lits.2.2.1] at hn
          have e5 : IntKind.i64.wrap (n : Int) = n := by simp [IntKind.wrap, IntKind.bits, IntKind.signed]; omega
          simp [e5]
          exact REr_by _ _ WkV.refl ⟨rfl, Out3.some (f := fun n : Nat => Value.int .i64 n)⟩
      · have r0 : readArr (c :: r) = none := by rw [readArr, if_neg h1, if_neg h2, if_neg h3]
        rw [r0]
        have f2 : ((c.toNat : Int) == 220) = false := by simp; omega
        have f3 : ((c.toNat : Int) == 221) = false := by simp; omega
        simp [f2, f3]
        exact REr_by _ _ WkV.refl ⟨rfl, Out3.none (r := c :: r)⟩
theorem wrap8 (c : UInt8) (h : 224 ≤ c.toNat) : IntKind.i64.wrap (IntKind.i8.wrap (c.toNat : Int)) = (c.toNat : Int) - 256 := by
  have := c.toNat_lt
  simp [IntKind.wrap, IntKind.bits, IntKind.signed]; omega

theorem wrap8' (c : UInt8) (h : c.toNat < 128) : IntKind.i64.wrap (IntKind.i8.wrap (c.toNat : Int)) = (c.toNat : Int) := by
  simp [IntKind.wrap, IntKind.bits, IntKind.signed]; omega

/-- A number of k bytes with its sign. -/
theorem sext_sh (k : Nat) (hk : k = 1 ∨ k = 2 ∨ k = 4 ∨ k = 8) (n : Nat) (hn : n < 256 ^ k) : ishr .i64 (IntKind.i64.wrap (ishl .u64 (n : Int) ((64 - 8 * k : Nat) : Int))) ((64 - 8 * k : Nat) : Int) = sext (8 * k) n := by
  obtain ⟨p1, p2, p4, p8⟩ := pow_lits
  rcases hk with rfl | rfl | rfl | rfl <;> simp only [p1, p2, p4, p8] at hn <;> simp [ishr, ishl, sext, IntKind.wrap, IntKind.bits, IntKind.signed, Int.fdiv_eq_ediv_of_nonneg] <;> (split <;> split <;> omega)

theorem ok60 {G : Nat → DV} (h : List Blk) (b : List UInt8) (hb : b.length ≤ 140737488351232) : OkR Tryz.prog G 60 [.fz 1 (bts b)] h fun v h' => h' = h ∧ Out3 (fun n : Int => .int .i64 n) (.int .i64 0) (readInt b) v := by
  refine OkR_by Tryz.func60 c60_ok r60_ok 91 rfl ?_
  cases b with
  | nil =>
    simp [c60, r60]
    exact REr_by _ _ WkV.refl ⟨rfl, Out3.none (r := [])⟩
  | cons c r =>
    have hc := c.toNat_lt
    have hr : r.length ≤ 140737488351232 := by simp at hb; omega
    have hne : ((r.length : Int) + 1 == 0) = false := by simp; omega
    have e3 : (bts (c :: r))[0]?.getD .any = .p (.int .u8 c.toNat) := rfl
    have hlr : (1 : Int) ≤ (r.length : Int) + 1 := by omega
    by_cases h1 : c.toNat < 128
    · have f1 : (c.toNat : Int) < 128 := by omega
      simp [c60, r60, hne, e3, f1, wrap8' c h1, hlr]
      refine REr_by _ _ WkV.refl ⟨rfl, ?_⟩
      rw [readInt, if_pos h1]
      exact Out3.some (f := fun n : Int => Value.int .i64 n)
    have f1 : ¬ (c.toNat : Int) < 128 := by omega
    by_cases h2 : 224 ≤ c.toNat
    · have f2 : (224 : Int) ≤ (c.toNat : Int) := by omega
      simp [c60, r60, hne, e3, f1, f2, wrap8 c h2, hlr]
      refine REr_by _ _ WkV.refl ⟨rfl, ?_⟩
      rw [readInt, if_neg h1, if_pos h2]
      exact Out3.some (f := fun n : Int => Value.int .i64 n)
    have f2 : ¬ (224 : Int) ≤ (c.toNat : Int) := by omega
    by_cases u204 : c.toNat = 204
    · have r0 : readInt (c :: r) = bindD (numD 1) (fun n r => if n < 9223372036854775808 then some ((n : Int), r) else none) r := by rw [readInt, if_neg h1, if_neg h2, if_pos (by omega), u204]
      rw [r0]
      simp [c60, r60, hne, e3, u204, show IntKind.u8.wrap 0 = 0 by decide, show ishl .i64 1 0 = 1 by decide]
      refine FF_byR (ok68 h c r 1 (by omega) hr) ?_
      rintro v h1 ⟨rfl, hv⟩
      cases h3 : numD 1 r with
      | none =>
        rw [h3] at hv
        obtain ⟨r2, t, x, rfl⟩ := hv
        simp
        refine REr_by _ _ WkV.refl ⟨rfl, ?_⟩
        rw [bindD, h3]
        exact Out3.none
      | some o =>
        obtain ⟨n, r2⟩ := o
        rw [h3] at hv
        obtain rfl : v = _ := hv
        have hn := (numD_lt h3).1
        rw [pow_lits.1] at hn
        by_cases h4 : n < 9223372036854775808
        · have h5 : ¬ (9223372036854775807 : Int) < (n : Int) := by omega
          have e5 : IntKind.i64.wrap (n : Int) = n := by simp [IntKind.wrap, IntKind.bits, IntKind.signed]; omega
          simp [h5, e5]
          refine REr_by _ _ WkV.refl ⟨rfl, ?_⟩
          simp only [bindD, h3, if_pos h4]
          exact Out3.some (f := fun n : Int => Value.int .i64 n)
        · have h5 : (9223372036854775807 : Int) < (n : Int) := by omega
          simp [h5]
          refine REr_by _ _ WkV.refl ⟨rfl, ?_⟩
          simp only [bindD, h3, if_neg h4]
          exact Out3.none (r := c :: r)
    by_cases u205 : c.toNat = 205
    · have r0 : readInt (c :: r) = bindD (numD 2) (fun n r => if n < 9223372036854775808 then some ((n : Int), r) else none) r := by rw [readInt, if_neg h1, if_neg h2, if_pos (by omega), u205]
      rw [r0]
      simp [c60, r60, hne, e3, u205, show IntKind.u8.wrap 1 = 1 by decide, show ishl .i64 1 1 = 2 by decide]
      refine FF_byR (ok68 h c r 2 (by omega) hr) ?_
      rintro v h1 ⟨rfl, hv⟩
      cases h3 : numD 2 r with
      | none =>
        rw [h3] at hv
        obtain ⟨r2, t, x, rfl⟩ := hv
        simp
        refine REr_by _ _ WkV.refl ⟨rfl, ?_⟩
        rw [bindD, h3]
        exact Out3.none
      | some o =>
        obtain ⟨n, r2⟩ := o
        rw [h3] at hv
        obtain rfl : v = _ := hv
        have hn := (numD_lt h3).1
        rw [pow_lits.2.1] at hn
        by_cases h4 : n < 9223372036854775808
        · have h5 : ¬ (9223372036854775807 : Int) < (n : Int) := by omega
          have e5 : IntKind.i64.wrap (n : Int) = n := by simp [IntKind.wrap, IntKind.bits, IntKind.signed]; omega
          simp [h5, e5]
          refine REr_by _ _ WkV.refl ⟨rfl, ?_⟩
          simp only [bindD, h3, if_pos h4]
          exact Out3.some (f := fun n : Int => Value.int .i64 n)
        · have h5 : (9223372036854775807 : Int) < (n : Int) := by omega
          simp [h5]
          refine REr_by _ _ WkV.refl ⟨rfl, ?_⟩
          simp only [bindD, h3, if_neg h4]
          exact Out3.none (r := c :: r)
    by_cases u206 : c.toNat = 206
    · have r0 : readInt (c :: r) = bindD (numD 4) (fun n r => if n < 9223372036854775808 then some ((n : Int), r) else none) r := by rw [readInt, if_neg h1, if_neg h2, if_pos (by omega), u206]
      rw [r0]
      simp [c60, r60, hne, e3, u206, show IntKind.u8.wrap 2 = 2 by decide, show ishl .i64 1 2 = 4 by decide]
      refine FF_byR (ok68 h c r 4 (by omega) hr) ?_
      rintro v h1 ⟨rfl, hv⟩
      cases h3 : numD 4 r with
      | none =>
        rw [h3] at hv
        obtain ⟨r2, t, x, rfl⟩ := hv
        simp
        refine REr_by _ _ WkV.refl ⟨rfl, ?_⟩
        rw [bindD, h3]
        exact Out3.none
      | some o =>
        obtain ⟨n, r2⟩ := o
        rw [h3] at hv
        obtain rfl : v = _ := hv
        have hn := (numD_lt h3).1
        rw [pow_lits.2.2.1] at hn
        by_cases h4 : n < 9223372036854775808
        · have h5 : ¬ (9223372036854775807 : Int) < (n : Int) := by omega
          have e5 : IntKind.i64.wrap (n : Int) = n := by simp [IntKind.wrap, IntKind.bits, IntKind.signed]; omega
          simp [h5, e5]
          refine REr_by _ _ WkV.refl ⟨rfl, ?_⟩
          simp only [bindD, h3, if_pos h4]
          exact Out3.some (f := fun n : Int => Value.int .i64 n)
        · have h5 : (9223372036854775807 : Int) < (n : Int) := by omega
          simp [h5]
          refine REr_by _ _ WkV.refl ⟨rfl, ?_⟩
          simp only [bindD, h3, if_neg h4]
          exact Out3.none (r := c :: r)
    by_cases u207 : c.toNat = 207
    · have r0 : readInt (c :: r) = bindD (numD 8) (fun n r => if n < 9223372036854775808 then some ((n : Int), r) else none) r := by rw [readInt, if_neg h1, if_neg h2, if_pos (by omega), u207]
      rw [r0]
      simp [c60, r60, hne, e3, u207, show IntKind.u8.wrap 3 = 3 by decide, show ishl .i64 1 3 = 8 by decide]
      refine FF_byR (ok68 h c r 8 (by omega) hr) ?_
      rintro v h1 ⟨rfl, hv⟩
      cases h3 : numD 8 r with
      | none =>
        rw [h3] at hv
        obtain ⟨r2, t, x, rfl⟩ := hv
        simp
        refine REr_by _ _ WkV.refl ⟨rfl, ?_⟩
        rw [bindD, h3]
        exact Out3.none
      | some o =>
        obtain ⟨n, r2⟩ := o
        rw [h3] at hv
        obtain rfl : v = _ := hv
        have hn := (numD_lt h3).1
        rw [pow_lits.2.2.2] at hn
        by_cases h4 : n < 9223372036854775808
        · have h5 : ¬ (9223372036854775807 : Int) < (n : Int) := by omega
          have e5 : IntKind.i64.wrap (n : Int) = n := by simp [IntKind.wrap, IntKind.bits, IntKind.signed]; omega
          simp [h5, e5]
          refine REr_by _ _ WkV.refl ⟨rfl, ?_⟩
          simp only [bindD, h3, if_pos h4]
          exact Out3.some (f := fun n : Int => Value.int .i64 n)
        · have h5 : (9223372036854775807 : Int) < (n : Int) := by omega
          simp [h5]
          refine REr_by _ _ WkV.refl ⟨rfl, ?_⟩
          simp only [bindD, h3, if_neg h4]
          exact Out3.none (r := c :: r)
    have f3 : ¬ ((204 : Int) ≤ (c.toNat : Int) ∧ (c.toNat : Int) ≤ 207) := by omega
    by_cases s208 : c.toNat = 208
    · have r0 : readInt (c :: r) = (numD 1 r).map fun x => (sext (8 * 1) x.1, x.2) := by rw [readInt, if_neg h1, if_neg h2, if_neg (by omega), if_pos (by omega), s208]
      rw [r0]
      simp [c60, r60, hne, e3, s208, show IntKind.u8.wrap 0 = 0 by decide, show ishl .i64 1 0 = 1 by decide]
      refine FF_byR (ok68 h c r 1 (by omega) hr) ?_
      rintro v h1 ⟨rfl, hv⟩
      cases h3 : numD 1 r with
      | none =>
        rw [h3] at hv
        obtain ⟨r2, t, x, rfl⟩ := hv
        have e5 := sext_sh 1 (by omega) 0 (Nat.pos_of_ne_zero (by simp))
        simp [show IntKind.i64.wrap 8 = 8 by decide, show IntKind.i64.wrap 56 = 56 by decide] at e5 ⊢
        rw [e5]
        exact REr_by _ _ WkV.refl ⟨rfl, Out3.none⟩
      | some o =>
        obtain ⟨n, r2⟩ := o
        rw [h3] at hv
        obtain rfl : v = _ := hv
        have hn := (numD_lt h3).1
        have e5 := sext_sh 1 (by omega) n hn
        simp [show IntKind.i64.wrap 8 = 8 by decide, show IntKind.i64.wrap 56 = 56 by decide] at e5 ⊢
        rw [e5]
        exact REr_by _ _ WkV.refl ⟨rfl, Out3.some (f := fun n : Int => Value.int .i64 n)⟩
    by_cases s209 : c.toNat = 209
    · have r0 : readInt (c :: r) = (numD 2 r).map fun x => (sext (8 * 2) x.1, x.2) := by rw [readInt, if_neg h1, if_neg h2, if_neg (by omega), if_pos (by omega), s209]
      rw [r0]
      simp [c60, r60, hne, e3, s209, show IntKind.u8.wrap 1 = 1 by decide, show ishl .i64 1 1 = 2 by decide]
      refine FF_byR (ok68 h c r 2 (by omega) hr) ?_
      rintro v h1 ⟨rfl, hv⟩
      cases h3 : numD 2 r with
      | none =>
        rw [h3] at hv
        obtain ⟨r2, t, x, rfl⟩ := hv
        have e5 := sext_sh 2 (by omega) 0 (Nat.pos_of_ne_zero (by simp))
        simp [show IntKind.i64.wrap 16 = 16 by decide, show IntKind.i64.wrap 48 = 48 by decide] at e5 ⊢
        rw [e5]
        exact REr_by _ _ WkV.refl ⟨rfl, Out3.none⟩
      | some o =>
        obtain ⟨n, r2⟩ := o
        rw [h3] at hv
        obtain rfl : v = _ := hv
        have hn := (numD_lt h3).1
        have e5 := sext_sh 2 (by omega) n hn
        simp [show IntKind.i64.wrap 16 = 16 by decide, show IntKind.i64.wrap 48 = 48 by decide] at e5 ⊢
        rw [e5]
        exact REr_by _ _ WkV.refl ⟨rfl, Out3.some (f := fun n : Int => Value.int .i64 n)⟩
    by_cases s210 : c.toNat = 210
    · have r0 : readInt (c :: r) = (numD 4 r).map fun x => (sext (8 * 4) x.1, x.2) := by rw [readInt, if_neg h1, if_neg h2, if_neg (by omega), if_pos (by omega), s210]
      rw [r0]
      simp [c60, r60, hne, e3, s210, show IntKind.u8.wrap 2 = 2 by decide, show ishl .i64 1 2 = 4 by decide]
      refine FF_byR (ok68 h c r 4 (by omega) hr) ?_
      rintro v h1 ⟨rfl, hv⟩
      cases h3 : numD 4 r with
      | none =>
        rw [h3] at hv
        obtain ⟨r2, t, x, rfl⟩ := hv
        have e5 := sext_sh 4 (by omega) 0 (Nat.pos_of_ne_zero (by simp))
        simp [show IntKind.i64.wrap 32 = 32 by decide, show IntKind.i64.wrap 32 = 32 by decide] at e5 ⊢
        rw [e5]
        exact REr_by _ _ WkV.refl ⟨rfl, Out3.none⟩
      | some o =>
        obtain ⟨n, r2⟩ := o
        rw [h3] at hv
        obtain rfl : v = _ := hv
        have hn := (numD_lt h3).1
        have e5 := sext_sh 4 (by omega) n hn
        simp [show IntKind.i64.wrap 32 = 32 by decide, show IntKind.i64.wrap 32 = 32 by decide] at e5 ⊢
        rw [e5]
        exact REr_by _ _ WkV.refl ⟨rfl, Out3.some (f := fun n : Int => Value.int .i64 n)⟩
    by_cases s211 : c.toNat = 211
    · have r0 : readInt (c :: r) = (numD 8 r).map fun x => (sext (8 * 8) x.1, x.2) := by rw [readInt, if_neg h1, if_neg h2, if_neg (by omega), if_pos (by omega), s211]
      rw [r0]
      simp [c60, r60, hne, e3, s211, show IntKind.u8.wrap 3 = 3 by decide, show ishl .i64 1 3 = 8 by decide]
      refine FF_byR (ok68 h c r 8 (by omega) hr) ?_
      rintro v h1 ⟨rfl, hv⟩
      cases h3 : numD 8 r with
      | none =>
        rw [h3] at hv
        obtain ⟨r2, t, x, rfl⟩ := hv
        have e5 := sext_sh 8 (by omega) 0 (Nat.pos_of_ne_zero (by simp))
        simp [show IntKind.i64.wrap 64 = 64 by decide, show IntKind.i64.wrap 0 = 0 by decide] at e5 ⊢
        rw [e5]
        exact REr_by _ _ WkV.refl ⟨rfl, Out3.none⟩
      | some o =>
        obtain ⟨n, r2⟩ := o
        rw [h3] at hv
        obtain rfl : v = _ := hv
        have hn := (numD_lt h3).1
        have e5 := sext_sh 8 (by omega) n hn
        simp [show IntKind.i64.wrap 64 = 64 by decide, show IntKind.i64.wrap 0 = 0 by decide] at e5 ⊢
        rw [e5]
        exact REr_by _ _ WkV.refl ⟨rfl, Out3.some (f := fun n : Int => Value.int .i64 n)⟩
    have f4 : ¬ ((208 : Int) ≤ (c.toNat : Int) ∧ (c.toNat : Int) ≤ 211) := by omega
    have r0 : readInt (c :: r) = none := by rw [readInt, if_neg h1, if_neg h2, if_neg (by omega), if_neg (by omega)]
    rw [r0]
    have fin : c.toNat < 204 ∨ 212 ≤ c.toNat := by omega
    rcases fin with h4 | h4
    · have g1 : ¬ (204 : Int) ≤ (c.toNat : Int) := by omega
      have g2 : ¬ (208 : Int) ≤ (c.toNat : Int) := by omega
      simp [c60, r60, hne, e3, f1, f2, g1, g2]
      exact REr_by _ _ WkV.refl ⟨rfl, Out3.none (r := c :: r)⟩
    · have g1 : (204 : Int) ≤ (c.toNat : Int) := by omega
      have g2 : (208 : Int) ≤ (c.toNat : Int) := by omega
      have g3 : ¬ (c.toNat : Int) ≤ 207 := by omega
      have g4 : ¬ (c.toNat : Int) ≤ 211 := by omega
      simp [c60, r60, hne, e3, f1, f2, g1, g2, g3, g4]
      exact REr_by _ _ WkV.refl ⟨rfl, Out3.none (r := c :: r)⟩


end Go.Proofs.YtppjcnaffphakaaGreatDoor
