/- Faults: numbers of four bytes. -/
import Derived.Test.YtdgnjngbheecnaaDoorRdD
set_option linter.unusedVariables false
set_option linter.unusedSimpArgs false
set_option maxRecDepth 100000
namespace Go.Proofs.YtdgnjngbheecnaaDoor
open Go Go.Den Go.Proofs

/-- Four bytes, the lowest first. -/
def le4 (a b c d : UInt8) : Nat := a.toNat + b.toNat * 2 ^ 8 + c.toNat * 2 ^ 16 + d.toNat * 2 ^ 24
def fix4 (n : Nat) : List UInt8 := [UInt8.ofNat n, UInt8.ofNat (n / 256), UInt8.ofNat (n / 65536), UInt8.ofNat (n / 16777216)]
def u32 (c : Int) : Nat := (c % 4294967296).toNat
def I32 (c : Int) : Prop := -2147483648 ≤ c ∧ c ≤ 2147483647
theorem le4_fix4 (n : Nat) (hn : n < 4294967296) : le4 (UInt8.ofNat n) (UInt8.ofNat (n / 256)) (UInt8.ofNat (n / 65536)) (UInt8.ofNat (n / 16777216)) = n := by
  simp [le4]
  omega
theorem u32_lt (c : Int) : u32 c < 4294967296 := by simp [u32]; omega
theorem u32_back (c : Int) (h : I32 c) : IntKind.i32.wrap (u32 c : Int) = c := by
  obtain ⟨h1, h2⟩ := h
  simp [u32, IntKind.wrap, IntKind.bits, IntKind.signed]
  omega
theorem le4_or (a b c d : UInt8) : ior .u32 (ior .u32 (ior .u32 (a.toNat : Int) (ishl .u32 (b.toNat : Int) 8)) (ishl .u32 (c.toNat : Int) 16)) (ishl .u32 (d.toNat : Int) 24) = (le4 a b c d : Int) := by
  have ha := a.toNat_lt
  have hb := b.toNat_lt
  have hc := c.toNat_lt
  have hd := d.toNat_lt
  have e1 : ishl .u32 (b.toNat : Int) 8 = ((b.toNat * 2 ^ 8 : Nat) : Int) := ishl_nat (b := 8) rfl (by simp [IntKind.bits]; omega) (by decide)
  have e2 : ishl .u32 (c.toNat : Int) 16 = ((c.toNat * 2 ^ 16 : Nat) : Int) := ishl_nat (b := 16) rfl (by simp [IntKind.bits]; omega) (by decide)
  have e3 : ishl .u32 (d.toNat : Int) 24 = ((d.toNat * 2 ^ 24 : Nat) : Int) := ishl_nat (b := 24) rfl (by simp [IntKind.bits]; omega) (by decide)
  rw [e1, e2, e3, ior_nat rfl (by simp [IntKind.bits]; omega) (by simp [IntKind.bits]; omega), or_add (by omega),
    ior_nat rfl (by simp [IntKind.bits]; omega) (by simp [IntKind.bits]; omega), or_add (by omega),
    ior_nat rfl (by simp [IntKind.bits]; omega) (by simp [IntKind.bits]; omega), or_add (by omega)]
  rfl

theorem ok103 {G : Nat → DV} (h : List Blk) (k : Nat) (a b c d : UInt8) (rest : List UInt8) (n : Nat) (hn : n = 4 + rest.length) (hb : h[k]? = some (.cells n [.agg (bts (a :: b :: c :: d :: rest))])) :
    Ok Tryd.prog G 103 [.agg [], .sa false 1 k 0 0 4 n 1] h (.p (.int .u32 (le4 a b c d))) h := by
  refine Ok_by Tryd.func103 c103_ok r103_ok 28 rfl ?_
  have hlt : k < h.length := (List.getElem?_eq_some_iff.1 hb).1
  have w : ∀ x : UInt8, IntKind.u32.wrap (x.toNat : Int) = (x.toNat : Int) := fun x => by
    have := x.toNat_lt
    simp [IntKind.wrap, IntKind.bits, IntKind.signed]; omega
  simp [c103, r103, hb, List.getElem?_append_left hlt, bts, byteD, w, le4_or]
  omega

/-- A number of four bytes. -/
def d4u : Dec
  | a :: b :: c :: d :: t => some (.int .u32 (le4 a b c d), t)
  | _ => none
def d4 : Dec
  | a :: b :: c :: d :: t => some (.int .i32 (IntKind.i32.wrap (le4 a b c d)), t)
  | _ => none
theorem d4_len {r : List UInt8} {x : Value} {r' : List UInt8} (h : d4 r = some (x, r')) : r'.length + 4 ≤ r.length := by
  unfold d4 at h
  split at h
  · cases h; simp
  · cases h
theorem ex_d4 (c : Int) (h : I32 c) : Ex d4 (fix4 (u32 c)) (.int .i32 c) := by
  refine ⟨fun rest => ?_, fun p hp hl => ?_⟩
  · simp only [fix4, List.cons_append, List.nil_append, d4]
    rw [le4_fix4 _ (u32_lt c), u32_back c h]
  · simp [fix4] at hl
    unfold d4
    split
    · simp at hl; omega
    · rfl

theorem ok81 (G : Nat → DV) (hG1 : G 1 = .fp (.agg [])) (h : List Blk) (R : Rd) (r l : List UInt8) (rb : Nat) (hrb : R.rb = rb) (hr : r.length < 140737488355328) (s : RdS h R r l) : OkR Tryd.prog G 81 [.ptr rb 0 0 1] h (RdOutV h R (.int .u32 0) (d4u r)) := by
  subst hrb
  refine OkR_by Tryd.func81 c81_ok r81_ok 19 rfl ?_
  simp [c81, r81]
  by_cases hc : 4 ≤ r.length
  · refine FF_byR (ok102 h R r l 4 hc (by omega) s) ?_
    rintro v h1 ⟨rfl, R1, s1, k1⟩
    have g1 := s1.rb
    rw [k1.rb] at g1
    have g2 := s1.bb
    match r, hc with
    | a :: b :: c :: d :: t, _ =>
      rcases s1.f with ⟨_, h0⟩ | ⟨kb, rest, hf, hb⟩
      · simp at h0
      · simp at hf hb
        simp [g1, g2, hG1, hf]
        refine DF_by (ok103 h1 kb a b c d rest _ (by omega) hb) ?_
        simp
        exact REr_by _ _ .refl ⟨rfl, R1, _, s1, k1⟩
  · refine FF_byR (ok171e h R r l 4 (by omega) s) ?_
    rintro v h1 ⟨⟨x, rfl⟩, R1, r1, l1, s1, k1⟩
    simp
    refine FF_by (ok84 _ _ _ _) ?_
    simp
    refine REr_by _ _ .refl ?_
    have : d4u r = none := by
      unfold d4u
      split
      · simp at hc
      · rfl
    rw [this]
    exact ⟨⟨_, rfl⟩, R1, r1, l1, s1.push, k1.trans .push⟩

theorem ok58 (G : Nat → DV) (hG1 : G 1 = .fp (.agg [])) (h : List Blk) (R : Rd) (r l : List UInt8) (rb : Nat) (hrb : R.rb = rb) (hr : r.length < 140737488355328) (s : RdS h R r l) : OkR Tryd.prog G 58 [.ptr rb 0 0 1] h (RdOutV h R (.int .i32 0) (d4 r)) := by
  refine OkR_by Tryd.func58 c58_ok r58_ok 15 rfl ?_
  simp [c58, r58]
  refine FF_byR (ok81 G hG1 h R r l rb hrb hr s) ?_
  intro v h1 ho
  by_cases hc : 4 ≤ r.length
  · match r, hc with
    | a :: b :: c :: d :: t, _ =>
      obtain ⟨rfl, R1, l1, s1, k1⟩ := ho
      simp
      exact REr_by _ _ .refl ⟨rfl, R1, l1, s1, k1⟩
  · have e1 : d4u r = none := by
      unfold d4u
      split
      · simp at hc
      · rfl
    have e2 : d4 r = none := by
      unfold d4
      split
      · simp at hc
      · rfl
    rw [e1] at ho
    obtain ⟨⟨x, rfl⟩, R1, r1, l1, s1, k1⟩ := ho
    simp
    refine REr_by _ _ .refl ?_
    rw [e2]
    exact ⟨⟨_, rfl⟩, R1, r1, l1, s1, k1⟩

/-- A number's bytes. -/
theorem shr8 (n : Nat) : ishr .u64 (n : Int) 8 = ((n / 256 : Nat) : Int) := ishr_nat (b := 8) (by decide)
end Go.Proofs.YtdgnjngbheecnaaDoor
