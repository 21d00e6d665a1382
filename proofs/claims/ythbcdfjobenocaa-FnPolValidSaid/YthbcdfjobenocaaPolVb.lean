/- The law FnPolValid: the walk through its code. -/
import Derived.Test.YthbcdfjobenocaaPolVa
set_option linter.unusedVariables false
set_option linter.unusedSimpArgs false
set_option maxRecDepth 100000
namespace Go.Proofs.Ythbcdfjobenocaa
open Go Go.Den Go.Proofs

def polW : List ByteArray := [⟨#[110, 111, 110, 101]⟩, ⟨#[114, 101, 97, 100, 111, 110, 108, 121]⟩, ⟨#[119, 114, 105, 116, 101, 111, 110, 108, 121]⟩, ⟨#[114, 101, 97, 100, 119, 114, 105, 116, 101]⟩]
def isPol (s : ByteArray) : Bool := polW.any fun x => decide (s = x)

theorem ok30 {G : Nat → DV} (h : List Blk) (s : ByteArray) : Ok Try.prog G 30 [.p (.string s)] h (.p (.bool (isPol s))) h := by
  refine Ok_by Try.func30 c30_ok r30_ok 8 rfl ?_
  simp [c30, r30]
  refine CC_by (fun h1 => ?_) (fun h1 => ?_)
  · simp at h1
    simp [isPol, polW, h1]
  simp
  refine CC_by (fun h2 => ?_) (fun h2 => ?_)
  · simp at h2
    simp [isPol, polW, h2]
  simp
  refine CC_by (fun h3 => ?_) (fun h3 => ?_)
  · simp at h3
    simp [isPol, polW, h3]
  simp
  refine CC_by (fun h4 => ?_) (fun h4 => ?_)
  · simp at h4
    simp [isPol, polW, h4]
  · simp at h1 h2 h3 h4
    simp [isPol, polW, h1, h2, h3, h4]

theorem ok10 {G : Nat → DV} (h : List Blk) (s : ByteArray) : Ok Try.prog G 10 [.p (.string s)] h (.p (.bool (isPol s))) h := by
  refine Ok_by Try.func10 c10_ok r10_ok 4 rfl ?_
  simp [c10, r10]
  exact FF_by (ok30 h s) (by simp)

theorem iand3 (n : Int) (h0 : 0 ≤ n) (h1 : n < 256) : ∃ m : Int, (m = 0 ∨ m = 1 ∨ m = 2 ∨ m = 3) ∧ iand .i64 n 3 = m ∧ n.toNat % 4 = m.toNat := by
  have key : ∀ m : Fin 256, iand .i64 (m.val : Int) 3 = ((m.val % 4 : Nat) : Int) := by decide +kernel
  refine ⟨((n.toNat % 4 : Nat) : Int), by omega, ?_, by omega⟩
  have := key ⟨n.toNat, by omega⟩
  simpa [Int.toNat_of_nonneg h0] using this

def polWord (n : Int) : ByteArray := polW.getD (n.toNat % 4) ⟨#[]⟩

theorem ok9 {G : Nat → DV} (h : List Blk) (n : Int) (h0 : 0 ≤ n) (h1 : n < 256) : Ok Try.prog G 9 [.p (.int .i64 n)] h (.p (.string (polWord n))) h := by
  refine Ok_by Try.func9 c9_ok r9_ok 6 rfl ?_
  obtain ⟨m, hm, h2, h3⟩ := iand3 n h0 h1
  rw [polWord, h3]
  rcases hm with rfl | rfl | rfl | rfl <;> simp [c9, r9, h2, polW]

theorem polWord_is (n : Int) : isPol (polWord n) = true := by
  have h2 : n.toNat % 4 < 4 := Nat.mod_lt _ (by decide)
  have h3 : n.toNat % 4 = 0 ∨ n.toNat % 4 = 1 ∨ n.toNat % 4 = 2 ∨ n.toNat % 4 = 3 := by omega
  rcases h3 with h3 | h3 | h3 | h3 <;> simp [h3, polWord, polW, isPol]

theorem ok3 (n : Int) (s : ByteArray) (h0 : 0 ≤ n) (h1 : n < 256) (hs : s.size ≤ 140737488351232) : Ok Try.prog (fun _ => .any) 3 [.p (.int .u8 n), .p (.string s)] [] (.p (.bool true)) [] := by
  refine Ok_by Try.func3 c3_ok r3_ok 29 rfl ?_
  have hw : IntKind.i64.wrap n = n := by simp [IntKind.wrap, IntKind.bits, IntKind.signed]; omega
  simp [c3, r3]
  refine CC_by (fun hz => by simp) (fun hz => ?_)
  simp
  refine VV_fam (fun i : Nat => ⟨[.p (.int .u8 n), .p (.string s), .any, .any, .p (.bool false), .p (.bool ((polW.take i).any fun x => decide (s = x))), .any, .any, .any, .any, .p (.int .i64 i), .any, .any, .any, .any, .any, .any, .any, .any, .any, .any, .any, .any, .any, .any, .any, .any, .any, .any, .any, .any], []⟩)
    (· ≤ 4) (4 - ·) 0 (by omega) (Wk.fits (by simp)) ?_
  intro i hi B hb he hr
  have hi' : i = 4 ∨ i < 4 := by omega
  rcases hi' with rfl | hi'
  · simp
    refine he _ _ ?_
    simp [hw]
    refine FF_by (ok9 _ n h0 h1) ?_
    simp
    refine FF_by (ok10 _ _) ?_
    simp [polWord_is]
    refine FF_by (ok10 _ _) ?_
    simp [isPol, polW]
  · have hpw : polWord i = polW[i]'(by simp [polW]; omega) := by
      have : i = 0 ∨ i = 1 ∨ i = 2 ∨ i = 3 := by omega
      rcases this with rfl | rfl | rfl | rfl <;> simp [polWord, polW]
    have hadd : IntKind.i64.wrap ((i : Int) + 1) = ((i + 1 : Nat) : Int) := by simp [IntKind.wrap, IntKind.bits, IntKind.signed]; omega
    have htk : (polW.take (i + 1)).any (fun x => decide (s = x)) = ((polW.take i).any (fun x => decide (s = x)) || decide (s = polWord i)) := by
      rw [List.take_succ_eq_append_getElem (by simp [polW]; omega), List.any_append, hpw]
      simp
    have hi2 : (i : Int) < 4 := by omega
    cases hg : (polW.take i).any fun x => decide (s = x)
    · simp [hi2]
      refine FF_by (ok9 _ i (by omega) (by omega)) ?_
      simp [hadd]
      refine hb _ (i + 1) (Wk.fits ?_) hi' (by omega)
      rw [htk, hg]
      simp
    · simp [hi2, hadd]
      refine hb _ (i + 1) (Wk.fits ?_) hi' (by omega)
      rw [htk, hg]
      simp

/-- The law's walk, as its row asks for it. -/
theorem polValid_walk (n : Int) (s : ByteArray) (hn : (Lit.int .u8 n).wf = true) (hs : s.size ≤ 140737488351232) : Ok Try.prog (fun _ => .any) 3 [.p (.int .u8 n), .p (.string s)] [] (.p (.bool true)) [] := by
  have h : IntKind.u8.min ≤ n ∧ n ≤ IntKind.u8.max := by simpa [Lit.wf] using hn
  have h1 : IntKind.u8.min = 0 := rfl
  have h2 : IntKind.u8.max = 255 := rfl
  exact ok3 n s (by omega) (by omega) hs

end Go.Proofs.Ythbcdfjobenocaa
