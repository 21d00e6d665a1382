/- Versions: a number is read. -/
import Derived.Test.YtbbafeocmchlnaaPvC
set_option linter.unusedVariables false
set_option linter.unusedSimpArgs false
set_option maxRecDepth 100000
namespace Go.Proofs.Ytbbafeocmchlnaa
open Go Go.Den Go.Proofs

/-- A number, of digits. -/
def pv (a : Nat) (l : List UInt8) : Nat := l.foldl (fun a c => a * 10 + (c.toNat - 48)) a
@[simp] theorem pv_nil (a : Nat) : pv a [] = a := nd rfl
theorem pv_cons (a : Nat) (c : UInt8) (l : List UInt8) : pv a (c :: l) = pv (a * 10 + (c.toNat - 48)) l := nd rfl
def isDig (c : UInt8) : Prop := 48 ≤ c.toNat ∧ c.toNat ≤ 57
theorem pv_ge (l : List UInt8) : ∀ a : Nat, a ≤ pv a l := by
  induction l with
  | nil => intro a; simp
  | cons c l ih =>
    intro a
    have h1 := ih (a * 10 + (c.toNat - 48))
    rw [pv_cons]
    exact Nat.le_trans (by omega) h1
theorem pv_app (l m : List UInt8) (a : Nat) : pv a (l ++ m) = pv (pv a l) m := by simp [pv]
theorem dg_toNat (n : Nat) : (dg n).toNat = 48 + n % 10 := by
  have key : ∀ d : Fin 10, (UInt8.ofNat (48 + d.val)).toNat = 48 + d.val := by decide
  exact key ⟨n % 10, Nat.mod_lt _ (by decide)⟩
theorem dig_isDig (n : Nat) : ∀ x ∈ dig n, isDig x := by
  induction n using Nat.strongRecOn with
  | _ n ih =>
    intro x hx
    have hd : isDig (dg n) := by
      have := dg_toNat n
      unfold isDig; omega
    by_cases h : n < 10
    · rw [dig_lt h] at hx; simp at hx; subst hx; exact hd
    · rw [dig_ge (by omega)] at hx
      rcases List.mem_append.1 hx with hx | hx
      · exact ih (n / 10) (by omega) x hx
      · simp at hx; subst hx; exact hd
theorem pv_dig (n : Nat) : pv 0 (dig n) = n := by
  induction n using Nat.strongRecOn with
  | _ n ih =>
    have hd := dg_toNat n
    by_cases h : n < 10
    · rw [dig_lt h]; simp only [pv_cons, pv_nil, hd]; omega
    · rw [dig_ge (by omega), pv_app, ih (n / 10) (by omega)]
      simp only [pv_cons, pv_nil, hd]; omega

theorem ok148 {G : Nat → DV} (h : List Blk) (l : List UInt8) (hne : l ≠ []) (hd : ∀ x ∈ l, isDig x) (hv : pv 0 l < 256) (hl : l.length ≤ 1000000) : Ok Try.prog G 148 [.p (.string (txt l)), .p (.int .i64 10), .p (.int .i64 8)] h (.tup [.p (.int .u64 (pv 0 l)), .p .nilIface]) h := by
  refine Ok_by Try.func148 c148_ok r148_ok 155 rfl ?_
  have e1 : ishl .u64 1 8 = 256 := by decide
  have e2 : IntKind.u64.wrap 255 = 255 := by decide
  have e3 : IntKind.u64.wrap 10 = 10 := by decide
  simp [c148, r148, hne, e1, e2]
  refine VV_fam (fun i : Nat => ⟨fr 158 [(1, .p (.int .i64 10)), (8, .p (.bool false)), (10, .p (.int .u64 255)), (11, .p (.int .u64 (pv 0 (l.take i)))), (12, .p (.bool false)), (86, .sl h.length 0 l.length l.length), (87, .p (.int .i64 l.length)), (88, .p (.int .i64 i))], h ++ [.cells 1 (bts l)]⟩)
    (fun i => i ≤ l.length) (fun i => l.length - i) 0 (Nat.zero_le _) (Wk.fits (by simp)) ?_
  intro i hi B hb he hr
  simp
  refine CC_by (fun h1 => ?_) (fun h1 => ?_)
  · have h1 : i < l.length := by simpa using h1
    have hx := hd l[i] (List.getElem_mem h1)
    have htk : l.take (i + 1) = l.take i ++ [l[i]] := by rw [List.take_add_one, List.getElem?_eq_getElem h1]; rfl
    have hp : pv 0 (l.take (i + 1)) = pv 0 (l.take i) * 10 + (l[i].toNat - 48) := by rw [htk, pv_app, pv_cons, pv_nil]
    have hle : pv 0 (l.take (i + 1)) < 256 := by
      have := pv_ge (l.drop (i + 1)) (pv 0 (l.take (i + 1)))
      rw [← pv_app, List.take_append_drop] at this
      omega
    have hw : IntKind.i64.wrap ((i : Int) + 1) = ((i + 1 : Nat) : Int) := wrap_succ (n := l.length) h1 (by omega)
    generalize hc : l[i].toNat = c at hx hp
    obtain ⟨hx1, hx2⟩ := hx
    rw [hc] at hx1 hx2
    have hg : (bts l)[i]? = some (.p (.int .u8 c)) := by simp [bts, byteD, hc, h1]
    have w8 : IntKind.u8.wrap ((c : Int) - 48) = ((c - 48 : Nat) : Int) := by simp [IntKind.wrap, IntKind.bits, IntKind.signed]; omega
    have w64 : IntKind.u64.wrap (((c - 48 : Nat)) : Int) = ((c - 48 : Nat) : Int) := by simp [IntKind.wrap, IntKind.bits, IntKind.signed]; omega
    have g1 : ((c : Int) == 95) = false := by simp; omega
    have g2 : decide ((48 : Int) ≤ c) = true := by simp; omega
    have g3 : decide ((c : Int) ≤ 57) = true := by simp; omega
    have g4 : decide ((10 : Int) ≤ ((c - 48 : Nat) : Int)) = false := by simp; omega
    have g5 : decide ((255 : Int) < ((c - 48 : Nat) : Int)) = false := by simp; omega
    have w3 : IntKind.u64.wrap (255 - ((c - 48 : Nat) : Int)) = 255 - ((c - 48 : Nat) : Int) := by simp [IntKind.wrap, IntKind.bits, IntKind.signed]; omega
    generalize pv 0 (l.take i) = a at hp ⊢
    rw [hp] at hle
    have q0 : (255 - ((c - 48 : Nat) : Int)).tdiv 10 = (255 - ((c - 48 : Nat) : Int)) / 10 := Int.tdiv_eq_ediv_of_nonneg (by omega)
    have w4 : IntKind.u64.wrap ((255 - ((c - 48 : Nat) : Int)) / 10) = (255 - ((c - 48 : Nat) : Int)) / 10 := by simp [IntKind.wrap, IntKind.bits, IntKind.signed]; omega
    have g6 : decide ((255 - ((c - 48 : Nat) : Int)) / 10 < (a : Int)) = false := by simp; omega
    have w5 : IntKind.u64.wrap ((a : Int) * 10) = (a : Int) * 10 := by simp [IntKind.wrap, IntKind.bits, IntKind.signed]; omega
    have w6 : IntKind.u64.wrap ((a : Int) * 10 + ((c - 48 : Nat) : Int)) = ((a * 10 + (c - 48) : Nat) : Int) := by simp [IntKind.wrap, IntKind.bits, IntKind.signed]; omega
    simp [h1, hc, g1, g2, g3, w8, w64, e3, g4, g5, w3, q0, w4, g6, w5, w6, hw]
    refine hb _ (i + 1) (Wk.fits ?_) h1 (by omega)
    simp [hp]
  · have h1 : i = l.length := by simp at h1; omega
    subst h1
    simp
    refine he _ _ ?_
    simp [e3]
    exact WkV.ofPure (by simp) rfl

theorem ok113 {G : Nat → DV} (h : List Blk) (k : Nat) (hk : k < 256) : Ok Try.prog G 113 [.p (.string (txt (dig k))), .p (.int .i64 10), .p (.int .i64 8)] h (.tup [.p (.int .u64 k), .p .nilIface]) h := by
  have hl := dig_length k (Nat.lt_trans hk (by decide))
  have hne : dig k ≠ [] := by
    by_cases h : k < 10
    · rw [dig_lt h]; simp
    · rw [dig_ge (by omega)]; simp
  refine Ok_by Try.func113 c113_ok r113_ok 23 rfl ?_
  simp [c113, r113]
  refine FF_by (ok148 h (dig k) hne (dig_isDig k) (by rw [pv_dig]; exact hk) (by omega)) ?_
  simp [pv_dig]
end Go.Proofs.Ytbbafeocmchlnaa
