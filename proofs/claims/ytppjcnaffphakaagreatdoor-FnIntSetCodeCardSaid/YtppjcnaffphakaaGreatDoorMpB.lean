/- MessagePack: a set of numbers is read. (turned from another seat by mkpu.py) -/
import Derived.Test.YtppjcnaffphakaaGreatDoorMpA
import Derived.Test.YtppjcnaffphakaaGreatDoorSeB
set_option linter.unusedVariables false
set_option linter.unusedSimpArgs false
set_option maxRecDepth 100000
set_option maxHeartbeats 4000000
namespace Go.Proofs.YtppjcnaffphakaaGreatDoor
open Go Go.Den Go.Proofs

theorem numD_len {k : Nat} {r : List UInt8} {n : Nat} {r' : List UInt8} (h : numD k r = some (n, r')) : r'.length ≤ r.length := by have := (numD_lt h).2; omega

theorem readArr_len {b : List UInt8} {n : Nat} {r : List UInt8} (h : readArr b = some (n, r)) : r.length ≤ b.length ∧ n < 4294967296 := by
  cases b with
  | nil => cases h
  | cons c b =>
    simp only [readArr] at h
    split at h
    · cases h
      refine ⟨by simp, by omega⟩
    · split at h
      · have := numD_len h
        have h2 := (numD_lt h).1
        rw [pow_lits.2.1] at h2
        refine ⟨by simp; omega, by omega⟩
      · split at h
        · have := numD_len h
          have h2 := (numD_lt h).1
          rw [pow_lits.2.2.1] at h2
          refine ⟨by simp; omega, by omega⟩
        · cases h

theorem readInt_len {b : List UInt8} {n : Int} {r : List UInt8} (h : readInt b = some (n, r)) : r.length ≤ b.length := by
  cases b with
  | nil => cases h
  | cons c b =>
    simp only [readInt] at h
    repeat' split at h
    · cases h; simp
    · cases h; simp
    · unfold bindD at h
      split at h
      · rename_i x hx
        have := numD_len hx
        dsimp only at h
        split at h
        · cases h
          simp; omega
        · cases h
      · cases h
    · obtain ⟨x, h1, h2⟩ := Option.map_eq_some_iff.1 h
      cases h2
      have := numD_len h1
      simp; omega
    · cases h
/-- What UnmarshalMsg leaves. -/
def MsgOut (h : List Blk) (pb : Nat) (o : Option (List Int × List UInt8)) (v : DV) (h' : List Blk) : Prop :=
  match o with
  | some (xs, r) => v = .tup [.fz 1 (bts r), .p .nilIface] ∧ h' = (h ++ [Blk.map (smap (xs.foldl addNew []))]).set pb (.cells 1 [.mp h.length])
  | none => (∃ t e, v = .tup [.p (.slice none 0 0), .iface t (.p (.string e))]) ∧ h' = h
theorem ok36 {G : Nat → DV} (hG : GZ G) (h : List Blk) (pb : Nat) (b : List UInt8) (hp : h[pb]? = some (.cells 1 [.p (.map none)])) (hn : b.head? ≠ some 192) (hb : b.length ≤ 140737488351232) :
    OkR Tryz.prog G 36 [.ptr pb 0 0 1, .fz 1 (bts b)] h (MsgOut h pb (readMsg readInt b)) := by
  refine OkR.wf fun hw => ?_
  have hpl : pb < h.length := (List.getElem?_eq_some_iff.1 hp).1
  refine OkR_by Tryz.func36 c36_ok r36_ok 51 rfl ?_
  cases b with
  | nil =>
    simp [c36]
    refine FF_byR (ok47 h [] hb) ?_
    rintro v h1 ⟨rfl, r2, t, e, rfl⟩
    simp [r36]
    exact REr_by _ _ WkV.refl ⟨⟨t, e, rfl⟩, rfl⟩
  | cons c r0 =>
    have hc : ((c.toNat : Int) == 192) = false := by
      have : c ≠ 192 := fun hh => hn (by simp [hh])
      have h2 : c.toNat ≠ 192 := fun hh => this (by rw [← UInt8.ofNat_toNat (x := c), hh]; rfl)
      simp; omega
    have e3 : (bts (c :: r0))[0]?.getD .any = .p (.int .u8 c.toNat) := rfl
    have hl0 : (0 : Int) < (r0.length : Int) + 1 := by omega
    simp [c36, e3, hc, hl0]
    refine FF_byR (ok47 h _ hb) ?_
    rintro v h1 ⟨rfl, hv⟩
    unfold readMsg bindD
    cases h3 : readArr (c :: r0) with
    | none =>
      rw [h3] at hv
      obtain ⟨r2, t, e, rfl⟩ := hv
      simp [r36]
      exact REr_by _ _ WkV.refl ⟨⟨t, e, rfl⟩, rfl⟩
    | some o =>
      obtain ⟨n, r⟩ := o
      rw [h3] at hv
      obtain rfl : v = _ := hv
      obtain ⟨hrl, hn32⟩ := readArr_len h3
      simp only at hrl ⊢
      simp
      refine VV_fam (fun q : Nat × List UInt8 × List Int => ⟨fr 53 [(0, .ptr pb 0 0 1), (1, .fz 1 (bts q.2.1)), (7, .p .nilIface), (8, .mp h1.length), (33, .p (.int .i64 n)), (34, .p (.int .i64 q.1))], h1 ++ [Blk.map (smap (q.2.2.foldl addNew []))]⟩)
        (fun q => q.1 ≤ n ∧ q.2.1.length ≤ 140737488351232 ∧ readN readInt n r = (readN readInt (n - q.1) q.2.1).map fun x => (q.2.2 ++ x.1, x.2)) (fun q => n - q.1) (0, r, []) ⟨by simp, by dsimp only; omega, by simp⟩ (Wk.fits (by simp)) ?_
      rintro ⟨i, ri, xs⟩ ⟨hi, hrb, heq⟩ B hbk he hr
      simp only at hi hrb heq
      simp
      refine CC_by (fun h2 => ?_) (fun h2 => ?_)
      · have hin : i < n := by simp at h2; omega
        simp
        refine FF_byR (ok60 _ ri hrb) ?_
        rintro v h1 ⟨rfl, hv⟩
        have hsucc : n - i = (n - (i + 1)) + 1 := by omega
        cases h4 : readInt ri with
        | none =>
          rw [h4] at hv
          obtain ⟨r2, t, e, rfl⟩ := hv
          have hnone : readN readInt n r = none := by rw [heq, hsucc, readN, bindD, h4]; rfl
          simp
          refine hr _ ?_
          simp [r36]
          refine REr_by _ _ (WkV.ofPure (HPre.append _ _) rfl) ?_
          rw [hnone]
          exact ⟨⟨t, e, rfl⟩, rfl⟩
        | some o =>
          obtain ⟨y, r2⟩ := o
          rw [h4] at hv
          obtain rfl : v = _ := hv
          have e4 : IntKind.i64.wrap ((i : Int) + 1) = ((i + 1 : Nat) : Int) := wrap_succ hin (by omega)
          simp
          refine FF_by (ok59 (_ ++ [Blk.map (smap (xs.foldl addNew []))]) _ (xs.foldl addNew []) y (by simp) (noIter_push (hw.noIter (Nat.le_refl _)) (by simp))) ?_
          simp [e4]
          have := readInt_len h4
          have ef : (xs ++ [y]).foldl addNew [] = addNew (xs.foldl addNew []) y := by simp
          refine hbk _ (i + 1, r2, xs ++ [y]) (by dsimp only; rw [ef]; exact Wk.fits (by simp)) ⟨hin, by dsimp only; omega, ?_⟩ (by dsimp only; omega)
          rw [heq, hsucc, readN, bindD, h4]
          dsimp only
          cases readN readInt (n - (i + 1)) r2 <;> simp
      · have : i = n := by simp at h2; omega
        subst this
        simp
        refine he _ _ ?_
        simp [r36, get_pre hp]
        refine REr_by _ _ WkV.refl ?_
        rw [heq, Nat.sub_self, readN]
        simp [MsgOut]


end Go.Proofs.YtppjcnaffphakaaGreatDoor
