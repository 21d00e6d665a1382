/- A set of texts is read, in JSON or MessagePack. -/
import Derived.Test.YtppjcnaffphakaaGreatDoorJtG
import Derived.Test.YtppjcnaffphakaaGreatDoorMsB
import Derived.Test.YtppjcnaffphakaaGreatDoorStB
set_option linter.unusedVariables false
set_option linter.unusedSimpArgs false
set_option maxRecDepth 100000
set_option maxHeartbeats 4000000
namespace Go.Proofs.YtppjcnaffphakaaGreatDoor
open Go Go.Den Go.Proofs

/-- What is read, and what is left. -/
def readD (o : Option (List (List UInt8) × List UInt8)) : DV := match o with
  | some (xs, r) => .tup [.fz 1 (strs (setOf (xs.map txt))), .p (.string (txt r)), .p (.bool true)]
  | none => .tup [.p (.slice none 0 0), .p (.string ⟨#[]⟩), .p (.bool false)]
theorem setOf_fold (ns : List ByteArray) : setOf (ns.foldl addNew []) = setOf ns := setOf_ext fun x => by rw [mem_foldl]; simp
theorem fold_len (ns : List ByteArray) : (ns.foldl addNew []).length ≤ ns.length := addNew_length ns
theorem fold_nodup (ns : List ByteArray) : (ns.foldl addNew []).Nodup := nodup_foldl ns [] (by simp)
theorem ok9j {G : Nat → DV} (hG : GZ G) (h : List Blk) (r : List UInt8) (xs : List (List UInt8)) (hN1 : xs.length ≤ 1000) (hl : (91 :: r).length ≤ 1000000000) (hE : ElT r (some (xs, []))) :
    Ok Tryz.prog G 9 [.p (.int .i64 0), .p (.string (txt (91 :: r)))] h (readD (some (xs, []))) h := by
  refine Ok_by Tryz.func9 c9_ok r9_ok 33 rfl ?_
  generalize hL : (91 :: r : List UInt8) = L
  simp [c9, r9]
  rw [← hL]
  refine FF_byR (ok23a hG (h ++ [.cells 1 [.p (.map none)]]) h.length r xs (by simp) hN1 hl hE) ?_
  rintro v h1 ⟨rfl, mb, hmb, hpre, hmap⟩
  have e0 : (h ++ [Blk.cells 1 [.p (.map none)]]).set h.length (.cells 1 [.mp mb]) = h ++ [.cells 1 [.mp mb]] := by simp
  rw [e0] at hpre
  have g1 : h1[h.length]? = some (.cells 1 [.mp mb]) := hpre _ _ (by simp)
  simp [g1]
  refine DF_by (ok26 hG h1 mb ((xs.map txt).foldl addNew []) hmap (by have := fold_len (xs.map txt); simp at this; omega) (fold_nodup (xs.map txt))) ?_
  rw [setOf_fold]
  simp [readD, txt_nil, strOf]
  exact WkV.cut (HPre.trans (HPre.append _ _) hpre) (Nat.le_refl _) id (by simp)
theorem ok9n {G : Nat → DV} (hG : GZ G) (h : List Blk) (r : List UInt8) (hl : (91 :: r).length ≤ 1000000000) (hE : ElT r none) :
    Ok Tryz.prog G 9 [.p (.int .i64 0), .p (.string (txt (91 :: r)))] h (readD none) h := by
  refine Ok_by Tryz.func9 c9_ok r9_ok 33 rfl ?_
  generalize hL : (91 :: r : List UInt8) = L
  simp [c9, r9]
  rw [← hL]
  refine FF_byR (ok23b hG _ _ r hl hE) ?_
  rintro v h1 ⟨⟨t, e, rfl⟩, rfl⟩
  simp [readD]
  exact WkV.ofPure (HPre.append _ _) rfl
theorem ok9e {G : Nat → DV} (h : List Blk) : Ok Tryz.prog G 9 [.p (.int .i64 0), .p (.string (txt []))] h (readD none) h := by
  refine Ok_by Tryz.func9 c9_ok r9_ok 33 rfl ?_
  simp [c9, r9]
  refine FF_byR (ok23c _ _) ?_
  rintro v h1 ⟨⟨t, e, rfl⟩, rfl⟩
  simp [readD]
  exact WkV.ofPure (HPre.append _ _) rfl
theorem readN_len {α : Type} (d : List UInt8 → Option (α × List UInt8)) : ∀ (n : Nat) (r : List UInt8) (xs : List α) (r' : List UInt8), readN d n r = some (xs, r') → xs.length = n
  | 0, r, xs, r', h => by cases h; rfl
  | n + 1, r, xs, r', h => by
    simp only [readN, bindD] at h
    split at h
    · rename_i x hx
      cases h2 : readN d n x.2 with
      | none => rw [h2] at h; cases h
      | some y =>
        rw [h2] at h
        cases h
        have := readN_len d n x.2 y.1 y.2 (by rw [h2])
        simp [this]
    · cases h
theorem ok9m {G : Nat → DV} (hG : GZ G) (h : List Blk) (b : List UInt8) (hb : b.length ≤ 140737488351232) (hn : b.head? ≠ some 192) (hx : ∀ xs r, readMsg readStr b = some (xs, r) → xs.length ≤ 1000) :
    Ok Tryz.prog G 9 [.p (.int .i64 1), .p (.string (txt b))] h (readD (readMsg readStr b)) h := by
  refine Ok_by Tryz.func9 c9_ok r9_ok 33 rfl ?_
  simp [c9, r9]
  refine FF_byR (ok24 hG (h ++ [.cells 1 [.p (.map none)]]) h.length b (by simp) hn hb) ?_
  intro v h1 hv
  cases hE : readMsg readStr b with
  | none =>
    rw [hE] at hv
    obtain ⟨⟨t, e, rfl⟩, rfl⟩ := hv
    simp [readD]
    exact WkV.ofPure (HPre.append _ _) rfl
  | some o =>
    obtain ⟨xs, r⟩ := o
    rw [hE] at hv
    obtain ⟨rfl, rfl⟩ := hv
    have hxs := hx xs r hE
    have e0 : ((h ++ [Blk.cells 1 [.p (.map none)]]) ++ [Blk.map (smap ((xs.map txt).foldl addNew []))]).set h.length (.cells 1 [.mp (h ++ [Blk.cells 1 [.p (.map none)]]).length]) = h ++ [.cells 1 [.mp (h.length + 1)], .map (smap ((xs.map txt).foldl addNew []))] := by simp
    rw [e0]
    simp
    refine DF_by (ok26 hG _ (h.length + 1) ((xs.map txt).foldl addNew []) (by simp) (by have := fold_len (xs.map txt); simp at this; omega) (fold_nodup (xs.map txt))) ?_
    rw [setOf_fold]
    simp [readD, txt]
    exact WkV.cut (HPre.append _ _) (Nat.le_refl _) id (by simp)
end Go.Proofs.YtppjcnaffphakaaGreatDoor
