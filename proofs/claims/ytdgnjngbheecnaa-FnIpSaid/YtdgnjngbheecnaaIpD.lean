/- Addresses: a text's parts. -/
import Derived.Test.YtdgnjngbheecnaaIpC
set_option linter.unusedVariables false
set_option linter.unusedSimpArgs false
set_option maxRecDepth 100000
namespace Go.Proofs.Ytdgnjngbheecnaa
open Go Go.Den Go.Proofs

/-- One sign more: the parts that are done, and the one that is under way. -/
def spStep (c : UInt8) (s : List (List UInt8) × List UInt8) (x : UInt8) : List (List UInt8) × List UInt8 := if x = c then (s.1 ++ [s.2], []) else (s.1, s.2 ++ [x])
def spSt (c : UInt8) (l : List UInt8) : List (List UInt8) × List UInt8 := l.foldl (spStep c) ([], [])
/-- A text's parts at a sign. -/
def parts (c : UInt8) (l : List UInt8) : List (List UInt8) := (spSt c l).1 ++ [(spSt c l).2]
def txs (l : List (List UInt8)) : List DV := strs (l.map txt)
theorem spSt_snoc (c : UInt8) (l : List UInt8) (x : UInt8) : spSt c (l ++ [x]) = spStep c (spSt c l) x := by simp [spSt]
theorem spSt_len (c : UInt8) (l : List UInt8) : (spSt c l).1.length ≤ l.length := by
  have : ∀ (l : List UInt8) (s : List (List UInt8) × List UInt8), (l.foldl (spStep c) s).1.length ≤ s.1.length + l.length := by
    intro l
    induction l with
    | nil => intro s; simp
    | cons x l ih =>
      intro s
      have := ih (spStep c s x)
      have h2 : (spStep c s x).1.length ≤ s.1.length + 1 := by unfold spStep; split <;> simp
      simp only [List.foldl_cons, List.length_cons]
      omega
  simpa [spSt] using this l ([], [])
theorem txs_push (a : List (List UInt8)) (s : List UInt8) : txs a ++ [DV.p (.string (txt s))] = txs (a ++ [s]) := by simp [txs, strs]
@[simp] theorem txs_length (l : List (List UInt8)) : (txs l).length = l.length := by simp [txs]
theorem ok101 {G : Nat → DV} (h : List Blk) (l : List UInt8) (c : UInt8) (hl : l.length ≤ 2147483647) : Ok Try.prog G 101 [.p (.string (txt l)), .p (.int .u8 c.toNat)] h (.fz 1 (txs (parts c l))) h := by
  refine Ok_by Try.func101 c101_ok r101_ok 32 rfl ?_
  simp [c101, r101]
  refine VV_fam (fun x : Nat × Nat × DV × List Blk => ⟨fr 34 [(0, .p (.string (txt l))), (1, .p (.int .u8 c.toNat)), (5, x.2.2.1), (6, .p (.int .i64 x.2.1)), (9, .p (.int .i64 l.length)), (10, .p (.int .i64 x.1))], x.2.2.2⟩)
    (fun x => x.1 ≤ l.length ∧ x.2.1 ≤ x.1 ∧ (l.take x.1).drop x.2.1 = (spSt c (l.take x.1)).2 ∧ Own h 1 x.2.2.2 x.2.2.1 (txs (spSt c (l.take x.1)).1)) (fun x => l.length - x.1) (0, 0, .p (.slice none 0 0), h) ⟨by simp, by simp, by simp [spSt], by simpa [spSt, txs] using Own.nil⟩ (Wk.fits (by simp)) ?_
  rintro ⟨i, fm, d, h1⟩ ⟨hi, hf, hcur, ho⟩ B hb he hr
  simp only at hi hf hcur ho
  simp
  refine CC_by (fun h2 => ?_) (fun h2 => ?_)
  · have hi' : i < l.length := by simpa using h2
    have hw : IntKind.i64.wrap ((i : Int) + 1) = ((i + 1 : Nat) : Int) := wrap_succ hi' (by omega)
    have hlen := spSt_len c (l.take i)
    have hnext : spSt c (l.take (i + 1)) = spStep c (spSt c (l.take i)) l[i] := by rw [List.take_succ_eq_append_getElem hi', spSt_snoc]
    simp at hlen
    simp [hi', byteD]
    refine CC_by (fun h3 => ?_) (fun h3 => ?_)
    · have hx : l[i] = c := by
        have : (l[i]).toNat = c.toNat := by simp at h3; omega
        exact UInt8.toNat_inj.1 this
      have hst : spStep c (spSt c (l.take i)) l[i] = ((spSt c (l.take i)).1 ++ [(spSt c (l.take i)).2], []) := by simp [spStep, hx]
      have hfi : (fm : Int) ≤ i := by omega
      simp [hfi, hf]
      refine ⟨by omega, ?_⟩
      rw [hcur]
      refine AA_lit1 ho (by simp; omega) ?_
      intro d2 h2' ho2 _ _
      simp [hw]
      refine hb _ (i + 1, i + 1, d2, h2') (Wk.fits (by simp)) ⟨hi', by simp, ?_, ?_⟩ (by simp; omega)
      · simp only [hnext, hst]
        rw [List.drop_of_length_le (by simp)]
      · simp only [hnext, hst, ← txs_push]; exact ho2
    · have hx : ¬ l[i] = c := fun h => by rw [h] at h3; simp at h3
      have hst : spStep c (spSt c (l.take i)) l[i] = ((spSt c (l.take i)).1, (spSt c (l.take i)).2 ++ [l[i]]) := by simp [spStep, hx]
      simp [hw]
      refine hb _ (i + 1, fm, d, h1) (Wk.fits (by simp)) ⟨hi', by simp; omega, ?_, ?_⟩ (by simp; omega)
      · simp only [hnext, hst]
        rw [List.take_succ_eq_append_getElem hi', List.drop_append_of_le_length (by simp; omega), hcur]
      · simp only [hnext, hst]; exact ho
  · have : i = l.length := by simp at h2; omega
    subst this
    rw [List.take_length] at hcur ho
    have hlen := spSt_len c l
    simp
    refine he _ _ ?_
    simp
    refine ⟨by omega, ?_⟩
    rw [hcur]
    refine AA_lit1 ho (by simp; omega) ?_
    intro d2 h2' ho2 _ _
    rw [txs_push] at ho2
    simp
    exact ho2.wk strs_plain
end Go.Proofs.Ytdgnjngbheecnaa
