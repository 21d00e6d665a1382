/- Turned from another seat by mkpn.py. -/
import Derived.Test.YthkgekkpnldbmaaNtF
set_option linter.unusedVariables false
set_option linter.unusedSimpArgs false
set_option maxRecDepth 100000
set_option maxHeartbeats 4000000
namespace Go.Proofs.Ythkgekkpnldbmaa
open Go Go.Den Go.Proofs



def keepT (a b : List ByteArray) (k : Bool) : List ByteArray := a.filter fun y => setHas b y == k
theorem keepT_length (a b : List ByteArray) (k : Bool) : (keepT a b k).length ≤ a.length := List.length_filter_le _ _

theorem ok30g {G : Nat → DV} (hG : GZ G) (h : List Blk) (a b : List ByteArray) (db : DV) (hdb : ∀ h', HPre h h' → FrzR h' [] db (.fz 1 (strs b))) (hwb : WF (· < h.length) db) (k : Bool) (ha : a.length ≤ 1000) (hb : b.length ≤ 1000) :
    Ok Try.prog G 13 [.fz 1 (strs a), db, .p (.bool k)] h (.fz 1 (strs (setOf (keepT a b k)))) h := by
  refine Ok.wf fun hw => ?_
  refine Ok_by Try.func13 c13_ok r13_ok 25 rfl ?_
  simp [c13, r13]
  let F : Nat × DV × List Blk → St := fun x => if x.1 < a.length then ⟨fr 28 [(1, db), (2, .p (.bool k)), (7, x.2.1), (10, .fz 1 (strs a)), (11, .p (.int .i64 a.length)), (12, .p (.int .i64 x.1))], x.2.2⟩
    else ⟨fr 28 [(7, .fz 1 (strs (keepT a b k))), (11, .p (.int .i64 a.length)), (12, .p (.int .i64 a.length))], h⟩
  have F1 : ∀ i d h', i < a.length → F (i, d, h') = ⟨fr 28 [(1, db), (2, .p (.bool k)), (7, d), (10, .fz 1 (strs a)), (11, .p (.int .i64 a.length)), (12, .p (.int .i64 i))], h'⟩ := fun i d h' hi => if_pos hi
  have F2 : ∀ i d h', ¬ i < a.length → F (i, d, h') = ⟨fr 28 [(7, .fz 1 (strs (keepT a b k))), (11, .p (.int .i64 a.length)), (12, .p (.int .i64 a.length))], h⟩ := fun i d h' hi => if_neg hi
  refine VV_fam F (fun x => x.1 ≤ a.length ∧ Own h 1 x.2.2 x.2.1 (strs (keepT (a.take x.1) b k))) (fun x => a.length - x.1) (0, .p (.slice none 0 0), h) ⟨by simp, by simpa [keepT] using Own.nil⟩ ?_ ?_
  · by_cases h0 : 0 < a.length
    · rw [F1 _ _ _ h0]
      exact Wk.fits (by simp)
    · rw [F2 _ _ _ h0]
      have : a = [] := List.eq_nil_of_length_eq_zero (by omega)
      subst this
      have hd : ∀ (c : Nat) (k : Blk), h[c]? = some k → h[c]? = some k ∨ k = .dead := fun c k hc => .inl hc
      refine Wk.fitsF (Nat.le_refl _) hd id ?_ (hG.frz hd)
      simp [Den.fitsF, FrzR_p, keepT]
      exact FrzR.nil
  rintro ⟨i, d, h'⟩ ⟨hi, ho⟩ B hbk he hr
  simp only at hi ho
  by_cases hi' : i < a.length
  · rw [F1 _ _ _ hi']
    have hadd : IntKind.i64.wrap ((i : Int) + 1) = ((i + 1 : Nat) : Int) := wrap_succ hi' (by omega)
    have hnext : keepT (a.take (i + 1)) b k = keepT (a.take i) b k ++ if (setHas b a[i] == k) = true then [a[i]] else [] := by
      rw [keepT, List.take_succ_eq_append_getElem hi', List.filter_append]
      simp [List.filter_cons, keepT]
    have hlen : (keepT (a.take i) b k).length ≤ a.length := Nat.le_trans (List.length_filter_le _ _) (by simp)
    have hd' : (i : Int) < a.length := by omega
    simp [hi']
    refine FF_by (Ok.lend hG (ok22 [] b a[i] (by simp [maxLen_eq]; omega)) (.cons (hdb _ ho.pre) (.cons .p .nil)) rfl) ?_
    simp
    refine CC_by (fun h3 => ?_) (fun h3 => ?_)
    · have h3' : (setHas b a[i] == k) = true := by simpa using h3
      rw [if_pos h3'] at hnext
      simp
      refine AA_lit1 ho (by simp; omega) ?_
      intro d2 h2 ho2 _ _
      have ho3 : Own h 1 h2 d2 (strs (keepT (a.take (i + 1)) b k)) := by rw [hnext, ← strs_push]; exact ho2
      simp [hadd]
      refine hbk _ (i + 1, d2, h2) ?_ ⟨hi', ho3⟩ (by simp; omega)
      by_cases hl : i + 1 < a.length
      · rw [F1 _ _ _ hl]
        exact Wk.fits (by simp)
      · rw [F2 _ _ _ hl]
        have hia : i + 1 = a.length := by omega
        rw [hia, List.take_length] at ho3
        have hd : ∀ (c : Nat) (k : Blk), h[c]? = some k → h2[c]? = some k ∨ k = .dead := fun c k hc => .inl (ho3.pre c k hc)
        refine Wk.fitsF (Nat.le_refl _) hd id ?_ (hG.frz hd)
        simp [Den.fitsF, FrzR_p, ← hia]
        exact ho3.frzR1 hw strs_plain
    · have h3' : ¬ (setHas b a[i] == k) = true := by simpa using h3
      rw [if_neg h3', List.append_nil] at hnext
      have ho3 : Own h 1 h' d (strs (keepT (a.take (i + 1)) b k)) := by rw [hnext]; exact ho
      simp [hadd]
      refine hbk _ (i + 1, d, h') ?_ ⟨hi', ho3⟩ (by simp; omega)
      by_cases hl : i + 1 < a.length
      · rw [F1 _ _ _ hl]
        exact Wk.fits (by simp)
      · rw [F2 _ _ _ hl]
        have hia : i + 1 = a.length := by omega
        rw [hia, List.take_length] at ho3
        have hd : ∀ (c : Nat) (k : Blk), h[c]? = some k → h'[c]? = some k ∨ k = .dead := fun c k hc => .inl (ho3.pre c k hc)
        refine Wk.fitsF (Nat.le_refl _) hd id ?_ (hG.frz hd)
        simp [Den.fitsF, FrzR_p, ← hia]
        exact ho3.frzR1 hw strs_plain
  · rw [F2 _ _ _ hi']
    simp
    refine he _ _ ?_
    simp
    have := keepT_length a b k
    refine FF_by (ok23 _ (keepT a b k) (by omega)) ?_
    simp
theorem ok13 {G : Nat → DV} (hG : GZ G) (h : List Blk) (a b : List ByteArray) (k : Bool) (ha : a.length ≤ 1000) (hb : b.length ≤ 1000) :
    Ok Try.prog G 13 [.fz 1 (strs a), .fz 1 (strs b), .p (.bool k)] h (.fz 1 (strs (setOf (keepT a b k)))) h := ok30g hG h a b _ (fun h' _ => FrzR.fz strs_plain) (by simp) k ha hb
end Go.Proofs.Ythkgekkpnldbmaa
