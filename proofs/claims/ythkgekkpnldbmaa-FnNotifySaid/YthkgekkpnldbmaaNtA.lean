/- Notices: ARNs. -/
import Derived.Test.YthkgekkpnldbmaaEvD
set_option linter.unusedVariables false
set_option linter.unusedSimpArgs false
set_option maxRecDepth 100000
namespace Go.Proofs.Ythkgekkpnldbmaa
open Go Go.Den Go.Proofs


/-- A text of these bytes. -/
def S (l : List UInt8) : ByteArray := ⟨l.toArray⟩
@[simp] theorem S_size (l : List UInt8) : (S l).size = l.length := by simp [S]
theorem S_inj {a b : List UInt8} : S a = S b ↔ a = b := by simp [S]
@[simp] theorem S_eq (a b : List UInt8) : (S a = S b) = (a = b) := propext S_inj
theorem S_of (s : ByteArray) : s = S s.data.toList := by cases s; simp [S]
@[simp] theorem S_eq_mk (a : List UInt8) (x : Array UInt8) : (S a = ByteArray.mk x) = (a = x.toList) := by
  simp only [S, eq_iff_iff]
  constructor
  · intro h
    have := congrArg (fun s : ByteArray => s.data.toList) h
    simpa using this
  · rintro rfl; simp
@[simp] theorem S_extract (l : List UInt8) (a b : Nat) : (S l).extract a b = S ((l.take b).drop a) := by
  have h : ∀ {x y : ByteArray}, x.data.toList = y.data.toList → x = y := fun {x y} h => by cases x; cases y; simp at h; rw [h]
  apply h
  simp [S, List.extract_eq_take_drop, List.drop_take]
@[simp] theorem S_append (a b : List UInt8) : S a ++ S b = S (a ++ b) := by
  have h : ∀ {x y : ByteArray}, x.data.toList = y.data.toList → x = y := fun {x y} h => by cases x; cases y; simp at h; rw [h]
  apply h
  simp [S]
theorem mk_S (x : Array UInt8) : ByteArray.mk x = S x.toList := by simp [S]

theorem S_nil : S [] = ⟨#[]⟩ := rfl
@[simp] theorem mk_append_S (x : Array UInt8) (b : List UInt8) : ByteArray.mk x ++ S b = S (x.toList ++ b) := by rw [mk_S, S_append]
@[simp] theorem S_append_mk (a : List UInt8) (x : Array UInt8) : S a ++ ByteArray.mk x = S (a ++ x.toList) := by rw [mk_S, S_append]
@[simp] theorem S_data (l : List UInt8) : (S l).data = l.toArray := rfl

/-- An ARN's fields. -/
def arnD (a b c d e : List UInt8) : DV := .agg [.p (.string (S a)), .p (.string (S b)), .p (.string (S c)), .p (.string (S d)), .p (.string (S e))]
theorem ok52 {G : Nat → DV} (h : List Blk) (a b c d e : List UInt8) : Ok Try.prog G 52 [.p (.string (S a)), .p (.string (S b)), .p (.string (S c)), .p (.string (S d)), .p (.string (S e))] h (arnD a b c d e) h := by
  refine Ok_by Try.func52 c52_ok r52_ok 12 rfl ?_
  simp [c52, r52, arnD]
  refine WkV.junk ?_
  simp
theorem ok38 {G : Nat → DV} (h : List Blk) (a b c d e : List UInt8) : Ok Try.prog G 38 [arnD a b c d e] h (arnD a b c d e) h := by
  refine Ok_by Try.func38 c38_ok r38_ok 13 rfl ?_
  simp [c38, r38, arnD]
  refine FF_by (ok52 _ a b c d e) ?_
  simp [arnD]
  refine WkV.junk ?_
  simp
def noColon (l : List UInt8) : List UInt8 := (l.take (min l.length 20)).filter fun b => decide (b ≠ 58)

theorem ok20 {G : Nat → DV} (h : List Blk) (l : List UInt8) : Ok Try.prog G 20 [.p (.string (S l))] h (.p (.string (S (noColon l)))) h := by
  refine Ok_by Try.func20 c20_ok r20_ok 25 rfl ?_
  simp [c20, r20]
  obtain ⟨L, hL⟩ : ∃ L, L = l.take (min l.length 20) := ⟨_, rfl⟩
  have hm : min l.length 20 = L.length := by rw [hL]; simp
  have hL20 : L.length ≤ 20 := by omega
  rw [noColon, ← hL, hm]
  clear hm hL
  refine VV_fam (fun x : Nat × DV × List Blk => ⟨fr 26 [(3, x.2.1), (11, .fz 1 (bts L)), (12, .p (.int .i64 L.length)), (13, .p (.int .i64 x.1))], x.2.2⟩)
    (fun x => x.1 ≤ L.length ∧ Own h 1 x.2.2 x.2.1 (bts ((L.take x.1).filter fun b => decide (b ≠ 58)))) (fun x => L.length - x.1) (0, .p (.slice none 0 0), h) ⟨by simp, by simpa using Own.nil⟩ (Wk.fits (by simp)) ?_
  rintro ⟨i, d, h'⟩ ⟨hi, ho⟩ B hb he hr
  simp only at hi ho
  have hlen : ((L.take i).filter fun b => decide (b ≠ 58)).length ≤ i := Nat.le_trans (List.length_filter_le _ _) (by simp)
  simp
  refine CC_by (fun h2 => ?_) (fun h2 => ?_)
  · have hi' : i < L.length := by simpa using h2
    have hadd : IntKind.i64.wrap ((i : Int) + 1) = ((i + 1 : Nat) : Int) := wrap_succ hi' (by omega)
    have hnext : (L.take (i + 1)).filter (fun b => decide (b ≠ 58)) = (L.take i).filter (fun b => decide (b ≠ 58)) ++ if decide (L[i] ≠ 58) = true then [L[i]] else [] := by
      rw [List.take_succ_eq_append_getElem hi', List.filter_append]
      simp [List.filter_cons]
    have hq : (((L[i].toNat : Int) != 58)) = decide (L[i] ≠ 58) := by
      rw [Bool.eq_iff_iff]
      simp
      constructor
      · intro h1 h2; rw [h2] at h1; exact h1 rfl
      · intro h1 h2; exact h1 (UInt8.toNat_inj.1 (by simpa using (by omega : L[i].toNat = 58)))
    simp [hi', hq]
    refine CC_by (fun h3 => ?_) (fun h3 => ?_)
    · rw [if_pos (by simpa using h3)] at hnext
      simp
      refine AA_lit1 ho (by simp at hlen ⊢; omega) ?_
      intro d2 h2 ho2 _ _
      simp [hadd]
      refine hb _ (i + 1, d2, h2) (Wk.fits (by simp)) ⟨hi', by rw [hnext, ← bts_push]; exact ho2⟩ (by simp; omega)
    · rw [if_neg (by simpa using h3)] at hnext
      simp [hadd]
      refine hb _ (i + 1, d, h') (Wk.fits (by simp)) ⟨hi', by rw [hnext]; simpa using ho⟩ (by simp; omega)
  · have : i = L.length := by simp at h2; omega
    subst this
    simp
    refine he _ _ ?_
    rw [List.take_length] at ho
    simp [ho.slice]
    exact WkV.ofPure ho.pre rfl

def fits9 (a b c d e : List UInt8) : Bool := decide (a.length ≤ 2147483647) && decide (b.length ≤ 2147483647) && decide (c.length ≤ 2147483647) && decide (d.length ≤ 2147483647) && decide (e.length ≤ 2147483647)
theorem ok34 {G : Nat → DV} (h : List Blk) (a b c d e : List UInt8) : Ok Try.prog G 34 [arnD a b c d e] h (.p (.bool (fits9 a b c d e))) h := by
  refine Ok_by Try.func34 c34_ok r34_ok 22 rfl ?_
  simp [c34, r34, arnD]
  refine CC_by (fun h1 => ?_) (fun h1 => ?_)
  · have : ¬ a.length ≤ 2147483647 := by simp at h1; omega
    simp [fits9, this]
  simp
  refine CC_by (fun h2 => ?_) (fun h2 => ?_)
  · have : ¬ b.length ≤ 2147483647 := by simp at h2; omega
    simp [fits9, this]
  simp
  refine CC_by (fun h3 => ?_) (fun h3 => ?_)
  · have : ¬ c.length ≤ 2147483647 := by simp at h3; omega
    simp [fits9, this]
  simp
  refine CC_by (fun h4 => ?_) (fun h4 => ?_)
  · have : ¬ d.length ≤ 2147483647 := by simp at h4; omega
    simp [fits9, this]
  simp
  refine CC_by (fun h5 => ?_) (fun h5 => ?_)
  · have : ¬ e.length ≤ 2147483647 := by simp at h5; omega
    simp [fits9, this]
  · have g1 : a.length ≤ 2147483647 := by simp at h1; omega
    have g2 : b.length ≤ 2147483647 := by simp at h2; omega
    have g3 : c.length ≤ 2147483647 := by simp at h3; omega
    have g4 : d.length ≤ 2147483647 := by simp at h4; omega
    have g5 : e.length ≤ 2147483647 := by simp at h5; omega
    simp [fits9, g1, g2, g3, g4, g5]

theorem ok10 {G : Nat → DV} (h : List Blk) (a b c d e : List UInt8) : Ok Try.prog G 10 [arnD a b c d e] h (arnD (noColon a) (noColon b) (noColon c) (noColon d) (noColon e)) h := by
  refine Ok_by Try.func10 c10_ok r10_ok 18 rfl ?_
  simp [c10, r10, arnD]
  refine DF_by (ok20 _ a) ?_
  simp
  refine DF_by (ok20 _ b) ?_
  simp
  refine DF_by (ok20 _ c) ?_
  simp
  refine DF_by (ok20 _ d) ?_
  simp
  refine DF_by (ok20 _ e) ?_
  simp
  exact WkV.ofPure (by simp) rfl

theorem noColon_length (l : List UInt8) : (noColon l).length ≤ 20 := Nat.le_trans (List.length_filter_le _ _) (by simp)

end Go.Proofs.Ythkgekkpnldbmaa
