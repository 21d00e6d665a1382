/- The law FnArnText. -/
import Derived.Test.YthbcdfjobenocaaArA
set_option linter.unusedVariables false
set_option linter.unusedSimpArgs false
set_option maxRecDepth 100000
namespace Go.Proofs.Ythbcdfjobenocaa
open Go Go.Den Go.Proofs

def noColon (l : List UInt8) : List UInt8 := (l.take (min l.length 20)).filter fun b => decide (b ≠ 58)

theorem ok41 {G : Nat → DV} (h : List Blk) (l : List UInt8) : Ok Try.prog G 41 [.p (.string (S l))] h (.p (.string (S (noColon l)))) h := by
  refine Ok_by Try.func41 c41_ok r41_ok 25 rfl ?_
  simp [c41, r41]
  obtain ⟨L, hL⟩ : ∃ L, L = l.take (min l.length 20) := ⟨_, rfl⟩
  have hm : min l.length 20 = L.length := by rw [hL]; simp
  have hL20 : L.length ≤ 20 := by omega
  rw [noColon, ← hL, hm]
  clear hm hL
  refine VV_fam (fun x : Nat × DV × List Blk => ⟨fr 26 [(3, x.2.1), (11, .sl h.length 0 L.length L.length), (12, .p (.int .i64 L.length)), (13, .p (.int .i64 x.1))], x.2.2⟩)
    (fun x => x.1 ≤ L.length ∧ Own (h ++ [.cells 1 (bts L)]) 1 x.2.2 x.2.1 (bts ((L.take x.1).filter fun b => decide (b ≠ 58)))) (fun x => L.length - x.1) (0, .p (.slice none 0 0), h ++ [.cells 1 (bts L)]) ⟨by simp, by simpa using Own.nil⟩ (Wk.fits (by simp)) ?_
  rintro ⟨i, d, h'⟩ ⟨hi, ho⟩ B hb he hr
  simp only at hi ho
  have hcell : h'[h.length]? = some (.cells 1 (bts L)) := ho.pre _ _ (by simp)
  have hlen : ((L.take i).filter fun b => decide (b ≠ 58)).length ≤ i := Nat.le_trans (List.length_filter_le _ _) (by simp)
  simp
  refine CC_by (fun h2 => ?_) (fun h2 => ?_)
  · have hi' : i < L.length := by simpa using h2
    have hadd : IntKind.i64.wrap ((i : Int) + 1) = ((i + 1 : Nat) : Int) := wrap_succ hi' (by omega)
    have hnext : (L.take (i + 1)).filter (fun b => decide (b ≠ 58)) = (L.take i).filter (fun b => decide (b ≠ 58)) ++ if decide (L[i] ≠ 58) = true then [L[i]] else [] := by
      rw [List.take_succ_eq_append_getElem hi', List.filter_append]
      simp [List.filter_cons]
    have hq : (((L[i].toNat : Int) != 58)) = decide (L[i] ≠ 58) := by
      rw [Bool.eq_iff_iff]
      simp
      constructor
      · intro h1 h2; rw [h2] at h1; exact h1 rfl
      · intro h1 h2; exact h1 (UInt8.toNat_inj.1 (by simpa using (by omega : L[i].toNat = 58)))
    simp [hi', hcell, hq]
    refine CC_by (fun h3 => ?_) (fun h3 => ?_)
    · rw [if_pos (by simpa using h3)] at hnext
      simp
      refine AA_lit1 ho (by simp at hlen ⊢; omega) ?_
      intro d2 h2 ho2 _ _
      simp [hadd]
      refine hb _ (i + 1, d2, h2) (Wk.fits (by simp)) ⟨hi', by rw [hnext, ← bts_push]; exact ho2⟩ (by simp; omega)
    · rw [if_neg (by simpa using h3)] at hnext
      simp [hadd]
      refine hb _ (i + 1, d, h') (Wk.fits (by simp)) ⟨hi', by rw [hnext]; simpa using ho⟩ (by simp; omega)
  · have : i = L.length := by simp at h2; omega
    subst this
    simp
    refine he _ _ ?_
    rw [List.take_length] at ho
    simp [ho.slice]
    exact WkV.ofPure (HPre.trans (HPre.append _ _) ho.pre) rfl

def fits9 (a b c d e : List UInt8) : Bool := decide (a.length ≤ 2147483647) && decide (b.length ≤ 2147483647) && decide (c.length ≤ 2147483647) && decide (d.length ≤ 2147483647) && decide (e.length ≤ 2147483647)
theorem ok20 {G : Nat → DV} (h : List Blk) (a b c d e : List UInt8) : Ok Try.prog G 20 [arnD a b c d e] h (.p (.bool (fits9 a b c d e))) h := by
  refine Ok_by Try.func20 c20_ok r20_ok 22 rfl ?_
  simp [c20, r20, arnD]
  refine CC_by (fun h1 => ?_) (fun h1 => ?_)
  · have : ¬ a.length ≤ 2147483647 := by simp at h1; omega
    simp [fits9, this]
  simp
  refine CC_by (fun h2 => ?_) (fun h2 => ?_)
  · have : ¬ b.length ≤ 2147483647 := by simp at h2; omega
    simp [fits9, this]
  simp
  refine CC_by (fun h3 => ?_) (fun h3 => ?_)
  · have : ¬ c.length ≤ 2147483647 := by simp at h3; omega
    simp [fits9, this]
  simp
  refine CC_by (fun h4 => ?_) (fun h4 => ?_)
  · have : ¬ d.length ≤ 2147483647 := by simp at h4; omega
    simp [fits9, this]
  simp
  refine CC_by (fun h5 => ?_) (fun h5 => ?_)
  · have : ¬ e.length ≤ 2147483647 := by simp at h5; omega
    simp [fits9, this]
  · have g1 : a.length ≤ 2147483647 := by simp at h1; omega
    have g2 : b.length ≤ 2147483647 := by simp at h2; omega
    have g3 : c.length ≤ 2147483647 := by simp at h3; omega
    have g4 : d.length ≤ 2147483647 := by simp at h4; omega
    have g5 : e.length ≤ 2147483647 := by simp at h5; omega
    simp [fits9, g1, g2, g3, g4, g5]

theorem ok21 {G : Nat → DV} (h : List Blk) (a b c d e : List UInt8) : Ok Try.prog G 21 [arnD a b c d e] h (arnD (noColon a) (noColon b) (noColon c) (noColon d) (noColon e)) h := by
  refine Ok_by Try.func21 c21_ok r21_ok 18 rfl ?_
  simp [c21, r21, arnD]
  refine DF_by (ok41 _ a) ?_
  simp
  refine DF_by (ok41 _ b) ?_
  simp
  refine DF_by (ok41 _ c) ?_
  simp
  refine DF_by (ok41 _ d) ?_
  simp
  refine DF_by (ok41 _ e) ?_
  simp
  exact WkV.ofPure (by simp) rfl

theorem ok22 {G : Nat → DV} (h : List Blk) (a b c d e : List UInt8) (hl : a.length + b.length + c.length + d.length + e.length ≤ 1000000) : Ok Try.prog G 22 [arnD a b c d e] h (.p (.string (S (arnT a b c d e)))) h := by
  refine Ok_by Try.func22 c22_ok r22_ok 5 rfl ?_
  simp [c22, r22, arnD]
  refine FF_by (ok42 _ a b c d e) ?_
  simp
  refine FF_by (ok43 _ a b c d e hl) ?_
  simp

theorem noColon_length (l : List UInt8) : (noColon l).length ≤ 20 := Nat.le_trans (List.length_filter_le _ _) (by simp)
theorem noColon_mem (l : List UInt8) : 58 ∉ noColon l := by simp [noColon]
theorem splitC_none : ∀ l : List UInt8, 58 ∉ l → splitC l = [l]
  | [], _ => rfl
  | x :: l, h => by
    have hx : x ≠ 58 := fun h' => h (by simp [h'])
    simp [splitC, hx, splitC_none l (fun h' => h (by simp [h']))]
theorem splitC_arnT {a b c d e : List UInt8} (ha : 58 ∉ a) (hb : 58 ∉ b) (hc : 58 ∉ c) (hd : 58 ∉ d) (he : 58 ∉ e) : splitC (arnT a b c d e) = [[97, 114, 110], a, b, c, d, e] := by
  have : arnT a b c d e = [97, 114, 110] ++ 58 :: (a ++ 58 :: (b ++ 58 :: (c ++ 58 :: (d ++ 58 :: e)))) := by simp [arnT]
  rw [this, splitC_head _ _ (by decide), splitC_head _ _ ha, splitC_head _ _ hb, splitC_head _ _ hc, splitC_head _ _ hd, splitC_none _ he]

theorem ok7 (a b c d e : List UInt8) : Ok Try.prog (fun _ => .any) 7 [arnD a b c d e] [] (.p (.bool true)) [] := by
  refine Ok_by Try.func7 c7_ok r7_ok 31 rfl ?_
  simp [c7, r7, arnD]
  refine FF_by (ok20 _ a b c d e) ?_
  simp
  refine CC_by (fun h1 => by simp) (fun h1 => ?_)
  simp
  refine FF_by (ok21 _ a b c d e) ?_
  have ha := noColon_length a
  have hb := noColon_length b
  have hc := noColon_length c
  have hd := noColon_length d
  have he := noColon_length e
  have hs := splitC_arnT (noColon_mem a) (noColon_mem b) (noColon_mem c) (noColon_mem d) (noColon_mem e)
  generalize noColon a = a at *
  generalize noColon b = b at *
  generalize noColon c = c at *
  generalize noColon d = d at *
  generalize noColon e = e at *
  simp [arnD]
  refine FF_by (ok22 _ a b c d e (by omega)) ?_
  simp
  refine FF_by (ok18_ok _ _ (by simp [arnT]; omega) a b c d e hs) ?_
  simp [arnD]
  refine FF_by (ok23 _ a b c d e (by omega)) ?_
  simp

/-- The law's walk, as its row asks for it. -/
theorem arnText_walk (d0 : DV) (s0 : Shaped (.st [(1, .str), (1, .str), (1, .str), (1, .str), (1, .str)]) d0) : Ok Try.prog (fun _ => .any) 7 [d0] [] (.p (.bool true)) [] := by
  cases s0 with
  | st hl h hc =>
    rename_i ds
    match ds, hl, h with
    | [d1, d2, d3, d4, d5], _, h =>
      have g1 := h 0 (by simp) (by simp)
      have g2 := h 1 (by simp) (by simp)
      have g3 := h 2 (by simp) (by simp)
      have g4 := h 3 (by simp) (by simp)
      have g5 := h 4 (by simp) (by simp)
      simp only [List.getElem_cons_zero, List.getElem_cons_succ] at g1 g2 g3 g4 g5
      cases g1 with | @str a _ =>
      cases g2 with | @str b _ =>
      cases g3 with | @str c _ =>
      cases g4 with | @str d _ =>
      cases g5 with | @str e _ =>
      have := ok7 a.data.toList b.data.toList c.data.toList d.data.toList e.data.toList
      simp only [arnD, ← S_of] at this
      exact this

end Go.Proofs.Ythbcdfjobenocaa
