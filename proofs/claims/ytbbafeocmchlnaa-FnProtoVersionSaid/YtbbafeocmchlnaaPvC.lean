/- Versions: parts between points. -/
import Derived.Test.YtbbafeocmchlnaaPvB
set_option linter.unusedVariables false
set_option linter.unusedSimpArgs false
set_option maxRecDepth 100000
namespace Go.Proofs.Ytbbafeocmchlnaa
open Go Go.Den Go.Proofs

def idxOf (c : UInt8) : List UInt8 → Option Nat
  | [] => none
  | x :: l => if x = c then some 0 else (idxOf c l).map (· + 1)
/-- The parts between colons. -/
def splitC : List UInt8 → List (List UInt8)
  | [] => [[]]
  | c :: l => if c = 46 then [] :: splitC l else match splitC l with
    | h :: t => (c :: h) :: t
    | [] => [[c]]

theorem idxOf_none : ∀ {l : List UInt8}, idxOf 46 l = none → splitC l = [l]
  | [], _ => rfl
  | x :: l, h => by
    simp only [idxOf] at h
    split at h
    · cases h
    · rename_i hx
      simp only [Option.map_eq_none_iff] at h
      simp [splitC, hx, idxOf_none h]
theorem idxOf_some : ∀ {l : List UInt8} {i : Nat}, idxOf 46 l = some i → i < l.length ∧ splitC l = l.take i :: splitC (l.drop (i + 1))
  | [], i, h => by cases h
  | x :: l, i, h => by
    simp only [idxOf] at h
    split at h
    · rename_i hx
      cases h
      simp [splitC, hx]
    · rename_i hx
      obtain ⟨j, hj, rfl⟩ := Option.map_eq_some_iff.1 h
      obtain ⟨h1, h2⟩ := idxOf_some hj
      refine ⟨by simpa using h1, ?_⟩
      simp [splitC, hx, h2]
theorem splitC_ne : ∀ l : List UInt8, splitC l ≠ []
  | [] => by simp [splitC]
  | x :: l => by
    simp only [splitC]
    split
    · simp
    · split <;> simp
theorem splitC_dot : ∀ l : List UInt8, splitC (l ++ [46]) = splitC l ++ [[]]
  | [] => by simp [splitC]
  | x :: l => by
    have ih := splitC_dot l
    simp only [List.cons_append, splitC, ih]
    split
    · simp
    · cases hs : splitC l with
      | nil => exact absurd hs (splitC_ne l)
      | cons a t => simp
theorem splitC_snoc {c : UInt8} (hc : c ≠ 46) : ∀ (l : List UInt8) (init : List (List UInt8)) (last : List UInt8), splitC l = init ++ [last] → splitC (l ++ [c]) = init ++ [last ++ [c]]
  | [], init, last, h => by
    cases init with
    | nil =>
      simp [splitC] at h
      subst h
      simp [splitC, hc]
    | cons i0 init => simp [splitC] at h
  | x :: l, init, last, h => by
    simp only [splitC] at h
    split at h
    · rename_i hx
      cases init with
      | nil => simp at h; exact absurd h.2 (splitC_ne l)
      | cons i0 init =>
        simp only [List.cons_append, List.cons.injEq] at h
        obtain ⟨rfl, h⟩ := h
        simp [splitC, hx, splitC_snoc hc l init last h]
    · rename_i hx
      cases hs : splitC l with
      | nil => exact absurd hs (splitC_ne l)
      | cons a t =>
        rw [hs] at h
        simp only at h
        cases init with
        | nil =>
          simp only [List.nil_append, List.cons.injEq] at h
          obtain ⟨rfl, rfl⟩ := h
          have := splitC_snoc hc l [] a (by simpa using hs)
          simp [splitC, hx, this]
        | cons i0 init =>
          simp only [List.cons_append, List.cons.injEq] at h
          obtain ⟨rfl, h⟩ := h
          have := splitC_snoc hc l (a :: init) last (by rw [hs, h]; simp)
          simp [splitC, hx, this]
theorem splitC_part : ∀ (l p : List UInt8), p ∈ splitC l → p.length ≤ l.length
  | [], p, h => by simp [splitC] at h; simp [h]
  | x :: l, p, h => by
    have ih := splitC_part l
    simp only [splitC] at h
    split at h
    · rcases List.mem_cons.1 h with rfl | h
      · simp
      · have := ih p h; simp; omega
    · split at h
      · rename_i a t hs
        rw [hs] at ih
        rcases List.mem_cons.1 h with rfl | h
        · have := ih a (by simp); simp; omega
        · have := ih p (by simp [h]); simp; omega
      · simp at h; simp [h]
theorem splitC_length : ∀ l : List UInt8, (splitC l).length ≤ l.length + 1
  | [] => by simp [splitC]
  | x :: l => by
    have ih := splitC_length l
    simp only [splitC]
    split
    · simp; omega
    · split
      · rename_i h t hs
        rw [hs] at ih
        simp at ih ⊢
        omega
      · simp

theorem ok147 {G : Nat → DV} (h : List Blk) (l : List UInt8) (hl : l.length ≤ 1000000) : Ok Try.prog G 147 [.p (.string (txt l)), .p (.string ⟨#[46]⟩)] h (.p (.int .i64 (match idxOf 46 l with | some i => (i : Int) | none => -1))) h := by
  refine Ok_by Try.func147 c147_ok r147_ok 23 rfl ?_
  simp [c147, r147]
  refine VV_fam (fun i : Nat => ⟨fr 25 [(0, .p (.string (txt l))), (1, .p (.string ⟨#[46]⟩)), (5, .p (.int .i64 i))], h⟩)
    (fun i => i ≤ l.length ∧ (match idxOf 46 l with | some i => (i : Int) | none => -1) = match idxOf 46 (l.drop i) with | some j => ((i + j : Nat) : Int) | none => -1) (l.length - ·) 0 (by simp) (Wk.fits (by simp)) ?_
  intro i hi B hb he hr
  obtain ⟨hi, hall⟩ := hi
  rw [hall] at he hr
  rcases Nat.lt_or_ge i l.length with hi' | hi'
  · have hadd : IntKind.i64.wrap ((i : Int) + 1) = ((i + 1 : Nat) : Int) := wrap_succ hi' (by omega)
    have hd : l.drop i = l[i] :: l.drop (i + 1) := List.drop_eq_getElem_cons hi'
    have e1 : i + 1 ≤ l.length := hi'
    have e2 : (l.take (i + 1)).drop i = [l[i]] := by rw [List.take_succ_eq_append_getElem hi', List.drop_append_of_le_length (by simp; omega)]; simp
    simp [hadd, e1, e2]
    refine CC_by (fun h3 => ?_) (fun h3 => ?_)
    · have hc : l[i] = 46 := by simpa using h3
      have hidx : idxOf 46 (l.drop i) = some 0 := by rw [hd]; simp [idxOf, hc]
      simp
      refine hr _ ?_
      simp [hidx]
    · have hc : ¬ l[i] = 46 := by simpa using h3
      simp [hadd]
      refine hb _ (i + 1) (Wk.fits (by simp)) ⟨hi', ?_⟩ (by omega)
      rw [hall, hd]
      simp only [idxOf, if_neg hc]
      cases idxOf 46 (l.drop (i + 1)) with
      | none => rfl
      | some j => simp only [Option.map_some]; congr 1; omega
  · obtain rfl : i = l.length := by omega
    have hadd : IntKind.i64.wrap ((l.length : Int) + 1) = ((l.length + 1 : Nat) : Int) := wrap_succ (n := 10000000) (by omega) (by omega)
    have e9 : ¬ l.length + 1 ≤ l.length := by omega
    simp [hadd, e9]
    refine he _ _ ?_
    simp [idxOf]

theorem ok112 {G : Nat → DV} (h : List Blk) (l : List UInt8) (hl : l.length ≤ 1000) : Ok Try.prog G 112 [.p (.string (txt l)), .p (.string ⟨#[46]⟩)] h (.fz 1 (strs ((splitC l).map txt))) h := by
  refine Ok_by Try.func112 c112_ok r112_ok 56 rfl ?_
  simp [c112, r112]
  refine VV_fam (fun x : List UInt8 × DV × List Blk => ⟨fr 58 [(0, .p (.string (txt x.1))), (1, .p (.string ⟨#[46]⟩)), (5, x.2.1)], x.2.2⟩)
    (fun x => x.1.length ≤ l.length ∧ ∃ pre, splitC l = pre ++ splitC x.1 ∧ Own h 1 x.2.2 x.2.1 (strs (pre.map txt))) (fun x => x.1.length) (l, .p (.slice none 0 0), h) ⟨by simp, [], by simp, by simpa using Own.nil⟩ (Wk.fits (by simp)) ?_
  rintro ⟨r, d, h'⟩ ⟨hr0, pre, hpre, ho⟩ B hb he hr
  simp only at hr0 hpre ho
  have hplen := splitC_length l
  rw [hpre] at hplen
  simp at hplen
  simp
  refine FF_by (ok147 _ r (by omega)) ?_
  cases hi : idxOf 46 r with
  | none =>
    have h1 := idxOf_none hi
    simp
    refine AA_lit1 ho (by simp; omega) ?_
    intro d2 h2 ho2 _ _
    simp
    refine hr _ ?_
    simp
    rw [hpre, h1]
    have : strs ((pre ++ [r]).map txt) = strs (pre.map txt) ++ [.p (.string (txt r))] := by simp [strs]
    rw [this]
    exact ho2.wk (by rw [← this]; exact strs_plain)
  | some i =>
    obtain ⟨h1, h2⟩ := idxOf_some hi
    have hadd : IntKind.i64.wrap ((i : Int) + 1) = ((i + 1 : Nat) : Int) := wrap_succ h1 (by omega)
    have hi1 : i ≤ r.length := by omega
    have hi2 : i + 1 ≤ r.length := h1
    have hneg : ¬ ((i : Int) < 0) := by omega
    simp [hneg, hi1]
    refine AA_lit1 ho (by simp; omega) ?_
    intro d2 h2' ho2 _ _
    simp [hadd, hi2, h1]
    exact hb _ (r.drop (i + 1), d2, h2') (Wk.fits (by simp)) ⟨by simp; omega, pre ++ [r.take i], by rw [hpre, h2]; simp, by simpa [strs] using ho2⟩ (by simp; omega)


end Go.Proofs.Ytbbafeocmchlnaa
