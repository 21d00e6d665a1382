/- Numbers as texts (turned from another seat by mkpq.py) -/
import Derived.Test.YtdgnjngbheecnaaDoorCodQ
import Derived.Test.YtdgnjngbheecnaaDoorLibE
set_option linter.unusedVariables false
set_option linter.unusedSimpArgs false
set_option maxRecDepth 100000
namespace Go.Proofs.YtdgnjngbheecnaaDoor
open Go Go.Den Go.Proofs



def dg (n : Nat) : UInt8 := UInt8.ofNat (48 + n % 10)
/-- A number's digits. -/
def dig (n : Nat) : List UInt8 := if h : n < 10 then [dg n] else dig (n / 10) ++ [dg n]
termination_by n
decreasing_by omega
theorem dig_lt {n : Nat} (h : n < 10) : dig n = [dg n] := by rw [dig]; simp [h]
theorem dig_ge {n : Nat} (h : 10 ≤ n) : dig n = dig (n / 10) ++ [dg n] := by rw [dig]; simp [Nat.not_lt.2 h]
theorem dig_next (n : Nat) : dig n = (if n / 10 = 0 then [] else dig (n / 10)) ++ [dg n] := by
  by_cases h : n < 10
  · rw [dig_lt h, if_pos (by omega)]; rfl
  · rw [dig_ge (by omega), if_neg (by omega)]

theorem digitAt (n : Nat) : ([48, 49, 50, 51, 52, 53, 54, 55, 56, 57, 97, 98, 99, 100, 101, 102, 103, 104, 105, 106, 107, 108, 109, 110, 111, 112, 113, 114, 115, 116, 117, 118, 119, 120, 121, 122] : List UInt8)[n % 10]?.getD 0 = dg n := by
  have key : ∀ d : Fin 10, ([48, 49, 50, 51, 52, 53, 54, 55, 56, 57, 97, 98, 99, 100, 101, 102, 103, 104, 105, 106, 107, 108, 109, 110, 111, 112, 113, 114, 115, 116, 117, 118, 119, 120, 121, 122] : List UInt8)[d.val]?.getD 0 = UInt8.ofNat (48 + d.val) := by decide
  exact key ⟨n % 10, Nat.mod_lt _ (by decide)⟩

theorem ok57 {G : Nat → DV} (h : List Blk) (n0 : Nat) (hn : n0 < 18446744073709551616) : Ok Tryd.prog G 57 [.p (.int .u64 n0), .p (.int .i64 10)] h (.p (.string (txt (dig n0)))) h := by
  refine Ok_by Tryd.func57 c57_ok r57_ok 34 rfl ?_
  have w10 : IntKind.u64.wrap 10 = 10 := by decide
  have h20 : n0 < 10 ^ 20 := by
    have : (18446744073709551616 : Nat) < 10 ^ 20 := by decide
    omega
  simp [c57, r57]
  refine VV_fam (fun x : Nat × List UInt8 × Nat => ⟨fr 36 [(0, .p (.int .u64 x.1)), (1, .p (.int .i64 10)), (5, .ptr h.length 0 0 1), (6, .p (.int .i64 x.2.2))], h ++ [.cells 64 [.agg (List.replicate x.2.2 (.p (.int .u8 0)) ++ bts x.2.1)]]⟩)
    (fun x => x.2.2 + x.2.1.length = 64 ∧ x.2.1.length ≤ 20 ∧ ((x.2.1 = [] ∧ x.1 = n0) ∨ (x.2.1 ≠ [] ∧ dig n0 = (if x.1 = 0 then [] else dig x.1) ++ x.2.1)) ∧ x.1 < 10 ^ (20 - x.2.1.length)) (fun x => 20 - x.2.1.length) (n0, [], 64)
    ⟨rfl, by simp, .inl ⟨rfl, rfl⟩, h20⟩ (Wk.fits (by simp)) ?_
  rintro ⟨n, ds, k⟩ ⟨hk, hl, hd, hlt⟩ B hb he hr
  simp only at hk hl hd hlt
  obtain ⟨j, rfl⟩ : ∃ j, k = j + 1 := ⟨k - 1, by omega⟩
  have hnn : n < 18446744073709551616 := by
    rcases hd with ⟨_, rfl⟩ | ⟨hne, _⟩
    · exact hn
    · have h1 : 1 ≤ ds.length := List.length_pos_iff.2 hne
      have h2 : 10 ^ (20 - ds.length) ≤ 10 ^ 19 := Nat.pow_le_pow_right (by decide) (by omega)
      have h3 : (10 : Nat) ^ 19 = 10000000000000000000 := by decide
      omega
  have hwj : IntKind.i64.wrap (j : Int) = j := by simp [IntKind.wrap, IntKind.bits, IntKind.signed]; omega
  have hwd : IntKind.u64.wrap ((n : Int) / 10) = (n : Int) / 10 := by simp [IntKind.wrap, IntKind.bits, IntKind.signed]; omega
  have hj64 : j < 64 := by omega
  have hjj : ((j : Int) < 64) := by omega
  have e1 : (n : Int).tmod 10 = (n : Int) % 10 := Int.tmod_eq_emod_of_nonneg (by omega)
  have e2 : ((n : Int) % 10).toNat = n % 10 := by omega
  have e3 : (n : Int).tdiv 10 = (n : Int) / 10 := Int.tdiv_eq_ediv_of_nonneg (by omega)
  have e6 : 0 ≤ (n : Int) % 10 := by omega
  have e7 : (n : Int) % 10 < 36 := by omega
  have e4 : List.take j (List.replicate (j + 1) (DV.p (Value.int .u8 0)) ++ bts ds) = List.replicate j (DV.p (Value.int .u8 0)) := by
    rw [List.take_append_of_le_length (by simp), List.take_replicate]
    congr 1; omega
  have e4' : List.take j (DV.p (Value.int .u8 0) :: (List.replicate j (DV.p (Value.int .u8 0)) ++ bts ds)) = List.replicate j (DV.p (Value.int .u8 0)) := by
    rw [← List.cons_append, ← List.replicate_succ]; exact e4
  have e8 : ∀ x : UInt8, DV.p (Value.int .u8 x.toNat) :: bts ds = bts (x :: ds) := fun x => rfl
  have e5 : List.drop (j + 1) (List.replicate (j + 1) (DV.p (Value.int .u8 0)) ++ bts ds) = bts ds := by
    rw [List.drop_append_of_le_length (by simp), List.drop_replicate]; simp
  have hd2 : ds.length < 20 → dig n0 = (if n / 10 = 0 then [] else dig (n / 10)) ++ dg n :: ds ∨ n = 0 ∧ ds ≠ [] := by
    intro _
    rcases hd with ⟨rfl, rfl⟩ | ⟨hne, hd⟩
    · left; rw [dig_next]
    · by_cases h0 : n = 0
      · exact .inr ⟨h0, hne⟩
      · left
        rw [if_neg h0, dig_next n] at hd
        rw [hd]; simp
  have hlt2 : ds.length < 20 → n / 10 < 10 ^ (20 - (ds.length + 1)) := by
    intro hl
    have : 10 ^ (20 - ds.length) = 10 ^ (20 - (ds.length + 1)) * 10 := by rw [← Nat.pow_succ]; congr 1; omega
    omega
  simp
  have key : (ds = [] ∨ 0 < n) → ds.length < 20 := by
    rintro (rfl | h0)
    · simp
    · rcases Nat.lt_or_ge ds.length 20 with h1 | h1
      · exact h1
      · rw [show 20 - ds.length = 0 by omega] at hlt
        omega
  cases hq : ((j : Int) + 1 == 64)
  · have hne : ds ≠ [] := fun h => by subst h; simp at hk hq; omega
    simp
    refine CC_by (fun h1 => ?_) (fun h1 => ?_)
    · have h0 : 0 < n := by simpa using h1
      have hls := key (.inr h0)
      simp [hwj, hwd, e1, e2, e3, e4', e5, e6, e7, hj64, hjj, digitAt, byteD, w10, e8]
      refine ⟨by omega, hb _ (n / 10, dg n :: ds, j) (Wk.fits (by simp)) ⟨by simp; omega, by simp; omega, .inr ⟨by simp, ?_⟩, ?_⟩ (by simp; omega)⟩
      · exact (hd2 hls).resolve_right (by omega)
      · simpa using hlt2 hls
    · have h0 : n = 0 := by simp at h1; omega
      subst h0
      have hfin : dig n0 = ds := by
        rcases hd with ⟨h, _⟩ | ⟨_, h⟩
        · exact absurd h hne
        · simpa using h
      simp
      refine he _ _ ?_
      have hjl : ((j : Int) + 1 ≤ 64) := by omega
      have eA : ∀ a, (DV.p (Value.int .u8 0) :: (List.replicate j (DV.p (Value.int .u8 0)) ++ bts ds))[j + 1 + a]? = (bts ds)[a]? := by
        intro a
        rw [← List.cons_append, ← List.replicate_succ, List.getElem?_append_right (by simp)]
        simp
      have eM : List.map (fun x => (bts ds)[x]?.getD .any) (List.range (63 - j)) = bts ds := by
        apply List.ext_getElem
        · simp; omega
        · intro i h1 h2
          simp at h1 h2
          simp [h2]
      simp [hjl, eA, eM]
      rw [hfin]
      exact WkV.ofPure (by simp) rfl
  · have hnil : ds = [] := by simp at hq; exact List.eq_nil_of_length_eq_zero (by omega)
    have hls := key (.inl hnil)
    simp [hwj, hwd, e1, e2, e3, e4', e5, e6, e7, hj64, hjj, digitAt, byteD, w10, e8]
    refine ⟨by omega, hb _ (n / 10, dg n :: ds, j) (Wk.fits (by simp)) ⟨by simp; omega, by simp; omega, .inr ⟨by simp, ?_⟩, ?_⟩ (by simp; omega)⟩
    · exact (hd2 hls).resolve_right (fun h => h.2 hnil)
    · simpa using hlt2 hls


theorem utf8_digit (n : Nat) : Utf8.encode (48 + (n : Int) % 10) = txt [dg n] := by
  have key : ∀ d : Fin 10, Utf8.encode (48 + (d.val : Int)) = txt [UInt8.ofNat (48 + d.val)] := by decide +kernel
  have := key ⟨n % 10, Nat.mod_lt _ (by decide)⟩
  have e : ((n : Int) % 10) = ((n % 10 : Nat) : Int) := by omega
  rw [e]
  exact this




def verD (a b c : Nat) : DV := .agg [.p (.int .u64 a), .p (.int .u64 b), .p (.int .u64 c)]
def B64 : Nat := 18446744073709551616
theorem ok30 {G : Nat → DV} (h : List Blk) (a b c : Nat) : Ok Tryd.prog G 30 [verD a b c] h (verD a b c) h := by
  refine Ok_by Tryd.func30 c30_ok r30_ok 9 rfl ?_
  simp [c30, r30, verD]
  exact WkV.ofPure (by simp) rfl
theorem dig_length (n : Nat) (h : n < B64) : (dig n).length ≤ 20 := by
  have : ∀ k n, n < 10 ^ (k + 1) → (dig n).length ≤ k + 1 := by
    intro k
    induction k with
    | zero => intro n hn; rw [dig_lt (by simpa using hn)]; simp
    | succ k ih =>
      intro n hn
      by_cases h10 : n < 10
      · rw [dig_lt h10]; simp
      · rw [dig_ge (by omega)]
        have := ih (n / 10) (by rw [Nat.pow_succ] at hn; omega)
        simp; omega
  exact this 19 n (Nat.lt_trans h (by decide))

def I64 (n : Int) : Prop := -9223372036854775808 ≤ n ∧ n ≤ 9223372036854775807
/-- A whole number's decimal text. -/
def decI (n : Int) : List UInt8 := if n < 0 then 45 :: dig n.natAbs else dig n.natAbs
theorem decI_length (n : Int) (h : I64 n) : (decI n).length ≤ 21 := by
  have := dig_length n.natAbs (by have := h.1; have := h.2; simp [B64]; omega)
  unfold decI; split <;> simp <;> omega
theorem neg64 {n : Int} (h : I64 n) (h0 : n < 0) : IntKind.u64.wrap (-IntKind.u64.wrap n) = (n.natAbs : Int) ∧ IntKind.u64.wrap n = n + 18446744073709551616 := by
  have := h.1
  simp [IntKind.wrap, IntKind.bits, IntKind.signed]
  omega
theorem pos64 {n : Int} (h : I64 n) (h0 : ¬ n < 0) : IntKind.u64.wrap n = (n.natAbs : Int) := by
  have := h.2
  simp [IntKind.wrap, IntKind.bits, IntKind.signed]
  omega
theorem ok91 {G : Nat → DV} (h : List Blk) (n : Int) (hn : I64 n) : Ok Tryd.prog G 91 [.p (.int .i64 n), .p (.int .i64 10)] h (.p (.string (txt (decI n)))) h := by
  refine Ok_by Tryd.func91 c91_ok r91_ok 15 rfl ?_
  have hN : n.natAbs < 18446744073709551616 := by have := hn.1; have := hn.2; omega
  have hdl := dig_length n.natAbs hN
  simp [c91, r91]
  refine CC_by (fun h1 => ?_) (fun h1 => ?_)
  · have h1 : n < 0 := by simpa using h1
    simp [(neg64 hn h1).1]
    refine FF_by (ok57 _ n.natAbs hN) ?_
    simp [decI, h1]
    omega
  · have h1 : ¬ n < 0 := by simpa using h1
    simp [pos64 hn h1]
    refine FF_by (ok57 _ n.natAbs hN) ?_
    simp [decI, h1]
theorem ok63 {G : Nat → DV} (h : List Blk) (n : Int) (hn : I64 n) : Ok Tryd.prog G 63 [.p (.int .i64 n)] h (.p (.string (txt (decI n)))) h := by
  refine Ok_by Tryd.func63 c63_ok r63_ok 4 rfl ?_
  simp [c63, r63]
  refine FF_by (ok91 _ n hn) ?_
  simp

end Go.Proofs.YtdgnjngbheecnaaDoor
