/- The reference's writer of MessagePack: heads, texts. (turned from another seat by mkpu.py) -/
import Derived.Test.YtppjcnaffphakaaGreatDoorMpA
set_option linter.unusedVariables false
set_option linter.unusedSimpArgs false
set_option maxRecDepth 100000
set_option maxHeartbeats 4000000
namespace Go.Proofs.YtppjcnaffphakaaGreatDoor
open Go Go.Den Go.Proofs

theorem beB_get : ∀ (k n i : Nat) (h : i < (beB k n).length), (beB k n)[i] = UInt8.ofNat (n / 256 ^ (k - 1 - i))
  | 0, n, i, h => by simp at h
  | k + 1, n, i, h => by
    simp only [beB]
    rw [List.getElem_append]
    split
    · rename_i h1
      have h2 : i < k := by simpa using h1
      rw [beB_get k]
      congr 1
      rw [Nat.div_div_eq_div_mul, ← Nat.pow_succ']
      congr 2
      omega
    · rename_i h1
      have h2 : i = k := by simp at h1 h; omega
      subst h2
      simp

theorem bts_set {l : List UInt8} {i : Nat} {c : UInt8} : (bts l).set i (.p (.int .u8 c.toNat)) = bts (l.set i c) := by
  rw [show DV.p (.int .u8 c.toNat) = byteD c from rfl]
  simp [bts, List.map_set]

theorem set_grow {l : List UInt8} {k i : Nat} (hl : l.length = k) (h : i < k) : (l.take i ++ List.replicate (k - i) 0).set i (l[i]'(by omega)) = l.take (i + 1) ++ List.replicate (k - (i + 1)) 0 := by
  obtain ⟨m, hm⟩ : ∃ m, k - i = m + 1 := ⟨k - i - 1, by omega⟩
  rw [hm, List.replicate_succ, show k - (i + 1) = m by omega, List.set_append_right _ _ (by rw [List.length_take]; omega)]
  have : i - (l.take i).length = 0 := by rw [List.length_take]; omega
  rw [this, List.set_cons_zero, List.take_succ_eq_append_getElem (by omega), List.append_assoc]
  rfl

theorem ok50 {G : Nat → DV} (h : List Blk) (n k : Nat) (hn : n < 18446744073709551616) (hk : k ≤ 8) : Ok Tryz.prog G 50 [.p (.int .u64 n), .p (.int .i64 k)] h (.p (.string (txt (beB k n)))) h := by
  refine Ok_by Tryz.func50 c50_ok r50_ok 26 rfl ?_
  simp [c50, r50]
  refine MK_sl (by simp) (by simp) (by omega) ?_
  simp
  refine VV_fam (fun i : Nat => ⟨fr 28 [(0, .p (.int .u64 n)), (1, .p (.int .i64 k)), (5, .sl h.length 0 k k), (10, .p (.int .i64 k)), (11, .p (.int .i64 i))], h ++ [.cells 1 (bts ((beB k n).take i ++ List.replicate (k - i) 0))]⟩)
    (fun i => i ≤ k) (fun i => k - i) 0 (by simp) ?_ ?_
  · have e0 : bts ((beB k n).take 0 ++ List.replicate (k - 0) 0) = List.replicate k (DV.p (.int .u8 0)) := by simp [bts, byteD]
    rw [e0]
    exact Wk.fits (by simp)
  intro i hi B hbk he hr
  have hlen : ((beB k n).take i ++ List.replicate (k - i) 0).length = k := by simp; omega
  have hset := fun hik : i < k => set_grow (beB_length k n) hik
  simp
  refine CC_by (fun h2 => ?_) (fun h2 => ?_)
  · have hik : i < k := by simp at h2; omega
    have hset := hset hik
    generalize hL : (beB k n).take i ++ List.replicate (k - i) 0 = L at hlen hset ⊢
    have e1 : IntKind.i64.wrap ((k : Int) - 1) = ((k - 1 : Nat) : Int) := by simp [IntKind.wrap, IntKind.bits, IntKind.signed]; omega
    have e2 : IntKind.i64.wrap (((k - 1 : Nat) : Int) - (i : Int)) = ((k - 1 - i : Nat) : Int) := by simp [IntKind.wrap, IntKind.bits, IntKind.signed]; omega
    have e3 : IntKind.i64.wrap (8 * ((k - 1 - i : Nat) : Int)) = 8 * ((k - 1 - i : Nat) : Int) := by simp [IntKind.wrap, IntKind.bits, IntKind.signed]; omega
    have e4 : IntKind.i64.wrap ((i : Int) + 1) = ((i + 1 : Nat) : Int) := wrap_succ hik (by omega)
    have hiL : i < L.length := by omega
    have e5 : (bts L)[i]?.getD .any = .p (.int .u8 L[i].toNat) := bts_get hiL
    have hb : i < (beB k n).length := by simpa using hik
    have e6 : IntKind.u8.wrap (ishr .u64 (n : Int) (8 * ((k - 1 - i : Nat) : Int))) = (((beB k n)[i]).toNat : Int) := by
      rw [beB_get, show 8 * ((k - 1 - i : Nat) : Int) = ((8 * (k - 1 - i) : Nat) : Int) by simp]
      have e7 : ishr .u64 (n : Int) ((8 * (k - 1 - i) : Nat) : Int) = ((n / 256 ^ (k - 1 - i) : Nat) : Int) := by
        unfold ishr
        rw [Int.toNat_natCast, Nat.min_eq_left (by simp [IntKind.bits]; omega)]
        rw [Int.fdiv_eq_ediv_of_nonneg _ (Int.le_of_lt (Int.pow_pos (by decide)))]
        have : ((2 : Int) ^ 8) = ((256 : Nat) : Int) := by decide
        rw [Int.pow_mul, this]
        exact_mod_cast rfl
      rw [e7]
      simp [IntKind.wrap, IntKind.bits, IntKind.signed]
    simp [e1, e2, e3, e4, hlen, hik, e5, e6, bts_set, hset]
    refine ⟨by omega, hbk _ (i + 1) ?_ hik (by omega)⟩
    exact Wk.fits (by simp)
  · have : i = k := by simp at h2; omega
    subst this
    simp
    refine he _ _ ?_
    have e0 : (beB i n).take i = beB i n := List.take_of_length_le (by simp)
    simp [e0]
    exact WkV.junk (by simp)
/-- Texts. -/
def txs (l : List (List UInt8)) : List DV := strs (l.map txt)

@[simp] theorem txs_length {l : List (List UInt8)} : (txs l).length = l.length := by simp [txs]

@[simp] theorem txs_plain {l : List (List UInt8)} : plainL (txs l) := strs_plain

theorem txs_push {l : List (List UInt8)} {x : List UInt8} : txs l ++ [.p (.string (txt x))] = txs (l ++ [x]) := by simp [txs, strs]

theorem txs_get {l : List (List UInt8)} {i : Nat} (h : i < l.length) : (txs l)[i]?.getD .any = .p (.string (txt l[i])) := by simp [txs, strs, h]

@[simp] theorem txs_getElem {l : List (List UInt8)} {i : Nat} (h : i < (txs l).length) : (txs l)[i] = .p (.string (txt (l[i]'(by simpa using h)))) := by simp [txs, strs]

def hcand (n few : Nat) (W : List UInt8) (i : Nat) : List (List UInt8) := [UInt8.ofNat (few + n)] :: (List.range i).map fun j => (W[j]?.getD 0) :: beB (2 ^ (j + 3 - W.length)) n

theorem hcand_succ (n few : Nat) (W : List UInt8) (i : Nat) (hi : i < W.length) : hcand n few W (i + 1) = hcand n few W i ++ [W[i] :: beB (2 ^ (i + 3 - W.length)) n] := by simp [hcand, List.range_succ, hi]

@[simp] theorem hcand_length (n few : Nat) (W : List UInt8) (i : Nat) : (hcand n few W i).length = i + 1 := by simp [hcand]

theorem ok27 {G : Nat → DV} (hG : GZ G) (h : List Blk) (n few most way : Nat) (W : List UInt8) (hf : few = 144 ∧ n < 16 ∨ few = 160 ∧ n < 32) (hm : n ≤ most) (hmm : most < 256) (hW : W.length = 2 ∨ W.length = 3) (hway : way < 9223372036854775808) :
    Ok Tryz.prog G 27 [.p (.int .i64 n), .p (.int .u8 few), .p (.int .u8 most), .fz 1 (bts W), .p (.int .i64 way)] h (.p (.string (txt (nthWay (hcand n few W W.length) way)))) h := by
  refine Ok_by Tryz.func27 c27_ok r27_ok 64 rfl ?_
  have w1 : IntKind.i64.wrap (most : Int) = most := by simp [IntKind.wrap, IntKind.bits, IntKind.signed]; omega
  have w2 : IntKind.u8.wrap (n : Int) = n := by simp [IntKind.wrap, IntKind.bits, IntKind.signed]; omega
  obtain ⟨c0, hc0⟩ : ∃ c0 : UInt8, c0 = UInt8.ofNat (few + n) := ⟨_, rfl⟩
  have w3 : ior .u8 (few : Int) (n : Int) = (c0.toNat : Int) := by
    have k1 : ∀ m : Fin 16, ior .u8 144 (m.val : Int) = (((UInt8.ofNat (144 + m.val)).toNat : Nat) : Int) := by decide
    have k2 : ∀ m : Fin 32, ior .u8 160 (m.val : Int) = (((UInt8.ofNat (160 + m.val)).toNat : Nat) : Int) := by decide
    rw [hc0]
    rcases hf with ⟨rfl, h1⟩ | ⟨rfl, h1⟩
    · exact k1 ⟨n, h1⟩
    · exact k2 ⟨n, h1⟩
  have isb : ∀ c : UInt8, isByte (.p (.int .u8 c.toNat)) = true := fun c => isByte_bts (l := [c]) _ (by simp [bts, byteD])
  have sOf : ∀ c : UInt8, strOf [.p (.int .u8 c.toNat)] = txt [c] := fun c => strOf_bts [c]
  have w4 : IntKind.u64.wrap (n : Int) = n := by simp [IntKind.wrap, IntKind.bits, IntKind.signed]; omega
  simp [c27, r27, w1, w2, w3, hm, isb, sOf]
  refine AA_own (h1 := h) (els := txs []) (Own.nil' (by simp)) (ys := txs [[c0]]) (by simp [elemsOf, txs, strs]) (by simp) ?_
  intro d h1 ho hle hothers
  have ho : Own h 1 h1 d (txs (hcand n few W 0)) := by simpa [hcand, hc0, txs] using ho
  simp
  refine VV_fam (fun q : Nat × DV × List Blk => ⟨fr 69 [(0, .p (.int .i64 n)), (3, .fz 1 (bts W)), (4, .p (.int .i64 way)), (11, q.2.1), (28, .fz 1 (bts W)), (29, .p (.int .i64 W.length)), (30, .p (.int .i64 q.1))], q.2.2⟩)
    (fun q => q.1 ≤ W.length ∧ Own h 1 q.2.2 q.2.1 (txs (hcand n few W q.1))) (fun q => W.length - q.1) (0, d, h1) ⟨by simp, ho⟩ (Wk.fits (by simp)) ?_
  rintro ⟨i, d, h1⟩ ⟨hi, ho⟩ B hbk he hr
  simp only at hi ho
  simp
  refine CC_by (fun h2 => ?_) (fun h2 => ?_)
  · have hik : i < W.length := by simp at h2; omega
    obtain ⟨m, hm2⟩ : ∃ m, m = i + 3 - W.length := ⟨_, rfl⟩
    have e1 : IntKind.i64.wrap (IntKind.i64.wrap ((i : Int) + 3) - (W.length : Int)) = (m : Int) := by simp [IntKind.wrap, IntKind.bits, IntKind.signed]; omega
    have e4 : IntKind.i64.wrap ((i : Int) + 1) = ((i + 1 : Nat) : Int) := wrap_succ hik (by omega)
    have hs : m = 0 ∨ m = 1 ∨ m = 2 := by omega
    have n256 : (n : Int) < 256 := by omega
    have n64k : (n : Int) < 65536 := by omega
    have hw0 : W[i]?.getD 0 = W[i] := by simp [hik]
    have hnx := hcand_succ n few W i hik
    rw [← hm2] at hnx
    rcases hs with rfl | rfl | rfl
    all_goals
      simp [hik, e1, show ishl .i64 1 0 = 1 by decide, show ishl .i64 1 1 = 2 by decide, show ishl .i64 1 2 = 4 by decide, show IntKind.i64.wrap 8 = 8 by decide, show IntKind.i64.wrap 16 = 16 by decide, show ishl .i64 1 8 = 256 by decide, show ishl .i64 1 16 = 65536 by decide, n256, n64k, isb, sOf, w4]
      have c1 := ok50 (G := G) h1 n 1 (by omega) (by omega)
      have c2 := ok50 (G := G) h1 n 2 (by omega) (by omega)
      have c4 := ok50 (G := G) h1 n 4 (by omega) (by omega)
      first | refine DF_by c1 ?_ | refine DF_by c2 ?_ | refine DF_by c4 ?_
      simp
      refine DA_own ho (ys := [.p (.string (txt (W[i] :: beB _ n)))]) (by simp [elemsOf]; rfl) (by simp; omega) ?_
      intro d' h2 ho' hle' hoth
      have ho' : Own h 1 h2 d' (txs (hcand n few W (i + 1))) := by rw [hnx, ← txs_push]; exact ho'
      simp [e4]
      refine hbk _ (i + 1, d', h2) ?_ ⟨hik, ho'⟩ (by dsimp only; omega)
      exact Wk.fits (by simp)
  · have : i = W.length := by simp at h2; omega
    subst this
    simp
    refine he _ _ ?_
    have hp := ho.pre
    rcases ho.2 with ⟨_, hnil⟩ | ⟨b, rfl, hb1, hb2⟩
    · simp [txs, strs, hcand] at hnil
    · have e7 : way % (W.length + 1) < (hcand n few W W.length).length := by rw [hcand_length]; exact Nat.mod_lt _ (by omega)
      have e8 := txs_get e7
      have e10 : nthWay (hcand n few W W.length) way = (hcand n few W W.length)[way % (W.length + 1)] := by
        unfold nthWay
        rw [hcand_length, List.getElem?_eq_getElem e7]
        rfl
      have e6 : (way : Int) % ((W.length : Int) + 1) = ((way % (W.length + 1) : Nat) : Int) := by simp
      rw [e10]
      generalize way % (W.length + 1) = j at e6 e7 e8 ⊢
      have e9 : (way : Int).tmod ((W.length : Int) + 1) = (j : Int) := by rw [Int.tmod_eq_emod_of_nonneg (by omega), e6]
      have e11 : ¬ (W.length : Int) + 1 = 0 := by omega
      have e12 : (j : Int) < (W.length : Int) + 1 := by simp at e7; omega
      simp [hb2, e9, e8, e11, e12]
      exact WkV.ofPure hp rfl
theorem ok12 {G : Nat → DV} (hG : GZ G) (h : List Blk) (n way : Nat) (hn : n < 16) (hway : way < 9223372036854775808) : Ok Tryz.prog G 12 [.p (.int .i64 n), .p (.int .i64 way)] h (.p (.string (txt (nthWay (headsL n) way)))) h := by
  refine Ok_by Tryz.func12 c12_ok r12_ok 7 rfl ?_
  simp [c12, r12]
  have e : headsL n = hcand n 144 [220, 221] 2 := by
    have h1 : n ≤ 15 := by omega
    have h2 : n < 256 ^ 2 := by rw [pow_lits.2.1]; omega
    simp [headsL, heads, hcand, h1, h2, List.range_succ]
  rw [e]
  refine FF_by (Ok.lend hG (ok27 hG [] n 144 15 way [220, 221] (.inl ⟨rfl, hn⟩) (by omega) (by omega) (.inl rfl) hway) (.cons .p (.cons .p (.cons .p (.cons (.sl (els := bts [220, 221]) (by simp [bts, byteD]) (by simp) bts_plain) (.cons .p .nil))))) rfl) ?_
  simp


end Go.Proofs.YtppjcnaffphakaaGreatDoor
