/- Checksums: base64's tables. -/
import Derived.Test.YtdgnjngbheecnaaSuA
import Derived.Test.YtdgnjngbheecnaaLibE
set_option linter.unusedVariables false
set_option linter.unusedSimpArgs false
set_option maxRecDepth 100000
namespace Go.Proofs.Ytdgnjngbheecnaa
open Go Go.Den Go.Proofs

def alph : List UInt8 := [65, 66, 67, 68, 69, 70, 71, 72, 73, 74, 75, 76, 77, 78, 79, 80, 81, 82, 83, 84, 85, 86, 87, 88, 89, 90, 97, 98, 99, 100, 101, 102, 103, 104, 105, 106, 107, 108, 109, 110, 111, 112, 113, 114, 115, 116, 117, 118, 119, 120, 121, 122, 48, 49, 50, 51, 52, 53, 54, 55, 56, 57, 43, 47]
theorem alph_length : alph.length = 64 := rfl
/-- The map back, when so many signs are in it. -/
def dm : Nat → List UInt8
  | 0 => List.replicate 256 255
  | i + 1 => (dm i).set (alph.getD i 0).toNat (UInt8.ofNat i)
theorem dm_length : ∀ i, (dm i).length = 256
  | 0 => by simp [dm]
  | i + 1 => by simp [dm, dm_length i]
theorem dm_new : ∀ i : Fin 64, (dm i.val)[(alph.getD i.val 0).toNat]? = some 255 ∧ alph.getD i.val 0 ≠ 10 ∧ alph.getD i.val 0 ≠ 13 := by decide +kernel
/-- An encoding's block. -/
def encB (d : List UInt8) : Blk := .cells 322 [.agg (bts alph ++ (bts d ++ [.p (.int .i32 61), .p (.bool false)]))]
theorem bts_set (l : List UInt8) (i : Nat) (x : UInt8) : (bts l).set i (byteD x) = bts (l.set i x) := by simp [bts, List.map_set]
theorem bts_one {l : List UInt8} : ∀ x ∈ bts l, x.one = true := by
  intro x hx
  simp only [bts, List.mem_map] at hx
  obtain ⟨y, _, rfl⟩ := hx
  rfl
theorem byte_ne {c : UInt8} {k : Nat} (hk : k < 256) (h : c ≠ UInt8.ofNat k) : ((c.toNat : Int) == (k : Int)) = false := by
  rw [beq_eq_false_iff_ne]
  intro e
  refine h (UInt8.toNat_inj.1 ?_)
  have : c.toNat = k := by omega
  rw [this]
  simp
  omega
theorem ok134 {G : Nat → DV} (h : List Blk) : Ok Try.prog G 134 [.p (.string (txt alph))] h (.ptr h.length 0 0 1) (h ++ [encB (dm 64)]) := by
  refine Ok_by Try.func134 c134_ok r134_ok 62 rfl ?_
  have ha := alph_length
  have hnew := dm_new
  have hB : ∀ d, encB d = .cells 322 [.agg (bts alph ++ (bts d ++ [.p (.int .i32 61), .p (.bool false)]))] := fun d => rfl
  generalize halph : alph = al at *
  simp [c134, r134, ha]
  refine ⟨bts_one, bts_one, ?_⟩
  refine VV_fam (fun i : Nat => ⟨fr 63 [(0, .p (.string (txt al))), (3, .ptr h.length 0 0 1), (4, .p (.int .i64 i))], h ++ [encB (dm i)]⟩)
    (fun i => i ≤ 64) (fun i => 64 - i) 0 (by simp) (Wk.fitsE (by rw [← halph]; rfl) (by simp)) ?_
  intro i hi B hb he hr
  simp [ha]
  refine CC_by (fun hc => ?_) (fun hc => ?_)
  · have hc : i < 64 := by simp at hc; omega
    have hi2 : i < al.length := by omega
    obtain ⟨n1, n2, n3⟩ := hnew ⟨i, hc⟩
    have hgd : al.getD i 0 = al[i] := by simp [List.getD, hi2]
    simp only [hgd] at n1 n2 n3
    have hw : IntKind.i64.wrap ((i : Int) + 1) = ((i + 1 : Nat) : Int) := wrap_succ (n := 64) hc (by omega)
    have hdm : dm (i + 1) = (dm i).set al[i].toNat (UInt8.ofNat i) := by rw [dm, halph, hgd]
    have hl := dm_length i
    have n2 : ((al[i].toNat : Int) == 10) = false := byte_ne (k := 10) (by decide) n2
    have n3 : ((al[i].toNat : Int) == 13) = false := byte_ne (k := 13) (by decide) n3
    have hct := al[i].toNat_lt
    have hc' : (i : Int) < 64 := by omega
    have hget : (bts al ++ (bts (dm i) ++ [DV.p (.int .i32 61), .p (.bool false)]))[64 + al[i].toNat]? = some (byteD 255) := by
      rw [List.getElem?_append_right (by simp [bts, ha]), List.getElem?_append_left (by simp [bts, ha, hl]; omega)]
      simp [bts, ha, n1]
    have hx : DV.p (.int .u8 (IntKind.u8.wrap (i : Int))) = byteD (UInt8.ofNat i) := by
      have : IntKind.u8.wrap (i : Int) = ((UInt8.ofNat i).toNat : Int) := by simp [IntKind.wrap, IntKind.bits, IntKind.signed]
      rw [this]; rfl
    have hset : ∀ k, k < 256 → (bts al ++ (bts (dm i) ++ [DV.p (.int .i32 61), .p (.bool false)])).take (64 + k) ++ byteD (UInt8.ofNat i) :: (bts al ++ (bts (dm i) ++ [DV.p (.int .i32 61), .p (.bool false)])).drop (64 + k + 1) = bts al ++ (bts ((dm i).set k (UInt8.ofNat i)) ++ [DV.p (.int .i32 61), .p (.bool false)]) := fun k hk => by
      have e := List.set_eq_take_append_cons_drop (l := bts al ++ (bts (dm i) ++ [DV.p (.int .i32 61), .p (.bool false)])) (i := 64 + k) (a := byteD (UInt8.ofNat i))
      rw [if_pos (by simp [bts, ha, hl]; omega)] at e
      rw [← e, List.set_append_right _ _ (by simp [bts, ha]), List.set_append_left _ _ (by simp [bts, ha, hl]; omega), ← bts_set]
      congr 3
      simp [bts, ha]
    have hs := hset al[i].toNat hct
    have g1 : (al[i].toNat : Int) < 256 := by omega
    have g2 : 64 + al[i].toNat ≤ 321 := by omega
    simp [hc, hc', hi2, ha, hw, byteD, n2, n3, hB, hget, g1, g2]
    refine hb _ (i + 1) (Wk.fitsE ?_ (by simp)) (by omega) (by omega)
    rw [hx, hs, hdm, hB]
  · have hc : i = 64 := by simp at hc; omega
    subst hc
    simp
    refine he _ _ ?_
    simp
    exact .refl
end Go.Proofs.Ytdgnjngbheecnaa
