/- Checksums: from bytes, from base64, told again. -/
import Derived.Test.YtdgnjngbheecnaaSuH
set_option linter.unusedVariables false
set_option linter.unusedSimpArgs false
set_option maxRecDepth 100000
namespace Go.Proofs.Ytdgnjngbheecnaa
open Go Go.Den Go.Proofs

theorem ok108 {G : Nat → DV} (h : List Blk) : Ok Try.prog G 108 [] h (.ptr h.length 0 0 1) (h ++ [encB (dm 64)]) := by
  refine Ok_by Try.func108 c108_ok r108_ok 2 rfl ?_
  have hlit : (⟨#[65, 66, 67, 68, 69, 70, 71, 72, 73, 74, 75, 76, 77, 78, 79, 80, 81, 82, 83, 84, 85, 86, 87, 88, 89, 90, 97, 98, 99, 100, 101, 102, 103, 104, 105, 106, 107, 108, 109, 110, 111, 112, 113, 114, 115, 116, 117, 118, 119, 120, 121, 122, 48, 49, 50, 51, 52, 53, 54, 55, 56, 57, 43, 47]⟩ : ByteArray) = txt alph := rfl
  have h134 := ok134 (G := G) h
  generalize alph = al at *
  simp only [c108, r108, hlit]
  simp
  refine FF_by h134 ?_
  simp
  exact WkV.refl
theorem div4 (m : Nat) (hm : m ≤ 4000) : IntKind.i64.wrap (IntKind.i64.wrap ((m : Int) / 4) * 3) = ((m / 4 * 3 : Nat) : Int) := by
  have : (m : Int) / 4 = ((m / 4 : Nat) : Int) := by omega
  rw [this]
  simp [IntKind.wrap, IntKind.bits, IntKind.signed]
  omega
theorem ok135 {G : Nat → DV} (h : List Blk) (e m : Nat) (hm : m ≤ 4000) (he : h[e]? = some (encB (dm 64))) : Ok Try.prog G 135 [.ptr e 0 0 1, .p (.int .i64 m)] h (.p (.int .i64 (m / 4 * 3 : Nat))) h := by
  refine Ok_by Try.func135 c135_ok r135_ok 9 rfl ?_
  obtain ⟨hL, L125, L320, L321, hLl⟩ := dm_get _ rfl
  rw [encB] at he
  generalize (bts alph ++ (bts (dm 64) ++ [DV.p (.int .i32 61), .p (.bool false)])) = L at *
  obtain ⟨_, L320⟩ := List.getElem?_eq_some_iff.1 L320
  have h150 : Ok Try.prog G 150 [.p (.int .i64 m), .p (.int .i32 61)] h (.p (.int .i64 (m / 4 * 3 : Nat))) h := by
    refine Ok_by Try.func150 c150_ok r150_ok 16 rfl ?_
    have hd := div4 m hm
    generalize (m / 4 * 3 : Nat) = q at *
    simp [c150, r150, hd]
  simp [c135, r135, he, isNilD, hLl, L320]
  refine FF_by h150 ?_
  simp
theorem div3 (m : Nat) (hm : m ≤ 4000) : IntKind.i64.wrap (IntKind.i64.wrap ((IntKind.i64.wrap ((m : Int) + 2)).tdiv 3) * 4) = ((4 * ((m + 2) / 3) : Nat) : Int) := by
  have h1 : IntKind.i64.wrap ((m : Int) + 2) = ((m + 2 : Nat) : Int) := by simp [IntKind.wrap, IntKind.bits, IntKind.signed]; omega
  rw [h1]
  have : ((m + 2 : Nat) : Int).tdiv 3 = (((m + 2) / 3 : Nat) : Int) := by rw [Int.tdiv_eq_ediv_of_nonneg (by omega)]; omega
  rw [this]
  simp [IntKind.wrap, IntKind.bits, IntKind.signed]
  omega
theorem ok137 {G : Nat → DV} (h : List Blk) (e m : Nat) (hm : m ≤ 4000) (he : h[e]? = some (encB (dm 64))) : Ok Try.prog G 137 [.ptr e 0 0 1, .p (.int .i64 m)] h (.p (.int .i64 (4 * ((m + 2) / 3) : Nat))) h := by
  refine Ok_by Try.func137 c137_ok r137_ok 21 rfl ?_
  obtain ⟨hL, L125, L320, L321, hLl⟩ := dm_get _ rfl
  rw [encB] at he
  generalize (bts alph ++ (bts (dm 64) ++ [DV.p (.int .i32 61), .p (.bool false)])) = L at *
  obtain ⟨_, L320⟩ := List.getElem?_eq_some_iff.1 L320
  have hd := div3 m hm
  generalize (4 * ((m + 2) / 3) : Nat) = q at *
  simp [c137, r137, he, isNilD, hLl, L320, hd]
theorem rep0 (n : Nat) : List.replicate n (DV.p (.int .u8 0)) = bts (List.replicate n 0) := by simp [bts, byteD]
/-- EncodeToString. -/
theorem ok110 {G : Nat → DV} (h : List Blk) (e : Nat) (s : List UInt8) (hs : s.length ≤ 1000) (he : h[e]? = some (encB (dm 64))) : Ok Try.prog G 110 [.ptr e 0 0 1, .fz 1 (bts s)] h (.p (.string (txt (b64 s)))) h := by
  refine Ok_by Try.func110 c110_ok r110_ok 15 rfl ?_
  have hl := b64_length s
  simp [c110, r110]
  refine FF_by (ok137 h e s.length (by omega) he) ?_
  rw [← hl]
  simp
  refine MK_sl (by omega) (by omega) (by omega) ?_
  simp [rep0]
  have hel : e ≠ h.length := fun x => by rw [x, List.getElem?_eq_none (Nat.le_refl _)] at he; cases he
  refine FF_by (ok138 _ e h.length s hs (dm 64) (dm_length 64) (get_pre he _) (by simp) hel) ?_
  have htk : (b64 s).take (b64 s).length = b64 s := List.take_length
  simp [htk]
  exact WkV.ofPure (HPre.append h _) rfl
theorem up0 (s : List UInt8) : List.replicate (pad3 s).length 0 = upto (pad3 s) 0 := (upto_zero _).symm
/-- DecodeString. -/
theorem ok109 (h : List Blk) (e : Nat) (s : List UInt8) (hs : s.length ≤ 1000) (he : h[e]? = some (encB (dm 64))) : Ok Try.prog GB 109 [.ptr e 0 0 1, .p (.string (txt (b64 s)))] h (.tup [.sl h.length 0 s.length (pad3 s).length, .p .nilIface]) (h ++ [.cells 1 (bts (pad3 s)), .cells 1 (bts (b64 s))]) := by
  refine Ok_by Try.func109 c109_ok r109_ok 24 rfl ?_
  have hl := b64_length s
  have hp := pad3_length s
  simp [c109, r109]
  refine FF_by (ok135 h e (b64 s).length (by omega) he) ?_
  rw [show (b64 s).length / 4 * 3 = (pad3 s).length by omega]
  simp
  refine MK_sl (by omega) (by omega) (by omega) ?_
  simp [rep0, up0]
  have hel : e < h.length := (List.getElem?_eq_some_iff.1 he).1
  refine FF_by (ok136 (h ++ [.cells 1 (bts (upto (pad3 s) 0)), .cells 1 (bts (b64 s))]) e h.length (h.length + 1) s hs (get_pre he _) (by simp) (by simp) (by omega) (by omega)) ?_
  have hsp : (s.length : Int) ≤ ((pad3 s).length : Int) := by omega
  simp [hsp]
  exact WkV.refl
end Go.Proofs.Ytdgnjngbheecnaa
