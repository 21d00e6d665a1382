/- Checksums: SumNew, the law. -/
import Derived.Test.YtdgnjngbheecnaaSuI
set_option linter.unusedVariables false
set_option linter.unusedSimpArgs false
set_option maxRecDepth 100000
namespace Go.Proofs.Ytdgnjngbheecnaa
open Go Go.Den Go.Proofs

theorem frzC {h : List Blk} {b n x : Nat} {t : Value} {E s : List UInt8} (hb : h[b]? = some (.cells 1 (bts E))) (hx : x = E.length) (hE : E.take n = s) (hn : n ≤ x) : FrzR h [] (.agg [.p t, .sl b 0 n x]) (.agg [.p t, .fz 1 (bts s)]) := by
  refine FrzR.of0 3 ?_
  have h1 := frz_p (h := h) (n0 := 0) (k := 2) (v := t)
  have h2 := frz_sl (h := h) (n0 := 0) (k := 1) (b := b) (i := 0) (n := n) (x := x) (sz := 1) (els := bts E) bts_plain hb (by omega) (by simp [hx])
  simp [hE] at h2
  rw [frz]
  simp [pureV, pureV.pureL, omap, h1, h2]
theorem ok47 (k : Nat) (hk : k < 10) (s : List UInt8) (hs : s.length = sumLen k) (h : List Blk) : Ok Try.prog GB 47 [.agg [.p (.int .u32 (2 ^ k : Nat)), .fz 1 (bts s)]] h (.p (.bool true)) h := by
  refine Ok_by Try.func47 c47_ok r47_ok 14 rfl ?_
  have h1 := fun h => ok106 k hk h
  have h2 := fun h => ok107 k hk h
  generalize (2 ^ k : Nat) = m at *
  simp [c47, r47]
  refine DF_by (h1 _) ?_
  simp
  refine DF_by (h2 _) ?_
  simp [hs]
theorem ok47n (h : List Blk) : Ok Try.prog GB 47 [.agg [.p (.int .u32 0), .p (.slice none 0 0)]] h (.p (.bool false)) h := by
  refine Ok_by Try.func47 c47_ok r47_ok 14 rfl ?_
  simp [c47, r47]
  refine DF_by (ok106z _) ?_
  simp
theorem ok48 (k : Nat) (hk : k < 10) (s : List UInt8) (hs : s.length = sumLen k) (h : List Blk) (b n x : Nat) (E : List UInt8) (hb : h[b]? = some (.cells 1 (bts E))) (hx : x = E.length) (hE : E.take n = s) (hn : n ≤ x) : Ok Try.prog GB 48 [.agg [.p (.int .u32 (2 ^ k : Nat)), .sl b 0 n x]] h (.sl b 0 n x) h := by
  refine Ok_by Try.func48 c48_ok r48_ok 7 rfl ?_
  have h1 := fun h => ok47 k hk s hs h
  generalize (2 ^ k : Nat) = m at *
  have hbl := (List.getElem?_eq_some_iff.1 hb).1
  simp [c48, r48]
  refine FF_by (Ok.lend gzB (h1 []) (.cons (frzC (get_pre hb _) hx hE hn) .nil) rfl) ?_
  simp
  refine WkV.drop (by simp) id (by simpa using hbl)
theorem ok48n (h : List Blk) : Ok Try.prog GB 48 [.agg [.p (.int .u32 0), .p (.slice none 0 0)]] h (.p (.slice none 0 0)) h := by
  refine Ok_by Try.func48 c48_ok r48_ok 7 rfl ?_
  simp [c48, r48]
  refine FF_by (ok47n _) ?_
  simp
theorem ok49 (k : Nat) (hk : k < 10) (s : List UInt8) (hs : s.length = sumLen k) (hs2 : s.length ≤ 1000) (h : List Blk) : Ok Try.prog GB 49 [.agg [.p (.int .u32 (2 ^ k : Nat)), .fz 1 (bts s)]] h (.p (.string (txt (b64 s)))) h := by
  refine Ok_by Try.func49 c49_ok r49_ok 9 rfl ?_
  have h1 := fun h => ok47 k hk s hs h
  generalize (2 ^ k : Nat) = m at *
  simp [c49, r49]
  refine FF_by (h1 _) ?_
  simp
  refine DF_by (ok108 _) ?_
  simp
  refine DF_by (ok110 _ _ s hs2 ?_) ?_
  · simp
  simp
theorem ok49n (h : List Blk) : Ok Try.prog GB 49 [.agg [.p (.int .u32 0), .p (.slice none 0 0)]] h (.p (.string ⟨#[]⟩)) h := by
  refine Ok_by Try.func49 c49_ok r49_ok 9 rfl ?_
  simp [c49, r49]
  refine FF_by (ok47n _) ?_
  simp
theorem ok44 (k : Nat) (hk : k < 10) (h : List Blk) (b n x : Nat) (hb : b < h.length) (hn : n = sumLen k) : Ok Try.prog GB 44 [.p (.int .u32 (2 ^ k : Nat)), .sl b 0 n x] h (.agg [.p (.int .u32 (2 ^ k : Nat)), .sl b 0 n x]) h := by
  refine Ok_by Try.func44 c44_ok r44_ok 16 rfl ?_
  have h1 := fun h => ok106 k hk h
  have h2 := fun h => ok107 k hk h
  generalize (2 ^ k : Nat) = m at *
  simp [c44, r44]
  refine FF_by (h1 _) ?_
  simp
  refine FF_by (h2 _) ?_
  simp [hn]
  exact WkV.drop (by simp) id (by simpa using hb)
theorem ok44n (k : Nat) (hk : k < 10) (h : List Blk) (b n x : Nat) (hb : b < h.length) (hn : n ≠ sumLen k) : Ok Try.prog GB 44 [.p (.int .u32 (2 ^ k : Nat)), .sl b 0 n x] h (.agg [.p (.int .u32 0), .p (.slice none 0 0)]) h := by
  refine Ok_by Try.func44 c44_ok r44_ok 16 rfl ?_
  have h1 := fun h => ok106 k hk h
  have h2 := fun h => ok107 k hk h
  generalize (2 ^ k : Nat) = m at *
  have hne : ((n : Int) == (sumLen k : Int)) = false := by simp; omega
  simp [c44, r44]
  refine FF_by (h1 _) ?_
  simp
  refine FF_by (h2 _) ?_
  simp [hne]
  exact WkV.drop (by simp) id (by simp)
theorem ok46 (k : Nat) (hk : k < 10) (h : List Blk) (s : List UInt8) (hs : s.length ≤ 1000) (hn : s.length = sumLen k) : Ok Try.prog GB 46 [.p (.int .u32 (2 ^ k : Nat)), .p (.string (txt (b64 s)))] h (.agg [.p (.int .u32 (2 ^ k : Nat)), .sl (h.length + 2) 0 s.length (pad3 s).length]) (h ++ [.cells 2 [.agg [.p (.int .u32 (2 ^ k : Nat)), .sl (h.length + 2) 0 s.length (pad3 s).length]], encB (dm 64), .cells 1 (bts (pad3 s)), .cells 1 (bts (b64 s))]) := by
  refine Ok_by Try.func46 c46_ok r46_ok 24 rfl ?_
  have h1 := fun h => ok106 k hk h
  have h2 := fun h => ok107 k hk h
  generalize (2 ^ k : Nat) = m at *
  simp [c46, r46]
  refine FF_by (ok108 _) ?_
  simp
  refine FF_by (ok109 _ _ s hs (by simp)) ?_
  simp
  refine FF_by (h1 _) ?_
  simp
  refine FF_by (h2 _) ?_
  simp [hn]
  exact WkV.refl
theorem ok46n (k : Nat) (hk : k < 10) (h : List Blk) (s : List UInt8) (hs : s.length ≤ 1000) (hn : s.length ≠ sumLen k) : Ok Try.prog GB 46 [.p (.int .u32 (2 ^ k : Nat)), .p (.string (txt (b64 s)))] h (.agg [.p (.int .u32 0), .p (.slice none 0 0)]) h := by
  refine Ok_by Try.func46 c46_ok r46_ok 24 rfl ?_
  have h1 := fun h => ok106 k hk h
  have h2 := fun h => ok107 k hk h
  generalize (2 ^ k : Nat) = m at *
  have hne : ((s.length : Int) == (sumLen k : Int)) = false := by simp; omega
  simp [c46, r46]
  refine FF_by (ok108 _) ?_
  simp
  refine FF_by (ok109 _ _ s hs (by simp)) ?_
  simp
  refine FF_by (h1 _) ?_
  simp
  refine FF_by (h2 _) ?_
  simp [hne]
  exact WkV.drop (by simp) id (by simp)
/-- What is told. -/
def told (k : Nat) (s : List UInt8) : DV := .tup [.p (.bool (decide (s.length = sumLen k))), .p (.string (txt (if s.length = sumLen k then s else []))), .p (.string (txt (if s.length = sumLen k then b64 s else [])))]
theorem ok19r (k : Nat) (hk : k < 10) (h : List Blk) (s : List UInt8) (hs : s.length ≤ 1000) : Ok Try.prog GB 19 [.p (.int .i64 k), .p (.bool false), .p (.string (txt s))] h (told k s) h := by
  refine Ok_by Try.func19 c19_ok r19_ok 24 rfl ?_
  have h45 := fun h => ok45 k hk h
  simp [c19, r19, told]
  refine FF_by (h45 _) ?_
  by_cases hn : s.length = sumLen k
  · have h44 := fun h b x hb => ok44 k hk h b s.length x hb hn
    have h47 := fun h => ok47 k hk s hn h
    have h49 := fun h => ok49 k hk s hn hs h
    have h48 := fun h b x hb => ok48 k hk s hn h b s.length x s hb
    generalize (2 ^ k : Nat) = m at *
    simp
    refine FF_by (h44 _ _ _ (by simp)) ?_
    simp
    have hfr : ∀ x, FrzR (h ++ ([.cells 1 (bts s)] ++ x)) [] (.agg [.p (.int .u32 m), .sl h.length 0 s.length s.length]) (.agg [.p (.int .u32 m), .fz 1 (bts s)]) := fun x => frzC (E := s) (by simp) rfl List.take_length (Nat.le_refl _)
    refine DF_by (Ok.lend gzB (h47 []) (.cons (hfr _) .nil) rfl) ?_
    simp
    refine DF_by (h48 _ h.length s.length (by simp) rfl List.take_length (Nat.le_refl _)) ?_
    have htl : s.take s.length = s := List.take_length
    simp [htl]
    refine DF_by (Ok.lend gzB (h49 []) (.cons (hfr _) .nil) rfl) ?_
    simp [hn]
    exact WkV.ofPure (HPre.append h _) rfl
  · have h44 := fun h b x hb => ok44n k hk h b s.length x hb hn
    generalize (2 ^ k : Nat) = m at *
    simp
    refine FF_by (h44 _ _ _ (by simp)) ?_
    simp
    refine DF_by (ok47n _) ?_
    simp
    refine DF_by (ok48n _) ?_
    simp
    refine DF_by (ok49n _) ?_
    simp [hn]
    exact WkV.ofPure (HPre.append h _) rfl
theorem ok19t (k : Nat) (hk : k < 10) (h : List Blk) (s : List UInt8) (hs : s.length ≤ 1000) : Ok Try.prog GB 19 [.p (.int .i64 k), .p (.bool true), .p (.string (txt (b64 s)))] h (told k s) h := by
  refine Ok_by Try.func19 c19_ok r19_ok 24 rfl ?_
  have h45 := fun h => ok45 k hk h
  simp [c19, r19, told]
  refine FF_by (h45 _) ?_
  -- the bytes of the text itself are a checksum, or not: it is laid over
  obtain ⟨u, hu, h44⟩ : ∃ u : List DV, u.length = 2 ∧ Ok Try.prog GB 44 [.p (.int .u32 (2 ^ k : Nat)), .sl h.length 0 (b64 s).length (b64 s).length] (h ++ [.cells 1 (bts (b64 s))]) (.agg u) (h ++ [.cells 1 (bts (b64 s))]) := by
    by_cases hn : (b64 s).length = sumLen k
    · exact ⟨_, rfl, ok44 k hk _ _ _ _ (by simp) hn⟩
    · exact ⟨_, rfl, ok44n k hk _ _ _ _ (by simp) hn⟩
  by_cases hn : s.length = sumLen k
  · have h46 := fun h => ok46 k hk h s hs hn
    have h47 := fun h => ok47 k hk s hn h
    have h49 := fun h => ok49 k hk s hn hs h
    have h48 := fun h b x E hb hx hE => ok48 k hk s hn h b s.length x E hb hx hE
    have hpl := pad3_length s
    have hpt := pad3_take s
    have hpb : s.length ≤ (pad3 s).length := by omega
    generalize (2 ^ k : Nat) = m at *
    simp
    refine FF_by h44 ?_
    simp [hu]
    refine FF_by (h45 _) ?_
    simp
    refine FF_by (h46 _) ?_
    simp
    have hfr : ∀ x y, FrzR (h ++ ([.cells 1 (bts (b64 s)), x, y, encB (dm 64), .cells 1 (bts (pad3 s)), .cells 1 (bts (b64 s))])) [] (.agg [.p (.int .u32 m), .sl (h.length + 4) 0 s.length (pad3 s).length]) (.agg [.p (.int .u32 m), .fz 1 (bts s)]) := fun x y => frzC (E := pad3 s) (by simp) rfl hpt hpb
    refine DF_by (Ok.lend gzB (h47 []) (.cons (hfr _ _) .nil) rfl) ?_
    simp
    refine DF_by (h48 _ (h.length + 4) (pad3 s).length (pad3 s) (by simp) rfl hpt hpb) ?_
    simp [hpt]
    refine DF_by (Ok.lend gzB (h49 []) (.cons (hfr _ _) .nil) rfl) ?_
    simp [hn]
    exact WkV.ofPure (HPre.append h _) rfl
  · have h46 := fun h => ok46n k hk h s hs hn
    generalize (2 ^ k : Nat) = m at *
    simp
    refine FF_by h44 ?_
    simp [hu]
    refine FF_by (h45 _) ?_
    simp
    refine FF_by (h46 _) ?_
    simp
    refine DF_by (ok47n _) ?_
    simp
    refine DF_by (ok48n _) ?_
    simp
    refine DF_by (ok49n _) ?_
    simp [hn]
    exact WkV.ofPure (HPre.append h _) rfl
end Go.Proofs.Ytdgnjngbheecnaa
