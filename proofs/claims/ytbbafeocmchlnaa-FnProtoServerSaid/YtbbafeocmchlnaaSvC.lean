/- Servers' handshakes: the walk of the law FnProtoServer. -/
import Derived.Test.YtbbafeocmchlnaaSvB
set_option linter.unusedVariables false
set_option linter.unusedSimpArgs false
set_option maxRecDepth 100000
namespace Go.Proofs.Ytbbafeocmchlnaa
open Go Go.Den Go.Proofs

/-- As the law has it. -/
def Srv.D (x : Srv) (z t : List UInt8) : DV := .agg [.p (.string (txt x.n)), .p (.string (txt x.d)), .p (.string (txt z)), .p (.string (txt t)), .p (.int .u64 x.rev), .p (.int .u64 x.a), .p (.int .u64 x.b), .p (.int .u64 x.c)]
def srvZ : DV := .agg [.p (.string ⟨#[]⟩), .p (.string ⟨#[]⟩), .p (.string ⟨#[]⟩), .p (.string ⟨#[]⟩), .p (.int .u64 0), .p (.int .u64 0), .p (.int .u64 0), .p (.int .u64 0)]

def noZone : List UInt8 := [37, 33, 115, 40, 42, 116, 105, 109, 101, 46, 76, 111, 99, 97, 116, 105, 111, 110, 61, 60, 110, 105, 108, 62, 41]
def srvT (n d : List UInt8) (rev a b c : Nat) (z : List UInt8) : List UInt8 :=
  n ++ ([32, 40] ++ (d ++ ([41, 32, 115, 101, 114, 118, 101, 114, 32, 118, 101, 114, 115, 105, 111, 110, 32] ++ (verT a b c ++ ([32, 114, 101, 118, 105, 115, 105, 111, 110, 32] ++ (dig rev ++ ([32, 40, 116, 105, 109, 101, 122, 111, 110, 101, 32] ++ (z ++ [41]))))))))
def srvP (n d : List UInt8) (rev a b c : Nat) (z : DV) : DV := .agg [.p (.string (txt n)), .p (.string (txt d)), .p (.int .u64 rev), .p (.int .u64 a), .p (.int .u64 b), .p (.int .u64 c), z]

theorem ok75 {G : Nat → DV} (h : List Blk) (n d : List UInt8) (rev a b c : Nat) (z : DV) (zt : List UInt8) (hz : (z = .p (.pointer none) ∧ zt = noZone) ∨ ∃ lb, z = .ptr lb 0 0 1 ∧ h[lb]? = some locB ∧ zt = utc)
    (hn : n.length ≤ 1000000) (hd : d.length ≤ 1000000) (hr : rev < B64) (ha : a < B64) (hb : b < B64) (hc : c < B64) : Ok Try.prog G 75 [srvP n d rev a b c z] h (.p (.string (txt (srvT n d rev a b c zt)))) h := by
  refine Ok_by Try.func75 c75_ok r75_ok 29 rfl ?_
  have la := dig_length a ha
  have lb := dig_length b hb
  have lc := dig_length c hc
  have lr := dig_length rev hr
  have hv := ok70 (G := G) (h ++ [.cells 7 [srvP n d rev a b c z]]) a b c ha hb hc
  have lv : (verT a b c).length ≤ 62 := by simp [verT]; omega
  rcases hz with ⟨rfl, rfl⟩ | ⟨b0, rfl, hL, rfl⟩
  · simp [c75, r75, srvP]
    refine ⟨by omega, by omega, by omega, ?_⟩
    refine DF_by (ok70 _ a b c ha hb hc) ?_
    simp
    refine ⟨by omega, by omega, ?_⟩
    refine DF_by (ok107 _ rev hr) ?_
    simp [srvT, noZone]
    omega
  · have hL' : ∀ X, (h ++ X)[b0]? = some locB := fun X => get_pre hL X
    simp [c75, r75, srvP, hL', locB]
    refine FF_by (ok76 _ b0 (hL' _)) ?_
    simp
    refine ⟨by omega, by omega, by omega, ?_⟩
    refine DF_by (ok70 _ a b c ha hb hc) ?_
    simp
    refine ⟨by omega, by omega, ?_⟩
    refine DF_by (ok107 _ rev hr) ?_
    have lu : utc.length = 3 := rfl
    simp [srvT]
    omega

theorem ok35 {G : Nat → DV} (h : List Blk) (x : Srv) (z t : List UInt8) : Ok Try.prog G 35 [x.D z t] h (.p (.bool (decide (x.n.length ≤ 2147483647) && (decide (x.d.length ≤ 2147483647) && (decide (z.length ≤ 2147483647) && decide (t.length ≤ 2147483647)))))) h := by
  refine Ok_by Try.func35 c35_ok r35_ok 18 rfl ?_
  simp [c35, r35, Srv.D]
  refine CC_by (fun h1 => ?_) (fun h1 => ?_)
  · have h1 : ¬ x.n.length ≤ 2147483647 := by simp at h1; omega
    simp [h1]
  · have h1 : x.n.length ≤ 2147483647 := by simp at h1; omega
    simp
    refine CC_by (fun h2 => ?_) (fun h2 => ?_)
    · have h2 : ¬ x.d.length ≤ 2147483647 := by simp at h2; omega
      simp [h2]
    · have h2 : x.d.length ≤ 2147483647 := by simp at h2; omega
      simp
      refine CC_by (fun h3 => ?_) (fun h3 => ?_)
      · have h3 : ¬ z.length ≤ 2147483647 := by simp at h3; omega
        simp [h3]
      · have h3 : z.length ≤ 2147483647 := by simp at h3; omega
        simp
        refine CC_by (fun h4 => ?_) (fun h4 => ?_)
        · have h4 : ¬ t.length ≤ 2147483647 := by simp at h4; omega
          simp [h4]
        · have h4 : t.length ≤ 2147483647 := by simp at h4; omega
          simp [h1, h2, h3, h4]

theorem ok36 {G : Nat → DV} (h : List Blk) (x : Srv) (t : List UInt8) (hx : x.Ok) : Ok Try.prog G 36 [x.D utc t] h (.p (.string (txt x.w))) h := by
  refine Ok_by Try.func36 c36_ok r36_ok 46 rfl ?_
  have hn := hx.n
  have hd := hx.d
  have l1 := uv_length x.n.length (by simp [B64]; omega)
  have l2 := uv_length x.d.length (by simp [B64]; omega)
  have l3 := uv_length x.a hx.a
  have l4 := uv_length x.b hx.b
  have l5 := uv_length x.c hx.c
  have l6 := uv_length x.rev hx.rev
  have l7 := uv_length utc.length (by decide)
  have l8 : utc.length = 3 := rfl
  simp [c36, r36, Srv.D]
  refine DF_by (ok16 _ x.n (by omega)) ?_
  simp
  refine DF_by (ok17 _ x.a hx.a) ?_
  simp
  refine ⟨by omega, ?_⟩
  refine DF_by (ok17 _ x.b hx.b) ?_
  simp
  refine ⟨by omega, ?_⟩
  refine DF_by (ok17 _ x.rev hx.rev) ?_
  rcases Nat.lt_or_ge x.rev 54058 with b0 | b0
  · have f0 : ¬ 54058 ≤ x.rev := by omega
    have f1 : ¬ 54372 ≤ x.rev := by omega
    have f2 : ¬ 54401 ≤ x.rev := by omega
    have g0 : ¬ (54058 : Int) ≤ (x.rev : Int) := by omega
    have g1 : ¬ (54372 : Int) ≤ (x.rev : Int) := by omega
    have g2 : ¬ (54401 : Int) ≤ (x.rev : Int) := by omega
    simp [g0, g1, g2, Srv.w, Srv.w4, Srv.wT, f0, f1, f2]
    omega
  · have g0 : (54058 : Int) ≤ (x.rev : Int) := by omega
    rcases Nat.lt_or_ge x.rev 54372 with b1 | b1
    · have f1 : ¬ 54372 ≤ x.rev := by omega
      have f2 : ¬ 54401 ≤ x.rev := by omega
      have g1 : ¬ (54372 : Int) ≤ (x.rev : Int) := by omega
      have g2 : ¬ (54401 : Int) ≤ (x.rev : Int) := by omega
      simp [g0, g1, g2, Srv.w, Srv.w4, Srv.wT, b0, f1, f2]
      refine ⟨by omega, ?_⟩
      refine FF_by (ok16 _ utc (by omega)) ?_
      simp [g0, g1, g2]
      omega
    · have g1 : (54372 : Int) ≤ (x.rev : Int) := by omega
      rcases Nat.lt_or_ge x.rev 54401 with b2 | b2
      · have f2 : ¬ 54401 ≤ x.rev := by omega
        have g2 : ¬ (54401 : Int) ≤ (x.rev : Int) := by omega
        simp [g0, g1, g2, Srv.w, Srv.w4, Srv.wT, b0, b1, f2]
        refine ⟨by omega, ?_⟩
        refine FF_by (ok16 _ utc (by omega)) ?_
        simp [g0, g1, g2]
        refine ⟨by omega, ?_⟩
        refine FF_by (ok16 _ x.d (by omega)) ?_
        simp [g0, g1, g2]
        omega
      · have g2 : (54401 : Int) ≤ (x.rev : Int) := by omega
        simp [g0, g1, g2, Srv.w, Srv.w4, Srv.wT, b0, b1, b2]
        refine ⟨by omega, ?_⟩
        refine FF_by (ok16 _ utc (by omega)) ?_
        simp [g0, g1, g2]
        refine ⟨by omega, ?_⟩
        refine FF_by (ok16 _ x.d (by omega)) ?_
        simp [g0, g1, g2]
        refine ⟨by omega, ?_⟩
        refine FF_by (ok17 _ x.c hx.c) ?_
        simp [g0, g1, g2]
        omega

theorem ok37e {G : Nat → DV} (h : List Blk) (D : List UInt8) (hD : D.length < 140737488355328) (he : srvD D = none)
    (hz : ∀ vs r4 w r5, decs [dS, dU, dU, dU] D = some (vs, r4) → 54058 ≤ revOf vs → dS r4 = some (w, r5) → w = .string (txt utc)) : Ok Try.prog G 37 [.p (.string (txt D))] h (.tup [srvZ, .p (.int .i64 0), .p (.bool false)]) h := by
  refine Ok_by Try.func37 c37_ok r37_ok 34 rfl ?_
  simp [c37, r37]
  refine FF_by (ok60 _ D) ?_
  simp [rdBs]
  refine FF_byR (ok74 (h ++ rdFrame h.length (.cells 8 [srvZ]) _ D) (rdNew (h.length + 1) D) D [] (h.length + 4) hD (rdFrame_s h (.cells 8 [srvZ]) 7 _ D) hz) ?_
  intro v h' ho
  unfold SrvOut at ho
  rw [he] at ho
  obtain ⟨⟨x, rfl⟩, R', r', l', X, s, q⟩ := ho
  obtain ⟨hp, hc, hrb, hlt⟩ := rdFrame_keep q
  simp [hc, srvZ, hlt]
  exact WkV.ofPure (HPre_set hp (Nat.le_refl _)) rfl

def Srv.R (x : Srv) : DV := .agg [.p (.string (txt x.n)), .p (.string (txt x.d')), .p (.string (txt (if 54058 ≤ x.rev then utc else []))), .p (.string (txt (srvT x.n x.d' x.rev x.a x.b x.c' (if 54058 ≤ x.rev then utc else noZone)))), .p (.int .u64 x.rev), .p (.int .u64 x.a), .p (.int .u64 x.b), .p (.int .u64 x.c')]
theorem ok37s {G : Nat → DV} (h : List Blk) (x : Srv) (hx : x.Ok) (rest : List UInt8) (hr : rest.length < 100000000) :
    Ok Try.prog G 37 [.p (.string (txt (x.w ++ rest)))] h (.tup [x.R, .p (.int .i64 rest.length), .p (.bool true)]) h := by
  have hW := Srv.w_len hx
  have hn := hx.n
  have hd := hx.d
  have hD : (x.w ++ rest).length < 140737488355328 := by simp; omega
  have hex := (Srv.ex hx).out rest
  have hzz := Srv.zone hx (r := x.w ++ rest) (X := rest) (List.prefix_refl _)
  have hd' : x.d'.length ≤ 1000000 := by
    unfold Srv.d'; split
    · omega
    · simp
  have hc' : x.c' < B64 := by
    unfold Srv.c'; split
    · exact hx.c
    · exact hx.rev
  have hF := x.F
  have h4 := x.len4
  generalize x.w ++ rest = D at hD hex hzz
  refine Ok_by Try.func37 c37_ok r37_ok 34 rfl ?_
  simp [c37, r37]
  refine FF_by (ok60 _ D) ?_
  simp [rdBs]
  refine FF_byR (ok74 (h ++ rdFrame h.length (.cells 8 [srvZ]) _ D) (rdNew (h.length + 1) D) D [] (h.length + 4) hD (rdFrame_s h (.cells 8 [srvZ]) 7 _ D) hzz) ?_
  intro v h' ho
  unfold SrvOut at ho
  rw [hex] at ho
  obtain ⟨rfl, R', l', z, s, q, hz⟩ := ho
  obtain ⟨hp, hc8, hrb, hlt⟩ := rdFrame_keep q
  have hxx := s.x
  rw [hF z] at hxx
  have hxs : ∀ X, (h'.set h.length X)[h.length + 4]? = h'[h.length + 4]? := fun X => List.getElem?_set_ne (by omega)
  have hwn : ¬ R'.own h.length := q.own (by simp [rdFrame]) (rdFrame_own (Nat.le_refl _))
  have hdn : ¬ inBlk R'.d h.length := fun hi => by
    have := q.dsub _ hi
    simp [rdNew, inBlk] at this
  rcases hz with ⟨e4, rfl⟩ | ⟨e4, lb, rfl, hL⟩
  · have b0 : ¬ 54058 ≤ x.rev := h4.1 e4
    simp [hxx]
    refine DF_by (ok75 h' x.n x.d' x.rev x.a x.b x.c' (.p (.pointer none)) noZone (.inl ⟨rfl, rfl⟩) hn hd' hx.rev hx.a hx.b hc') ?_
    simp [hxx]
    refine DF_by (ok71 h' x.a x.b x.c') ?_
    simp [hxx, hc8, hlt, verD, srvZ, hxs]
    refine DF_by (hrb ▸ ok63 _ R' rest l' (s.s.set hwn hdn)) ?_
    simp [hlt, Srv.R, b0]
    exact WkV.ofPure (HPre_set hp (Nat.le_refl _)) rfl
  · have b0 : 54058 ≤ x.rev := by
      rcases Nat.lt_or_ge x.rev 54058 with h1 | h1
      · exact absurd (h4.2 (by omega)) e4
      · exact h1
    have hne : lb ≠ h.length := by
      rintro rfl
      rw [hc8] at hL
      simp [locB, locD, srvZ] at hL
    simp [hxx]
    refine DF_by (ok75 h' x.n x.d' x.rev x.a x.b x.c' (.ptr lb 0 0 1) utc (.inr ⟨lb, rfl, hL, rfl⟩) hn hd' hx.rev hx.a hx.b hc') ?_
    simp [hxx]
    refine DF_by (ok71 h' x.a x.b x.c') ?_
    have hLs : ∀ X, (h'.set h.length X)[lb]? = some (.cells 8 [locD]) := fun X => by rw [List.getElem?_set_ne hne.symm]; exact hL
    simp [hxx, hc8, hlt, verD, srvZ, hxs, hLs]
    refine FF_by (ok76 _ lb (hLs _)) ?_
    simp [hlt]
    refine DF_by (hrb ▸ ok63 _ R' rest l' (s.s.set hwn hdn)) ?_
    simp [hlt, Srv.R, b0]
    exact WkV.ofPure (HPre_set hp (Nat.le_refl _)) rfl
end Go.Proofs.Ytbbafeocmchlnaa
