/- Configurations: one of an ARN, its events, its filters leaves (printed by genadd.py). -/
import Derived.Test.YthkgekkpnldbmaaNfG
set_option linter.unusedVariables false
set_option linter.unusedSimpArgs false
set_option maxRecDepth 100000
set_option maxHeartbeats 4000000
namespace Go.Proofs.Ythkgekkpnldbmaa
open Go Go.Den Go.Proofs
variable {X : Nat → Prop}

theorem ok57e {G : Nat → DV} (hG : GZ G) (h : List Blk) (q f : Nat) (n : N) (evd rd : DV) (evs : List ByteArray) (pre suf : ByteArray) (hq : h[q]? = some (.cells 9 [elD n evd f])) (hf : h[f]? = some (.cells 1 [.agg [rd]]))
    (he : SlS 1 h evd (strs n.ev)) (hr : SlS 2 h rd (rlD (rls n.p n.s))) (h1 : n.ev.length ≤ 1000) (h2 : evs.length ≤ 1000) (h3 : n.p.length ≤ 1) (h4 : n.s.length ≤ 1) (h5 : ∀ x ∈ n.p, x.size ≤ 100) (h6 : ∀ x ∈ n.s, x.size ≤ 100) (h7 : pre.size ≤ 100) (h8 : suf.size ≤ 100) :
    Ok Try.prog G 57 [.ptr q 0 0 1, .fz 1 (strs evs), .p (.string pre), .p (.string suf)] h (.p (.bool (evEq n.ev evs && evEq ((rls n.p n.s).map rlK) ((rls (if pre = ⟨#[]⟩ then [] else [pre]) (if suf = ⟨#[]⟩ then [] else [suf])).map rlK)))) h := by
  refine Ok_by Try.func57 c57_ok r57_ok 51 rfl ?_
  have hq' := hq
  unfold elD at hq'
  simp [c57, r57, hq', isNilD]
  refine FF_by (Ok.lend hG (ok58 hG [] n.ev evs (by simp [maxLen_eq]; omega) (by simp [maxLen_eq]; omega)) (.cons (SlS.frzR he strs_plain) (.cons (.fz strs_plain) .nil)) rfl) ?_
  have fin : ∀ (nl : List Rule) (d : DV) (hh : List Blk), Own h 2 hh d (rlD nl) → nl.length ≤ 2 → (∀ r ∈ nl, r.1.size ≤ 100 ∧ r.2.size ≤ 100) → Ok Try.prog G 59 [rd, d] hh (.p (.bool (evEq ((rls n.p n.s).map rlK) (nl.map rlK)))) hh := fun nl d hh ho hn hsz => by
    have hpre : HPre h hh := ho.pre
    have hr2 : SlS 2 hh rd (rlD (rls n.p n.s)) := hr.of fun i hi => by rw [hr.blk hi]; exact hpre _ _ (hr.blk hi)
    refine Ok.lend hG (ok59 hG [] (rls n.p n.s) nl (by simp [rls]; omega) (by omega) (fun r hr => ?_) (fun r hr => by have := hsz r hr; omega)) (.cons (SlS.frzR hr2 (rlD_plain _)) (.cons (ho.frzR (rlD_plain _)) .nil)) rfl
    simp [rls] at hr
    rcases hr with ⟨x, hx, rfl⟩ | ⟨x, hx, rfl⟩
    · exact ⟨by show pfx.size ≤ _; decide, by have := h5 x hx; show x.size ≤ _; omega⟩
    · exact ⟨by show sfx.size ≤ _; decide, by have := h6 x hx; show x.size ≤ _; omega⟩
  by_cases hpre : pre = ⟨#[]⟩
  · by_cases hsuf : suf = ⟨#[]⟩
    · simp [hpre, hsuf, hq', hf, isNilD]
      refine FF_by (fin [] _ _ .nil (by simp) (by simp)) ?_
      cases evEq n.ev evs <;> simp [rls]
    · simp [hpre, hsuf]
      refine AA_lit1 .nil (by simp) fun d' h' ho _ _ => ?_
      have o' : Own h 2 h' d' (rlD [(sfx, suf)]) := ho
      have g1 := ho.pre _ _ hq'
      have g2 := ho.pre _ _ hf
      simp [g1, g2, isNilD]
      refine FF_by (fin [(sfx, suf)] _ _ o' (by simp) (by simp; exact ⟨by decide, h8⟩)) ?_
      cases evEq n.ev evs <;> simp [rls] <;> exact WkV.ofPure o'.pre rfl
  · simp [hpre]
    refine AA_lit1 .nil (by simp) fun d' h' ho _ _ => ?_
    have o' : Own h 2 h' d' (rlD [(pfx, pre)]) := ho
    by_cases hsuf : suf = ⟨#[]⟩
    · have g1 := ho.pre _ _ hq'
      have g2 := ho.pre _ _ hf
      simp [hsuf, g1, g2, isNilD]
      refine FF_by (fin [(pfx, pre)] _ _ o' (by simp) (by simp; exact ⟨by decide, h7⟩)) ?_
      cases evEq n.ev evs <;> simp [rls] <;> exact WkV.ofPure o'.pre rfl
    · simp [hsuf]
      refine AA_lit1 o' (by simp [rlD]) fun d2 h2 ho2 _ _ => ?_
      have o2 : Own h 2 h2 d2 (rlD [(pfx, pre), (sfx, suf)]) := ho2
      have g1 := ho2.pre _ _ hq'
      have g2 := ho2.pre _ _ hf
      simp [g1, g2, isNilD]
      refine FF_by (fin [(pfx, pre), (sfx, suf)] _ _ o2 (by simp) (by simp; exact ⟨⟨by decide, h7⟩, by decide, h8⟩)) ?_
      cases evEq n.ev evs <;> simp [rls] <;> exact WkV.ofPure o2.pre rfl
theorem fst_size {l : List ByteArray} (h : ∀ x ∈ l, x.size ≤ 100) : (fstOf l).size ≤ 100 := by
  cases l with
  | nil => decide
  | cons x l => exact h x (by simp)
theorem nEqS {G : Nat → DV} (hG : GZ G) (h : List Blk) (q f : Nat) (x n : N) (hx : Good x) (hn : Good n) (evd rd : DV) (hq : h[q]? = some (.cells 9 [elD x evd f])) (hf : h[f]? = some (.cells 1 [.agg [rd]]))
    (he : SlS 1 h evd (strs x.ev)) (hr : SlS 2 h rd (rlD (rls x.p x.s))) :
    Ok Try.prog G 57 [.ptr q 0 0 1, .fz 1 (strs n.ev), .p (.string (fstOf n.p)), .p (.string (fstOf n.s))] h (.p (.bool (nEq x.ev x.p x.s n.ev (fstOf n.p) (fstOf n.s)))) h :=
  ok57e hG h q f x evd rd n.ev (fstOf n.p) (fstOf n.s) hq hf he hr (by have := hx.ev4; omega) (by have := hn.ev4; omega) hx.p1 hx.s1 hx.pz hx.sz (fst_size hn.pz) (fst_size hn.sz)
def isP (n x : N) : Bool := decide (x.tx = n.tx) && nEq x.ev x.p x.s n.ev (fstOf n.p) (fstOf n.s)
theorem oneAt_eq (l : List N) (n : N) : oneAt l n = l.findIdx? (isP n) := rfl
theorem up_id {α : Type} (f : Fin 3 → α) (k : Fin 3) : up f k (f k) = f := by
  funext m
  simp only [up]
  split
  · rename_i h; rw [h]
  · rfl
theorem KpW.refl' {H H' : List Blk} {bb : Nat} {D : Fin 3 → DV} (hp : HPre H H') : KpW H H' bb D D :=
  ⟨hp.length, fun i hi _ => by rw [List.getElem?_eq_getElem hi]; exact hp _ _ (List.getElem?_eq_getElem hi), fun i h => .inl h⟩
/-- What a removal answers. -/
def errD : DV := .iface 80 (.p (.string ⟨#[110, 111, 32, 110, 111, 116, 105, 102, 105, 99, 97, 116, 105, 111, 110, 32, 99, 111, 110, 102, 105, 103, 117, 114, 97, 116, 105, 111, 110, 32, 109, 97, 116, 99, 104, 101, 100]⟩))
def oneR (b : Bool) : DV := if b then errD else .p .nilIface
theorem ok49 {G : Nat → DV} (hG : GZ G) {H : List Blk} {bb : Nat} {D : Fin 3 → DV} {L : Fin 3 → List N} (s : Cs X H bb D L) (n : N) (hn : Good n) (hg : ∀ x ∈ L 1, Good x) (hL : (L 1).length ≤ 1000) :
    OkR Try.prog G 49 [.ptr bb 0 0 1, arnD n.a n.b n.c n.d n.e, .fz 1 (strs n.ev), .p (.string (fstOf n.p)), .p (.string (fstOf n.s))] H fun v H' => v = oneR (iDo (L 1) 2 n).2.2 ∧ ∃ D', Cs X H' bb D' (up L 1 (iDo (L 1) 2 n).1) ∧ KpW H H' bb D D' := by
  refine OkR_by Try.func49 c49_ok r49_ok 53 rfl ?_
  simp [c49, r49, arnD]
  obtain ⟨ds, hv0, hc0⟩ := s.sl 1
  have hdl := hc0.len
  obtain ⟨B0, hB0⟩ : ∃ B0, B0 = H ++ [.cells 5 [arnD n.a n.b n.c n.d n.e]] := ⟨_, rfl⟩
  have hp0 : HPre H B0 := by rw [hB0]; exact HPre.append _ _
  have hx3 : B0[H.length]? = some (.cells 5 [arnD n.a n.b n.c n.d n.e]) := by rw [hB0]; simp
  have sB := s.push hp0
  have hsame : ∀ H', HPre B0 H' → ∀ i, i < H.length → H'[i]? = H[i]? := fun H' hp i hi => by
    have h1 := hp0.trans hp
    rw [List.getElem?_eq_getElem hi]; exact h1 _ _ (List.getElem?_eq_getElem hi)
  simp only [arnD] at hB0 hx3
  rw [← hB0]
  clear hB0
  have hlB : H.length ≤ B0.length := hp0.length
  have hat := sB.at_b
  have finN : oneAt (L 1) n = none → ∀ H', HPre B0 H' → REr H (some [errD]) H' (fun v H' => v = oneR (iDo (L 1) 2 n).2.2 ∧ ∃ D', Cs X H' bb D' (up L 1 (iDo (L 1) 2 n).1) ∧ KpW H H' bb D D') := fun hno H' hp => by
    have e : iDo (L 1) 2 n = (L 1, false, true) := by simp [iDo, hno]
    rw [e]
    exact REr_by _ _ .refl ⟨rfl, D, by rw [up_id]; exact sB.push hp, KpW.refl' (hp0.trans hp)⟩
  simp [hat, isNilD]
  rcases hv0.len with ⟨hD, hds⟩ | ⟨b, els, hD, hb0, hle, hels⟩
  · simp [hD]
    refine VV_once ?_
    intro B he hr
    simp
    refine he _ _ ?_
    have hL0 : L 1 = [] := by
      have : ds.length = 0 := by rw [hds]; rfl
      exact List.eq_nil_of_length_eq_zero (by omega)
    simp
    exact finN (by rw [hL0]; rfl) B0 (HPre.refl _)
  · simp [hD]
    refine VV_fam (fun x : Nat × List Blk => ⟨fr 58 [(0, .ptr bb 0 0 1), (2, .fz 1 (strs n.ev)), (3, .p (.string (fstOf n.p))), (4, .p (.string (fstOf n.s))), (6, .ptr H.length 0 0 1), (11, .p (.int .i64 (-1))), (17, .sl b 0 ds.length els.length), (18, .p (.int .i64 ds.length)), (19, .p (.int .i64 x.1))], x.2⟩)
      (fun x => x.1 ≤ ds.length ∧ HPre B0 x.2 ∧ ∀ y ∈ (L 1).take x.1, isP n y = false) (fun x => ds.length - x.1) (0, B0) ⟨by simp, HPre.refl _, by simp⟩ (Wk.fits (by simp)) ?_
    rintro ⟨i, H'⟩ ⟨hi, hp, hall⟩ B hb he hr
    simp only at hi hp hall
    simp
    have hb9 : H'[b]? = some (.cells 9 els) := by
      rw [hsame H' hp b (List.getElem?_eq_some_iff.1 hb0).1]; exact hb0
    have hx3' := hp _ _ hx3
    have hbb' := hp _ _ hat
    refine CC_by (fun h2 => ?_) (fun h2 => ?_)
    · have hi' : i < ds.length := by simpa using h2
      have hie : i < els.length := by omega
      have hiL : i < (L 1).length := by omega
      have htk : (L 1).take (i + 1) = (L 1).take i ++ [(L 1)[i]] := List.take_succ_eq_append_getElem hiL
      obtain ⟨evd', f', rd', hel, hcf⟩ := hc0.get i hiL hi'
      have hel' : els[i]? = some (elD ((L 1)[i]'hiL) evd' f') := by rw [List.getElem?_eq_getElem hie, hels i hi' hie, hel]
      have hgx : Good ((L 1)[i]'hiL) := hg _ (List.getElem_mem hiL)
      have hfound : isP n ((L 1)[i]'hiL) = true → oneAt (L 1) n = some i := fun h => by
        rw [oneAt_eq, List.findIdx?_eq_some_iff_getElem]
        refine ⟨hiL, h, fun j hj => ?_⟩
        have := hall ((L 1)[j]) (by rw [List.mem_take_iff_getElem]; exact ⟨j, by omega, rfl⟩)
        simp [this]
      generalize (L 1)[i]'hiL = n' at hel' hcf htk hgx hfound
      have hadd : IntKind.i64.wrap ((i : Int) + 1) = ((i + 1 : Nat) : Int) := wrap_succ hi' (by omega)
      simp [hi', hb9, hel', elD]
      obtain ⟨H1, hH1⟩ : ∃ H1, H1 = H' ++ [.cells 9 [elD n' evd' f']] := ⟨_, rfl⟩
      have hp1 : HPre H' H1 := by rw [hH1]; exact HPre.append _ _
      have h17 : H1[H'.length]? = some (.cells 9 [elD n' evd' f']) := by rw [hH1]; simp
      have h15 := hp1 _ _ hx3'
      have hpB := hp.trans hp1
      have hgo : ∀ j, j < H.length → H1[j]? = H[j]? := hsame H1 hpB
      have h57 := nEqS hG H1 H'.length f' n' n hgx hn evd' rd' h17 (by rw [hgo f' (List.getElem?_eq_some_iff.1 hcf.at_f).1]; exact hcf.at_f)
        (hcf.es.of fun j hj => hgo j (SlS.lt hcf.es hj)) (hcf.rs.of fun j hj => hgo j (SlS.lt hcf.rs hj))
      have hstep : isP n n' = false → ∀ y ∈ (L 1).take (i + 1), isP n y = false := fun h y hy => by
        rw [htk] at hy
        rcases List.mem_append.1 hy with hy | hy
        · exact hall y hy
        · rw [List.mem_singleton.1 hy]; exact h
      simp only [elD] at hH1 h17
      rw [← hH1]
      clear hH1
      simp [h15]
      refine DF_by (txS n hn _) ?_
      simp
      cases htx : decide (n'.tx = n.tx)
      · simp [hadd]
        refine hb _ (i + 1, H1) (Wk.fits (by simp)) ⟨hi', hpB, hstep (by simp [isP, htx])⟩ (by simp; omega)
      · simp [h17]
        refine DF_by h57 ?_
        cases hne : nEq n'.ev n'.p n'.s n.ev (fstOf n.p) (fstOf n.s)
        · simp [hadd]
          refine hb _ (i + 1, H1) (Wk.fits (by simp)) ⟨hi', hpB, hstep (by simp [isP, hne])⟩ (by simp; omega)
        · simp [KON_blk_ext]
          refine he _ _ ?_
          have hone := hfound (by simp [isP, hne, htx])
          have hbb1 := hp1 _ _ hbb'
          have hb19 := hp1 _ _ hb9
          have hile : i ≤ ds.length := hi
          have hi1 : (0 : Int) ≤ (i : Int) + 1 := by omega
          have hi2 : (i : Int) + 1 ≤ ds.length := by omega
          have hi3 : ((i : Int) + 1).toNat = i + 1 := by omega
          have hdsl : ds = els.take ds.length := by
            refine List.ext_getElem (by simp; omega) fun j h1 h2 => ?_
            rw [List.getElem_take, hels j h1]
          simp [hbb1, isNilD, hD, hb19, hadd, hile, hi1, hi2, hi3]
          have hel1 : elemsOf H1 9 (.sl b (i + 1) (ds.length - (i + 1)) els.length) = some (ds.drop (i + 1)) := by
            simp [elemsOf, hb19]
            conv => rhs; rw [hdsl]
            rw [List.drop_take]
          have hv1 : Vs 9 H1 (.sl b 0 i els.length) (ds.take i) := by
            refine .inr ⟨b, els, ?_, hb19, ?_⟩
            · simp; omega
            · conv => rhs; rw [hdsl]
              rw [List.take_take, List.length_take]
          have hle1 : iDo (L 1) 2 n = ((L 1).eraseIdx i, true, false) := by simp [iDo, hone]
          refine DA_Vs hv1 hel1 (by simp; omega) ?_
          intro d' h2 hv2 hk2
          have hbbl : bb < H.length := (List.getElem?_eq_some_iff.1 s.at_b).1
          have hbl : b < H.length := (List.getElem?_eq_some_iff.1 hb0).1
          have hl2 : H.length ≤ h2.length := Nat.le_trans (Nat.le_trans hlB hpB.length) hk2.len
          have hb_in : inBlk (D 1) b := by rw [hD]; rfl
          have hin : ∀ j, inBlk (.sl b 0 i els.length) j → j = b := fun j hj => hj
          have hold2 : ∀ j, j < H.length → ¬ inBlk (D 1) j → h2[j]? = H[j]? := fun j hj hn => by
            rw [hk2.old j (Nat.lt_of_lt_of_le hj (Nat.le_trans hlB hpB.length)) (fun h => hn (by rw [hin j h]; exact hb_in)), hgo j hj]
          have h2b : h2[bb]? = some (.cells 5 [.agg [.p (.string ⟨#[]⟩), .p (.string ⟨#[]⟩), D 0, D 1, D 2]]) := by
            rw [hold2 bb hbbl (s.nb 1)]; exact s.at_b
          have hn2 : ∀ j, inBlk d' j → inBlk (D 1) j ∨ H.length ≤ j := fun j hj => by
            rcases hk2.new j hj with h | h
            · rw [hin j h]; exact .inl hb_in
            · exact .inr (Nat.le_trans (Nat.le_trans hlB hpB.length) h)
          have hc2 : Cfs H (Wx X bb D) ((L 1).eraseIdx i) (ds.take i ++ ds.drop (i + 1)) := by
            rw [List.eraseIdx_eq_take_drop_succ]
            exact (hc0.take i).app (hc0.drop (i + 1))
          have hU := s.upd 1 hv2 hc2 hold2 hn2 hl2
          suffices HH : REr H (some [.p .nilIface]) (h2.set bb (.cells 5 [.agg [.p (.string ⟨#[]⟩), .p (.string ⟨#[]⟩), up D 1 d' 0, up D 1 d' 1, up D 1 d' 2]])) (fun v H' => v = oneR (iDo (L 1) 2 n).2.2 ∧ ∃ D', Cs X H' bb D' (up L 1 (iDo (L 1) 2 n).1) ∧ KpW H H' bb D D') by
            simp only [up] at HH
            rcases hv2.len with ⟨rfl, hx⟩ | ⟨g, els2, rfl, _, _, _⟩
            · simpa [h2b, hD, isNilD] using HH
            · simpa [h2b, hD, isNilD] using HH
          rw [hle1]
          refine REr_by _ _ .refl ⟨rfl, _, hU, ?_, fun j hj hiw => ?_, fun j hj => ?_⟩
          · show H.length ≤ (h2.set bb _).length
            rw [List.length_set]
            exact hl2
          · rw [List.getElem?_set_ne (fun h => hiw (.inl h.symm)), hold2 j hj (fun h => hiw (.inr ⟨1, h⟩))]
          · rcases hj with h | ⟨m, h⟩
            · exact .inl (.inl h)
            · by_cases hm : m = 1
              · rw [hm, up_same] at h
                rcases hn2 j h with h1 | h1
                · exact .inl (.inr ⟨1, h1⟩)
                · exact .inr h1
              · rw [up_ne D d' hm] at h; exact .inl (.inr ⟨m, h⟩)
    · have hii : i = ds.length := by simp at h2; omega
      subst hii
      rw [List.take_of_length_le (by omega)] at hall
      simp
      refine he _ _ ?_
      simp
      exact finN (by rw [oneAt_eq, List.findIdx?_eq_none_iff]; exact hall) H' hp
theorem ok50 {G : Nat → DV} (hG : GZ G) {H : List Blk} {bb : Nat} {D : Fin 3 → DV} {L : Fin 3 → List N} (s : Cs X H bb D L) (n : N) (hn : Good n) (hg : ∀ x ∈ L 2, Good x) (hL : (L 2).length ≤ 1000) :
    OkR Try.prog G 50 [.ptr bb 0 0 1, arnD n.a n.b n.c n.d n.e, .fz 1 (strs n.ev), .p (.string (fstOf n.p)), .p (.string (fstOf n.s))] H fun v H' => v = oneR (iDo (L 2) 2 n).2.2 ∧ ∃ D', Cs X H' bb D' (up L 2 (iDo (L 2) 2 n).1) ∧ KpW H H' bb D D' := by
  refine OkR_by Try.func50 c50_ok r50_ok 53 rfl ?_
  simp [c50, r50, arnD]
  obtain ⟨ds, hv0, hc0⟩ := s.sl 2
  have hdl := hc0.len
  obtain ⟨B0, hB0⟩ : ∃ B0, B0 = H ++ [.cells 5 [arnD n.a n.b n.c n.d n.e]] := ⟨_, rfl⟩
  have hp0 : HPre H B0 := by rw [hB0]; exact HPre.append _ _
  have hx3 : B0[H.length]? = some (.cells 5 [arnD n.a n.b n.c n.d n.e]) := by rw [hB0]; simp
  have sB := s.push hp0
  have hsame : ∀ H', HPre B0 H' → ∀ i, i < H.length → H'[i]? = H[i]? := fun H' hp i hi => by
    have h1 := hp0.trans hp
    rw [List.getElem?_eq_getElem hi]; exact h1 _ _ (List.getElem?_eq_getElem hi)
  simp only [arnD] at hB0 hx3
  rw [← hB0]
  clear hB0
  have hlB : H.length ≤ B0.length := hp0.length
  have hat := sB.at_b
  have finN : oneAt (L 2) n = none → ∀ H', HPre B0 H' → REr H (some [errD]) H' (fun v H' => v = oneR (iDo (L 2) 2 n).2.2 ∧ ∃ D', Cs X H' bb D' (up L 2 (iDo (L 2) 2 n).1) ∧ KpW H H' bb D D') := fun hno H' hp => by
    have e : iDo (L 2) 2 n = (L 2, false, true) := by simp [iDo, hno]
    rw [e]
    exact REr_by _ _ .refl ⟨rfl, D, by rw [up_id]; exact sB.push hp, KpW.refl' (hp0.trans hp)⟩
  simp [hat, isNilD]
  rcases hv0.len with ⟨hD, hds⟩ | ⟨b, els, hD, hb0, hle, hels⟩
  · simp [hD]
    refine VV_once ?_
    intro B he hr
    simp
    refine he _ _ ?_
    have hL0 : L 2 = [] := by
      have : ds.length = 0 := by rw [hds]; rfl
      exact List.eq_nil_of_length_eq_zero (by omega)
    simp
    exact finN (by rw [hL0]; rfl) B0 (HPre.refl _)
  · simp [hD]
    refine VV_fam (fun x : Nat × List Blk => ⟨fr 58 [(0, .ptr bb 0 0 1), (2, .fz 1 (strs n.ev)), (3, .p (.string (fstOf n.p))), (4, .p (.string (fstOf n.s))), (6, .ptr H.length 0 0 1), (11, .p (.int .i64 (-1))), (17, .sl b 0 ds.length els.length), (18, .p (.int .i64 ds.length)), (19, .p (.int .i64 x.1))], x.2⟩)
      (fun x => x.1 ≤ ds.length ∧ HPre B0 x.2 ∧ ∀ y ∈ (L 2).take x.1, isP n y = false) (fun x => ds.length - x.1) (0, B0) ⟨by simp, HPre.refl _, by simp⟩ (Wk.fits (by simp)) ?_
    rintro ⟨i, H'⟩ ⟨hi, hp, hall⟩ B hb he hr
    simp only at hi hp hall
    simp
    have hb9 : H'[b]? = some (.cells 9 els) := by
      rw [hsame H' hp b (List.getElem?_eq_some_iff.1 hb0).1]; exact hb0
    have hx3' := hp _ _ hx3
    have hbb' := hp _ _ hat
    refine CC_by (fun h2 => ?_) (fun h2 => ?_)
    · have hi' : i < ds.length := by simpa using h2
      have hie : i < els.length := by omega
      have hiL : i < (L 2).length := by omega
      have htk : (L 2).take (i + 1) = (L 2).take i ++ [(L 2)[i]] := List.take_succ_eq_append_getElem hiL
      obtain ⟨evd', f', rd', hel, hcf⟩ := hc0.get i hiL hi'
      have hel' : els[i]? = some (elD ((L 2)[i]'hiL) evd' f') := by rw [List.getElem?_eq_getElem hie, hels i hi' hie, hel]
      have hgx : Good ((L 2)[i]'hiL) := hg _ (List.getElem_mem hiL)
      have hfound : isP n ((L 2)[i]'hiL) = true → oneAt (L 2) n = some i := fun h => by
        rw [oneAt_eq, List.findIdx?_eq_some_iff_getElem]
        refine ⟨hiL, h, fun j hj => ?_⟩
        have := hall ((L 2)[j]) (by rw [List.mem_take_iff_getElem]; exact ⟨j, by omega, rfl⟩)
        simp [this]
      generalize (L 2)[i]'hiL = n' at hel' hcf htk hgx hfound
      have hadd : IntKind.i64.wrap ((i : Int) + 1) = ((i + 1 : Nat) : Int) := wrap_succ hi' (by omega)
      simp [hi', hb9, hel', elD]
      obtain ⟨H1, hH1⟩ : ∃ H1, H1 = H' ++ [.cells 9 [elD n' evd' f']] := ⟨_, rfl⟩
      have hp1 : HPre H' H1 := by rw [hH1]; exact HPre.append _ _
      have h17 : H1[H'.length]? = some (.cells 9 [elD n' evd' f']) := by rw [hH1]; simp
      have h15 := hp1 _ _ hx3'
      have hpB := hp.trans hp1
      have hgo : ∀ j, j < H.length → H1[j]? = H[j]? := hsame H1 hpB
      have h57 := nEqS hG H1 H'.length f' n' n hgx hn evd' rd' h17 (by rw [hgo f' (List.getElem?_eq_some_iff.1 hcf.at_f).1]; exact hcf.at_f)
        (hcf.es.of fun j hj => hgo j (SlS.lt hcf.es hj)) (hcf.rs.of fun j hj => hgo j (SlS.lt hcf.rs hj))
      have hstep : isP n n' = false → ∀ y ∈ (L 2).take (i + 1), isP n y = false := fun h y hy => by
        rw [htk] at hy
        rcases List.mem_append.1 hy with hy | hy
        · exact hall y hy
        · rw [List.mem_singleton.1 hy]; exact h
      simp only [elD] at hH1 h17
      rw [← hH1]
      clear hH1
      simp [h15]
      refine DF_by (txS n hn _) ?_
      simp
      cases htx : decide (n'.tx = n.tx)
      · simp [hadd]
        refine hb _ (i + 1, H1) (Wk.fits (by simp)) ⟨hi', hpB, hstep (by simp [isP, htx])⟩ (by simp; omega)
      · simp [h17]
        refine DF_by h57 ?_
        cases hne : nEq n'.ev n'.p n'.s n.ev (fstOf n.p) (fstOf n.s)
        · simp [hadd]
          refine hb _ (i + 1, H1) (Wk.fits (by simp)) ⟨hi', hpB, hstep (by simp [isP, hne])⟩ (by simp; omega)
        · simp [KON_blk_ext]
          refine he _ _ ?_
          have hone := hfound (by simp [isP, hne, htx])
          have hbb1 := hp1 _ _ hbb'
          have hb19 := hp1 _ _ hb9
          have hile : i ≤ ds.length := hi
          have hi1 : (0 : Int) ≤ (i : Int) + 1 := by omega
          have hi2 : (i : Int) + 1 ≤ ds.length := by omega
          have hi3 : ((i : Int) + 1).toNat = i + 1 := by omega
          have hdsl : ds = els.take ds.length := by
            refine List.ext_getElem (by simp; omega) fun j h1 h2 => ?_
            rw [List.getElem_take, hels j h1]
          simp [hbb1, isNilD, hD, hb19, hadd, hile, hi1, hi2, hi3]
          have hel1 : elemsOf H1 9 (.sl b (i + 1) (ds.length - (i + 1)) els.length) = some (ds.drop (i + 1)) := by
            simp [elemsOf, hb19]
            conv => rhs; rw [hdsl]
            rw [List.drop_take]
          have hv1 : Vs 9 H1 (.sl b 0 i els.length) (ds.take i) := by
            refine .inr ⟨b, els, ?_, hb19, ?_⟩
            · simp; omega
            · conv => rhs; rw [hdsl]
              rw [List.take_take, List.length_take]
          have hle1 : iDo (L 2) 2 n = ((L 2).eraseIdx i, true, false) := by simp [iDo, hone]
          refine DA_Vs hv1 hel1 (by simp; omega) ?_
          intro d' h2 hv2 hk2
          have hbbl : bb < H.length := (List.getElem?_eq_some_iff.1 s.at_b).1
          have hbl : b < H.length := (List.getElem?_eq_some_iff.1 hb0).1
          have hl2 : H.length ≤ h2.length := Nat.le_trans (Nat.le_trans hlB hpB.length) hk2.len
          have hb_in : inBlk (D 2) b := by rw [hD]; rfl
          have hin : ∀ j, inBlk (.sl b 0 i els.length) j → j = b := fun j hj => hj
          have hold2 : ∀ j, j < H.length → ¬ inBlk (D 2) j → h2[j]? = H[j]? := fun j hj hn => by
            rw [hk2.old j (Nat.lt_of_lt_of_le hj (Nat.le_trans hlB hpB.length)) (fun h => hn (by rw [hin j h]; exact hb_in)), hgo j hj]
          have h2b : h2[bb]? = some (.cells 5 [.agg [.p (.string ⟨#[]⟩), .p (.string ⟨#[]⟩), D 0, D 1, D 2]]) := by
            rw [hold2 bb hbbl (s.nb 2)]; exact s.at_b
          have hn2 : ∀ j, inBlk d' j → inBlk (D 2) j ∨ H.length ≤ j := fun j hj => by
            rcases hk2.new j hj with h | h
            · rw [hin j h]; exact .inl hb_in
            · exact .inr (Nat.le_trans (Nat.le_trans hlB hpB.length) h)
          have hc2 : Cfs H (Wx X bb D) ((L 2).eraseIdx i) (ds.take i ++ ds.drop (i + 1)) := by
            rw [List.eraseIdx_eq_take_drop_succ]
            exact (hc0.take i).app (hc0.drop (i + 1))
          have hU := s.upd 2 hv2 hc2 hold2 hn2 hl2
          suffices HH : REr H (some [.p .nilIface]) (h2.set bb (.cells 5 [.agg [.p (.string ⟨#[]⟩), .p (.string ⟨#[]⟩), up D 2 d' 0, up D 2 d' 1, up D 2 d' 2]])) (fun v H' => v = oneR (iDo (L 2) 2 n).2.2 ∧ ∃ D', Cs X H' bb D' (up L 2 (iDo (L 2) 2 n).1) ∧ KpW H H' bb D D') by
            simp only [up] at HH
            rcases hv2.len with ⟨rfl, hx⟩ | ⟨g, els2, rfl, _, _, _⟩
            · simpa [h2b, hD, isNilD] using HH
            · simpa [h2b, hD, isNilD] using HH
          rw [hle1]
          refine REr_by _ _ .refl ⟨rfl, _, hU, ?_, fun j hj hiw => ?_, fun j hj => ?_⟩
          · show H.length ≤ (h2.set bb _).length
            rw [List.length_set]
            exact hl2
          · rw [List.getElem?_set_ne (fun h => hiw (.inl h.symm)), hold2 j hj (fun h => hiw (.inr ⟨2, h⟩))]
          · rcases hj with h | ⟨m, h⟩
            · exact .inl (.inl h)
            · by_cases hm : m = 2
              · rw [hm, up_same] at h
                rcases hn2 j h with h1 | h1
                · exact .inl (.inr ⟨2, h1⟩)
                · exact .inr h1
              · rw [up_ne D d' hm] at h; exact .inl (.inr ⟨m, h⟩)
    · have hii : i = ds.length := by simp at h2; omega
      subst hii
      rw [List.take_of_length_le (by omega)] at hall
      simp
      refine he _ _ ?_
      simp
      exact finN (by rw [oneAt_eq, List.findIdx?_eq_none_iff]; exact hall) H' hp
theorem ok51 {G : Nat → DV} (hG : GZ G) {H : List Blk} {bb : Nat} {D : Fin 3 → DV} {L : Fin 3 → List N} (s : Cs X H bb D L) (n : N) (hn : Good n) (hg : ∀ x ∈ L 0, Good x) (hL : (L 0).length ≤ 1000) :
    OkR Try.prog G 51 [.ptr bb 0 0 1, arnD n.a n.b n.c n.d n.e, .fz 1 (strs n.ev), .p (.string (fstOf n.p)), .p (.string (fstOf n.s))] H fun v H' => v = oneR (iDo (L 0) 2 n).2.2 ∧ ∃ D', Cs X H' bb D' (up L 0 (iDo (L 0) 2 n).1) ∧ KpW H H' bb D D' := by
  refine OkR_by Try.func51 c51_ok r51_ok 53 rfl ?_
  simp [c51, r51, arnD]
  obtain ⟨ds, hv0, hc0⟩ := s.sl 0
  have hdl := hc0.len
  obtain ⟨B0, hB0⟩ : ∃ B0, B0 = H ++ [.cells 5 [arnD n.a n.b n.c n.d n.e]] := ⟨_, rfl⟩
  have hp0 : HPre H B0 := by rw [hB0]; exact HPre.append _ _
  have hx3 : B0[H.length]? = some (.cells 5 [arnD n.a n.b n.c n.d n.e]) := by rw [hB0]; simp
  have sB := s.push hp0
  have hsame : ∀ H', HPre B0 H' → ∀ i, i < H.length → H'[i]? = H[i]? := fun H' hp i hi => by
    have h1 := hp0.trans hp
    rw [List.getElem?_eq_getElem hi]; exact h1 _ _ (List.getElem?_eq_getElem hi)
  simp only [arnD] at hB0 hx3
  rw [← hB0]
  clear hB0
  have hlB : H.length ≤ B0.length := hp0.length
  have hat := sB.at_b
  have finN : oneAt (L 0) n = none → ∀ H', HPre B0 H' → REr H (some [errD]) H' (fun v H' => v = oneR (iDo (L 0) 2 n).2.2 ∧ ∃ D', Cs X H' bb D' (up L 0 (iDo (L 0) 2 n).1) ∧ KpW H H' bb D D') := fun hno H' hp => by
    have e : iDo (L 0) 2 n = (L 0, false, true) := by simp [iDo, hno]
    rw [e]
    exact REr_by _ _ .refl ⟨rfl, D, by rw [up_id]; exact sB.push hp, KpW.refl' (hp0.trans hp)⟩
  simp [hat, isNilD]
  rcases hv0.len with ⟨hD, hds⟩ | ⟨b, els, hD, hb0, hle, hels⟩
  · simp [hD]
    refine VV_once ?_
    intro B he hr
    simp
    refine he _ _ ?_
    have hL0 : L 0 = [] := by
      have : ds.length = 0 := by rw [hds]; rfl
      exact List.eq_nil_of_length_eq_zero (by omega)
    simp
    exact finN (by rw [hL0]; rfl) B0 (HPre.refl _)
  · simp [hD]
    refine VV_fam (fun x : Nat × List Blk => ⟨fr 58 [(0, .ptr bb 0 0 1), (2, .fz 1 (strs n.ev)), (3, .p (.string (fstOf n.p))), (4, .p (.string (fstOf n.s))), (6, .ptr H.length 0 0 1), (11, .p (.int .i64 (-1))), (17, .sl b 0 ds.length els.length), (18, .p (.int .i64 ds.length)), (19, .p (.int .i64 x.1))], x.2⟩)
      (fun x => x.1 ≤ ds.length ∧ HPre B0 x.2 ∧ ∀ y ∈ (L 0).take x.1, isP n y = false) (fun x => ds.length - x.1) (0, B0) ⟨by simp, HPre.refl _, by simp⟩ (Wk.fits (by simp)) ?_
    rintro ⟨i, H'⟩ ⟨hi, hp, hall⟩ B hb he hr
    simp only at hi hp hall
    simp
    have hb9 : H'[b]? = some (.cells 9 els) := by
      rw [hsame H' hp b (List.getElem?_eq_some_iff.1 hb0).1]; exact hb0
    have hx3' := hp _ _ hx3
    have hbb' := hp _ _ hat
    refine CC_by (fun h2 => ?_) (fun h2 => ?_)
    · have hi' : i < ds.length := by simpa using h2
      have hie : i < els.length := by omega
      have hiL : i < (L 0).length := by omega
      have htk : (L 0).take (i + 1) = (L 0).take i ++ [(L 0)[i]] := List.take_succ_eq_append_getElem hiL
      obtain ⟨evd', f', rd', hel, hcf⟩ := hc0.get i hiL hi'
      have hel' : els[i]? = some (elD ((L 0)[i]'hiL) evd' f') := by rw [List.getElem?_eq_getElem hie, hels i hi' hie, hel]
      have hgx : Good ((L 0)[i]'hiL) := hg _ (List.getElem_mem hiL)
      have hfound : isP n ((L 0)[i]'hiL) = true → oneAt (L 0) n = some i := fun h => by
        rw [oneAt_eq, List.findIdx?_eq_some_iff_getElem]
        refine ⟨hiL, h, fun j hj => ?_⟩
        have := hall ((L 0)[j]) (by rw [List.mem_take_iff_getElem]; exact ⟨j, by omega, rfl⟩)
        simp [this]
      generalize (L 0)[i]'hiL = n' at hel' hcf htk hgx hfound
      have hadd : IntKind.i64.wrap ((i : Int) + 1) = ((i + 1 : Nat) : Int) := wrap_succ hi' (by omega)
      simp [hi', hb9, hel', elD]
      obtain ⟨H1, hH1⟩ : ∃ H1, H1 = H' ++ [.cells 9 [elD n' evd' f']] := ⟨_, rfl⟩
      have hp1 : HPre H' H1 := by rw [hH1]; exact HPre.append _ _
      have h17 : H1[H'.length]? = some (.cells 9 [elD n' evd' f']) := by rw [hH1]; simp
      have h15 := hp1 _ _ hx3'
      have hpB := hp.trans hp1
      have hgo : ∀ j, j < H.length → H1[j]? = H[j]? := hsame H1 hpB
      have h57 := nEqS hG H1 H'.length f' n' n hgx hn evd' rd' h17 (by rw [hgo f' (List.getElem?_eq_some_iff.1 hcf.at_f).1]; exact hcf.at_f)
        (hcf.es.of fun j hj => hgo j (SlS.lt hcf.es hj)) (hcf.rs.of fun j hj => hgo j (SlS.lt hcf.rs hj))
      have hstep : isP n n' = false → ∀ y ∈ (L 0).take (i + 1), isP n y = false := fun h y hy => by
        rw [htk] at hy
        rcases List.mem_append.1 hy with hy | hy
        · exact hall y hy
        · rw [List.mem_singleton.1 hy]; exact h
      simp only [elD] at hH1 h17
      rw [← hH1]
      clear hH1
      simp [h15]
      refine DF_by (txS n hn _) ?_
      simp
      cases htx : decide (n'.tx = n.tx)
      · simp [hadd]
        refine hb _ (i + 1, H1) (Wk.fits (by simp)) ⟨hi', hpB, hstep (by simp [isP, htx])⟩ (by simp; omega)
      · simp [h17]
        refine DF_by h57 ?_
        cases hne : nEq n'.ev n'.p n'.s n.ev (fstOf n.p) (fstOf n.s)
        · simp [hadd]
          refine hb _ (i + 1, H1) (Wk.fits (by simp)) ⟨hi', hpB, hstep (by simp [isP, hne])⟩ (by simp; omega)
        · simp [KON_blk_ext]
          refine he _ _ ?_
          have hone := hfound (by simp [isP, hne, htx])
          have hbb1 := hp1 _ _ hbb'
          have hb19 := hp1 _ _ hb9
          have hile : i ≤ ds.length := hi
          have hi1 : (0 : Int) ≤ (i : Int) + 1 := by omega
          have hi2 : (i : Int) + 1 ≤ ds.length := by omega
          have hi3 : ((i : Int) + 1).toNat = i + 1 := by omega
          have hdsl : ds = els.take ds.length := by
            refine List.ext_getElem (by simp; omega) fun j h1 h2 => ?_
            rw [List.getElem_take, hels j h1]
          simp [hbb1, isNilD, hD, hb19, hadd, hile, hi1, hi2, hi3]
          have hel1 : elemsOf H1 9 (.sl b (i + 1) (ds.length - (i + 1)) els.length) = some (ds.drop (i + 1)) := by
            simp [elemsOf, hb19]
            conv => rhs; rw [hdsl]
            rw [List.drop_take]
          have hv1 : Vs 9 H1 (.sl b 0 i els.length) (ds.take i) := by
            refine .inr ⟨b, els, ?_, hb19, ?_⟩
            · simp; omega
            · conv => rhs; rw [hdsl]
              rw [List.take_take, List.length_take]
          have hle1 : iDo (L 0) 2 n = ((L 0).eraseIdx i, true, false) := by simp [iDo, hone]
          refine DA_Vs hv1 hel1 (by simp; omega) ?_
          intro d' h2 hv2 hk2
          have hbbl : bb < H.length := (List.getElem?_eq_some_iff.1 s.at_b).1
          have hbl : b < H.length := (List.getElem?_eq_some_iff.1 hb0).1
          have hl2 : H.length ≤ h2.length := Nat.le_trans (Nat.le_trans hlB hpB.length) hk2.len
          have hb_in : inBlk (D 0) b := by rw [hD]; rfl
          have hin : ∀ j, inBlk (.sl b 0 i els.length) j → j = b := fun j hj => hj
          have hold2 : ∀ j, j < H.length → ¬ inBlk (D 0) j → h2[j]? = H[j]? := fun j hj hn => by
            rw [hk2.old j (Nat.lt_of_lt_of_le hj (Nat.le_trans hlB hpB.length)) (fun h => hn (by rw [hin j h]; exact hb_in)), hgo j hj]
          have h2b : h2[bb]? = some (.cells 5 [.agg [.p (.string ⟨#[]⟩), .p (.string ⟨#[]⟩), D 0, D 1, D 2]]) := by
            rw [hold2 bb hbbl (s.nb 0)]; exact s.at_b
          have hn2 : ∀ j, inBlk d' j → inBlk (D 0) j ∨ H.length ≤ j := fun j hj => by
            rcases hk2.new j hj with h | h
            · rw [hin j h]; exact .inl hb_in
            · exact .inr (Nat.le_trans (Nat.le_trans hlB hpB.length) h)
          have hc2 : Cfs H (Wx X bb D) ((L 0).eraseIdx i) (ds.take i ++ ds.drop (i + 1)) := by
            rw [List.eraseIdx_eq_take_drop_succ]
            exact (hc0.take i).app (hc0.drop (i + 1))
          have hU := s.upd 0 hv2 hc2 hold2 hn2 hl2
          suffices HH : REr H (some [.p .nilIface]) (h2.set bb (.cells 5 [.agg [.p (.string ⟨#[]⟩), .p (.string ⟨#[]⟩), up D 0 d' 0, up D 0 d' 1, up D 0 d' 2]])) (fun v H' => v = oneR (iDo (L 0) 2 n).2.2 ∧ ∃ D', Cs X H' bb D' (up L 0 (iDo (L 0) 2 n).1) ∧ KpW H H' bb D D') by
            simp only [up] at HH
            rcases hv2.len with ⟨rfl, hx⟩ | ⟨g, els2, rfl, _, _, _⟩
            · simpa [h2b, hD, isNilD] using HH
            · simpa [h2b, hD, isNilD] using HH
          rw [hle1]
          refine REr_by _ _ .refl ⟨rfl, _, hU, ?_, fun j hj hiw => ?_, fun j hj => ?_⟩
          · show H.length ≤ (h2.set bb _).length
            rw [List.length_set]
            exact hl2
          · rw [List.getElem?_set_ne (fun h => hiw (.inl h.symm)), hold2 j hj (fun h => hiw (.inr ⟨0, h⟩))]
          · rcases hj with h | ⟨m, h⟩
            · exact .inl (.inl h)
            · by_cases hm : m = 0
              · rw [hm, up_same] at h
                rcases hn2 j h with h1 | h1
                · exact .inl (.inr ⟨0, h1⟩)
                · exact .inr h1
              · rw [up_ne D d' hm] at h; exact .inl (.inr ⟨m, h⟩)
    · have hii : i = ds.length := by simp at h2; omega
      subst hii
      rw [List.take_of_length_le (by omega)] at hall
      simp
      refine he _ _ ?_
      simp
      exact finN (by rw [oneAt_eq, List.findIdx?_eq_none_iff]; exact hall) H' hp
end Go.Proofs.Ythkgekkpnldbmaa
