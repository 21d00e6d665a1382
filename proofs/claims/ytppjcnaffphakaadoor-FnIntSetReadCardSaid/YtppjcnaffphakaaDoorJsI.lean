/- JSON: a text is read into a list of numbers. -/
import Derived.Test.YtppjcnaffphakaaDoorJsH
set_option linter.unusedVariables false
set_option linter.unusedSimpArgs false
set_option maxRecDepth 100000
set_option maxHeartbeats 4000000
namespace Go.Proofs.YtppjcnaffphakaaDoor
open Go Go.Den Go.Proofs

theorem ok86 {G : Nat → DV} (hG : GZ G) (h : List Blk) (sb b : Nat) (ns : List Int) (hs : h[sb]? = some (.cells 1 [.sl b 0 0 0])) (hb : h[b]? = some (.cells 1 [])) (hn : ∀ n, n ∈ ns → I64 n) (hN1 : ns.length ≤ 1000) :
    Ok Tryd.prog G 86 [.ptr sb 0 0 1, .agg (elK (.fz 5 (kidsD (ns.map decI))))] h (.p (.bool true))
      ((h ++ [Blk.cells 1 [.ptr sb 0 0 1], .cells 5 [.agg (elK (.fz 5 (kidsD (ns.map decI))))]]).set sb (.cells 1 [.sl (h.length + 3) 0 ns.length ns.length]) ++ takenB ns ns.length) := by
  refine Ok_by Tryd.func86 c86_ok r86_ok 7 rfl ?_
  have hsl : sb < h.length := (List.getElem?_eq_some_iff.1 hs).1
  simp [c86, r86, elK]
  rw [← elK]
  have := ok87 hG (h ++ [Blk.cells 1 [.ptr sb 0 0 1], .cells 5 [.agg (elK (.fz 5 (kidsD (ns.map decI))))]]) h.length sb b ns (by omega) (by simp) (get_pre hs _) (get_pre hb _) hn hN1
  refine FF_by this ?_
  simp
  exact WkV.refl
/-- The whole value: a list of numbers. -/
theorem ok27t {G : Nat → DV} (hG : GZ G) (h : List Blk) (rb : Nat) (r : List UInt8) (hb : h[rb]? = some (rdB (91 :: r) 0 0)) (hl : (91 :: r).length ≤ 1000000000) (hn : numT r) :
    OkR Tryd.prog G 27 [.ptr rb 0 0 1] h (ElO h rb (91 :: r) r) := by
  refine OkR.wf fun hw => ?_
  refine OkR_by Tryd.func27 c27_ok r27_ok 106 rfl ?_
  have hbl : rb < h.length := (List.getElem?_eq_some_iff.1 hb).1
  have hsa : ∀ t x, (h ++ t).set rb x = h.set rb x ++ t := fun t x => List.set_append_left _ _ hbl
  have hgv : ∀ x t, (h.set rb x ++ t)[h.length]? = t[0]? := fun x t => by
    have := get_app0 (h := h.set rb x) (l := t)
    rwa [List.length_set] at this
  have hsv : ∀ x t y, (h.set rb x ++ t).set h.length y = h.set rb x ++ t.set 0 y := fun x t y => by
    have := set_app0 (h := h.set rb x) (l := t) (z := y)
    rwa [List.length_set] at this
  have hwd : ∀ l p d, HWF (h.set rb (rdB l p d)) := fun l p d => hw.set wf_rdB
  generalize hR : ElO h rb (91 :: r) r = R
  generalize hL : (91 :: r : List UInt8) = L at hb hl hR
  simp [c27, r27]
  refine FF_by (ok28 (h ++ [.cells 5 [.agg nilD]]) rb 0 0 L (get_pre hb _) (by omega) (by omega)) ?_
  have h0 : nb (L.drop 0) = 0 := by rw [← hL]; rfl
  rw [h0, Nat.add_zero, rd_same (get_pre hb _)]
  have hLl : 0 < L.length := by rw [← hL]; simp
  have hlI : ¬ (L.length : Int) ≤ 0 := by omega
  have hne : ¬ L = [] := by rw [← hL]; simp
  have e5 : (L[0]'hLl).toNat = 91 := by subst hL; rfl
  simp [get_pre hb, rdB, hlI, hLl, hne, e5]
  have hc := ok38 hG (h ++ [.cells 5 [.agg nilD]]) rb 0 L r (get_pre hb _) (by rw [← hL]; rfl) hLl hl hn
  refine FF_byR hc ?_
  intro v h' hv
  unfold ElO at hv
  subst hR
  cases hE : elemsT r with
  | none =>
    rw [hE] at hv
    obtain ⟨xs, p, d, hp, rfl, rfl⟩ := hv
    rw [hsa]
    simp [hgv, hsv, elV, elK, nilD]
    refine REr_by (.tup [elV xs, .p (.bool false)]) (h.set rb (rdB L p d)) (WkV.drop (by simp) (fun _ => hwd _ _ _) (by simp [elV, elK, WF_kids])) ?_
    unfold ElO
    rw [hE]
    exact ⟨xs, p, d, hp, rfl, rfl⟩
  | some o =>
    obtain ⟨xs, rest⟩ := o
    rw [hE] at hv
    obtain ⟨rfl, rfl⟩ := hv
    rw [hsa]
    simp [hgv, hsv, elV, elK, nilD]
    refine REr_by (.tup [elV xs, .p (.bool true)]) (h.set rb (rdB L (L.length - rest.length) 0)) (WkV.drop (by simp) (fun _ => hwd _ _ _) (by simp [elV, elK, WF_kids])) ?_
    unfold ElO
    rw [hE]
    exact ⟨rfl, rfl⟩

/-- The numbers stand in a slice of their own. -/
def Taken (h : List Blk) (sb : Nat) (ns : List Int) (h' : List Blk) : Prop := ∃ nb, h.length ≤ nb ∧ HPre (h.set sb (.cells 1 [.sl nb 0 ns.length ns.length])) h' ∧ h'[nb]? = some (.cells 1 (ints ns))
theorem fills_all (ns : List Int) : fills ns ns.length = ns := by simp [fills]
theorem ok18a {G : Nat → DV} (hG : GZ G) (h : List Blk) (sb b : Nat) (r : List UInt8) (ns : List Int) (hs : h[sb]? = some (.cells 1 [.sl b 0 0 0])) (hb : h[b]? = some (.cells 1 [])) (hn : ∀ n, n ∈ ns → I64 n) (hN1 : ns.length ≤ 1000)
    (hl : (91 :: r).length ≤ 1000000000) (hr : numT r) (hE : elemsT r = some (ns.map decI, [])) :
    OkR Tryd.prog G 18 [.fz 1 (bts (91 :: r)), .iface 48 (.ptr sb 0 0 1)] h fun v h' => v = .p .nilIface ∧ Taken h sb ns h' := by
  refine OkR_by Tryd.func18 c18_ok r18_ok 36 rfl ?_
  have hsl : sb < h.length := (List.getElem?_eq_some_iff.1 hs).1
  generalize hR : (fun (v : DV) (h' : List Blk) => v = .p .nilIface ∧ Taken h sb ns h') = R
  generalize hL : (91 :: r : List UInt8) = L at hl
  simp [c18, r18]
  have hc := ok27t hG (h ++ [rdB L 0 0]) h.length r (by rw [hL]; simp) (by rw [hL]; exact hl) hr
  rw [hL] at hc
  refine FF_byR hc ?_
  intro v h1 hv
  unfold ElO at hv
  rw [hE] at hv
  obtain ⟨rfl, rfl⟩ := hv
  have e1 : (h ++ [rdB L 0 0]).set h.length (rdB L (L.length - ([] : List UInt8).length) 0) = h ++ [rdB L L.length 0] := by simp
  rw [e1]
  simp [elV, elK, nilD]
  rw [← elK]
  refine FF_by (ok28 _ h.length L.length 0 L (by simp) (Nat.le_refl _) (by omega)) ?_
  have e2 : nb (L.drop L.length) = 0 := by rw [List.drop_length]; rfl
  rw [e2]
  simp [rdB]
  refine IV_by (f := 86) (by kernel_rfl) (by kernel_rfl) ?_
  have c86 := ok86 hG (h ++ [Blk.cells 3 [DV.agg [DV.fz 1 (bts L), DV.p (Value.int IntKind.i64 ↑L.length), DV.p (Value.int IntKind.i64 0)]], Blk.cells 5 [DV.agg (elK (DV.fz 5 (kidsD (List.map decI ns))))]]) sb b ns (get_pre hs _) (get_pre hb _) hn hN1
  refine FF_by c86 ?_
  simp
  subst hR
  refine REr_by _ _ WkV.refl ⟨rfl, h.length + 5, by omega, ?_, ?_⟩
  · rw [List.set_append_left _ _ hsl, List.append_assoc]
    have e3 : h.length + 2 + 3 = h.length + 5 := by omega
    simp only [e3]
    exact HPre.append _ _
  · rw [List.set_append_left _ _ hsl]
    have e4 : (h.set sb (.cells 1 [.sl (h.length + 2 + 3) 0 ns.length ns.length])).length = h.length := by simp
    rw [List.append_assoc, List.getElem?_append_right (by rw [e4]; omega), e4]
    simp [takenB, fills_all]
theorem ok18b {G : Nat → DV} (hG : GZ G) (h : List Blk) (x : DV) (r : List UInt8) (hl : (91 :: r).length ≤ 1000000000) (hr : numT r) (hE : elemsT r = none) :
    OkR Tryd.prog G 18 [.fz 1 (bts (91 :: r)), x] h fun v h' => (∃ t e, v = .iface t (.p (.string e))) ∧ h' = h := by
  refine OkR_by Tryd.func18 c18_ok r18_ok 36 rfl ?_
  generalize hR : (fun (v : DV) (h' : List Blk) => (∃ t e, v = .iface t (.p (.string e))) ∧ h' = h) = R
  generalize hL : (91 :: r : List UInt8) = L at hl
  simp [c18, r18]
  have hc := ok27t hG (h ++ [rdB L 0 0]) h.length r (by rw [hL]; simp) (by rw [hL]; exact hl) hr
  rw [hL] at hc
  refine FF_byR hc ?_
  intro v h1 hv
  unfold ElO at hv
  rw [hE] at hv
  obtain ⟨xs, p, d, hp, rfl, rfl⟩ := hv
  have e1 : (h ++ [rdB L 0 0]).set h.length (rdB L p d) = h ++ [rdB L p d] := by simp
  rw [e1]
  simp [elV, elK, nilD]
  rw [← elK]
  refine FF_by (ok28 _ h.length p d L (by simp) hp (by omega)) ?_
  simp [rdB]
  subst hR
  exact REr_by _ _ (WkV.ofPure (HPre.append _ _) rfl) ⟨⟨_, _, rfl⟩, rfl⟩
theorem ok18c {G : Nat → DV} (h : List Blk) (x : DV) :
    OkR Tryd.prog G 18 [.fz 1 (bts []), x] h fun v h' => (∃ t e, v = .iface t (.p (.string e))) ∧ h' = h := by
  refine OkR_by Tryd.func18 c18_ok r18_ok 36 rfl ?_
  generalize hR : (fun (v : DV) (h' : List Blk) => (∃ t e, v = .iface t (.p (.string e))) ∧ h' = h) = R
  simp [c18, r18]
  refine FF_byR (ok27n (h ++ [rdB [] 0 0]) h.length 0 0 [] (by simp) (by simp) (by simp) (fun c hc => by simp at hc)) ?_
  intro v h1 hv
  unfold ValO at hv
  obtain ⟨k, p, hp, rfl, rfl⟩ := hv
  have hp0 : p = 0 := by simpa using hp
  subst hp0
  have e1 : (h ++ [rdB [] 0 0]).set h.length (rdB [] 0 0) = h ++ [rdB [] 0 0] := by simp
  rw [e1]
  simp
  refine FF_by (ok28 _ h.length 0 0 [] (by simp) (by simp) (by simp)) ?_
  simp [rdB]
  subst hR
  exact REr_by _ _ (WkV.ofPure (HPre.append _ _) rfl) ⟨⟨_, _, rfl⟩, rfl⟩
end Go.Proofs.YtppjcnaffphakaaDoor
