/- JSON: a set of texts is read. -/
import Derived.Test.YtppjcnaffphakaaGreatDoorJtF
import Derived.Test.YtppjcnaffphakaaGreatDoorStA
set_option linter.unusedVariables false
set_option linter.unusedSimpArgs false
set_option maxRecDepth 100000
set_option maxHeartbeats 4000000
namespace Go.Proofs.YtppjcnaffphakaaGreatDoor
open Go Go.Den Go.Proofs


theorem c45_cut : c45 =
  (.seq (.rg [⟨(some 4), .mov (.c (.p .nilIface)), none⟩])
    (.seq (.rg [⟨(some 8), .mov (.t 0), none⟩,
      ⟨(some 9), .bld [.p (.slice none 0 0), .p (.int .i64 0), .p (.int .i64 0)] [(0, 1, (.t 8))], none⟩,
      ⟨(some 10), .box (.t 9), none⟩,
      ⟨(some 5), .mov (.t 10), none⟩])
    (.seq (.rg [⟨(some 12), .mov (.t 5), none⟩,
      ⟨(some 13), .callr 65 [(.t 12)], none⟩,
      ⟨(some 11), .mov (.t 13), none⟩,
      ⟨(some 14), .ext (.t 11) 0, none⟩,
      ⟨(some 15), .ext (.t 11) 1, none⟩,
      ⟨(some 6), .alloc 5 (.agg [.p (.int .u8 0), .p (.bool false), .p (.string ⟨#[]⟩), .p (.slice none 0 0), .p (.slice none 0 0)]), none⟩,
      ⟨none, .store 5 (.t 6) (.t 14), none⟩,
      ⟨(some 7), .mov (.t 15), none⟩])
    (.seq (.rg [⟨(some 16), .mov (.t 5), none⟩,
      ⟨(some 17), .callr 66 [(.t 16)], none⟩])
    (.seq (.seq (.rgd [⟨⟨(some 18), .mov (.t 7), none⟩, 0, []⟩,
      ⟨⟨(some 19), .un .not (.t 18), none⟩, 0, []⟩,
      ⟨⟨(some 20), .mov (.t 19), none⟩, 0, []⟩,
      ⟨⟨(some 21), .mov (.t 5), (some (20, false))⟩, 0, [0]⟩,
      ⟨⟨(some 22), .nilchk .ptr (.t 21), (some (20, false))⟩, 0, [0]⟩,
      ⟨⟨(some 23), .faddr false 1 1 (.t 22), (some (20, false))⟩, 0, [0]⟩,
      ⟨⟨(some 24), .load false 1 (.t 23), (some (20, false))⟩, 0, [0]⟩,
      ⟨⟨(some 25), .mov (.t 5), (some (20, false))⟩, 0, [0]⟩,
      ⟨⟨(some 26), .nilchk .ptr (.t 25), (some (20, false))⟩, 0, [0]⟩,
      ⟨⟨(some 27), .faddr false 0 1 (.t 26), (some (20, false))⟩, 0, [0]⟩,
      ⟨⟨(some 28), .load false 1 (.t 27), (some (20, false))⟩, 0, [0]⟩,
      ⟨⟨(some 29), .lenl (.t 28), (some (20, false))⟩, 0, [0]⟩,
      ⟨⟨(some 30), .bin .lss (.t 24) (.t 29), (some (20, false))⟩, 0, []⟩,
      ⟨⟨(some 31), .pick (.t 20) (.c (.p (.bool true))) (.t 30), none⟩, 0, []⟩])
    (.cond (.t 31) (.seq (.rg [⟨(some 32), .ifc 117 (.c (.p (.string ⟨#[105, 110, 118, 97, 108, 105, 100, 32, 74, 83, 79, 78]⟩))), none⟩,
        ⟨(some 4), .mov (.t 32), none⟩])
    .ret)
    .skip))
    (.seq (.seq (.rg [⟨(some 33), .mov (.t 1), none⟩,
      ⟨(some 34), .load true 5 (.t 6), none⟩,
      ⟨(some 35), .inv true "ZzTake" (.t 33) [(.t 34)], none⟩,
      ⟨(some 36), .un .not (.t 35), none⟩])
    (.cond (.t 36) (.seq (.rg [⟨(some 37), .ifc 117 (.c (.p (.string ⟨#[74, 83, 79, 78, 32, 118, 97, 108, 117, 101, 32, 111, 102, 32, 97, 110, 111, 116, 104, 101, 114, 32, 116, 121, 112, 101]⟩))), none⟩,
        ⟨(some 4), .mov (.t 37), none⟩])
    .ret)
    .skip))
    (.seq (.rg [⟨(some 4), .mov (.c (.p .nilIface)), none⟩])
    .ret))))))) := rfl

def c23L0 : DC :=
  (.seq (.rg [⟨(some 20), .bin .lss (.t 19) (.t 18), none⟩])
    (.seq (.cond (.t 20) .skip
    (.exit 0))
    (.seq (.block 1 (.seq (.rg [⟨(some 21), .iaddr 1 (.t 17) (.t 19), none⟩,
           ⟨(some 22), .load false 1 (.t 21), none⟩,
           ⟨(some 8), .mov (.t 22), none⟩])
    (.rg [⟨(some 23), .mov (.t 0), none⟩,
           ⟨(some 24), .nilchk .ptr (.t 23), none⟩,
           ⟨(some 25), .load false 1 (.t 24), none⟩,
           ⟨(some 26), .mov (.t 8), none⟩,
           ⟨(some 27), .callr 46 [(.t 25), (.t 26)], none⟩])))
    (.rg [⟨(some 28), .bin .add (.t 19) (.c (.p (.int .i64 1))), none⟩,
          ⟨(some 19), .mov (.t 28), none⟩]))))
theorem c23_cut : c23 =
  (.seq (.rg [⟨(some 4), .mov (.c (.p .nilIface)), none⟩])
    (.seq (.rg [⟨(some 5), .alloc 1 (.p (.slice none 0 0)), none⟩])
    (.seq (.rg [⟨(some 9), .mov (.t 1), none⟩,
      ⟨(some 10), .ifc 77 (.t 5), none⟩,
      ⟨(some 11), .callr 45 [(.t 9), (.t 10)], none⟩,
      ⟨(some 6), .mov (.t 11), none⟩])
    (.seq (.seq (.rg [⟨(some 12), .mov (.t 6), none⟩,
      ⟨(some 13), .eqn false .iface (.t 12), none⟩])
    (.cond (.t 13) (.seq (.rg [⟨(some 14), .mov (.t 0), none⟩,
        ⟨(some 15), .mkmap, none⟩,
        ⟨(some 16), .nilchk .ptr (.t 14), none⟩,
        ⟨none, .store 1 (.t 16) (.t 15), none⟩])
    (.seq (.rg [⟨(some 17), .load false 1 (.t 5), none⟩,
        ⟨(some 18), .lenl (.t 17), none⟩,
        ⟨(some 19), .mov (.c (.p (.int .i64 0))), none⟩])
    (.block 0 (.loop c23L0))))
    .skip))
    (.seq (.rg [⟨(some 29), .mov (.t 6), none⟩,
      ⟨(some 4), .mov (.t 29), none⟩])
    .ret))))) := rfl


/-- The whole value: a list of texts. -/
theorem ok65t {G : Nat → DV} (hG : GZ G) (h : List Blk) (rb : Nat) (r : List UInt8) (o : Option (List (List UInt8) × List UInt8)) (hb : h[rb]? = some (rdB (91 :: r) 0 0)) (hl : (91 :: r).length ≤ 1000000000) (hE : ElT r o) :
    OkR Tryz.prog G 65 [.ptr rb 0 0 1] h (ElO h rb (91 :: r) o) := by
  refine OkR.wf fun hw => ?_
  refine OkR_by Tryz.func65 c65_ok r65_ok 106 rfl ?_
  have hbl : rb < h.length := (List.getElem?_eq_some_iff.1 hb).1
  have hsa : ∀ t x, (h ++ t).set rb x = h.set rb x ++ t := fun t x => List.set_append_left _ _ hbl
  have hgv : ∀ x t, (h.set rb x ++ t)[h.length]? = t[0]? := fun x t => by
    have := get_app0 (h := h.set rb x) (l := t)
    rwa [List.length_set] at this
  have hsv : ∀ x t y, (h.set rb x ++ t).set h.length y = h.set rb x ++ t.set 0 y := fun x t y => by
    have := set_app0 (h := h.set rb x) (l := t) (z := y)
    rwa [List.length_set] at this
  have hwd : ∀ l p d, HWF (h.set rb (rdB l p d)) := fun l p d => hw.set wf_rdB
  generalize hR : ElO h rb (91 :: r) o = R
  generalize hL : (91 :: r : List UInt8) = L at hb hl hR
  simp [c65, r65]
  refine FF_by (ok66 (h ++ [.cells 5 [.agg nilD]]) rb 0 0 L (get_pre hb _) (by omega) (by omega)) ?_
  have h0 : nb (L.drop 0) = 0 := by rw [← hL]; rfl
  rw [h0, Nat.add_zero, rd_same (get_pre hb _)]
  have hLl : 0 < L.length := by rw [← hL]; simp
  have hlI : ¬ (L.length : Int) ≤ 0 := by omega
  have hne : ¬ L = [] := by rw [← hL]; simp
  have e5 : (L[0]'hLl).toNat = 91 := by subst hL; rfl
  simp [get_pre hb, rdB, hlI, hLl, hne, e5]
  have hc := ok78 hG (h ++ [.cells 5 [.agg nilD]]) rb 0 L r o (get_pre hb _) (by rw [← hL]; rfl) hLl hl hE
  refine FF_byR hc ?_
  intro v h' hv
  unfold ElO at hv
  subst hR
  cases o with
  | none =>
    obtain ⟨xs, p, d, hp, rfl, rfl⟩ := hv
    rw [hsa]
    simp [hgv, hsv, elV, elK, nilD]
    refine REr_by (.tup [elV xs, .p (.bool false)]) (h.set rb (rdB L p d)) (WkV.drop (by simp) (fun _ => hwd _ _ _) (by simp [elV, elK, WF_kids])) ?_
    exact ⟨xs, p, d, hp, rfl, rfl⟩
  | some o =>
    obtain ⟨xs, rest⟩ := o
    obtain ⟨zs, hzs, rfl, rfl⟩ := hv
    rw [hsa]
    simp [hgv, hsv, elV, elK, nilD]
    refine REr_by (.tup [elV zs, .p (.bool true)]) (h.set rb (rdB L (L.length - rest.length) 0)) (WkV.drop (by simp) (fun _ => hwd _ _ _) (by simp [elV, elK, WF_kids])) ?_
    exact ⟨zs, hzs, rfl, rfl⟩
theorem zts_snd {zs : List (Bool × List UInt8)} {xs : List (List UInt8)} (h : zs.map Prod.snd = xs) : zts zs = xs.map txt ∧ zs.length = xs.length := by
  subst h
  simp [zts]
theorem ok45a {G : Nat → DV} (hG : GZ G) (h : List Blk) (sb : Nat) (r : List UInt8) (xs : List (List UInt8)) (hs : h[sb]? = some (.cells 1 [.p (.slice none 0 0)])) (hN1 : xs.length ≤ 1000)
    (hl : (91 :: r).length ≤ 1000000000) (hE : ElT r (some (xs, []))) :
    OkR Tryz.prog G 45 [.fz 1 (bts (91 :: r)), .iface 77 (.ptr sb 0 0 1)] h fun v h' => v = .p .nilIface ∧ TakenS h sb (xs.map txt) h' := by
  refine OkR_by Tryz.func45 c45_ok r45_ok 36 rfl ?_
  have hsl : sb < h.length := (List.getElem?_eq_some_iff.1 hs).1
  generalize hR : (fun (v : DV) (h' : List Blk) => v = .p .nilIface ∧ TakenS h sb (xs.map txt) h') = R
  have hc := ok65t (G := G) hG (h ++ [rdB (91 :: r) 0 0]) h.length r _ (by simp) hl hE
  generalize hL : (91 :: r : List UInt8) = L at hl hc
  simp [c45, r45]
  refine FF_byR hc ?_
  intro v h1 hv
  unfold ElO at hv
  obtain ⟨zs, hzs, rfl, rfl⟩ := hv
  have e1 : (h ++ [rdB L 0 0]).set h.length (rdB L (L.length - ([] : List UInt8).length) 0) = h ++ [rdB L L.length 0] := by simp
  rw [e1]
  simp [elV, elK, nilD]
  rw [← elK]
  refine FF_by (ok66 _ h.length L.length 0 L (by simp) (Nat.le_refl _) (by omega)) ?_
  have e2 : nb (L.drop L.length) = 0 := by rw [List.drop_length]; rfl
  rw [e2]
  simp [rdB]
  refine IV_by (f := 147) (by kernel_rfl) (by kernel_rfl) ?_
  have hz := zts_snd hzs
  have c147 := ok147 hG (h ++ [Blk.cells 3 [DV.agg [DV.fz 1 (bts L), DV.p (Value.int IntKind.i64 ↑L.length), DV.p (Value.int IntKind.i64 0)]], Blk.cells 5 [DV.agg (elK (DV.fz 5 (kidsD zs)))]]) sb zs (get_pre hs _) (by omega)
  refine FF_byR c147 ?_
  rintro v h2 ⟨rfl, dk, ho⟩
  simp
  subst hR
  refine REr_by _ _ WkV.refl ⟨rfl, dk, ?_⟩
  rw [List.set_append_left _ _ hsl, hz.1] at ho
  exact ho.base (HPre.append _ _)
theorem ok45b {G : Nat → DV} (hG : GZ G) (h : List Blk) (x : DV) (r : List UInt8) (hl : (91 :: r).length ≤ 1000000000) (hE : ElT r none) :
    OkR Tryz.prog G 45 [.fz 1 (bts (91 :: r)), x] h fun v h' => (∃ t e, v = .iface t (.p (.string e))) ∧ h' = h := by
  refine OkR_by Tryz.func45 c45_ok r45_ok 36 rfl ?_
  generalize hR : (fun (v : DV) (h' : List Blk) => (∃ t e, v = .iface t (.p (.string e))) ∧ h' = h) = R
  have hc := ok65t (G := G) hG (h ++ [rdB (91 :: r) 0 0]) h.length r _ (by simp) hl hE
  generalize hL : (91 :: r : List UInt8) = L at hl hc
  simp [c45, r45]
  refine FF_byR hc ?_
  intro v h1 hv
  unfold ElO at hv
  obtain ⟨xs, p, d, hp, rfl, rfl⟩ := hv
  have e1 : (h ++ [rdB L 0 0]).set h.length (rdB L p d) = h ++ [rdB L p d] := by simp
  rw [e1]
  simp [elV, elK, nilD]
  rw [← elK]
  refine FF_by (ok66 _ h.length p d L (by simp) hp (by omega)) ?_
  simp [rdB]
  subst hR
  exact REr_by _ _ (WkV.ofPure (HPre.append _ _) rfl) ⟨⟨_, _, rfl⟩, rfl⟩
theorem ok45c {G : Nat → DV} (h : List Blk) (x : DV) :
    OkR Tryz.prog G 45 [.fz 1 (bts []), x] h fun v h' => (∃ t e, v = .iface t (.p (.string e))) ∧ h' = h := by
  refine OkR_by Tryz.func45 c45_ok r45_ok 36 rfl ?_
  generalize hR : (fun (v : DV) (h' : List Blk) => (∃ t e, v = .iface t (.p (.string e))) ∧ h' = h) = R
  simp [c45, r45]
  refine FF_byR (ok65 (h ++ [rdB [] 0 0]) h.length 0 0 [] none (by simp) (by simp) (by simp) (.inl ⟨rfl, rfl⟩)) ?_
  intro v h1 hv
  obtain ⟨k, bb, p, hp, rfl, rfl⟩ := hv
  have hp0 : p = 0 := by simpa using hp
  subst hp0
  have e1 : (h ++ [rdB [] 0 0]).set h.length (rdB [] 0 0) = h ++ [rdB [] 0 0] := by simp
  rw [e1]
  simp
  refine FF_by (ok66 _ h.length 0 0 [] (by simp) (by simp) (by simp)) ?_
  simp [rdB]
  subst hR
  exact REr_by _ _ (WkV.ofPure (HPre.append _ _) rfl) ⟨⟨_, _, rfl⟩, rfl⟩
/-- The set stands in a map of its own. -/
def JsOut (h : List Blk) (pb : Nat) (ns : List ByteArray) (h' : List Blk) : Prop := ∃ mb, h.length ≤ mb ∧ HPre (h.set pb (.cells 1 [.mp mb])) h' ∧ h'[mb]? = some (.map (smap (ns.foldl addNew [])))
theorem ok23a {G : Nat → DV} (hG : GZ G) (h : List Blk) (pb : Nat) (r : List UInt8) (xs : List (List UInt8)) (hp : h[pb]? = some (.cells 1 [.p (.map none)])) (hN1 : xs.length ≤ 1000)
    (hl : (91 :: r).length ≤ 1000000000) (hE : ElT r (some (xs, []))) :
    OkR Tryz.prog G 23 [.ptr pb 0 0 1, .fz 1 (bts (91 :: r))] h fun v h' => v = .p .nilIface ∧ JsOut h pb (xs.map txt) h' := by
  refine OkR.wf fun hw => ?_
  refine OkR_by Tryz.func23 c23_ok r23_ok 28 rfl ?_
  have hpl : pb < h.length := (List.getElem?_eq_some_iff.1 hp).1
  generalize hR : (fun (v : DV) (h' : List Blk) => v = .p .nilIface ∧ JsOut h pb (xs.map txt) h') = R
  rw [c23_cut]
  simp [r23]
  refine FF_byR (ok45a hG (h ++ [.cells 1 [.p (.slice none 0 0)]]) h.length r xs (by simp) hN1 hl hE).hwf ?_
  rintro v h1 ⟨⟨rfl, dk, ho⟩, hw1⟩
  have hns : (xs.map txt).length = xs.length := by simp
  generalize xs.map txt = ns at ho hR hns
  have e0 : (h ++ [Blk.cells 1 [.p (.slice none 0 0)]]).set h.length (.cells 1 [dk]) = h ++ [.cells 1 [dk]] := by simp
  rw [e0] at ho
  have hl1 := ho.pre.length
  simp at hl1
  have g1 : h1[pb]? = some (.cells 1 [.p (.map none)]) := ho.pre _ _ (get_pre hp _)
  have g2 : h1[h.length]? = some (.cells 1 [dk]) := ho.pre _ _ (by simp)
  have hpl1 : pb < h1.length := by omega
  have f1 : ∀ (x : Blk) (t : List Blk), (h1.set pb x ++ t)[h.length]? = some (.cells 1 [dk]) := fun x t => get_pre (by rw [List.getElem?_set_ne (by omega)]; exact g2) t
  have ho2 : ∀ (x : Blk) (t : List Blk), Own ((h ++ [Blk.cells 1 [dk]]).set pb x) 1 (h1.set pb x ++ t) dk (strs ns) := fun x t => (ho.setb (c := pb) (by simp; omega) x).push
  have f3 : ∀ (x : Blk) (t : List Blk), (h1.set pb x ++ t)[pb]? = some x := fun x t => get_pre (rd_set g1 x) t
  have f4 : ∀ (t : List Blk) (x : Blk), (h1 ++ t).set pb x = h1.set pb x ++ t := fun t x => List.set_append_left _ _ hpl1
  have f5 : ∀ (x : Blk) (t : List Blk), (h1.set pb x ++ t)[h1.length]? = t[0]? := fun x t => by
    have := get_app0 (h := h1.set pb x) (l := t)
    rwa [List.length_set] at this
  have f6 : ∀ (x : Blk) (t : List Blk) (y : Blk), (h1.set pb x ++ t).set h1.length y = h1.set pb x ++ t.set 0 y := fun x t y => by
    have := set_app0 (h := h1.set pb x) (l := t) (z := y)
    rwa [List.length_set] at this
  have fin : ∀ mb, mb = h1.length → R (.p .nilIface) (h1.set pb (.cells 1 [.mp mb]) ++ [.map (smap (ns.foldl addNew []))]) := fun mb hmb => by
    subst hR hmb
    refine ⟨rfl, h1.length, by omega, ?_, by rw [f5]; simp⟩
    intro b k hb
    refine get_pre ?_ _
    rw [List.getElem?_set] at hb ⊢
    split at hb
    · rename_i he; subst he
      rw [if_pos rfl, if_pos hpl1]
      exact hb
    · rename_i he
      rw [if_neg he]
      exact ho.pre _ _ (get_pre hb _)
  rcases ho.2 with ⟨rfl, hnil⟩ | ⟨b, rfl, hbh, hcell⟩
  · simp [get_pre g1, f4, f1]
    refine VV_once fun B he hr => ?_
    simp [c23L0]
    refine he _ _ ?_
    simp
    have : ns = [] := by simpa [strs] using hnil
    subst this
    exact REr_by _ _ WkV.refl (fin _ rfl)
  · simp at hbh
    have f2 : ∀ (x : Blk) (t : List Blk), (h1.set pb x ++ t)[b]? = some (.cells 1 (strs ns)) := fun x t => get_pre (by rw [List.getElem?_set_ne (by omega)]; exact hcell) t
    simp only [strs_length] at f1
    simp [get_pre g1, f4, f1]
    refine VV_fam (fun i : Nat => ⟨fr 30 [(0, .ptr pb 0 0 1), (6, .p .nilIface), (17, .sl b 0 ns.length ns.length), (18, .p (.int .i64 ns.length)), (19, .p (.int .i64 i))], h1.set pb (.cells 1 [.mp h1.length]) ++ [.map (smap ((ns.take i).foldl addNew []))]⟩)
      (fun i => i ≤ ns.length) (fun i => ns.length - i) 0 (by omega) (Wk.fits (by simp)) ?_
    intro i hi B hbk he hr
    by_cases hlt : i < ns.length
    · have e5 : (strs ns)[i]?.getD .any = .p (.string ns[i]) := strs_get hlt
      have e4 : IntKind.i64.wrap ((i : Int) + 1) = ((i + 1 : Nat) : Int) := wrap_succ hlt (by omega)
      have hltI : (i : Int) < (ns.length : Int) := by omega
      simp [c23L0, hlt, hltI, f2, f3, e5]
      refine FF_by (ok46 _ h1.length ((ns.take i).foldl addNew []) ns[i] (by rw [f5]; rfl) (noIter_push (noIter_set (y := .cells 1 [.mp h1.length]) (hw1.noIter (Nat.le_refl _)) (by simp)) (by simp))) ?_
      rw [f6]
      simp [e4]
      have ef : (ns.take (i + 1)).foldl addNew [] = addNew ((ns.take i).foldl addNew []) ns[i] := by rw [List.take_succ_eq_append_getElem hlt, List.foldl_append]; rfl
      refine hbk _ (i + 1) ?_ hlt (by omega)
      rw [ef]
      exact Wk.fits (by simp)
    · have : i = ns.length := by omega
      subst this
      simp [c23L0]
      refine he _ _ ?_
      simp
      exact REr_by _ _ WkV.refl (fin _ rfl)
theorem ok23b {G : Nat → DV} (hG : GZ G) (h : List Blk) (x : DV) (r : List UInt8) (hl : (91 :: r).length ≤ 1000000000) (hE : ElT r none) :
    OkR Tryz.prog G 23 [x, .fz 1 (bts (91 :: r))] h fun v h' => (∃ t e, v = .iface t (.p (.string e))) ∧ h' = h := by
  refine OkR_by Tryz.func23 c23_ok r23_ok 28 rfl ?_
  rw [c23_cut]
  simp [r23]
  refine FF_byR (ok45b hG (h ++ [.cells 1 [.p (.slice none 0 0)]]) _ r hl hE) ?_
  rintro v h1 ⟨⟨t, e, rfl⟩, rfl⟩
  simp
  exact REr_by _ _ (WkV.ofPure (HPre.append _ _) rfl) ⟨⟨_, _, rfl⟩, rfl⟩
theorem ok23c {G : Nat → DV} (h : List Blk) (x : DV) :
    OkR Tryz.prog G 23 [x, .fz 1 (bts [])] h fun v h' => (∃ t e, v = .iface t (.p (.string e))) ∧ h' = h := by
  refine OkR_by Tryz.func23 c23_ok r23_ok 28 rfl ?_
  rw [c23_cut]
  simp [r23]
  refine FF_byR (ok45c (h ++ [.cells 1 [.p (.slice none 0 0)]]) _) ?_
  rintro v h1 ⟨⟨t, e, rfl⟩, rfl⟩
  simp
  exact REr_by _ _ (WkV.ofPure (HPre.append _ _) rfl) ⟨⟨_, _, rfl⟩, rfl⟩
end Go.Proofs.YtppjcnaffphakaaGreatDoor
