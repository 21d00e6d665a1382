/- JSON: a set of numbers is read. -/
import Derived.Test.YtppjcnaffphakaaDoorJsI
set_option linter.unusedVariables false
set_option linter.unusedSimpArgs false
set_option maxRecDepth 100000
set_option maxHeartbeats 4000000
namespace Go.Proofs.YtppjcnaffphakaaDoor
open Go Go.Den Go.Proofs

def c11L0 : DC :=
  (.seq (.rg [⟨(some 21), .bin .lss (.t 20) (.t 19), none⟩])
    (.seq (.cond (.t 21) .skip
    (.exit 0))
    (.seq (.block 1 (.seq (.rg [⟨(some 22), .iaddr 1 (.t 18) (.t 20), none⟩,
           ⟨(some 23), .load false 1 (.t 22), none⟩,
           ⟨(some 8), .mov (.t 23), none⟩])
    (.rg [⟨(some 24), .mov (.t 0), none⟩,
           ⟨(some 25), .nilchk .ptr (.t 24), none⟩,
           ⟨(some 26), .load false 1 (.t 25), none⟩,
           ⟨(some 27), .mov (.t 8), none⟩,
           ⟨(some 28), .callr 19 [(.t 26), (.t 27)], none⟩])))
    (.rg [⟨(some 29), .bin .add (.t 20) (.c (.p (.int .i64 1))), none⟩,
          ⟨(some 20), .mov (.t 29), none⟩]))))
theorem c11_cut : c11 =
  (.seq (.rg [⟨(some 4), .mov (.c (.p .nilIface)), none⟩])
    (.seq (.rg [⟨(some 9), .lit 1 [], none⟩,
      ⟨(some 5), .alloc 1 (.p (.slice none 0 0)), none⟩,
      ⟨none, .store 1 (.t 5) (.t 9), none⟩])
    (.seq (.rg [⟨(some 6), .mov (.c (.p .nilIface)), none⟩])
    (.seq (.seq (.rg [⟨(some 10), .mov (.t 1), none⟩,
      ⟨(some 11), .ifc 48 (.t 5), none⟩,
      ⟨(some 12), .callr 18 [(.t 10), (.t 11)], none⟩,
      ⟨(some 6), .mov (.t 12), none⟩])
    (.seq (.rg [⟨(some 13), .mov (.t 6), none⟩,
      ⟨(some 14), .eqn false .iface (.t 13), none⟩])
    (.cond (.t 14) (.seq (.rg [⟨(some 15), .mov (.t 0), none⟩,
        ⟨(some 16), .mkmap, none⟩,
        ⟨(some 17), .nilchk .ptr (.t 15), none⟩,
        ⟨none, .store 1 (.t 17) (.t 16), none⟩])
    (.seq (.rg [⟨(some 18), .load false 1 (.t 5), none⟩,
        ⟨(some 19), .lenl (.t 18), none⟩,
        ⟨(some 20), .mov (.c (.p (.int .i64 0))), none⟩])
    (.block 0 (.loop c11L0))))
    .skip)))
    (.seq (.rg [⟨(some 30), .mov (.t 6), none⟩,
      ⟨(some 4), .mov (.t 30), none⟩])
    .ret))))) := rfl

/-- The set stands in a map of its own. -/
def JsOut (h : List Blk) (pb : Nat) (ns : List Int) (h' : List Blk) : Prop := ∃ mb, h.length ≤ mb ∧ HPre (h.set pb (.cells 1 [.mp mb])) h' ∧ h'[mb]? = some (.map (smap (ns.foldl addNew [])))
theorem ok11a {G : Nat → DV} (hG : GZ G) (h : List Blk) (pb : Nat) (r : List UInt8) (ns : List Int) (hp : h[pb]? = some (.cells 1 [.p (.map none)])) (hn : ∀ n, n ∈ ns → I64 n) (hN1 : ns.length ≤ 1000)
    (hl : (91 :: r).length ≤ 1000000000) (hr : numT r) (hE : elemsT r = some (ns.map decI, [])) :
    OkR Tryd.prog G 11 [.ptr pb 0 0 1, .fz 1 (bts (91 :: r))] h fun v h' => v = .p .nilIface ∧ JsOut h pb ns h' := by
  refine OkR.wf fun hw => ?_
  refine OkR_by Tryd.func11 c11_ok r11_ok 29 rfl ?_
  have hpl : pb < h.length := (List.getElem?_eq_some_iff.1 hp).1
  generalize hR : (fun (v : DV) (h' : List Blk) => v = .p .nilIface ∧ JsOut h pb ns h') = R
  rw [c11_cut]
  simp [r11]
  refine FF_byR (ok18a hG (h ++ [.cells 1 [], .cells 1 [.sl h.length 0 0 0]]) (h.length + 1) h.length r ns (by simp) (by simp) hn hN1 hl hr hE).hwf ?_
  rintro v h1 ⟨⟨rfl, nb, hnb, hpre, hvals⟩, hw1⟩
  have e0 : (h ++ [Blk.cells 1 [], .cells 1 [.sl h.length 0 0 0]]).set (h.length + 1) (.cells 1 [.sl nb 0 ns.length ns.length]) = h ++ [.cells 1 [], .cells 1 [.sl nb 0 ns.length ns.length]] := by simp
  rw [e0] at hpre
  have hnb2 : h.length + 2 ≤ nb := by simpa using hnb
  have hl1 := hpre.length
  simp at hl1
  have g1 : h1[pb]? = some (.cells 1 [.p (.map none)]) := hpre _ _ (get_pre hp _)
  have g2 : h1[h.length + 1]? = some (.cells 1 [.sl nb 0 ns.length ns.length]) := hpre _ _ (by simp)
  have hpl1 : pb < h1.length := by omega
  have f1 : ∀ (x : Blk) (t : List Blk), (h1.set pb x ++ t)[h.length + 1]? = some (.cells 1 [.sl nb 0 ns.length ns.length]) := fun x t => get_pre (by rw [List.getElem?_set_ne (by omega)]; exact g2) t
  have f2 : ∀ (x : Blk) (t : List Blk), (h1.set pb x ++ t)[nb]? = some (.cells 1 (ints ns)) := fun x t => get_pre (by rw [List.getElem?_set_ne (by omega)]; exact hvals) t
  have f3 : ∀ (x : Blk) (t : List Blk), (h1.set pb x ++ t)[pb]? = some x := fun x t => get_pre (rd_set g1 x) t
  have f4 : ∀ (t : List Blk) (x : Blk), (h1 ++ t).set pb x = h1.set pb x ++ t := fun t x => List.set_append_left _ _ hpl1
  have f5 : ∀ (x : Blk) (t : List Blk), (h1.set pb x ++ t)[h1.length]? = t[0]? := fun x t => by
    have := get_app0 (h := h1.set pb x) (l := t)
    rwa [List.length_set] at this
  have f6 : ∀ (x : Blk) (t : List Blk) (y : Blk), (h1.set pb x ++ t).set h1.length y = h1.set pb x ++ t.set 0 y := fun x t y => by
    have := set_app0 (h := h1.set pb x) (l := t) (z := y)
    rwa [List.length_set] at this
  simp [get_pre g1, f4, f1]
  refine VV_fam (fun i : Nat => ⟨fr 31 [(0, .ptr pb 0 0 1), (6, .p .nilIface), (18, .sl nb 0 ns.length ns.length), (19, .p (.int .i64 ns.length)), (20, .p (.int .i64 i))], h1.set pb (.cells 1 [.mp h1.length]) ++ [.map (smap ((ns.take i).foldl addNew []))]⟩)
    (fun i => i ≤ ns.length) (fun i => ns.length - i) 0 (by omega) (Wk.fits (by simp)) ?_
  intro i hi B hbk he hr
  by_cases hlt : i < ns.length
  · have e5 : (ints ns)[i]?.getD .any = .p (.int .i64 ns[i]) := ints_get hlt
    have e4 : IntKind.i64.wrap ((i : Int) + 1) = ((i + 1 : Nat) : Int) := wrap_succ hlt (by omega)
    have hltI : (i : Int) < (ns.length : Int) := by omega
    simp [c11L0, hlt, hltI, f2, f3, e5]
    refine FF_by (ok19 _ h1.length ((ns.take i).foldl addNew []) ns[i] (by rw [f5]; rfl) (noIter_push (noIter_set (y := .cells 1 [.mp h1.length]) (hw1.noIter (Nat.le_refl _)) (by simp)) (by simp))) ?_
    rw [f6]
    simp [e4]
    have ef : (ns.take (i + 1)).foldl addNew [] = addNew ((ns.take i).foldl addNew []) ns[i] := by rw [List.take_succ_eq_append_getElem hlt, List.foldl_append]; rfl
    refine hbk _ (i + 1) ?_ hlt (by omega)
    rw [ef]
    exact Wk.fits (by simp)
  · have : i = ns.length := by omega
    subst this
    simp [c11L0]
    refine he _ _ ?_
    simp
    subst hR
    refine REr_by _ _ WkV.refl ⟨rfl, h1.length, by omega, ?_, ?_⟩
    · intro b k hb
      refine get_pre ?_ _
      rw [List.getElem?_set] at hb ⊢
      split at hb
      · rename_i he; subst he
        rw [if_pos rfl, if_pos hpl1]
        exact hb
      · rename_i he
        rw [if_neg he]
        exact hpre _ _ (get_pre hb _)
    · rw [f5]; simp
theorem ok11b {G : Nat → DV} (hG : GZ G) (h : List Blk) (x : DV) (r : List UInt8) (hl : (91 :: r).length ≤ 1000000000) (hr : numT r) (hE : elemsT r = none) :
    OkR Tryd.prog G 11 [x, .fz 1 (bts (91 :: r))] h fun v h' => (∃ t e, v = .iface t (.p (.string e))) ∧ h' = h := by
  refine OkR_by Tryd.func11 c11_ok r11_ok 29 rfl ?_
  rw [c11_cut]
  simp [r11]
  refine FF_byR (ok18b hG (h ++ [.cells 1 [], .cells 1 [.sl h.length 0 0 0]]) _ r hl hr hE) ?_
  rintro v h1 ⟨⟨t, e, rfl⟩, rfl⟩
  simp
  exact REr_by _ _ (WkV.ofPure (HPre.append _ _) rfl) ⟨⟨_, _, rfl⟩, rfl⟩
theorem ok11c {G : Nat → DV} (h : List Blk) (x : DV) :
    OkR Tryd.prog G 11 [x, .fz 1 (bts [])] h fun v h' => (∃ t e, v = .iface t (.p (.string e))) ∧ h' = h := by
  refine OkR_by Tryd.func11 c11_ok r11_ok 29 rfl ?_
  rw [c11_cut]
  simp [r11]
  refine FF_byR (ok18c (h ++ [.cells 1 [], .cells 1 [.sl h.length 0 0 0]]) _) ?_
  rintro v h1 ⟨⟨t, e, rfl⟩, rfl⟩
  simp
  exact REr_by _ _ (WkV.ofPure (HPre.append _ _) rfl) ⟨⟨_, _, rfl⟩, rfl⟩
end Go.Proofs.YtppjcnaffphakaaDoor
