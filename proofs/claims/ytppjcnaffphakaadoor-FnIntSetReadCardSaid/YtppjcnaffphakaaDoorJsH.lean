/- JSON: a list of numbers is taken. -/
import Derived.Test.YtppjcnaffphakaaDoorJsG
set_option linter.unusedVariables false
set_option linter.unusedSimpArgs false
set_option maxRecDepth 100000
set_option maxHeartbeats 4000000
namespace Go.Proofs.YtppjcnaffphakaaDoor
open Go Go.Den Go.Proofs

def c87L0 : DC :=
  (.seq (.rg [⟨(some 27), .bin .lss (.t 26) (.t 25), none⟩])
    (.seq (.cond (.t 27) .skip
    (.exit 1))
    (.seq (.block 2 (.seq (.rg [⟨(some 28), .mov (.t 26), none⟩,
              ⟨(some 29), .iaddr 5 (.t 24) (.t 26), none⟩,
              ⟨(some 30), .load true 5 (.t 29), none⟩,
              ⟨(some 9), .alloc 5 (.agg [.p (.int .u8 0), .p (.bool false), .p (.string ⟨#[]⟩), .p (.slice none 0 0), .p (.slice none 0 0)]), none⟩,
              ⟨(some 8), .mov (.t 28), none⟩,
              ⟨none, .store 5 (.t 9) (.t 30), none⟩])
    (.rg [⟨(some 31), .mov (.t 2), none⟩,
              ⟨(some 32), .mov (.t 8), none⟩,
              ⟨(some 33), .load true 5 (.t 9), none⟩,
              ⟨(some 34), .callv true (.t 31) [(.t 32), (.t 33)], none⟩,
              ⟨(some 35), .mov (.t 34), none⟩,
              ⟨(some 36), .mov (.t 7), (some (35, true))⟩,
              ⟨(some 37), .pick (.t 35) (.t 36) (.c (.p (.bool false))), none⟩,
              ⟨(some 7), .mov (.t 37), none⟩])))
    (.rg [⟨(some 38), .bin .add (.t 26) (.c (.p (.int .i64 1))), none⟩,
             ⟨(some 26), .mov (.t 38), none⟩]))))
theorem c87_cut : c87 =
  (.seq (.rg [⟨(some 3), .box (.t 0), none⟩,
      ⟨(some 6), .mov (.c (.p (.bool false))), none⟩])
    (.seq (.seq (.rg [⟨(some 10), .faddr false 0 1 (.t 3), none⟩,
      ⟨(some 11), .load false 1 (.t 10), none⟩])
    (.block 0 (.seq (.rg [⟨(some 13), .bin .eql (.t 11) (.c (.p (.int .u8 110))), none⟩,
       ⟨(some 12), .mov (.t 13), none⟩])
    (.cond (.t 12) (.seq (.rg [⟨(some 14), .mov (.t 1), none⟩,
         ⟨(some 15), .callv true (.t 14) [(.c (.p (.int .i64 (-1))))], none⟩])
    (.seq (.rg [⟨(some 6), .mov (.c (.p (.bool true))), none⟩])
    .ret))
    (.seq (.rg [⟨(some 17), .bin .eql (.t 11) (.c (.p (.int .u8 91))), none⟩,
         ⟨(some 16), .mov (.t 17), none⟩])
    (.cond (.t 16) (.seq (.rg [⟨(some 18), .mov (.t 1), none⟩,
           ⟨(some 19), .faddr false 3 1 (.t 3), none⟩,
           ⟨(some 20), .load false 1 (.t 19), none⟩,
           ⟨(some 21), .lenl (.t 20), none⟩,
           ⟨(some 22), .callv true (.t 18) [(.t 21)], none⟩])
    (.seq (.rg [⟨(some 7), .mov (.c (.p (.bool true))), none⟩])
    (.seq (.seq (.rg [⟨(some 23), .faddr false 3 1 (.t 3), none⟩,
           ⟨(some 24), .load false 1 (.t 23), none⟩,
           ⟨(some 25), .lenl (.t 24), none⟩,
           ⟨(some 26), .mov (.c (.p (.int .i64 0))), none⟩])
    (.block 1 (.loop c87L0)))
    (.seq (.rg [⟨(some 39), .mov (.t 7), none⟩,
           ⟨(some 6), .mov (.t 39), none⟩])
    .ret))))
    .skip))))))
    (.seq (.rg [⟨(some 6), .mov (.c (.p (.bool false))), none⟩])
    .ret))) := rfl

theorem WF_fnc {B : Nat → Prop} {f : Fn} {d : DV} : WF B (.fn f [] [d]) = WF B d := propext ⟨fun h => by
  cases h with
  | fn h h' => exact h' 0 (by simp), fun h => .fn (fun j hj => absurd hj (by simp)) (fun j hj => by
    have : j = 0 := by simpa using hj
    subst this
    exact h)⟩
theorem WF_kids {B : Nat → Prop} {xs : List (List UInt8)} : WF B (.fz 5 (kidsD xs)) = True := eq_true (WF_plain kidsD_plain)
theorem wf_box {B : Nat → Prop} {xs : List (List UInt8)} : (Blk.cells 5 [.agg (elK (.fz 5 (kidsD xs)))]).wf B := fun j hj => by
  simp at hj
  subst hj
  simp [elK, WF_kids]
@[simp] theorem kidsD_getElem {xs : List (List UInt8)} {i : Nat} (h : i < (kidsD xs).length) : (kidsD xs)[i] = .agg (numD' (xs[i]'(by simpa using h))) := by simp [kidsD]
def fills (ns : List Int) (i : Nat) : List Int := ns.take i ++ List.replicate (ns.length - i) 0
theorem fills_length (ns : List Int) (i : Nat) (h : i ≤ ns.length) : (fills ns i).length = ns.length := by simp [fills]; omega
theorem fills_set (ns : List Int) (i : Nat) (h : i < ns.length) : (fills ns i).set i ns[i] = fills ns (i + 1) := by
  unfold fills
  obtain ⟨m, hm⟩ : ∃ m, ns.length - i = m + 1 := ⟨ns.length - i - 1, by omega⟩
  rw [hm, List.replicate_succ, show ns.length - (i + 1) = m by omega, List.set_append_right _ _ (by rw [List.length_take]; omega)]
  have : i - (ns.take i).length = 0 := by rw [List.length_take]; omega
  rw [this, List.set_cons_zero, List.take_succ_eq_append_getElem h, List.append_assoc]
  rfl
/-- What has been taken. -/
def takenB (ns : List Int) (i : Nat) : List Blk := [.cells 5 [.agg (elK (.fz 5 (kidsD (ns.map decI))))], .cells 1 (ints (fills ns i))]
theorem ok87 {G : Nat → DV} (hG : GZ G) (h : List Blk) (lb sb b : Nat) (ns : List Int) (hne : lb ≠ sb) (hl : h[lb]? = some (.cells 1 [.ptr sb 0 0 1])) (hs : h[sb]? = some (.cells 1 [.sl b 0 0 0])) (hb : h[b]? = some (.cells 1 [])) (hn : ∀ n, n ∈ ns → I64 n) (hN1 : ns.length ≤ 1000) :
    Ok Tryd.prog G 87 [.agg (elK (.fz 5 (kidsD (ns.map decI)))), .fn (.func 88) [] [.ptr lb 0 0 1], .fn (.func 90) [] [.ptr lb 0 0 1]] h (.p (.bool true)) (h.set sb (.cells 1 [.sl (h.length + 1) 0 ns.length ns.length]) ++ takenB ns ns.length) := by
  refine Ok.wf fun hw => ?_
  refine Ok_by Tryd.func87 c87_ok r87_ok 37 rfl ?_
  have hll : lb < h.length := (List.getElem?_eq_some_iff.1 hl).1
  have hsl : sb < h.length := (List.getElem?_eq_some_iff.1 hs).1
  rw [c87_cut]
  simp [r87, elK]
  refine CV_by (by kernel_rfl) ?_
  simp
  rw [← elK]
  refine FF_by (ok88 _ lb sb b ns.length (get_pre hl _) (get_pre hs _) (get_pre hb _) hN1) ?_
  have e1 : ((h ++ [Blk.cells 5 [DV.agg (elK (.fz 5 (kidsD (ns.map decI))))]]) ++ [Blk.cells 1 (ints (List.replicate ns.length 0))]).set sb (.cells 1 [.sl (h ++ [Blk.cells 5 [DV.agg (elK (.fz 5 (kidsD (ns.map decI))))]]).length 0 ns.length ns.length])
      = h.set sb (.cells 1 [.sl (h.length + 1) 0 ns.length ns.length]) ++ takenB ns 0 := by
    rw [List.append_assoc, List.set_append_left _ _ hsl]
    simp [takenB, fills]
  rw [e1]
  have hgv : ∀ x t, (h.set sb x ++ t)[h.length]? = t[0]? := fun x t => by
    have := get_app0 (h := h.set sb x) (l := t)
    rwa [List.length_set] at this
  have hgv1 : ∀ x t, (h.set sb x ++ t)[h.length + 1]? = t[1]? := fun x t => by
    have := get_app (h := h.set sb x) (l := t) (k := 1)
    rwa [List.length_set] at this
  simp [hgv, takenB, elK]
  rw [← elK]
  generalize hK : elK (.fz 5 (kidsD (ns.map decI))) = EK at *
  refine VV_fam (fun i : Nat => ⟨fr 40 [(2, .fn (.func 90) [] [.ptr lb 0 0 1]), (7, .p (.bool true)), (24, .fz 5 (kidsD (ns.map decI))), (25, .p (.int .i64 ns.length)), (26, .p (.int .i64 i))], h.set sb (.cells 1 [.sl (h.length + 1) 0 ns.length ns.length]) ++ [.cells 5 [.agg EK], .cells 1 (ints (fills ns i))]⟩)
    (fun i => i ≤ ns.length) (fun i => ns.length - i) 0 (by omega) (Wk.fits (by simp)) ?_
  intro i hi B hbk he hr
  by_cases hlt : i < ns.length
  · have e5 : (kidsD (ns.map decI))[i]?.getD .any = .agg (numD' (decI ns[i])) := by simp [kidsD, hlt]
    have e4 : IntKind.i64.wrap ((i : Int) + 1) = ((i + 1 : Nat) : Int) := wrap_succ hlt (by omega)
    have hltI : (i : Int) < (ns.length : Int) := by omega
    simp [c87L0, hlt, hltI, numD']
    refine CV_by (by kernel_rfl) ?_
    simp
    rw [← numD']
    have hlt2 : ∀ (k : Blk) (S : Blk) (t : List Blk), h[lb]? = some k → (h.set sb S ++ t)[lb]? = some k := fun k S t hk => get_pre (by rw [List.getElem?_set_ne (Ne.symm hne)]; exact hk) t
    have hsb : ∀ (S : Blk) (t : List Blk), (h.set sb S ++ t)[sb]? = some S := fun S t => get_pre (rd_set hs S) t
    refine FF_by (ok90 _ lb sb (h.length + 1) ns.length i (fills ns i) ns[i] (hlt2 _ _ _ hl) (hsb _ _) (by rw [hgv1]; rfl) (fills_length ns i hi) hlt (hn _ (List.getElem_mem hlt)) hN1) ?_
    have hsv1 : ∀ x t y, (h.set sb x ++ t).set (h.length + 1) y = h.set sb x ++ t.set 1 y := fun x t y => by
      have := set_app (h := h.set sb x) (l := t) (k := 1) (z := y)
      rwa [List.length_set] at this
    rw [hsv1, fills_set ns i hlt]
    simp [e4]
    refine hbk _ (i + 1) (Wk.cut hG (by simp) (by simp) (fun hh => ?_) (by simp [WF_fnc, WF_kids]; omega)) hlt (by omega)
    rw [← List.set_append_left _ _ hsl]
    refine HWF.set (HWF.push hh fun k hk => ?_) ?_
    · simp at hk
      rcases hk with rfl | rfl
      · rw [← hK]; exact wf_box
      · exact wf_ints'
    · intro j hj
      simp at hj
      subst hj
      simp
  · have : i = ns.length := by omega
    subst this
    simp [c87L0]
    refine he _ _ ?_
    simp
    exact WkV.refl
end Go.Proofs.YtppjcnaffphakaaDoor
