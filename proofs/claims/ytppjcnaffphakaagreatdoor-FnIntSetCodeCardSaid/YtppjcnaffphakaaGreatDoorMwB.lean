/- The package's writer of MessagePack: a set of numbers. -/
import Derived.Test.YtppjcnaffphakaaGreatDoorMwA
import Derived.Test.YtppjcnaffphakaaGreatDoorSeB
set_option linter.unusedVariables false
set_option linter.unusedSimpArgs false
set_option maxRecDepth 100000
set_option maxHeartbeats 4000000
namespace Go.Proofs.YtppjcnaffphakaaGreatDoor
open Go Go.Den Go.Proofs

def c30L0 : DC :=
  (.seq (.rg [⟨(some 20), .bin .lss (.t 19) (.t 18), none⟩])
    (.seq (.cond (.t 20) .skip
    (.exit 0))
    (.seq (.block 1 (.seq (.rg [⟨(some 21), .iaddr 1 (.t 17) (.t 19), none⟩,
         ⟨(some 22), .load false 1 (.t 21), none⟩,
         ⟨(some 7), .mov (.t 22), none⟩])
    (.rg [⟨(some 23), .mov (.t 1), none⟩,
         ⟨(some 24), .mov (.t 7), none⟩,
         ⟨(some 25), .callr 55 [(.t 23), (.t 24)], none⟩,
         ⟨(some 1), .mov (.t 25), none⟩])))
    (.rg [⟨(some 26), .bin .add (.t 19) (.c (.p (.int .i64 1))), none⟩,
        ⟨(some 19), .mov (.t 26), none⟩]))))
theorem c30_cut : c30 =
  (.seq (.rg [⟨(some 4), .mov (.c (.p (.slice none 0 0))), none⟩,
      ⟨(some 5), .mov (.c (.p .nilIface)), none⟩])
    (.seq (.seq (.rg [⟨(some 8), .mov (.t 0), none⟩,
      ⟨(some 9), .eqn false .map (.t 8), none⟩])
    (.cond (.t 9) (.seq (.rg [⟨(some 10), .mov (.t 1), none⟩,
        ⟨(some 11), .callr 53 [(.t 10)], none⟩,
        ⟨(some 4), .mov (.t 11), none⟩,
        ⟨(some 5), .mov (.c (.p .nilIface)), none⟩])
    .ret)
    .skip))
    (.seq (.rg [⟨(some 12), .mov (.t 1), none⟩,
      ⟨(some 13), .mov (.t 0), none⟩,
      ⟨(some 14), .lenm (.t 13), none⟩,
      ⟨(some 15), .callr 54 [(.t 12), (.t 14)], none⟩,
      ⟨(some 1), .mov (.t 15), none⟩])
    (.seq (.seq (.rg [⟨(some 16), .mov (.t 0), none⟩,
      ⟨(some 17), .callr 38 [(.t 16)], none⟩,
      ⟨(some 18), .lenl (.t 17), none⟩,
      ⟨(some 19), .mov (.c (.p (.int .i64 0))), none⟩])
    (.block 0 (.loop c30L0)))
    (.seq (.rg [⟨(some 27), .mov (.t 1), none⟩,
      ⟨(some 4), .mov (.t 27), none⟩,
      ⟨(some 5), .mov (.c (.p .nilIface)), none⟩])
    .ret))))) := rfl


/-- A list of numbers as the package writes it: so many are said. -/
def msgI (m : Nat) (l : List Int) : List UInt8 := UInt8.ofNat (144 + m) :: (l.map encI).flatten
theorem encI_len (n : Int) : (encI n).length ≤ 9 := by
  unfold encI
  repeat' split
  all_goals simp
theorem encs_len : ∀ l : List Int, ((l.map encI).flatten).length ≤ 9 * l.length
  | [] => by simp
  | x :: l => by
    have h1 := encs_len l
    have h2 := encI_len x
    simp only [List.map_cons, List.flatten_cons, List.length_append, List.length_cons]
    omega
theorem ok30 {G : Nat → DV} (hG : GZ G) (h0 h : List Blk) (d : DV) (o : List UInt8) (a : Nat) (ks : List Int) (ho : Own h0 1 h d (bts o)) (ha : h0[a]? = some (.map (smap ks))) (hnk : ks.Nodup) (hl : ks.length < 16) (hI : ∀ k, k ∈ ks → I64 k) (hol : o.length ≤ 1000) :
    OkR Tryz.prog G 30 [.mp a, d] h fun v h' => ∃ d', v = .tup [d', .p .nilIface] ∧ Wrote h0 h (o ++ msgI ks.length (setOf ks)) d' h' := by
  refine OkR.wf fun hw => ?_
  refine OkR_by Tryz.func30 c30_ok r30_ok 26 rfl ?_
  generalize hR : (fun (v : DV) (h' : List Blk) => ∃ d', v = .tup [d', .p .nilIface] ∧ Wrote h0 h (o ++ msgI ks.length (setOf ks)) d' h') = R
  have hm := ho.pre _ _ ha
  rw [c30_cut]
  simp [r30, hm]
  refine FF_byR (ok54 h0 h d o ks.length ho hl (by omega)) ?_
  rintro d1 h1 ⟨ho1, hl1⟩
  simp
  refine FF_by (ok38 hG h1 a ks (ho1.pre _ _ ha) (by omega) hnk) ?_
  simp
  have hsl := setOf_length ks
  have hsI : ∀ k, k ∈ setOf ks → I64 k := fun k hk => hI k (mem_setOf.1 hk)
  generalize hS : setOf ks = S at hsl hsI
  refine VV_fam (fun q : Nat × DV × List Blk => ⟨fr 28 [(1, q.2.1), (17, .fz 1 (ints S)), (18, .p (.int .i64 S.length)), (19, .p (.int .i64 q.1))], q.2.2⟩)
    (fun q => q.1 ≤ S.length ∧ Own h0 1 q.2.2 q.2.1 (bts (o ++ msgI ks.length (S.take q.1))) ∧ h.length ≤ q.2.2.length) (fun q => S.length - q.1) (0, d1, h1) ⟨by simp, by simpa [msgI] using ho1, hl1⟩ (Wk.fits (by simp)) ?_
  rintro ⟨i, d, h2⟩ ⟨hi, ho, hle⟩ B hbk he hr
  simp only at hi ho hle
  by_cases hlt : i < S.length
  · have e5 : (ints S)[i]?.getD .any = .p (.int .i64 S[i]) := ints_get hlt
    have e4 : IntKind.i64.wrap ((i : Int) + 1) = ((i + 1 : Nat) : Int) := wrap_succ hlt (by omega)
    have hltI : (i : Int) < (S.length : Int) := by omega
    have hen := encs_len (S.take i)
    rw [List.length_take] at hen
    have ef : o ++ msgI ks.length (S.take (i + 1)) = (o ++ msgI ks.length (S.take i)) ++ encI S[i] := by
      rw [List.take_succ_eq_append_getElem hlt]; simp only [msgI, List.map_append, List.map_cons, List.map_nil, List.flatten_append, List.flatten_cons, List.flatten_nil, List.append_nil, List.cons_append, List.append_assoc]
    simp [c30L0, hlt, hltI, e5]
    refine FF_byR (ok55 h0 h2 d _ S[i] ho (hsI _ (List.getElem_mem hlt)) (by simp only [msgI, List.length_append, List.length_cons]; omega)) ?_
    rintro d3 h3 ⟨ho3, hl3⟩
    rw [← ef] at ho3
    simp [e4]
    refine hbk _ (i + 1, d3, h3) ?_ ⟨hlt, ho3, by dsimp only; omega⟩ (by dsimp only; omega)
    exact Wk.fits (by simp)
  · have : i = S.length := by omega
    subst this
    simp [c30L0]
    refine he _ _ ?_
    simp
    subst hR
    rw [List.take_length] at ho
    exact REr_by _ _ WkV.refl ⟨d, rfl, by rw [hS]; exact ho, hle⟩
theorem ok31 {G : Nat → DV} (hG : GZ G) (h0 h : List Blk) (d : DV) (o : List UInt8) (a : Nat) (ks : List Int) (ho : Own h0 1 h d (bts o)) (ha : h0[a]? = some (.map (smap ks))) (hnk : ks.Nodup) (hl : ks.length < 16) (hI : ∀ k, k ∈ ks → I64 k) (hol : o.length ≤ 1000) :
    OkR Tryz.prog G 31 [.mp a, d] h fun v h' => ∃ d', v = .tup [d', .p .nilIface] ∧ Wrote h0 h (o ++ msgI ks.length (setOf ks)) d' h' := by
  refine OkR_by Tryz.func31 c31_ok r31_ok 9 rfl ?_
  simp [c31, r31]
  refine FF_byR (ok30 hG h0 h d o a ks ho ha hnk hl hI hol) ?_
  rintro v h1 ⟨d', rfl, hw⟩
  simp
  exact REr_by _ _ WkV.refl ⟨d', rfl, hw⟩
end Go.Proofs.YtppjcnaffphakaaGreatDoor
