/- The law FnIntSetCode: the walk. -/
import Derived.Test.YtppjcnaffphakaaGreatDoorIcB
set_option linter.unusedVariables false
set_option linter.unusedSimpArgs false
set_option maxRecDepth 100000
set_option maxHeartbeats 4000000
namespace Go.Proofs.YtppjcnaffphakaaGreatDoor
open Go Go.Den Go.Proofs

def c4L0 : DC :=
  (.seq (.rg [⟨(some 51), .bin .lss (.t 50) (.t 49), none⟩])
    (.seq (.cond (.t 51) .skip
    (.exit 0))
    (.seq (.block 1 (.seq (.rg [⟨(some 52), .mov (.t 50), none⟩,
         ⟨(some 53), .iaddr 1 (.t 48) (.t 50), none⟩,
         ⟨(some 54), .load false 1 (.t 53), none⟩,
         ⟨(some 11), .mov (.t 52), none⟩,
         ⟨(some 12), .mov (.t 54), none⟩])
    (.seq (.seq (.rg [⟨(some 55), .mov (.t 11), none⟩,
         ⟨(some 56), .bin .gtr (.t 55) (.c (.p (.int .i64 0))), none⟩])
    (.cond (.t 56) (.rg [⟨(some 57), .mov (.t 10), none⟩,
           ⟨(some 58), .bin .add (.t 57) (.c (.p (.string ⟨#[44]⟩))), none⟩,
           ⟨(some 10), .mov (.t 58), none⟩])
    .skip))
    (.rg [⟨(some 59), .mov (.t 10), none⟩,
         ⟨(some 60), .mov (.t 12), none⟩,
         ⟨(some 61), .callr 16 [(.t 60)], none⟩,
         ⟨(some 62), .bin .add (.t 59) (.t 61), none⟩,
         ⟨(some 10), .mov (.t 62), none⟩]))))
    (.rg [⟨(some 63), .bin .add (.t 50) (.c (.p (.int .i64 1))), none⟩,
        ⟨(some 50), .mov (.t 63), none⟩]))))
theorem c4_cut : c4 =
  (.seq (.rg [⟨(some 4), .mov (.c (.p (.bool false))), none⟩])
    (.seq (.seq (.rg [⟨(some 20), .mov (.t 0), none⟩,
      ⟨(some 21), .lenl (.t 20), none⟩,
      ⟨(some 22), .bin .gtr (.t 21) (.c (.p (.int .i64 2147483647))), none⟩,
      ⟨(some 23), .mov (.t 22), none⟩,
      ⟨(some 24), .mov (.t 1), (some (23, false))⟩,
      ⟨(some 25), .lens (.t 24), (some (23, false))⟩,
      ⟨(some 26), .bin .gtr (.t 25) (.c (.p (.int .i64 2147483647))), (some (23, false))⟩,
      ⟨(some 27), .pick (.t 23) (.c (.p (.bool true))) (.t 26), none⟩])
    (.cond (.t 27) (.seq (.rg [⟨(some 4), .mov (.c (.p (.bool true))), none⟩])
    .ret)
    .skip))
    (.seq (.rgd [⟨⟨(some 28), .mov (.t 0), none⟩, 0, []⟩,
      ⟨⟨(some 29), .mov (.t 0), none⟩, 0, []⟩,
      ⟨⟨(some 30), .lenl (.t 29), none⟩, 0, []⟩,
      ⟨⟨(some 31), .mm false (.t 30) (.c (.p (.int .i64 10))), none⟩, 0, []⟩,
      ⟨⟨(some 32), .slcl 1 (.t 28) none (some (.t 31)), none⟩, 0, [0]⟩,
      ⟨⟨(some 33), .mov (.t 1), none⟩, 0, [0]⟩,
      ⟨⟨(some 34), .mov (.t 1), none⟩, 0, [0]⟩,
      ⟨⟨(some 35), .lens (.t 34), none⟩, 0, [0]⟩,
      ⟨⟨(some 36), .mm false (.t 35) (.c (.p (.int .i64 20))), none⟩, 0, [0]⟩,
      ⟨⟨(some 37), .slcs (.t 33) none (some (.t 36)), none⟩, 0, [0]⟩,
      ⟨⟨(some 0), .mov (.t 32), none⟩, 0, []⟩,
      ⟨⟨(some 1), .mov (.t 37), none⟩, 0, []⟩])
    (.seq (.rg [⟨(some 39), .mov (.t 0), none⟩,
      ⟨(some 40), .mov (.t 1), none⟩,
      ⟨(some 41), .callr 14 [(.t 39), (.c (.p (.bool false))), (.t 40)], none⟩,
      ⟨(some 38), .mov (.t 41), none⟩,
      ⟨(some 42), .ext (.t 38) 0, none⟩,
      ⟨(some 43), .ext (.t 38) 1, none⟩,
      ⟨(some 44), .ext (.t 38) 2, none⟩,
      ⟨(some 45), .ext (.t 38) 3, none⟩,
      ⟨(some 5), .mov (.t 42), none⟩,
      ⟨(some 6), .mov (.t 43), none⟩,
      ⟨(some 7), .mov (.t 44), none⟩,
      ⟨(some 8), .mov (.t 45), none⟩])
    (.seq (.rg [⟨(some 46), .mov (.t 0), none⟩,
      ⟨(some 47), .callr 15 [(.t 46)], none⟩,
      ⟨(some 9), .mov (.t 47), none⟩])
    (.seq (.rg [⟨(some 10), .mov (.c (.p (.string ⟨#[91]⟩))), none⟩])
    (.seq (.seq (.rg [⟨(some 48), .mov (.t 9), none⟩,
      ⟨(some 49), .lenl (.t 48), none⟩,
      ⟨(some 50), .mov (.c (.p (.int .i64 0))), none⟩])
    (.block 0 (.loop c4L0)))
    (.seq (.rg [⟨(some 65), .mov (.t 6), none⟩,
      ⟨(some 66), .callr 17 [(.t 65)], none⟩,
      ⟨(some 64), .mov (.t 66), none⟩,
      ⟨(some 67), .ext (.t 64) 0, none⟩,
      ⟨(some 68), .ext (.t 64) 1, none⟩,
      ⟨(some 69), .ext (.t 64) 2, none⟩,
      ⟨(some 70), .ext (.t 64) 3, none⟩,
      ⟨(some 13), .mov (.t 67), none⟩,
      ⟨(some 14), .mov (.t 68), none⟩,
      ⟨(some 15), .mov (.t 69), none⟩,
      ⟨(some 16), .mov (.t 70), none⟩])
    (.seq (.seq (.rg [⟨(some 71), .mov (.t 8), none⟩,
      ⟨(some 72), .un .not (.t 71), none⟩,
      ⟨(some 73), .mov (.t 72), none⟩,
      ⟨(some 74), .mov (.t 16), (some (73, false))⟩,
      ⟨(some 75), .un .not (.t 74), (some (73, false))⟩,
      ⟨(some 76), .pick (.t 73) (.c (.p (.bool true))) (.t 75), none⟩,
      ⟨(some 77), .mov (.t 76), none⟩,
      ⟨(some 78), .mov (.t 14), (some (77, false))⟩,
      ⟨(some 79), .pick (.t 77) (.c (.p (.bool true))) (.t 78), none⟩,
      ⟨(some 80), .mov (.t 79), none⟩,
      ⟨(some 81), .mov (.t 15), (some (80, false))⟩,
      ⟨(some 82), .bin .neq (.t 81) (.c (.p (.string ⟨#[]⟩))), (some (80, false))⟩,
      ⟨(some 83), .pick (.t 80) (.c (.p (.bool true))) (.t 82), none⟩,
      ⟨(some 84), .mov (.t 83), none⟩,
      ⟨(some 85), .mov (.t 5), (some (84, false))⟩,
      ⟨(some 86), .mov (.t 10), (some (84, false))⟩,
      ⟨(some 87), .bin .add (.t 86) (.c (.p (.string ⟨#[93]⟩))), (some (84, false))⟩,
      ⟨(some 88), .bin .neq (.t 85) (.t 87), (some (84, false))⟩,
      ⟨(some 89), .pick (.t 84) (.c (.p (.bool true))) (.t 88), none⟩,
      ⟨(some 90), .mov (.t 89), none⟩,
      ⟨(some 91), .mov (.t 13), (some (90, false))⟩,
      ⟨(some 92), .callr 15 [(.t 91)], (some (90, false))⟩,
      ⟨(some 93), .mov (.t 9), (some (90, false))⟩,
      ⟨(some 94), .callr 18 [(.t 92), (.t 93)], (some (90, false))⟩,
      ⟨(some 95), .un .not (.t 94), (some (90, false))⟩,
      ⟨(some 96), .pick (.t 90) (.c (.p (.bool true))) (.t 95), none⟩,
      ⟨(some 97), .mov (.t 96), none⟩,
      ⟨(some 98), .mov (.t 13), (some (97, false))⟩,
      ⟨(some 99), .lenl (.t 98), (some (97, false))⟩,
      ⟨(some 100), .mov (.t 9), (some (97, false))⟩,
      ⟨(some 101), .lenl (.t 100), (some (97, false))⟩,
      ⟨(some 102), .bin .neq (.t 99) (.t 101), (some (97, false))⟩,
      ⟨(some 103), .pick (.t 97) (.c (.p (.bool true))) (.t 102), none⟩])
    (.cond (.t 103) (.seq (.rg [⟨(some 4), .mov (.c (.p (.bool false))), none⟩])
    .ret)
    .skip))
    (.seq (.seq (.rg [⟨(some 104), .mov (.t 7), none⟩,
      ⟨(some 105), .lens (.t 104), none⟩,
      ⟨(some 106), .mov (.t 1), none⟩,
      ⟨(some 107), .lens (.t 106), none⟩,
      ⟨(some 108), .bin .lss (.t 105) (.t 107), none⟩,
      ⟨(some 109), .mov (.t 108), none⟩,
      ⟨(some 110), .mov (.t 7), (some (109, false))⟩,
      ⟨(some 111), .mov (.t 1), (some (109, false))⟩,
      ⟨(some 112), .lens (.t 111), (some (109, false))⟩,
      ⟨(some 113), .slcs (.t 110) none (some (.t 112)), (some (109, false))⟩,
      ⟨(some 114), .mov (.t 1), (some (109, false))⟩,
      ⟨(some 115), .bin .neq (.t 113) (.t 114), (some (109, false))⟩,
      ⟨(some 116), .pick (.t 109) (.c (.p (.bool true))) (.t 115), none⟩])
    (.cond (.t 116) (.seq (.rg [⟨(some 4), .mov (.c (.p (.bool false))), none⟩])
    .ret)
    .skip))
    (.seq (.rg [⟨(some 118), .mov (.t 7), none⟩,
      ⟨(some 119), .mov (.t 1), none⟩,
      ⟨(some 120), .lens (.t 119), none⟩,
      ⟨(some 121), .slcs (.t 118) (some (.t 120)) none, none⟩,
      ⟨(some 122), .callr 19 [(.c (.p (.int .i64 2))), (.t 121)], none⟩,
      ⟨(some 117), .mov (.t 122), none⟩,
      ⟨(some 123), .ext (.t 117) 0, none⟩,
      ⟨(some 124), .ext (.t 117) 1, none⟩,
      ⟨(some 125), .ext (.t 117) 2, none⟩,
      ⟨(some 17), .mov (.t 123), none⟩,
      ⟨(some 18), .mov (.t 124), none⟩,
      ⟨(some 19), .mov (.t 125), none⟩])
    (.seq (.rg [⟨(some 126), .mov (.t 19), none⟩,
      ⟨(some 127), .mov (.t 126), none⟩,
      ⟨(some 128), .mov (.t 17), (some (127, true))⟩,
      ⟨(some 129), .mov (.t 9), (some (127, true))⟩,
      ⟨(some 130), .callr 18 [(.t 128), (.t 129)], (some (127, true))⟩,
      ⟨(some 131), .pick (.t 127) (.t 130) (.c (.p (.bool false))), none⟩,
      ⟨(some 4), .mov (.t 131), none⟩])
    .ret)))))))))))) := rfl


/-- The powers of ten are known. -/
def GP : Nat → DV := fun g => if g = 0 then .fp (.agg ((Lib.pow10Tab.map (Value.int .u64)).map .p)) else .any
theorem gzP : GZ GP := fun g => by
  unfold GP
  split
  · refine .fp ?_
    rw [WF_agg]
    intro d hd
    obtain ⟨v, _, rfl⟩ := List.mem_map.1 hd
    exact .p
  · exact .any
theorem ok16 (h : List Blk) (n : Int) (hn : I64 n) : Ok Tryz.prog GP 16 [.p (.int .i64 n)] h (.p (.string (txt (decI n)))) h :=
  Ok_grow (args := [.int .i64 n]) rfl (fun w => Lib.TabIs Tryz.prog w "internal/strconv.uint64pow10" .u64 Lib.pow10Tab)
    (fun e w hH hg => GR.var hg hH (g := 0) (by kernel_rfl) rfl (by decide))
    (fun w hw => Any.strconv_Itoa laysItoa n hn.1 hn.2 w hw) h
theorem ok4 (h : List Blk) (a : List Int) (ahead : List UInt8) (ha : a.length ≤ maxLen) (hn : ∀ n, n ∈ a → I64 n) (hr : ahead.length ≤ 140737488351232) :
    Ok Tryz.prog GP 4 [.fz 1 (ints a), .p (.string (txt ahead))] h (.p (.bool true)) h := by
  refine Ok.wf fun hwf => ?_
  refine Ok_by Tryz.func4 c4_ok r4_ok 130 rfl ?_
  rw [c4_cut]
  simp [r4]
  cases h1 : decide (2147483647 < (a.length : Int))
  case true => simp
  simp
  refine CC_by (fun h2 => ?_) (fun h2 => ?_)
  · simp
  simp at h1 h2
  simp
  generalize hA : a.take (min a.length 10) = A
  generalize hR : ahead.take (min ahead.length 20) = R
  have hA10 : A.length ≤ 10 := by rw [← hA]; simp
  have hAn : ∀ n, n ∈ A → I64 n := fun n h => hn n (by rw [← hA] at h; exact List.mem_of_mem_take h)
  have hR20 : R.length ≤ 20 := by rw [← hR]; simp
  clear hA hR hn hr h1 h2 ha
  refine FF_by (ok14 gzP h A R hA10 hAn hR20) ?_
  simp
  refine FF_by (ok15 h A (by omega)) ?_
  simp
  rw [keysI_len]
  have hsl := setOf_length A
  have hSI : ∀ n, n ∈ setOf A → I64 n := fun n hn => hAn n (mem_setOf.1 hn)
  have hSS : setOf (setOf A) = setOf A := setOf_ext fun x => mem_setOf
  generalize setOf A = S at hsl hSI hSS ⊢
  have hS10 : S.length ≤ 10 := by omega
  have hrd := msgI_read S (by omega) hSI
  have c17 := fun h => ok17 (G := GP) h S (by omega) hSI
  have hel := encs_len S
  have hml : (msgI S.length S).length ≤ 100 := by simp only [msgI, List.length_cons]; omega
  have hmh : (msgI S.length S).head? ≠ some 192 := by
    have e : (UInt8.ofNat (144 + S.length)).toNat = 144 + S.length := by rw [UInt8.toNat_ofNat']; omega
    intro hh
    simp only [msgI, List.head?_cons, Option.some.injEq] at hh
    rw [hh] at e
    have : (192 : UInt8).toNat = 192 := rfl
    omega
  have c19 := ok19 gzP h (msgI S.length S) S [] (by omega) hmh hrd (by omega)
  generalize hM : msgI S.length S = M at c17 c19 hml ⊢
  refine VV_fam (fun i : Nat => ⟨fr 132 [(1, .p (.string (txt R))), (5, .p (.string (txt (91 :: (jnI S ++ [93]))))), (6, .p (.string (txt M))), (7, .p (.string (txt (R ++ M)))), (8, .p (.bool true)), (9, .fz 1 (ints S)), (10, .p (.string (txt (91 :: jnI (S.take i))))), (48, .fz 1 (ints S)), (49, .p (.int .i64 S.length)), (50, .p (.int .i64 i))], h⟩)
    (fun i => i ≤ S.length) (fun i => S.length - i) 0 (by omega) (Wk.fits (by simp [show jnI [] = [] from rfl])) ?_
  intro i hi B hbk he hr
  by_cases hlt : i < S.length
  · have e5 : (ints S)[i]?.getD .any = .p (.int .i64 S[i]) := ints_get hlt
    have e4 : IntKind.i64.wrap ((i : Int) + 1) = ((i + 1 : Nat) : Int) := wrap_succ hlt (by omega)
    have hltI : (i : Int) < (S.length : Int) := by omega
    have hSi := hSI S[i] (List.getElem_mem hlt)
    have hlen := jnI_len (S.take i) fun n hn' => hSI n (List.mem_of_mem_take hn')
    rw [List.length_take] at hlen
    have hlen2 := decI_len _ hSi
    have ef : jnI (S.take (i + 1)) = (if S.take i = [] then [] else jnI (S.take i) ++ [44]) ++ decI S[i] := by rw [List.take_succ_eq_append_getElem hlt, jnI_push]
    by_cases h0 : i = 0
    · subst h0
      have e6 : jnI (S.take (0 + 1)) = decI S[0] := by rw [ef]; simp
      simp [c4L0, hlt, hltI, e5, show jnI [] = [] from rfl]
      refine FF_by (ok16 h _ hSi) ?_
      simp [show IntKind.i64.wrap 1 = 1 by decide]
      try refine And.intro (by omega) ?_
      refine hbk _ 1 ?_ hlt (by omega)
      rw [e6]
      exact Wk.fits (by simp)
    · have h0I : (0 : Int) < (i : Int) := by omega
      have h0J : 0 < i := by omega
      have hne : S.take i ≠ [] := fun hh => by
        have := congrArg List.length hh
        rw [List.length_take, List.length_nil] at this
        omega
      rw [if_neg hne] at ef
      simp [c4L0, hlt, hltI, e5, h0I, h0J]
      try refine And.intro (by omega) ?_
      refine FF_by (ok16 _ _ hSi) ?_
      simp [e4]
      try refine And.intro (by omega) ?_
      refine hbk _ (i + 1) ?_ hlt (by omega)
      rw [ef]
      exact Wk.fits (by simp)
  · have : i = S.length := by omega
    subst this
    simp [c4L0]
    refine he _ _ ?_
    have hlen := jnI_len S hSI
    simp
    refine FF_by (c17 h) ?_
    simp
    refine ⟨by omega, FF_by (ok15 h S (by omega)) ?_⟩
    rw [hSS]
    simp
    refine FF_by (ok18 h S S (by rw [maxLen_eq]; omega)) ?_
    simp
    have n1 : ¬ (R.length : Int) + (M.length : Int) < (R.length : Int) := by omega
    simp [n1]
    try refine And.intro (by omega) ?_
    have hdr : List.drop R.length (List.take (((R.length : Int) + (M.length : Int)).toNat) (R ++ M)) = M := by
      rw [List.take_of_length_le (by simp; omega), List.drop_left]
    rw [hdr]
    refine FF_by c19 ?_
    rw [hSS]
    simp
    refine FF_by (ok18 h S S (by rw [maxLen_eq]; omega)) ?_
    simp
end Go.Proofs.YtppjcnaffphakaaGreatDoor
