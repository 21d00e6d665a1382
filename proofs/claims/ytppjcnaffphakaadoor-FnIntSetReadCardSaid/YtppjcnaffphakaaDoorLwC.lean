/- The law FnIntSetRead: the walk. -/
import Derived.Test.YtppjcnaffphakaaDoorLwA
import Derived.Test.YtppjcnaffphakaaDoorLwB
import Derived.Test.YtppjcnaffphakaaDoorSpC
set_option linter.unusedVariables false
set_option linter.unusedSimpArgs false
set_option maxRecDepth 100000
set_option maxHeartbeats 4000000
namespace Go.Proofs.YtppjcnaffphakaaDoor
open Go Go.Den Go.Proofs

def c3L0 : DC :=
  (.seq (.rg [⟨(some 53), .bin .lss (.t 52) (.t 51), none⟩])
    (.seq (.cond (.t 53) .skip
    (.exit 0))
    (.seq (.block 1 (.seq (.rg [⟨(some 54), .mov (.t 52), none⟩,
           ⟨(some 55), .iaddr 1 (.t 50) (.t 52), none⟩,
           ⟨(some 56), .load false 1 (.t 55), none⟩,
           ⟨(some 13), .mov (.t 54), none⟩,
           ⟨(some 14), .mov (.t 56), none⟩])
    (.seq (.seq (.rg [⟨(some 57), .mov (.t 13), none⟩,
           ⟨(some 58), .bin .gtr (.t 57) (.c (.p (.int .i64 0))), none⟩])
    (.cond (.t 58) (.rg [⟨(some 59), .mov (.t 11), none⟩,
             ⟨(some 60), .lit 1 [(.c (.p (.string ⟨#[44]⟩))), (.c (.p (.string ⟨#[44, 32]⟩))), (.c (.p (.string ⟨#[32, 44, 10]⟩)))], none⟩,
             ⟨(some 61), .mov (.t 12), none⟩,
             ⟨(some 62), .bin .rem (.t 61) (.c (.p (.int .i64 3))), none⟩,
             ⟨(some 63), .iaddr 1 (.t 60) (.t 62), none⟩,
             ⟨(some 64), .load false 1 (.t 63), none⟩,
             ⟨(some 65), .bin .add (.t 59) (.t 64), none⟩,
             ⟨(some 11), .mov (.t 65), none⟩])
    .skip))
    (.rg [⟨(some 66), .mov (.t 11), none⟩,
           ⟨(some 67), .mov (.t 14), none⟩,
           ⟨(some 68), .callr 4 [(.t 67)], none⟩,
           ⟨(some 69), .bin .add (.t 66) (.t 68), none⟩,
           ⟨(some 11), .mov (.t 69), none⟩]))))
    (.rg [⟨(some 70), .bin .add (.t 52) (.c (.p (.int .i64 1))), none⟩,
          ⟨(some 52), .mov (.t 70), none⟩]))))
def c3L1 : DC :=
  (.seq (.rg [⟨(some 109), .bin .lss (.t 108) (.t 107), none⟩])
    (.seq (.cond (.t 109) .skip
    (.exit 2))
    (.seq (.block 3 (.seq (.rg [⟨(some 110), .mov (.t 108), none⟩,
         ⟨(some 111), .iaddr 1 (.t 106) (.t 108), none⟩,
         ⟨(some 112), .load false 1 (.t 111), none⟩,
         ⟨(some 21), .mov (.t 110), none⟩,
         ⟨(some 22), .mov (.t 112), none⟩])
    (.rg [⟨(some 113), .mov (.t 11), none⟩,
         ⟨(some 114), .mov (.t 22), none⟩,
         ⟨(some 115), .mov (.t 12), none⟩,
         ⟨(some 116), .mov (.t 21), none⟩,
         ⟨(some 117), .bin .rem (.t 116) (.c (.p (.int .i64 8))), none⟩,
         ⟨(some 118), .bin .shr (.t 115) (.t 117), none⟩,
         ⟨(some 119), .callr 9 [(.t 114), (.t 118)], none⟩,
         ⟨(some 120), .bin .add (.t 113) (.t 119), none⟩,
         ⟨(some 11), .mov (.t 120), none⟩])))
    (.rg [⟨(some 121), .bin .add (.t 108) (.c (.p (.int .i64 1))), none⟩,
        ⟨(some 108), .mov (.t 121), none⟩]))))
theorem c3_cut : c3 =
  (.seq (.rg [⟨(some 10), .mov (.c (.p (.bool false))), none⟩])
    (.seq (.seq (.rg [⟨(some 29), .mov (.t 1), none⟩,
      ⟨(some 30), .lenl (.t 29), none⟩,
      ⟨(some 31), .bin .gtr (.t 30) (.c (.p (.int .i64 2147483647))), none⟩,
      ⟨(some 32), .mov (.t 31), none⟩,
      ⟨(some 33), .mov (.t 3), (some (32, false))⟩,
      ⟨(some 34), .lens (.t 33), (some (32, false))⟩,
      ⟨(some 35), .bin .gtr (.t 34) (.c (.p (.int .i64 2147483647))), (some (32, false))⟩,
      ⟨(some 36), .pick (.t 32) (.c (.p (.bool true))) (.t 35), none⟩])
    (.cond (.t 36) (.seq (.rg [⟨(some 10), .mov (.c (.p (.bool true))), none⟩])
    .ret)
    .skip))
    (.seq (.rgd [⟨⟨(some 37), .mov (.t 1), none⟩, 0, []⟩,
      ⟨⟨(some 38), .mov (.t 1), none⟩, 0, []⟩,
      ⟨⟨(some 39), .lenl (.t 38), none⟩, 0, []⟩,
      ⟨⟨(some 40), .mm false (.t 39) (.c (.p (.int .i64 10))), none⟩, 0, []⟩,
      ⟨⟨(some 41), .slcl 1 (.t 37) none (some (.t 40)), none⟩, 0, [0]⟩,
      ⟨⟨(some 42), .mov (.t 3), none⟩, 0, [0]⟩,
      ⟨⟨(some 43), .mov (.t 3), none⟩, 0, [0]⟩,
      ⟨⟨(some 44), .lens (.t 43), none⟩, 0, [0]⟩,
      ⟨⟨(some 45), .mm false (.t 44) (.c (.p (.int .i64 20))), none⟩, 0, [0]⟩,
      ⟨⟨(some 46), .slcs (.t 42) none (some (.t 45)), none⟩, 0, [0]⟩,
      ⟨⟨(some 1), .mov (.t 41), none⟩, 0, []⟩,
      ⟨⟨(some 3), .mov (.t 46), none⟩, 0, []⟩])
    (.seq (.rg [⟨(some 47), .mov (.t 2), none⟩,
      ⟨(some 48), .cint .i64 (.t 47), none⟩,
      ⟨(some 11), .mov (.c (.p (.string ⟨#[91]⟩))), none⟩,
      ⟨(some 12), .mov (.t 48), none⟩])
    (.seq (.seq (.rg [⟨(some 49), .mov (.t 0), none⟩])
    (.cond (.t 49) (.seq (.seq (.rg [⟨(some 50), .mov (.t 1), none⟩,
        ⟨(some 51), .lenl (.t 50), none⟩,
        ⟨(some 52), .mov (.c (.p (.int .i64 0))), none⟩])
    (.block 0 (.loop c3L0)))
    (.seq (.rg [⟨(some 71), .mov (.t 11), none⟩,
        ⟨(some 72), .bin .add (.t 71) (.c (.p (.string ⟨#[93]⟩))), none⟩,
        ⟨(some 11), .mov (.t 72), none⟩])
    (.seq (.rg [⟨(some 74), .mov (.t 11), none⟩,
        ⟨(some 75), .callr 5 [(.c (.p (.int .i64 0))), (.t 74)], none⟩,
        ⟨(some 73), .mov (.t 75), none⟩,
        ⟨(some 76), .ext (.t 73) 0, none⟩,
        ⟨(some 77), .ext (.t 73) 1, none⟩,
        ⟨(some 78), .ext (.t 73) 2, none⟩,
        ⟨(some 15), .mov (.t 76), none⟩,
        ⟨(some 16), .mov (.t 77), none⟩,
        ⟨(some 17), .mov (.t 78), none⟩])
    (.seq (.rg [⟨(some 80), .mov (.t 11), none⟩,
        ⟨(some 81), .mov (.t 4), none⟩,
        ⟨(some 82), .cint .i64 (.t 81), none⟩,
        ⟨(some 83), .mov (.t 11), none⟩,
        ⟨(some 84), .lens (.t 83), none⟩,
        ⟨(some 85), .bin .rem (.t 82) (.t 84), none⟩,
        ⟨(some 86), .slcs (.t 80) none (some (.t 85)), none⟩,
        ⟨(some 87), .callr 5 [(.c (.p (.int .i64 0))), (.t 86)], none⟩,
        ⟨(some 79), .mov (.t 87), none⟩,
        ⟨(some 88), .ext (.t 79) 0, none⟩,
        ⟨(some 89), .ext (.t 79) 1, none⟩,
        ⟨(some 90), .ext (.t 79) 2, none⟩,
        ⟨(some 18), .mov (.t 88), none⟩,
        ⟨(some 19), .mov (.t 89), none⟩,
        ⟨(some 20), .mov (.t 90), none⟩])
    (.seq (.rg [⟨(some 91), .mov (.t 17), none⟩,
        ⟨(some 92), .mov (.t 91), none⟩,
        ⟨(some 93), .mov (.t 20), (some (92, true))⟩,
        ⟨(some 94), .un .not (.t 93), (some (92, true))⟩,
        ⟨(some 95), .pick (.t 92) (.t 94) (.c (.p (.bool false))), none⟩,
        ⟨(some 96), .mov (.t 95), none⟩,
        ⟨(some 97), .mov (.t 15), (some (96, true))⟩,
        ⟨(some 98), .mov (.t 1), (some (96, true))⟩,
        ⟨(some 99), .callr 7 [(.t 98)], (some (96, true))⟩,
        ⟨(some 100), .callr 6 [(.t 97), (.t 99)], (some (96, true))⟩,
        ⟨(some 101), .pick (.t 96) (.t 100) (.c (.p (.bool false))), none⟩,
        ⟨(some 10), .mov (.t 101), none⟩])
    .ret)))))
    .skip))
    (.seq (.rg [⟨(some 102), .mov (.t 1), none⟩,
      ⟨(some 103), .lenl (.t 102), none⟩,
      ⟨(some 104), .mov (.t 12), none⟩,
      ⟨(some 105), .callr 8 [(.t 103), (.t 104)], none⟩,
      ⟨(some 11), .mov (.t 105), none⟩])
    (.seq (.seq (.rg [⟨(some 106), .mov (.t 1), none⟩,
      ⟨(some 107), .lenl (.t 106), none⟩,
      ⟨(some 108), .mov (.c (.p (.int .i64 0))), none⟩])
    (.block 2 (.loop c3L1)))
    (.seq (.rg [⟨(some 123), .mov (.t 11), none⟩,
      ⟨(some 124), .mov (.t 3), none⟩,
      ⟨(some 125), .bin .add (.t 123) (.t 124), none⟩,
      ⟨(some 126), .callr 5 [(.c (.p (.int .i64 1))), (.t 125)], none⟩,
      ⟨(some 122), .mov (.t 126), none⟩,
      ⟨(some 127), .ext (.t 122) 0, none⟩,
      ⟨(some 128), .ext (.t 122) 1, none⟩,
      ⟨(some 129), .ext (.t 122) 2, none⟩,
      ⟨(some 23), .mov (.t 127), none⟩,
      ⟨(some 24), .mov (.t 128), none⟩,
      ⟨(some 25), .mov (.t 129), none⟩])
    (.seq (.rg [⟨(some 131), .mov (.t 11), none⟩,
      ⟨(some 132), .mov (.t 4), none⟩,
      ⟨(some 133), .cint .i64 (.t 132), none⟩,
      ⟨(some 134), .mov (.t 11), none⟩,
      ⟨(some 135), .lens (.t 134), none⟩,
      ⟨(some 136), .bin .rem (.t 133) (.t 135), none⟩,
      ⟨(some 137), .slcs (.t 131) none (some (.t 136)), none⟩,
      ⟨(some 138), .callr 5 [(.c (.p (.int .i64 1))), (.t 137)], none⟩,
      ⟨(some 130), .mov (.t 138), none⟩,
      ⟨(some 139), .ext (.t 130) 0, none⟩,
      ⟨(some 140), .ext (.t 130) 1, none⟩,
      ⟨(some 141), .ext (.t 130) 2, none⟩,
      ⟨(some 26), .mov (.t 139), none⟩,
      ⟨(some 27), .mov (.t 140), none⟩,
      ⟨(some 28), .mov (.t 141), none⟩])
    (.seq (.rg [⟨(some 142), .mov (.t 25), none⟩,
      ⟨(some 143), .mov (.t 142), none⟩,
      ⟨(some 144), .mov (.t 28), (some (143, true))⟩,
      ⟨(some 145), .un .not (.t 144), (some (143, true))⟩,
      ⟨(some 146), .pick (.t 143) (.t 145) (.c (.p (.bool false))), none⟩,
      ⟨(some 147), .mov (.t 146), none⟩,
      ⟨(some 148), .mov (.t 24), (some (147, true))⟩,
      ⟨(some 149), .mov (.t 3), (some (147, true))⟩,
      ⟨(some 150), .bin .eql (.t 148) (.t 149), (some (147, true))⟩,
      ⟨(some 151), .pick (.t 147) (.t 150) (.c (.p (.bool false))), none⟩,
      ⟨(some 152), .mov (.t 151), none⟩,
      ⟨(some 153), .mov (.t 23), (some (152, true))⟩,
      ⟨(some 154), .mov (.t 1), (some (152, true))⟩,
      ⟨(some 155), .callr 7 [(.t 154)], (some (152, true))⟩,
      ⟨(some 156), .callr 6 [(.t 153), (.t 155)], (some (152, true))⟩,
      ⟨(some 157), .pick (.t 152) (.t 156) (.c (.p (.bool false))), none⟩,
      ⟨(some 10), .mov (.t 157), none⟩])
    .ret)))))))))) := rfl

/-- The powers of ten are known. -/
def GT : Nat → DV := fun g => if g = 0 then .fp (.agg ((Lib.pow10Tab.map (Value.int .u64)).map .p)) else .any
theorem gzT : GZ GT := fun g => by
  unfold GT
  split
  · refine .fp ?_
    rw [WF_agg]
    intro d hd
    obtain ⟨v, _, rfl⟩ := List.mem_map.1 hd
    exact .p
  · exact .any
theorem ok4 (h : List Blk) (n : Int) (hn : I64 n) : Ok Tryd.prog GT 4 [.p (.int .i64 n)] h (.p (.string (txt (decI n)))) h :=
  Ok_grow (args := [.int .i64 n]) rfl (fun w => Lib.TabIs Tryd.prog w "internal/strconv.uint64pow10" .u64 Lib.pow10Tab)
    (fun e w hH hg => GR.var hg hH (g := 0) (by kernel_rfl) rfl (by decide))
    (fun w hw => Any.strconv_Itoa laysItoa n hn.1 hn.2 w hw) h
theorem sizes {sep : List UInt8} (hs : sep.length ≤ 3) : ∀ (l : List Int), (∀ n, n ∈ l → I64 n) → ((l.map fun y => sep ++ decI y).flatten).length ≤ 24 * l.length
  | [], _ => by simp
  | x :: l, h => by
    have h1 := sizes hs l fun n hn => h n (by simp [hn])
    have h2 := decI_len x (h x (by simp))
    simp only [List.map_cons, List.flatten_cons, List.length_append, List.length_cons]
    omega
theorem jb_len {sep : List UInt8} (hs : sep.length ≤ 3) (l : List Int) (h : ∀ n, n ∈ l → I64 n) : (jb sep l).length ≤ 24 * l.length := by
  cases l with
  | nil => simp [jb]
  | cons x l =>
    have h1 := sizes hs l fun n hn => h n (by simp [hn])
    have h2 := decI_len x (h x (by simp))
    simp only [jb, List.length_append, List.length_cons]
    omega
theorem sepN_len (way : Nat) : (sepN way).length ≤ 3 := by
  unfold sepN
  split
  · simp
  · split <;> simp
/-- The numbers, each in its way. -/
def enc (ways k : Nat) (x : Int) : List UInt8 := nthWay (candI x 4) (ways / 2 ^ (k % 8))
def prs (ways : Nat) : Nat → List Int → List (List UInt8 × Int)
  | _, [] => []
  | k, x :: l => (enc ways k x, x) :: prs ways (k + 1) l
theorem prs_push (ways : Nat) (x : Int) : ∀ (l : List Int) (k : Nat), prs ways k (l ++ [x]) = prs ways k l ++ [(enc ways (k + l.length) x, x)]
  | [], k => rfl
  | y :: l, k => by
    simp only [List.cons_append, prs, List.length_cons]
    rw [prs_push ways x l (k + 1), show k + 1 + l.length = k + (l.length + 1) by omega]
theorem prs_snd (ways : Nat) : ∀ (l : List Int) (k : Nat), (prs ways k l).map (·.2) = l
  | [], _ => rfl
  | x :: l, k => by simp only [prs, List.map_cons, prs_snd ways l (k + 1)]
theorem prs_len (ways : Nat) (l : List Int) (k : Nat) : (prs ways k l).length = l.length := by
  have := congrArg List.length (prs_snd ways l k)
  simpa using this
theorem prs_mem (ways : Nat) : ∀ (l : List Int) (k : Nat) (p : List UInt8 × Int), p ∈ prs ways k l → p.1 ∈ candI p.2 4 ∧ p.2 ∈ l
  | [], _, p, h => by cases h
  | x :: l, k, p, h => by
    rcases List.mem_cons.1 h with rfl | h
    · exact ⟨nthWay_mem (candI_ne x) _, by simp⟩
    · have := prs_mem ways l (k + 1) p h
      exact ⟨this.1, List.mem_cons_of_mem _ this.2⟩
theorem cand_len (n : Int) : ∀ (i : Nat), i ≤ 4 → ∀ w, w ∈ candI n i → w.length ≤ 9
  | 0, _, w, h => by
    rw [candI] at h
    split at h
    · have := List.mem_singleton.1 h
      subst this
      simp
    · cases h
  | i + 1, hi, w, h => by
    have h2 : 2 ^ i ≤ 8 := by
      have : i ≤ 3 := by omega
      calc 2 ^ i ≤ 2 ^ 3 := Nat.pow_le_pow_right (by decide) this
        _ = 8 := rfl
    simp only [candI, List.mem_append] at h
    rcases h with (h | h) | h
    · exact cand_len n i (by omega) w h
    · split at h
      · have := List.mem_singleton.1 h
        subst this
        simp; exact h2
      · cases h
    · split at h
      · have := List.mem_singleton.1 h
        subst this
        simp; exact h2
      · cases h
theorem fl9 : ∀ (l : List (List UInt8 × Int)), (∀ p, p ∈ l → p.1.length ≤ 9) → ((l.map (·.1)).flatten).length ≤ 9 * l.length
  | [], _ => by simp
  | p :: l, h => by
    have h1 := fl9 l fun q hq => h q (by simp [hq])
    have h2 := h p (by simp)
    simp only [List.map_cons, List.flatten_cons, List.length_append, List.length_cons]
    omega
theorem prs_fl (ways : Nat) (l : List Int) (k : Nat) : (((prs ways k l).map (·.1)).flatten).length ≤ 9 * l.length := by
  have := fl9 (prs ways k l) fun p hp => cand_len p.2 4 (by omega) p.1 (prs_mem ways l k p hp).1
  rwa [prs_len] at this
theorem head_ok {n : Nat} (hn : n < 16) {hd : List UInt8} (h : hd ∈ headsL n) : ∃ c t, hd = c :: t ∧ c ≠ 192 ∧ hd.length ≤ 5 := by
  simp only [headsL, heads, List.mem_append, List.mem_filterMap, List.mem_cons, List.not_mem_nil, or_false] at h
  rcases h with h | ⟨x, h1 | h1, h2⟩
  · split at h
    · have := List.mem_singleton.1 h
      subst this
      refine ⟨_, _, rfl, ?_, by simp⟩
      intro hh
      have := congrArg UInt8.toNat hh
      rw [UInt8.toNat_ofNat'] at this
      have h192 : (192 : UInt8).toNat = 192 := rfl
      omega
    · cases h
  · subst h1
    simp at h2
    obtain ⟨_, rfl⟩ := h2
    exact ⟨_, _, rfl, by decide, by simp⟩
  · subst h1
    simp at h2
    subst h2
    exact ⟨_, _, rfl, by decide, by simp⟩
theorem ok3 (h : List Blk) (j : Bool) (a : List Int) (ways cut : Nat) (rest : List UInt8) (hw : ways < 65536) (hc : cut < 256) (ha : a.length ≤ maxLen) (hn : ∀ n, n ∈ a → I64 n) (hr : rest.length ≤ 140737488351232) :
    Ok Tryd.prog GT 3 [.p (.bool j), .fz 1 (ints a), .p (.int .u16 ways), .p (.string (txt rest)), .p (.int .u8 cut)] h (.p (.bool true)) h := by
  refine Ok.wf fun hwf => ?_
  refine Ok_by Tryd.func3 c3_ok r3_ok 153 rfl ?_
  rw [c3_cut]
  simp [r3]
  cases h1 : decide (2147483647 < (a.length : Int))
  case true => simp
  simp
  refine CC_by (fun h2 => ?_) (fun h2 => ?_)
  · simp
  simp at h1 h2
  have w1 : IntKind.i64.wrap (ways : Int) = ways := by simp [IntKind.wrap, IntKind.bits, IntKind.signed]; omega
  simp [w1]
  generalize hA : a.take (min a.length 10) = A
  generalize hR : rest.take (min rest.length 20) = R
  have hA10 : A.length ≤ 10 := by rw [← hA]; simp
  have hAn : ∀ n, n ∈ A → I64 n := fun n h => hn n (by rw [← hA] at h; exact List.mem_of_mem_take h)
  have hR20 : R.length ≤ 20 := by rw [← hR]; simp
  clear hA hR hn hr h1 h2 ha
  refine CC_by (fun hj => ?_) (fun hj => ?_)
  · have hs3 := sepN_len ways
    generalize hsep : sepN ways = sep at hs3
    have hsok : Sep sep := by rw [← hsep]; exact sepN_ok ways
    simp
    refine VV_fam (fun i : Nat => ⟨fr 158 [(1, .fz 1 (ints A)), (4, .p (.int .u8 cut)), (11, .p (.string (txt (91 :: jb sep (A.take i))))), (12, .p (.int .i64 ways)), (50, .fz 1 (ints A)), (51, .p (.int .i64 A.length)), (52, .p (.int .i64 i))], h⟩)
      (fun i => i ≤ A.length) (fun i => A.length - i) 0 (by omega) (Wk.fits (by simp [jb])) ?_
    intro i hi B hbk he hr
    by_cases hlt : i < A.length
    · have e5 : (ints A)[i]?.getD .any = .p (.int .i64 A[i]) := ints_get hlt
      have e4 : IntKind.i64.wrap ((i : Int) + 1) = ((i + 1 : Nat) : Int) := wrap_succ hlt (by omega)
      have hltI : (i : Int) < (A.length : Int) := by omega
      have hAi := hAn A[i] (List.getElem_mem hlt)
      have hlen := jb_len hs3 (A.take i) (fun n h => hAn n (List.mem_of_mem_take h))
      have hlen2 := decI_len _ hAi
      have htl : (A.take i).length = i := by rw [List.length_take]; omega
      rw [htl] at hlen
      have htk : A.take (i + 1) = A.take i ++ [A[i]] := List.take_succ_eq_append_getElem hlt
      by_cases h0 : i = 0
      · subst h0
        have e6 : jb sep (A.take (0 + 1)) = decI A[0] := by rw [htk]; simp [jb]
        simp [c3L0, hlt, hltI, e5, jb]
        refine FF_by (ok4 h _ hAi) ?_
        simp [jb, show IntKind.i64.wrap 1 = 1 by decide]
        refine ⟨by omega, ?_⟩
        refine hbk _ 1 ?_ hlt (by omega)
        rw [e6]
        exact Wk.fits (by simp)
      · have h0I : (0 : Int) < (i : Int) := by omega
        have h0J : 0 < i := by omega
        have hne : A.take i ≠ [] := fun hh => h0 (by rw [← htl, hh]; rfl)
        have e6 : jb sep (A.take (i + 1)) = jb sep (A.take i) ++ sep ++ decI A[i] := by rw [htk, jb_push hne]
        generalize jb sep (A.take i) = T at hlen e6
        have hm : ways % 3 = 0 ∨ ways % 3 = 1 ∨ ways % 3 = 2 := by omega
        have em : (ways : Int).tmod 3 = ((ways % 3 : Nat) : Int) := by rw [Int.tmod_eq_emod_of_nonneg (by omega)]; simp
        have fin : ∀ (t : List DV) (x : List Blk), fitsT h.length t (fr 158 [(1, .fz 1 (ints A)), (4, .p (.int .u8 cut)), (11, .p (.string (txt (91 :: (T ++ sep ++ decI A[i]))))), (12, .p (.int .i64 ways)), (50, .fz 1 (ints A)), (51, .p (.int .i64 A.length)), (52, .p (.int .i64 (i + 1 : Nat)))]) → B .nrm ⟨t, h ++ x⟩ := fun t x hf => by
          refine hbk _ (i + 1) ?_ hlt (by omega)
          rw [e6]
          exact Wk.trunc gzT (Nat.le_refl _) id hf
        clear hbk he hr
        rcases hm with hm | hm | hm
        · have hsp : sep = [44] := by rw [← hsep, sepN, if_pos hm]
          subst hsp
          rw [hm] at em
          simp [c3L0, hlt, hltI, e5, h0I, h0J, em]
          refine ⟨by omega, FF_by (ok4 _ _ hAi) ?_⟩
          simp [e4]
          exact ⟨by omega, fin _ _ (by simp)⟩
        · have hsp : sep = [44, 32] := by rw [← hsep, sepN, if_neg (by omega), if_pos hm]
          subst hsp
          rw [hm] at em
          simp [c3L0, hlt, hltI, e5, h0I, h0J, em]
          refine ⟨by omega, FF_by (ok4 _ _ hAi) ?_⟩
          simp [e4]
          exact ⟨by omega, fin _ _ (by simp)⟩
        · have hsp : sep = [32, 44, 10] := by rw [← hsep, sepN, if_neg (by omega), if_neg (by omega)]
          subst hsp
          rw [hm] at em
          simp [c3L0, hlt, hltI, e5, h0I, h0J, em]
          refine ⟨by omega, FF_by (ok4 _ _ hAi) ?_⟩
          simp [e4]
          exact ⟨by omega, fin _ _ (by simp)⟩
    · have : i = A.length := by omega
      subst this
      simp [c3L0]
      refine he _ _ ?_
      have hlen := jb_len hs3 A hAn
      have hT := elemsT_ok hsok A
      have hN := jb_numT hsok A
      have hcutE := elemsT_cut hsok A
      simp
      generalize hJ : jb sep A ++ [93] = J at hT hN hcutE ⊢
      have hJl : J.length = (jb sep A).length + 1 := by rw [← hJ]; simp
      refine ⟨by omega, FF_by (ok5j gzT h J A hAn (by omega) (by simp; omega) hN hT) ?_⟩
      simp [readD, show IntKind.i64.wrap (cut : Int) = cut by simp [IntKind.wrap, IntKind.bits, IntKind.signed]; omega]
      have ek : (cut : Int).tmod ((J.length : Int) + 1) = ((cut % (J.length + 1) : Nat) : Int) := by
        rw [Int.tmod_eq_emod_of_nonneg (by omega)]
        simp
      have hk : cut % (J.length + 1) < J.length + 1 := Nat.mod_lt _ (by omega)
      generalize cut % (J.length + 1) = k at ek hk
      have hcall : Ok Tryd.prog GT 5 [.p (.int .i64 0), .p (.string (txt ((91 :: J).take k)))] h (readD none) h := by
        cases k with
        | zero => exact ok5e h
        | succ m =>
          exact ok5n gzT h (J.take m) (by simp; omega) (fun c hc => hN c (List.mem_of_mem_take hc)) (hcutE m (by omega))
      have hz : ¬ (J.length : Int) + 1 = 0 := by omega
      have hk2 : (k : Int) ≤ (J.length : Int) + 1 := by omega
      have hsl := setOf_length A
      simp [ek, hz, hk2]
      refine FF_by hcall ?_
      simp [readD]
      refine FF_by (ok7 h A (by omega)) ?_
      simp
      refine FF_by (ok6 h _ _ (by rw [maxLen_eq]; omega)) ?_
      simp
  · simp
    refine FF_by (ok8 gzT h A.length ways (by omega) (by omega)) ?_
    simp
    have hd0 := nthWay_mem (headsL_ne A.length) ways
    generalize nthWay (headsL A.length) ways = hd at hd0
    obtain ⟨hc0, ht, hhd, hc192, hd5⟩ := head_ok (by omega) hd0
    refine VV_fam (fun i : Nat => ⟨fr 158 [(1, .fz 1 (ints A)), (3, .p (.string (txt R))), (4, .p (.int .u8 cut)), (11, .p (.string (txt (hd ++ ((prs ways 0 (A.take i)).map (·.1)).flatten)))), (12, .p (.int .i64 ways)), (106, .fz 1 (ints A)), (107, .p (.int .i64 A.length)), (108, .p (.int .i64 i))], h⟩)
      (fun i => i ≤ A.length) (fun i => A.length - i) 0 (by omega) (Wk.fits (by simp [prs])) ?_
    intro i hi B hbk he hr
    by_cases hlt : i < A.length
    · have e4 : IntKind.i64.wrap ((i : Int) + 1) = ((i + 1 : Nat) : Int) := wrap_succ hlt (by omega)
      have hltI : (i : Int) < (A.length : Int) := by omega
      have hAi := hAn A[i] (List.getElem_mem hlt)
      have htl : (A.take i).length = i := by rw [List.length_take]; omega
      have hfl := prs_fl ways (A.take i) 0
      rw [htl] at hfl
      have htk : A.take (i + 1) = A.take i ++ [A[i]] := List.take_succ_eq_append_getElem hlt
      have e6 : hd ++ ((prs ways 0 (A.take (i + 1))).map (·.1)).flatten = (hd ++ ((prs ways 0 (A.take i)).map (·.1)).flatten) ++ enc ways i A[i] := by
        rw [htk, prs_push, htl]
        simp
      have hTl : (hd ++ ((prs ways 0 (A.take i)).map (·.1)).flatten).length ≤ 5 + 9 * i := by rw [List.length_append]; omega
      generalize hd ++ ((prs ways 0 (A.take i)).map (·.1)).flatten = T at hTl e6
      obtain ⟨m, hm⟩ : ∃ m, m = i % 8 := ⟨_, rfl⟩
      obtain ⟨W, hW⟩ : ∃ W, W = ways / 2 ^ m := ⟨_, rfl⟩
      have em : (i : Int).tmod 8 = (m : Int) := by rw [Int.tmod_eq_emod_of_nonneg (by omega)]; omega
      have e7 : ishr .i64 (ways : Int) (m : Int) = (W : Int) := by
        unfold ishr
        rw [Int.toNat_natCast, Nat.min_eq_left (by simp [IntKind.bits]; omega)]
        rw [Int.fdiv_eq_ediv_of_nonneg _ (Int.le_of_lt (Int.pow_pos (by decide))), hW]
        exact_mod_cast rfl
      have hel : (enc ways i A[i]).length ≤ 9 := cand_len A[i] 4 (by omega) _ (nthWay_mem (candI_ne _) _)
      have hwd : W < 9223372036854775808 := by rw [hW]; exact Nat.lt_of_le_of_lt (Nat.div_le_self _ _) (by omega)
      have hee : enc ways i A[i] = nthWay (candI A[i] 4) W := by rw [hW, hm]; rfl
      rw [hee] at hel e6
      have c9 := ok9 (G := GT) h A[i] W hAi hwd
      generalize nthWay (candI A[i] 4) W = E at hel e6 c9
      simp [c3L1, hlt, hltI, em, e7]
      refine FF_by c9 ?_
      simp [e4]
      refine ⟨by omega, hbk _ (i + 1) ?_ hlt (by omega)⟩
      rw [e6]
      exact Wk.fits (by simp)
    · have : i = A.length := by omega
      subst this
      generalize hS : hd ++ ((prs ways 0 (A.take A.length)).map (·.1)).flatten = S
      rw [List.take_length] at hS
      simp [c3L1]
      refine he _ _ ?_
      have hfl := prs_fl ways A 0
      have hEx : Ex (readMsg readInt) S A := by
        have := Ex_readMsg (d := readInt) (hd := hd) (prs ways 0 A) (by rw [prs_len]; exact Ex_headsL (by omega) hd0) (fun p hp => by
          have := prs_mem ways A 0 p hp
          exact Ex_candI (hAn p.2 this.2) this.1)
        rwa [prs_snd, hS] at this
      have hSl : S.length ≤ 5 + 9 * A.length := by rw [← hS, List.length_append]; omega
      have hSc : ∃ t, S = hc0 :: t := by rw [← hS, hhd]; exact ⟨_, rfl⟩
      obtain ⟨S', hS'⟩ := hSc
      have hpos : 0 < S.length := by rw [hS']; simp
      have e1 := hEx.out R
      have c1 : Ok Tryd.prog GT 5 [.p (.int .i64 1), .p (.string (txt (S ++ R)))] h (readD (some (A, R))) h := by
        have := ok5m gzT h (S ++ R) (by simp; omega) (by rw [hS']; simpa using hc192) (fun xs r hx => by rw [e1] at hx; cases hx; omega)
        rwa [e1] at this
      have ek : (cut : Int).tmod (S.length : Int) = ((cut % S.length : Nat) : Int) := by
        rw [Int.tmod_eq_emod_of_nonneg (by omega)]
        simp
      have hk : cut % S.length < S.length := Nat.mod_lt _ hpos
      generalize cut % S.length = k at ek hk
      have e2 : readMsg readInt (S.take k) = none := hEx.of_take hk
      have c2 : Ok Tryd.prog GT 5 [.p (.int .i64 1), .p (.string (txt (S.take k)))] h (readD none) h := by
        have := ok5m gzT h (S.take k) (by simp; omega) (by
          cases k with
          | zero => simp
          | succ k => rw [hS']; simpa using hc192) (fun xs r hx => by rw [e2] at hx; cases hx)
        rwa [e2] at this
      have hz : ¬ (S.length : Int) = 0 := by omega
      have hz2 : S ≠ [] := fun hh => by rw [hh] at hpos; simp at hpos
      have hk2 : (k : Int) ≤ (S.length : Int) := by omega
      have hk3 : k ≤ S.length := by omega
      have hsl := setOf_length A
      simp
      refine ⟨by omega, FF_by c1 ?_⟩
      simp [readD, show IntKind.i64.wrap (cut : Int) = cut by simp [IntKind.wrap, IntKind.bits, IntKind.signed]; omega, ek, hz, hk2, hk3, hz2]
      refine FF_by c2 ?_
      simp [readD]
      refine FF_by (ok7 h A (by omega)) ?_
      simp
      refine FF_by (ok6 h _ _ (by rw [maxLen_eq]; omega)) ?_
      simp
end Go.Proofs.YtppjcnaffphakaaDoor
