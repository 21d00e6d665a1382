/- The law FnStrSetRead: the walk. -/
import Derived.Test.YtppjcnaffphakaaGreatDoorLsA
import Derived.Test.YtppjcnaffphakaaGreatDoorLsB
import Derived.Test.YtppjcnaffphakaaGreatDoorLsC
set_option linter.unusedVariables false
set_option linter.unusedSimpArgs false
set_option maxRecDepth 100000
set_option maxHeartbeats 4000000
namespace Go.Proofs.YtppjcnaffphakaaGreatDoor
open Go Go.Den Go.Proofs

def c3L0 : DC :=
  (.seq (.rg [⟨(some 56), .bin .lss (.t 55) (.t 54), none⟩])
    (.seq (.cond (.t 56) .skip
    (.exit 0))
    (.seq (.block 1 (.seq (.rg [⟨(some 57), .mov (.t 55), none⟩,
           ⟨(some 58), .iaddr 1 (.t 53) (.t 55), none⟩,
           ⟨(some 59), .load false 1 (.t 58), none⟩,
           ⟨(some 13), .mov (.t 57), none⟩,
           ⟨(some 14), .mov (.t 59), none⟩])
    (.seq (.seq (.rg [⟨(some 60), .mov (.t 13), none⟩,
           ⟨(some 61), .bin .gtr (.t 60) (.c (.p (.int .i64 0))), none⟩])
    (.cond (.t 61) (.rg [⟨(some 62), .mov (.t 11), none⟩,
             ⟨(some 63), .lit 1 [(.c (.p (.string ⟨#[44]⟩))), (.c (.p (.string ⟨#[44, 32]⟩))), (.c (.p (.string ⟨#[32, 44, 10]⟩)))], none⟩,
             ⟨(some 64), .mov (.t 12), none⟩,
             ⟨(some 65), .bin .shr (.t 64) (.c (.p (.int .u64 2))), none⟩,
             ⟨(some 66), .bin .rem (.t 65) (.c (.p (.int .i64 3))), none⟩,
             ⟨(some 67), .iaddr 1 (.t 63) (.t 66), none⟩,
             ⟨(some 68), .load false 1 (.t 67), none⟩,
             ⟨(some 69), .bin .add (.t 62) (.t 68), none⟩,
             ⟨(some 11), .mov (.t 69), none⟩])
    .skip))
    (.rg [⟨(some 70), .mov (.t 11), none⟩,
           ⟨(some 71), .mov (.t 14), none⟩,
           ⟨(some 72), .callr 8 [(.t 71)], none⟩,
           ⟨(some 73), .bin .add (.t 70) (.t 72), none⟩,
           ⟨(some 11), .mov (.t 73), none⟩]))))
    (.rg [⟨(some 74), .bin .add (.t 55) (.c (.p (.int .i64 1))), none⟩,
          ⟨(some 55), .mov (.t 74), none⟩]))))
def c3L1 : DC :=
  (.seq (.rg [⟨(some 113), .bin .lss (.t 112) (.t 111), none⟩])
    (.seq (.cond (.t 113) .skip
    (.exit 2))
    (.seq (.block 3 (.seq (.rg [⟨(some 114), .mov (.t 112), none⟩,
         ⟨(some 115), .iaddr 1 (.t 110) (.t 112), none⟩,
         ⟨(some 116), .load false 1 (.t 115), none⟩,
         ⟨(some 21), .mov (.t 114), none⟩,
         ⟨(some 22), .mov (.t 116), none⟩])
    (.rg [⟨(some 117), .mov (.t 11), none⟩,
         ⟨(some 118), .mov (.t 22), none⟩,
         ⟨(some 119), .mov (.t 12), none⟩,
         ⟨(some 120), .mov (.t 21), none⟩,
         ⟨(some 121), .bin .rem (.t 120) (.c (.p (.int .i64 8))), none⟩,
         ⟨(some 122), .bin .shr (.t 119) (.t 121), none⟩,
         ⟨(some 123), .callr 13 [(.t 118), (.t 122)], none⟩,
         ⟨(some 124), .bin .add (.t 117) (.t 123), none⟩,
         ⟨(some 11), .mov (.t 124), none⟩])))
    (.rg [⟨(some 125), .bin .add (.t 112) (.c (.p (.int .i64 1))), none⟩,
        ⟨(some 112), .mov (.t 125), none⟩]))))
theorem c3_cut : c3 =
  (.seq (.rg [⟨(some 10), .mov (.c (.p (.bool false))), none⟩])
    (.seq (.seq (.rg [⟨(some 29), .mov (.t 1), none⟩,
      ⟨(some 30), .callr 6 [(.t 29)], none⟩,
      ⟨(some 31), .un .not (.t 30), none⟩,
      ⟨(some 32), .mov (.t 31), none⟩,
      ⟨(some 33), .mov (.t 3), (some (32, false))⟩,
      ⟨(some 34), .lens (.t 33), (some (32, false))⟩,
      ⟨(some 35), .bin .gtr (.t 34) (.c (.p (.int .i64 2147483647))), (some (32, false))⟩,
      ⟨(some 36), .pick (.t 32) (.c (.p (.bool true))) (.t 35), none⟩])
    (.cond (.t 36) (.seq (.rg [⟨(some 10), .mov (.c (.p (.bool true))), none⟩])
    .ret)
    .skip))
    (.seq (.rgd [⟨⟨(some 37), .mov (.t 1), none⟩, 0, []⟩,
      ⟨⟨(some 38), .call 7 [(.t 37)], none⟩, 0, []⟩,
      ⟨⟨(some 39), .mov (.t 3), none⟩, 0, []⟩,
      ⟨⟨(some 40), .mov (.t 3), none⟩, 0, []⟩,
      ⟨⟨(some 41), .lens (.t 40), none⟩, 0, []⟩,
      ⟨⟨(some 42), .mm false (.t 41) (.c (.p (.int .i64 20))), none⟩, 0, []⟩,
      ⟨⟨(some 43), .slcs (.t 39) none (some (.t 42)), none⟩, 0, []⟩,
      ⟨⟨(some 1), .mov (.t 38), none⟩, 1, []⟩,
      ⟨⟨(some 3), .mov (.t 43), none⟩, 1, []⟩])
    (.seq (.rg [⟨(some 44), .mov (.t 2), none⟩,
      ⟨(some 45), .cint .i64 (.t 44), none⟩,
      ⟨(some 11), .mov (.c (.p (.string ⟨#[]⟩))), none⟩,
      ⟨(some 12), .mov (.t 45), none⟩])
    (.seq (.seq (.rg [⟨(some 46), .mov (.t 0), none⟩])
    (.cond (.t 46) (.seq (.rg [⟨(some 47), .lit 1 [(.c (.p (.string ⟨#[]⟩))), (.c (.p (.string ⟨#[32]⟩))), (.c (.p (.string ⟨#[10, 9]⟩)))], none⟩,
        ⟨(some 48), .mov (.t 12), none⟩,
        ⟨(some 49), .bin .rem (.t 48) (.c (.p (.int .i64 3))), none⟩,
        ⟨(some 50), .iaddr 1 (.t 47) (.t 49), none⟩,
        ⟨(some 51), .load false 1 (.t 50), none⟩,
        ⟨(some 52), .bin .add (.c (.p (.string ⟨#[91]⟩))) (.t 51), none⟩,
        ⟨(some 11), .mov (.t 52), none⟩])
    (.seq (.seq (.rg [⟨(some 53), .mov (.t 1), none⟩,
        ⟨(some 54), .lenl (.t 53), none⟩,
        ⟨(some 55), .mov (.c (.p (.int .i64 0))), none⟩])
    (.block 0 (.loop c3L0)))
    (.seq (.rg [⟨(some 75), .mov (.t 11), none⟩,
        ⟨(some 76), .bin .add (.t 75) (.c (.p (.string ⟨#[93]⟩))), none⟩,
        ⟨(some 11), .mov (.t 76), none⟩])
    (.seq (.rg [⟨(some 78), .mov (.t 11), none⟩,
        ⟨(some 79), .callr 9 [(.c (.p (.int .i64 0))), (.t 78)], none⟩,
        ⟨(some 77), .mov (.t 79), none⟩,
        ⟨(some 80), .ext (.t 77) 0, none⟩,
        ⟨(some 81), .ext (.t 77) 1, none⟩,
        ⟨(some 82), .ext (.t 77) 2, none⟩,
        ⟨(some 15), .mov (.t 80), none⟩,
        ⟨(some 16), .mov (.t 81), none⟩,
        ⟨(some 17), .mov (.t 82), none⟩])
    (.seq (.rg [⟨(some 84), .mov (.t 11), none⟩,
        ⟨(some 85), .mov (.t 4), none⟩,
        ⟨(some 86), .cint .i64 (.t 85), none⟩,
        ⟨(some 87), .mov (.t 11), none⟩,
        ⟨(some 88), .lens (.t 87), none⟩,
        ⟨(some 89), .bin .rem (.t 86) (.t 88), none⟩,
        ⟨(some 90), .slcs (.t 84) none (some (.t 89)), none⟩,
        ⟨(some 91), .callr 9 [(.c (.p (.int .i64 0))), (.t 90)], none⟩,
        ⟨(some 83), .mov (.t 91), none⟩,
        ⟨(some 92), .ext (.t 83) 0, none⟩,
        ⟨(some 93), .ext (.t 83) 1, none⟩,
        ⟨(some 94), .ext (.t 83) 2, none⟩,
        ⟨(some 18), .mov (.t 92), none⟩,
        ⟨(some 19), .mov (.t 93), none⟩,
        ⟨(some 20), .mov (.t 94), none⟩])
    (.seq (.rg [⟨(some 95), .mov (.t 17), none⟩,
        ⟨(some 96), .mov (.t 95), none⟩,
        ⟨(some 97), .mov (.t 20), (some (96, true))⟩,
        ⟨(some 98), .un .not (.t 97), (some (96, true))⟩,
        ⟨(some 99), .pick (.t 96) (.t 98) (.c (.p (.bool false))), none⟩,
        ⟨(some 100), .mov (.t 99), none⟩,
        ⟨(some 101), .mov (.t 15), (some (100, true))⟩,
        ⟨(some 102), .mov (.t 1), (some (100, true))⟩,
        ⟨(some 103), .callr 11 [(.t 102)], (some (100, true))⟩,
        ⟨(some 104), .callr 10 [(.t 101), (.t 103)], (some (100, true))⟩,
        ⟨(some 105), .pick (.t 100) (.t 104) (.c (.p (.bool false))), none⟩,
        ⟨(some 10), .mov (.t 105), none⟩])
    .ret))))))
    .skip))
    (.seq (.rg [⟨(some 106), .mov (.t 1), none⟩,
      ⟨(some 107), .lenl (.t 106), none⟩,
      ⟨(some 108), .mov (.t 12), none⟩,
      ⟨(some 109), .callr 12 [(.t 107), (.t 108)], none⟩,
      ⟨(some 11), .mov (.t 109), none⟩])
    (.seq (.seq (.rg [⟨(some 110), .mov (.t 1), none⟩,
      ⟨(some 111), .lenl (.t 110), none⟩,
      ⟨(some 112), .mov (.c (.p (.int .i64 0))), none⟩])
    (.block 2 (.loop c3L1)))
    (.seq (.rg [⟨(some 127), .mov (.t 11), none⟩,
      ⟨(some 128), .mov (.t 3), none⟩,
      ⟨(some 129), .bin .add (.t 127) (.t 128), none⟩,
      ⟨(some 130), .callr 9 [(.c (.p (.int .i64 1))), (.t 129)], none⟩,
      ⟨(some 126), .mov (.t 130), none⟩,
      ⟨(some 131), .ext (.t 126) 0, none⟩,
      ⟨(some 132), .ext (.t 126) 1, none⟩,
      ⟨(some 133), .ext (.t 126) 2, none⟩,
      ⟨(some 23), .mov (.t 131), none⟩,
      ⟨(some 24), .mov (.t 132), none⟩,
      ⟨(some 25), .mov (.t 133), none⟩])
    (.seq (.rg [⟨(some 135), .mov (.t 11), none⟩,
      ⟨(some 136), .mov (.t 4), none⟩,
      ⟨(some 137), .cint .i64 (.t 136), none⟩,
      ⟨(some 138), .mov (.t 11), none⟩,
      ⟨(some 139), .lens (.t 138), none⟩,
      ⟨(some 140), .bin .rem (.t 137) (.t 139), none⟩,
      ⟨(some 141), .slcs (.t 135) none (some (.t 140)), none⟩,
      ⟨(some 142), .callr 9 [(.c (.p (.int .i64 1))), (.t 141)], none⟩,
      ⟨(some 134), .mov (.t 142), none⟩,
      ⟨(some 143), .ext (.t 134) 0, none⟩,
      ⟨(some 144), .ext (.t 134) 1, none⟩,
      ⟨(some 145), .ext (.t 134) 2, none⟩,
      ⟨(some 26), .mov (.t 143), none⟩,
      ⟨(some 27), .mov (.t 144), none⟩,
      ⟨(some 28), .mov (.t 145), none⟩])
    (.seq (.rg [⟨(some 146), .mov (.t 25), none⟩,
      ⟨(some 147), .mov (.t 146), none⟩,
      ⟨(some 148), .mov (.t 28), (some (147, true))⟩,
      ⟨(some 149), .un .not (.t 148), (some (147, true))⟩,
      ⟨(some 150), .pick (.t 147) (.t 149) (.c (.p (.bool false))), none⟩,
      ⟨(some 151), .mov (.t 150), none⟩,
      ⟨(some 152), .mov (.t 24), (some (151, true))⟩,
      ⟨(some 153), .mov (.t 3), (some (151, true))⟩,
      ⟨(some 154), .bin .eql (.t 152) (.t 153), (some (151, true))⟩,
      ⟨(some 155), .pick (.t 151) (.t 154) (.c (.p (.bool false))), none⟩,
      ⟨(some 156), .mov (.t 155), none⟩,
      ⟨(some 157), .mov (.t 23), (some (156, true))⟩,
      ⟨(some 158), .mov (.t 1), (some (156, true))⟩,
      ⟨(some 159), .callr 11 [(.t 158)], (some (156, true))⟩,
      ⟨(some 160), .callr 10 [(.t 157), (.t 159)], (some (156, true))⟩,
      ⟨(some 161), .pick (.t 156) (.t 160) (.c (.p (.bool false))), none⟩,
      ⟨(some 10), .mov (.t 161), none⟩])
    .ret)))))))))) := rfl


theorem jsx_len (x : List UInt8) (h : x.length ≤ 20) : (jsx x).length ≤ 122 := by
  have := jsb_len x
  simp [jsx]; omega
theorem sizes {sep : List UInt8} (hs : sep.length ≤ 3) : ∀ (l : List (List UInt8)), (∀ n, n ∈ l → n.length ≤ 20) → ((l.map fun y => sep ++ jsx y).flatten).length ≤ 125 * l.length
  | [], _ => by simp
  | x :: l, h => by
    have h1 := sizes hs l fun n hn => h n (by simp [hn])
    have h2 := jsx_len x (h x (by simp))
    simp only [List.map_cons, List.flatten_cons, List.length_append, List.length_cons]
    omega
theorem jb_len {sep : List UInt8} (hs : sep.length ≤ 3) (l : List (List UInt8)) (h : ∀ n, n ∈ l → n.length ≤ 20) : (jb sep l).length ≤ 125 * l.length := by
  cases l with
  | nil => simp [jb]
  | cons x l =>
    have h1 := sizes hs l fun n hn => h n (by simp [hn])
    have h2 := jsx_len x (h x (by simp))
    simp only [jb, List.length_append, List.length_cons]
    omega
theorem sepN_len (way : Nat) : (sepN way).length ≤ 3 := by
  unfold sepN
  split
  · simp
  · split <;> simp
/-- The blanks behind the opening bracket. -/
def opN (way : Nat) : List UInt8 := if way % 3 = 0 then [] else if way % 3 = 1 then [32] else [10, 9]
theorem opN_ok (way : Nat) : BL (opN way) ∧ (opN way).length ≤ 2 := by
  unfold opN
  split
  · exact ⟨BL_of rfl, by simp⟩
  · split
    · exact ⟨BL_of rfl, by simp⟩
    · exact ⟨BL_of rfl, by simp⟩
/-- The texts, each in its way. -/
def enc (ways k : Nat) (x : List UInt8) : List UInt8 := nthWay (headsT x.length) (ways / 2 ^ (k % 8)) ++ x
def prs (ways : Nat) : Nat → List (List UInt8) → List (List UInt8 × List UInt8)
  | _, [] => []
  | k, x :: l => (enc ways k x, x) :: prs ways (k + 1) l
theorem prs_push (ways : Nat) (x : List UInt8) : ∀ (l : List (List UInt8)) (k : Nat), prs ways k (l ++ [x]) = prs ways k l ++ [(enc ways (k + l.length) x, x)]
  | [], k => rfl
  | y :: l, k => by
    simp only [List.cons_append, prs, List.length_cons]
    rw [prs_push ways x l (k + 1), show k + 1 + l.length = k + (l.length + 1) by omega]
theorem prs_snd (ways : Nat) : ∀ (l : List (List UInt8)) (k : Nat), (prs ways k l).map (·.2) = l
  | [], _ => rfl
  | x :: l, k => by simp only [prs, List.map_cons, prs_snd ways l (k + 1)]
theorem prs_len (ways : Nat) (l : List (List UInt8)) (k : Nat) : (prs ways k l).length = l.length := by
  have := congrArg List.length (prs_snd ways l k)
  simpa using this
theorem enc_len (ways k : Nat) (x : List UInt8) (h : x.length ≤ 20) : (enc ways k x).length ≤ 25 := by
  have := nthWay_len (way := ways / 2 ^ (k % 8)) (headsT_len (n := x.length))
  simp [enc]; omega
theorem prs_mem (ways : Nat) : ∀ (l : List (List UInt8)) (k : Nat) (p : List UInt8 × List UInt8), p ∈ prs ways k l → (∃ k', p.1 = enc ways k' p.2) ∧ p.2 ∈ l
  | [], _, p, h => by cases h
  | x :: l, k, p, h => by
    rcases List.mem_cons.1 h with rfl | h
    · exact ⟨⟨k, rfl⟩, by simp⟩
    · have := prs_mem ways l (k + 1) p h
      exact ⟨this.1, List.mem_cons_of_mem _ this.2⟩
theorem fl25 : ∀ (l : List (List UInt8 × List UInt8)), (∀ p, p ∈ l → p.1.length ≤ 25) → ((l.map (·.1)).flatten).length ≤ 25 * l.length
  | [], _ => by simp
  | p :: l, h => by
    have h1 := fl25 l fun q hq => h q (by simp [hq])
    have h2 := h p (by simp)
    simp only [List.map_cons, List.flatten_cons, List.length_append, List.length_cons]
    omega
theorem prs_fl (ways : Nat) (l : List (List UInt8)) (k : Nat) (hl : ∀ x, x ∈ l → x.length ≤ 20) : (((prs ways k l).map (·.1)).flatten).length ≤ 25 * l.length := by
  have := fl25 (prs ways k l) fun p hp => by
    obtain ⟨⟨k', h1⟩, h2⟩ := prs_mem ways l k p hp
    rw [h1]
    exact enc_len _ _ _ (hl _ h2)
  rwa [prs_len] at this
theorem head_ok {n : Nat} (hn : n < 16) {hd : List UInt8} (h : hd ∈ headsL n) : ∃ c t, hd = c :: t ∧ c ≠ 192 ∧ hd.length ≤ 5 := by
  simp only [headsL, heads, List.mem_append, List.mem_filterMap, List.mem_cons, List.not_mem_nil, or_false] at h
  rcases h with h | ⟨x, h1 | h1, h2⟩
  · split at h
    · have := List.mem_singleton.1 h
      subst this
      refine ⟨_, _, rfl, ?_, by simp⟩
      intro hh
      have := congrArg UInt8.toNat hh
      rw [UInt8.toNat_ofNat'] at this
      have h192 : (192 : UInt8).toNat = 192 := rfl
      omega
    · cases h
  · subst h1
    simp at h2
    obtain ⟨_, rfl⟩ := h2
    exact ⟨_, _, rfl, by decide, by simp⟩
  · subst h1
    simp at h2
    subst h2
    exact ⟨_, _, rfl, by decide, by simp⟩
theorem setPlain_form (l : List ByteArray) : ∃ A : List (List UInt8), setPlain l = A.map txt ∧ A.length ≤ 10 ∧ ∀ x, x ∈ A → Plain x ∧ x.length ≤ 20 := by
  refine ⟨(setTexts l).map fun s => s.data.toList.filter plainB, ?_, by simpa using setTexts_length l, fun x hx => ?_⟩
  · simp [setPlain, plainOf, txt]
  · obtain ⟨s, hs, rfl⟩ := List.mem_map.1 hx
    have h20 := setTexts_size l s hs
    refine ⟨fun c hc => ?_, Nat.le_trans (List.length_filter_le _ _) (by simpa using h20)⟩
    have := (List.mem_filter.1 hc).2
    simpa [plainB] using this
theorem ok3 {G : Nat → DV} (hG : GZ G) (h : List Blk) (j : Bool) (l : List ByteArray) (ways cut : Nat) (rest : List UInt8) (hw : ways < 65536) (hc : cut < 256) (hl : l.length ≤ maxLen) (hr : rest.length ≤ 140737488351232) :
    Ok Tryz.prog G 3 [.p (.bool j), .fz 1 (strs l), .p (.int .u16 ways), .p (.string (txt rest)), .p (.int .u8 cut)] h (.p (.bool true)) h := by
  refine Ok.wf fun hwf => ?_
  refine Ok_by Tryz.func3 c3_ok r3_ok 157 rfl ?_
  rw [c3_cut]
  simp [r3]
  refine FF_by (ok6 h l hl) ?_
  cases h1 : fits8 l
  case false => simp
  simp
  refine CC_by (fun h2 => ?_) (fun h2 => ?_)
  · simp
  simp at h2
  have w1 : IntKind.i64.wrap (ways : Int) = ways := by simp [IntKind.wrap, IntKind.bits, IntKind.signed]; omega
  simp
  refine DF_by (ok7 h l) ?_
  obtain ⟨A, hA, hA10, hAp⟩ := setPlain_form l
  rw [hA]
  simp [w1]
  generalize hR : rest.take (min rest.length 20) = R
  have hR20 : R.length ≤ 20 := by rw [← hR]; simp
  clear hA hR h1 h2 hl hr
  have tm3 : ∀ w : Nat, (w : Int).tmod 3 = (w : Int) % 3 := fun w => Int.tmod_eq_emod_of_nonneg (by omega)
  have c3 : ∀ w : Nat, w % 3 = 0 ∧ ((w : Int) % 3).toNat = 0 ∨ w % 3 = 1 ∧ ((w : Int) % 3).toNat = 1 ∨ w % 3 = 2 ∧ ((w : Int) % 3).toNat = 2 := fun w => by omega
  have litO : [DV.p (Value.string ⟨#[]⟩), DV.p (Value.string ⟨#[32]⟩), DV.p (Value.string ⟨#[10, 9]⟩)][((ways : Int) % 3).toNat]?.getD .any = .p (.string (txt (opN ways))) := by
    rcases c3 ways with ⟨h1, h2⟩ | ⟨h1, h2⟩ | ⟨h1, h2⟩
    · rw [h2, opN, if_pos h1]; rfl
    · rw [h2, opN, if_neg (by omega), if_pos h1]; rfl
    · rw [h2, opN, if_neg (by omega), if_neg (by omega)]; rfl
  have litS : ∀ w : Nat, [DV.p (Value.string ⟨#[44]⟩), DV.p (Value.string ⟨#[44, 32]⟩), DV.p (Value.string ⟨#[32, 44, 10]⟩)][((w : Int) % 3).toNat]?.getD .any = .p (.string (txt (sepN w))) := fun w => by
    rcases c3 w with ⟨h1, h2⟩ | ⟨h1, h2⟩ | ⟨h1, h2⟩
    · rw [h2, sepN, if_pos h1]; rfl
    · rw [h2, sepN, if_neg (by omega), if_pos h1]; rfl
    · rw [h2, sepN, if_neg (by omega), if_neg (by omega)]; rfl
  have wc : IntKind.i64.wrap (cut : Int) = cut := by simp [IntKind.wrap, IntKind.bits, IntKind.signed]; omega
  have hAl : ∀ x, x ∈ A → x.length ≤ 20 := fun x hx => (hAp x hx).2
  have hAq : ∀ x, x ∈ A → Plain x := fun x hx => (hAp x hx).1
  refine CC_by (fun hj => ?_) (fun hj => ?_)
  · obtain ⟨hbl, hb2⟩ := opN_ok ways
    obtain ⟨W4, hW4⟩ : ∃ W4, W4 = ways / 4 := ⟨_, rfl⟩
    have e7 : ishr .i64 (ways : Int) 2 = (W4 : Int) := by
      rw [hW4]
      unfold ishr
      rw [show min (2 : Int).toNat IntKind.i64.bits = 2 from rfl, Int.fdiv_eq_ediv_of_nonneg _ (by decide)]
      simp
    have hs3 := sepN_len W4
    have hsok := sepN_ok W4
    have litS := litS W4
    simp [tm3, litO]
    clear litO
    generalize opN ways = S0 at hbl hb2
    refine ⟨by omega, by omega, by omega, ?_⟩
    refine VV_fam (fun i : Nat => ⟨fr 162 [(1, .fz 1 (strs (A.map txt))), (4, .p (.int .u8 cut)), (11, .p (.string (txt (91 :: (S0 ++ jb (sepN W4) (A.take i)))))), (12, .p (.int .i64 ways)), (53, .fz 1 (strs (A.map txt))), (54, .p (.int .i64 A.length)), (55, .p (.int .i64 i))], h⟩)
      (fun i => i ≤ A.length) (fun i => A.length - i) 0 (by omega) (Wk.trunc hG (Nat.le_refl _) id (by simp [jb])) ?_
    intro i hi B hbk he hr
    by_cases hlt : i < A.length
    · have e5 : (strs (A.map txt))[i]?.getD .any = .p (.string (txt A[i])) := by rw [strs_get (by simpa using hlt)]; simp
      have e4 : IntKind.i64.wrap ((i : Int) + 1) = ((i + 1 : Nat) : Int) := wrap_succ hlt (by omega)
      have hltI : (i : Int) < (A.length : Int) := by omega
      have hAi := hAl A[i] (List.getElem_mem hlt)
      have hlen := jb_len hs3 (A.take i) (fun n h => hAl n (List.mem_of_mem_take h))
      have hlen2 := jsx_len _ hAi
      have htl : (A.take i).length = i := by rw [List.length_take]; omega
      rw [htl] at hlen
      have htk : A.take (i + 1) = A.take i ++ [A[i]] := List.take_succ_eq_append_getElem hlt
      by_cases h0 : i = 0
      · subst h0
        have e6 : jb (sepN W4) (A.take (0 + 1)) = jsx A[0] := by rw [htk]; simp [jb]
        have c8 := ok8 (G := G) h A[0] (by omega)
        rw [show ((34 :: jsb A[0] ++ [34] : List UInt8)) = jsx A[0] from rfl] at c8
        simp [c3L0, hlt, hltI, e5, jb]
        refine FF_by c8 ?_
        simp [jb, show IntKind.i64.wrap 1 = 1 by decide]
        refine ⟨by omega, ?_⟩
        refine hbk _ 1 ?_ hlt (by omega)
        rw [e6]
        exact Wk.fits (by simp)
      · have h0I : (0 : Int) < (i : Int) := by omega
        have h0J : 0 < i := by omega
        have hne : A.take i ≠ [] := fun hh => h0 (by rw [← htl, hh]; rfl)
        have e6 : jb (sepN W4) (A.take (i + 1)) = jb (sepN W4) (A.take i) ++ sepN W4 ++ jsx A[i] := by rw [htk, jb_push hne]
        generalize jb (sepN W4) (A.take i) = T at hlen e6
        have c8 := fun h => ok8 (G := G) h A[i] (by omega)
        simp only [show ((34 :: jsb A[i] ++ [34] : List UInt8)) = jsx A[i] from rfl] at c8
        generalize jsx A[i] = X at hlen2 e6 c8
        generalize sepN W4 = sep at *
        simp [c3L0, hlt, hltI, e5, h0I, h0J, e7, tm3, litS]
        refine ⟨by omega, by omega, by omega, FF_by (c8 _) ?_⟩
        simp [e4]
        refine ⟨by omega, hbk _ (i + 1) ?_ hlt (by omega)⟩
        rw [e6]
        exact Wk.trunc hG (Nat.le_refl _) id (by simp)
    · have : i = A.length := by omega
      subst this
      simp [c3L0]
      refine he _ _ ?_
      have hlen := jb_len hs3 A hAl
      have hT := elT_ok hsok hbl A hAq
      have hcutE := elT_cut hsok hbl A hAq
      simp
      generalize hJ : S0 ++ (jb (sepN W4) A ++ [93]) = J at hT hcutE ⊢
      have hJl : J.length = S0.length + (jb (sepN W4) A).length + 1 := by rw [← hJ]; simp; omega
      refine ⟨by omega, FF_by (ok9j hG h J A (by omega) (by simp; omega) hT) ?_⟩
      simp [readD, wc]
      have ek : (cut : Int).tmod ((J.length : Int) + 1) = ((cut % (J.length + 1) : Nat) : Int) := by
        rw [Int.tmod_eq_emod_of_nonneg (by omega)]
        simp
      have hk : cut % (J.length + 1) < J.length + 1 := Nat.mod_lt _ (by omega)
      generalize cut % (J.length + 1) = k at ek hk
      have hcall : Ok Tryz.prog G 9 [.p (.int .i64 0), .p (.string (txt ((91 :: J).take k)))] h (readD none) h := by
        cases k with
        | zero => exact ok9e h
        | succ m => exact ok9n hG h (J.take m) (by simp; omega) (hcutE m (by omega))
      have hz : ¬ (J.length : Int) + 1 = 0 := by omega
      have hk2 : (k : Int) ≤ (J.length : Int) + 1 := by omega
      have hsl := setOf_length (A.map txt)
      simp at hsl
      simp [ek, hz, hk2]
      refine FF_by hcall ?_
      simp [readD]
      refine FF_by (ok11 h (A.map txt) (by simp; omega)) ?_
      simp
      refine FF_by (ok10 h _ _ (by rw [maxLen_eq]; omega)) ?_
      simp
  · simp
    refine FF_by (ok12 hG h A.length ways (by omega) (by omega)) ?_
    simp
    have hd0 := nthWay_mem (headsL_ne A.length) ways
    generalize nthWay (headsL A.length) ways = hd at hd0
    obtain ⟨hc0, ht, hhd, hc192, hd5⟩ := head_ok (by omega) hd0
    refine VV_fam (fun i : Nat => ⟨fr 162 [(1, .fz 1 (strs (A.map txt))), (3, .p (.string (txt R))), (4, .p (.int .u8 cut)), (11, .p (.string (txt (hd ++ ((prs ways 0 (A.take i)).map (·.1)).flatten)))), (12, .p (.int .i64 ways)), (110, .fz 1 (strs (A.map txt))), (111, .p (.int .i64 A.length)), (112, .p (.int .i64 i))], h⟩)
      (fun i => i ≤ A.length) (fun i => A.length - i) 0 (by omega) (Wk.fits (by simp [prs])) ?_
    intro i hi B hbk he hr
    by_cases hlt : i < A.length
    · have e4 : IntKind.i64.wrap ((i : Int) + 1) = ((i + 1 : Nat) : Int) := wrap_succ hlt (by omega)
      have e5 : (strs (A.map txt))[i]?.getD .any = .p (.string (txt A[i])) := by rw [strs_get (by simpa using hlt)]; simp
      have hltI : (i : Int) < (A.length : Int) := by omega
      have hAi := hAl A[i] (List.getElem_mem hlt)
      have htl : (A.take i).length = i := by rw [List.length_take]; omega
      have hfl := prs_fl ways (A.take i) 0 (fun n h => hAl n (List.mem_of_mem_take h))
      rw [htl] at hfl
      have htk : A.take (i + 1) = A.take i ++ [A[i]] := List.take_succ_eq_append_getElem hlt
      have e6 : hd ++ ((prs ways 0 (A.take (i + 1))).map (·.1)).flatten = (hd ++ ((prs ways 0 (A.take i)).map (·.1)).flatten) ++ enc ways i A[i] := by
        rw [htk, prs_push, htl]
        simp
      have hTl : (hd ++ ((prs ways 0 (A.take i)).map (·.1)).flatten).length ≤ 5 + 25 * i := by rw [List.length_append]; omega
      generalize hd ++ ((prs ways 0 (A.take i)).map (·.1)).flatten = T at hTl e6
      obtain ⟨m, hm⟩ : ∃ m, m = i % 8 := ⟨_, rfl⟩
      obtain ⟨W, hW⟩ : ∃ W, W = ways / 2 ^ m := ⟨_, rfl⟩
      have em : (i : Int).tmod 8 = (m : Int) := by rw [Int.tmod_eq_emod_of_nonneg (by omega)]; omega
      have e7 : ishr .i64 (ways : Int) (m : Int) = (W : Int) := by
        unfold ishr
        rw [Int.toNat_natCast, Nat.min_eq_left (by simp [IntKind.bits]; omega)]
        rw [Int.fdiv_eq_ediv_of_nonneg _ (Int.le_of_lt (Int.pow_pos (by decide))), hW]
        exact_mod_cast rfl
      have hel := enc_len ways i A[i] hAi
      have hwd : W < 9223372036854775808 := by rw [hW]; exact Nat.lt_of_le_of_lt (Nat.div_le_self _ _) (by omega)
      have hee : enc ways i A[i] = nthWay (headsT A[i].length) W ++ A[i] := by rw [hW, hm]; rfl
      have c13 := ok13 (G := G) hG h A[i] W (by omega) hwd
      rw [← hee] at c13
      generalize enc ways i A[i] = E at hel e6 c13
      simp [c3L1, hlt, hltI, e5, em, e7]
      refine FF_by c13 ?_
      simp [e4]
      refine ⟨by omega, hbk _ (i + 1) ?_ hlt (by omega)⟩
      rw [e6]
      exact Wk.fits (by simp)
    · have : i = A.length := by omega
      subst this
      generalize hS : hd ++ ((prs ways 0 (A.take A.length)).map (·.1)).flatten = S
      rw [List.take_length] at hS
      simp [c3L1]
      refine he _ _ ?_
      have hfl := prs_fl ways A 0 hAl
      have hEx : Ex (readMsg readStr) S A := by
        have := Ex_readMsg (d := readStr) (hd := hd) (prs ways 0 A) (by rw [prs_len]; exact Ex_headsL (by omega) hd0) (fun p hp => by
          obtain ⟨⟨k', h1⟩, h2⟩ := prs_mem ways A 0 p hp
          rw [h1]
          have := hAl _ h2
          exact Ex_headsT (by omega) (nthWay_mem (headsT_ne _) _))
        rwa [prs_snd, hS] at this
      have hSl : S.length ≤ 5 + 25 * A.length := by rw [← hS, List.length_append]; omega
      have hSc : ∃ t, S = hc0 :: t := by rw [← hS, hhd]; exact ⟨_, rfl⟩
      obtain ⟨S', hS'⟩ := hSc
      have hpos : 0 < S.length := by rw [hS']; simp
      have e1 := hEx.out R
      have c1 : Ok Tryz.prog G 9 [.p (.int .i64 1), .p (.string (txt (S ++ R)))] h (readD (some (A, R))) h := by
        have := ok9m hG h (S ++ R) (by simp; omega) (by rw [hS']; simpa using hc192) (fun xs r hx => by rw [e1] at hx; cases hx; omega)
        rwa [e1] at this
      have ek : (cut : Int).tmod (S.length : Int) = ((cut % S.length : Nat) : Int) := by
        rw [Int.tmod_eq_emod_of_nonneg (by omega)]
        simp
      have hk : cut % S.length < S.length := Nat.mod_lt _ hpos
      generalize cut % S.length = k at ek hk
      have e2 : readMsg readStr (S.take k) = none := hEx.of_take hk
      have c2 : Ok Tryz.prog G 9 [.p (.int .i64 1), .p (.string (txt (S.take k)))] h (readD none) h := by
        have := ok9m hG h (S.take k) (by simp; omega) (by
          cases k with
          | zero => simp
          | succ k => rw [hS']; simpa using hc192) (fun xs r hx => by rw [e2] at hx; cases hx)
        rwa [e2] at this
      have hz : ¬ (S.length : Int) = 0 := by omega
      have hz2 : S ≠ [] := fun hh => by rw [hh] at hpos; simp at hpos
      have hk2 : (k : Int) ≤ (S.length : Int) := by omega
      have hk3 : k ≤ S.length := by omega
      have hsl := setOf_length (A.map txt)
      simp at hsl
      simp
      refine ⟨by omega, FF_by c1 ?_⟩
      simp [readD, wc, ek, hz, hk2, hk3, hz2]
      refine FF_by c2 ?_
      simp [readD]
      refine FF_by (ok11 h (A.map txt) (by simp; omega)) ?_
      simp
      refine FF_by (ok10 h _ _ (by rw [maxLen_eq]; omega)) ?_
      simp
end Go.Proofs.YtppjcnaffphakaaGreatDoor
