/- The reference's writers of texts: JSON's, MessagePack's. -/
import Derived.Test.YtppjcnaffphakaaGreatDoorJtA
import Derived.Test.YtppjcnaffphakaaGreatDoorSpT
set_option linter.unusedVariables false
set_option linter.unusedSimpArgs false
set_option maxRecDepth 100000
set_option maxHeartbeats 4000000
namespace Go.Proofs.YtppjcnaffphakaaGreatDoor
open Go Go.Den Go.Proofs

def c8L0 : DC :=
  (.seq (.rg [⟨(some 9), .bin .lss (.t 8) (.t 7), none⟩])
    (.seq (.cond (.t 9) .skip
    (.exit 0))
    (.seq (.block 1 (.seq (.rg [⟨(some 10), .mov (.t 8), none⟩,
         ⟨(some 4), .mov (.t 10), none⟩])
    (.seq (.rg [⟨(some 11), .mov (.t 0), none⟩,
         ⟨(some 12), .mov (.t 4), none⟩,
         ⟨(some 13), .idxs (.t 11) (.t 12), none⟩,
         ⟨(some 5), .mov (.t 13), none⟩])
    (.seq (.rg [⟨(some 14), .mov (.t 5), none⟩])
    (.block 2 (.seq (.seq (.rg [⟨(some 23), .bin .eql (.t 14) (.c (.p (.int .u8 34))), none⟩,
          ⟨(some 22), .mov (.t 23), none⟩])
    (.cond (.t 22) .skip
    (.rg [⟨(some 24), .bin .eql (.t 14) (.c (.p (.int .u8 92))), none⟩,
            ⟨(some 22), .mov (.t 24), none⟩])))
    (.cond (.t 22) (.rg [⟨(some 25), .mov (.t 3), none⟩,
            ⟨(some 26), .mov (.t 0), none⟩,
            ⟨(some 27), .mov (.t 4), none⟩,
            ⟨(some 28), .mov (.t 4), none⟩,
            ⟨(some 29), .bin .add (.t 28) (.c (.p (.int .i64 1))), none⟩,
            ⟨(some 30), .slcs (.t 26) (some (.t 27)) (some (.t 29)), none⟩,
            ⟨(some 31), .bin .add (.c (.p (.string ⟨#[92]⟩))) (.t 30), none⟩,
            ⟨(some 32), .bin .add (.t 25) (.t 31), none⟩,
            ⟨(some 3), .mov (.t 32), none⟩])
    (.seq (.rg [⟨(some 34), .bin .eql (.t 14) (.c (.p (.int .u8 60))), none⟩,
            ⟨(some 33), .mov (.t 34), none⟩])
    (.cond (.t 33) (.rg [⟨(some 35), .mov (.t 3), none⟩,
              ⟨(some 36), .bin .add (.t 35) (.c (.p (.string ⟨#[92, 117, 48, 48, 51, 99]⟩))), none⟩,
              ⟨(some 3), .mov (.t 36), none⟩])
    (.seq (.rg [⟨(some 38), .bin .eql (.t 14) (.c (.p (.int .u8 62))), none⟩,
              ⟨(some 37), .mov (.t 38), none⟩])
    (.cond (.t 37) (.rg [⟨(some 39), .mov (.t 3), none⟩,
                ⟨(some 40), .bin .add (.t 39) (.c (.p (.string ⟨#[92, 117, 48, 48, 51, 101]⟩))), none⟩,
                ⟨(some 3), .mov (.t 40), none⟩])
    (.seq (.rg [⟨(some 42), .bin .eql (.t 14) (.c (.p (.int .u8 38))), none⟩,
                ⟨(some 41), .mov (.t 42), none⟩])
    (.cond (.t 41) (.rg [⟨(some 43), .mov (.t 3), none⟩,
                  ⟨(some 44), .bin .add (.t 43) (.c (.p (.string ⟨#[92, 117, 48, 48, 50, 54]⟩))), none⟩,
                  ⟨(some 3), .mov (.t 44), none⟩])
    (.rg [⟨(some 15), .mov (.t 3), none⟩,
                  ⟨(some 16), .mov (.t 0), none⟩,
                  ⟨(some 17), .mov (.t 4), none⟩,
                  ⟨(some 18), .mov (.t 4), none⟩,
                  ⟨(some 19), .bin .add (.t 18) (.c (.p (.int .i64 1))), none⟩,
                  ⟨(some 20), .slcs (.t 16) (some (.t 17)) (some (.t 19)), none⟩,
                  ⟨(some 21), .bin .add (.t 15) (.t 20), none⟩,
                  ⟨(some 3), .mov (.t 21), none⟩]))))))))))))))
    (.rg [⟨(some 45), .bin .add (.t 8) (.c (.p (.int .i64 1))), none⟩,
        ⟨(some 8), .mov (.t 45), none⟩]))))
theorem c8_cut : c8 =
  (.seq (.rg [⟨(some 2), .mov (.c (.p (.string ⟨#[]⟩))), none⟩])
    (.seq (.rg [⟨(some 3), .mov (.c (.p (.string ⟨#[34]⟩))), none⟩])
    (.seq (.seq (.rg [⟨(some 6), .mov (.t 0), none⟩,
      ⟨(some 7), .lens (.t 6), none⟩,
      ⟨(some 8), .mov (.c (.p (.int .i64 0))), none⟩])
    (.block 0 (.loop c8L0)))
    (.seq (.rg [⟨(some 46), .mov (.t 3), none⟩,
      ⟨(some 47), .bin .add (.t 46) (.c (.p (.string ⟨#[34]⟩))), none⟩,
      ⟨(some 2), .mov (.t 47), none⟩])
    .ret)))) := rfl


theorem jsb_push (s : List UInt8) (c : UInt8) : jsb (s ++ [c]) = jsb s ++ jsc c := by simp [jsb]
theorem jsc_len (c : UInt8) : (jsc c).length ≤ 6 := by
  unfold jsc
  repeat' split
  all_goals simp
theorem jsb_len : ∀ s : List UInt8, (jsb s).length ≤ 6 * s.length
  | [] => by simp [jsb]
  | c :: s => by
    have h1 := jsc_len c
    have h2 := jsb_len s
    have e : jsb (c :: s) = jsc c ++ jsb s := by simp [jsb]
    rw [e, List.length_append, List.length_cons]
    omega
theorem ok8 {G : Nat → DV} (h : List Blk) (s : List UInt8) (hl : s.length ≤ 1000000) : Ok Tryz.prog G 8 [.p (.string (txt s))] h (.p (.string (txt (34 :: jsb s ++ [34])))) h := by
  refine Ok_by Tryz.func8 c8_ok r8_ok 47 rfl ?_
  rw [c8_cut]
  simp [r8]
  refine VV_fam (fun i : Nat => ⟨fr 48 [(0, .p (.string (txt s))), (3, .p (.string (txt (34 :: jsb (s.take i))))), (7, .p (.int .i64 s.length)), (8, .p (.int .i64 i))], h⟩)
    (fun i => i ≤ s.length) (fun i => s.length - i) 0 (by omega) (Wk.fits (by simp [jsb, txt])) ?_
  intro i hi B hbk he hr
  by_cases hlt : i < s.length
  · have hltI : (i : Int) < (s.length : Int) := by omega
    have hbl := jsb_len (s.take i)
    rw [List.length_take] at hbl
    have e4 : IntKind.i64.wrap ((i : Int) + 1) = ((i + 1 : Nat) : Int) := wrap_succ hlt (by omega)
    have e9 : jsb (s.take (i + 1)) = jsb (s.take i) ++ jsc s[i] := by rw [List.take_succ_eq_append_getElem hlt, jsb_push]
    have e7 : (s.take (i + 1)).drop i = [s[i]] := by
      rw [List.take_succ_eq_append_getElem hlt, List.drop_append_of_le_length (by simp; omega), List.drop_of_length_le (by simp)]
      rfl
    have e8 : (s.drop i).take 1 = [s[i]] := by rw [List.drop_eq_getElem_cons hlt]; rfl
    by_cases h34 : s[i] = 34
    · have e5 : s[i].toNat = 34 := by rw [h34]; rfl
      have e10 : jsc s[i] = [92, 34] := by rw [h34]; rfl
      rw [h34] at e7 e8
      rw [e10] at e9
      simp [c8L0, hlt, hltI, e4, e5, byteD, e7, e8]
      try refine ⟨by omega, ?_⟩
      try refine ⟨by omega, ?_⟩
      refine hbk _ (i + 1) ?_ hlt (by omega)
      rw [e9]
      exact Wk.fits (by simp)
    by_cases h92 : s[i] = 92
    · have e5 : s[i].toNat = 92 := by rw [h92]; rfl
      have e10 : jsc s[i] = [92, 92] := by rw [h92]; rfl
      rw [h92] at e7 e8
      rw [e10] at e9
      simp [c8L0, hlt, hltI, e4, e5, byteD, e7, e8]
      try refine ⟨by omega, ?_⟩
      try refine ⟨by omega, ?_⟩
      refine hbk _ (i + 1) ?_ hlt (by omega)
      rw [e9]
      exact Wk.fits (by simp)
    by_cases h60 : s[i] = 60
    · have e5 : s[i].toNat = 60 := by rw [h60]; rfl
      have e10 : jsc s[i] = [92, 117, 48, 48, 51, 99] := by rw [h60]; rfl
      rw [h60] at e7 e8
      rw [e10] at e9
      simp [c8L0, hlt, hltI, e4, e5, byteD, e7, e8]
      try refine ⟨by omega, ?_⟩
      try refine ⟨by omega, ?_⟩
      refine hbk _ (i + 1) ?_ hlt (by omega)
      rw [e9]
      exact Wk.fits (by simp)
    by_cases h62 : s[i] = 62
    · have e5 : s[i].toNat = 62 := by rw [h62]; rfl
      have e10 : jsc s[i] = [92, 117, 48, 48, 51, 101] := by rw [h62]; rfl
      rw [h62] at e7 e8
      rw [e10] at e9
      simp [c8L0, hlt, hltI, e4, e5, byteD, e7, e8]
      try refine ⟨by omega, ?_⟩
      try refine ⟨by omega, ?_⟩
      refine hbk _ (i + 1) ?_ hlt (by omega)
      rw [e9]
      exact Wk.fits (by simp)
    by_cases h38 : s[i] = 38
    · have e5 : s[i].toNat = 38 := by rw [h38]; rfl
      have e10 : jsc s[i] = [92, 117, 48, 48, 50, 54] := by rw [h38]; rfl
      rw [h38] at e7 e8
      rw [e10] at e9
      simp [c8L0, hlt, hltI, e4, e5, byteD, e7, e8]
      try refine ⟨by omega, ?_⟩
      try refine ⟨by omega, ?_⟩
      refine hbk _ (i + 1) ?_ hlt (by omega)
      rw [e9]
      exact Wk.fits (by simp)
    have f34 : ((s[i].toNat : Int) == 34) = false := by
      have : s[i].toNat ≠ 34 := fun hh => h34 (UInt8.toNat_inj.1 hh)
      simp; omega
    have f92 : ((s[i].toNat : Int) == 92) = false := by
      have : s[i].toNat ≠ 92 := fun hh => h92 (UInt8.toNat_inj.1 hh)
      simp; omega
    have f60 : ((s[i].toNat : Int) == 60) = false := by
      have : s[i].toNat ≠ 60 := fun hh => h60 (UInt8.toNat_inj.1 hh)
      simp; omega
    have f62 : ((s[i].toNat : Int) == 62) = false := by
      have : s[i].toNat ≠ 62 := fun hh => h62 (UInt8.toNat_inj.1 hh)
      simp; omega
    have f38 : ((s[i].toNat : Int) == 38) = false := by
      have : s[i].toNat ≠ 38 := fun hh => h38 (UInt8.toNat_inj.1 hh)
      simp; omega
    have e10 : jsc s[i] = [s[i]] := by simp [jsc, h34, h92, h60, h62, h38]
    rw [e10] at e9
    simp [c8L0, hlt, hltI, e4, f34, f92, f60, f62, f38, byteD, e7, e8]
    try refine ⟨by omega, ?_⟩
    try refine ⟨by omega, ?_⟩
    refine hbk _ (i + 1) ?_ hlt (by omega)
    rw [e9]
    exact Wk.fits (by simp)
  · have : i = s.length := by omega
    subst this
    simp [c8L0]
    refine he _ _ ?_
    have hbl := jsb_len s
    simp
    omega
theorem nthWay_len {l : List (List UInt8)} {way m : Nat} (h : ∀ x, x ∈ l → x.length ≤ m) : (nthWay l way).length ≤ m := by
  unfold nthWay
  cases hg : l[way % l.length]? with
  | none => simp
  | some x => simpa using h x (List.mem_of_getElem? hg)
theorem headsT_len {n : Nat} : ∀ x, x ∈ headsT n → x.length ≤ 5 := by
  intro x hx
  simp only [headsT, heads, List.mem_append, List.mem_filterMap, List.mem_cons, List.not_mem_nil, or_false] at hx
  rcases hx with h | ⟨y, h1 | h1 | h1, h2⟩
  · split at h
    · have h := List.mem_singleton.1 h
      subst h
      simp
    · simp at h
  · subst h1
    simp at h2
    obtain ⟨_, rfl⟩ := h2
    simp
  · subst h1
    simp at h2
    obtain ⟨_, rfl⟩ := h2
    simp
  · subst h1
    simp at h2
    subst h2
    simp
/-- A text's ways of being packed. -/
theorem ok13 {G : Nat → DV} (hG : GZ G) (h : List Blk) (s : List UInt8) (way : Nat) (hn : s.length < 32) (hway : way < 9223372036854775808) : Ok Tryz.prog G 13 [.p (.string (txt s)), .p (.int .i64 way)] h (.p (.string (txt (nthWay (headsT s.length) way ++ s)))) h := by
  refine Ok_by Tryz.func13 c13_ok r13_ok 10 rfl ?_
  simp [c13, r13]
  have e : headsT s.length = hcand s.length 160 [217, 218, 219] 3 := by
    have h1 : s.length ≤ 31 := by omega
    have h2 : s.length < 256 ^ 2 := by rw [pow_lits.2.1]; omega
    have h3 : s.length < 256 ^ 1 := by rw [pow_lits.1]; omega
    simp [headsT, heads, hcand, h1, h2, h3, List.range_succ]
  have hlen := nthWay_len (way := way) (headsT_len (n := s.length))
  rw [e] at hlen ⊢
  refine FF_by (Ok.lend hG (ok27 hG [] s.length 160 31 way [217, 218, 219] (.inr ⟨rfl, hn⟩) (by omega) (by omega) (.inr rfl) hway) (.cons .p (.cons .p (.cons .p (.cons (.sl (els := bts [217, 218, 219]) (by simp [bts, byteD]) (by simp) bts_plain) (.cons .p .nil))))) rfl) ?_
  simp
  omega
end Go.Proofs.YtppjcnaffphakaaGreatDoor
