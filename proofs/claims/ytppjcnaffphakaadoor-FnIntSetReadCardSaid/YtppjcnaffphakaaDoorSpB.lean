/- The reference's writer of MessagePack: numbers in one of the ways (printed by genpi.py). -/
import Derived.Test.YtppjcnaffphakaaDoorSpA
set_option linter.unusedVariables false
set_option linter.unusedSimpArgs false
set_option maxRecDepth 100000
set_option maxHeartbeats 4000000
namespace Go.Proofs.YtppjcnaffphakaaDoor
open Go Go.Den Go.Proofs

def I64 (n : Int) : Prop := -9223372036854775808 ≤ n ∧ n ≤ 9223372036854775807
theorem u64_lt (n : Int) : u64 n < 18446744073709551616 := by unfold u64; omega
theorem wrap_u64 (n : Int) : IntKind.u64.wrap n = (u64 n : Int) := by simp [u64, IntKind.wrap, IntKind.bits, IntKind.signed]; omega
def c9L0 : DC :=
  (.seq (.rg [⟨(some 22), .bin .lss (.t 21) (.c (.p (.int .i64 4))), none⟩])
    (.seq (.cond (.t 22) .skip
    (.exit 0))
    (.seq (.block 1 (.seq (.rg [⟨(some 23), .mov (.t 21), none⟩,
         ⟨(some 6), .mov (.t 23), none⟩])
    (.seq (.rg [⟨(some 24), .mov (.t 6), none⟩,
         ⟨(some 25), .bin .shl (.c (.p (.int .i64 1))) (.t 24), none⟩,
         ⟨(some 7), .mov (.t 25), none⟩])
    (.seq (.seq (.rg [⟨(some 26), .mov (.t 7), none⟩,
         ⟨(some 27), .bin .eql (.t 26) (.c (.p (.int .i64 8))), none⟩,
         ⟨(some 28), .mov (.t 27), none⟩,
         ⟨(some 29), .mov (.t 0), (some (28, false))⟩,
         ⟨(some 30), .mov (.t 7), (some (28, false))⟩,
         ⟨(some 31), .bin .mul (.c (.p (.int .i64 8))) (.t 30), (some (28, false))⟩,
         ⟨(some 32), .bin .sub (.t 31) (.c (.p (.int .i64 1))), (some (28, false))⟩,
         ⟨(some 33), .bin .shl (.c (.p (.int .i64 1))) (.t 32), (some (28, false))⟩,
         ⟨(some 34), .un .neg (.t 33), (some (28, false))⟩,
         ⟨(some 35), .bin .geq (.t 29) (.t 34), (some (28, false))⟩,
         ⟨(some 36), .mov (.t 35), (some (28, false))⟩,
         ⟨(some 37), .mov (.t 0), (some (36, true))⟩,
         ⟨(some 38), .mov (.t 7), (some (36, true))⟩,
         ⟨(some 39), .bin .mul (.c (.p (.int .i64 8))) (.t 38), (some (36, true))⟩,
         ⟨(some 40), .bin .sub (.t 39) (.c (.p (.int .i64 1))), (some (36, true))⟩,
         ⟨(some 41), .bin .shl (.c (.p (.int .i64 1))) (.t 40), (some (36, true))⟩,
         ⟨(some 42), .bin .lss (.t 37) (.t 41), (some (36, true))⟩,
         ⟨(some 43), .pick (.t 36) (.t 42) (.c (.p (.bool false))), (some (28, false))⟩,
         ⟨(some 44), .pick (.t 28) (.c (.p (.bool true))) (.t 43), none⟩])
    (.cond (.t 44) (.rgd [⟨⟨(some 45), .mov (.t 5), none⟩, 0, [0]⟩,
           ⟨⟨(some 46), .mov (.t 6), none⟩, 0, []⟩,
           ⟨⟨(some 47), .cint .u8 (.t 46), none⟩, 0, []⟩,
           ⟨⟨(some 48), .bin .add (.c (.p (.int .u8 208))) (.t 47), none⟩, 0, []⟩,
           ⟨⟨(some 49), .litz 1 [(.t 48)], none⟩, 0, []⟩,
           ⟨⟨(some 50), .b2s (.t 49), none⟩, 0, [0]⟩,
           ⟨⟨(some 51), .mov (.t 0), none⟩, 0, [0]⟩,
           ⟨⟨(some 52), .cint .u64 (.t 51), none⟩, 0, [0]⟩,
           ⟨⟨(some 53), .mov (.t 7), none⟩, 0, [0]⟩,
           ⟨⟨(some 54), .call 16 [(.t 52), (.t 53)], none⟩, 0, [0]⟩,
           ⟨⟨(some 55), .bin .add (.t 50) (.t 54), none⟩, 1, []⟩,
           ⟨⟨(some 56), .litz 1 [(.t 55)], none⟩, 1, []⟩,
           ⟨⟨(some 57), .app 1 16 (.t 45) (.t 56), none⟩, 1, []⟩,
           ⟨⟨(some 5), .mov (.t 57), none⟩, 2, []⟩])
    .skip))
    (.seq (.rg [⟨(some 58), .mov (.t 0), none⟩,
         ⟨(some 59), .bin .geq (.t 58) (.c (.p (.int .i64 0))), none⟩,
         ⟨(some 60), .mov (.t 59), none⟩,
         ⟨(some 61), .mov (.t 7), (some (60, true))⟩,
         ⟨(some 62), .bin .eql (.t 61) (.c (.p (.int .i64 8))), (some (60, true))⟩,
         ⟨(some 63), .mov (.t 62), (some (60, true))⟩,
         ⟨(some 64), .mov (.t 0), (some (63, false))⟩,
         ⟨(some 65), .mov (.t 7), (some (63, false))⟩,
         ⟨(some 66), .bin .mul (.c (.p (.int .i64 8))) (.t 65), (some (63, false))⟩,
         ⟨(some 67), .bin .shl (.c (.p (.int .i64 1))) (.t 66), (some (63, false))⟩,
         ⟨(some 68), .bin .lss (.t 64) (.t 67), (some (63, false))⟩,
         ⟨(some 69), .pick (.t 63) (.c (.p (.bool true))) (.t 68), (some (60, true))⟩,
         ⟨(some 70), .pick (.t 60) (.t 69) (.c (.p (.bool false))), none⟩])
    (.cond (.t 70) (.rgd [⟨⟨(some 71), .mov (.t 5), none⟩, 0, [0]⟩,
           ⟨⟨(some 72), .mov (.t 6), none⟩, 0, []⟩,
           ⟨⟨(some 73), .cint .u8 (.t 72), none⟩, 0, []⟩,
           ⟨⟨(some 74), .bin .add (.c (.p (.int .u8 204))) (.t 73), none⟩, 0, []⟩,
           ⟨⟨(some 75), .litz 1 [(.t 74)], none⟩, 0, []⟩,
           ⟨⟨(some 76), .b2s (.t 75), none⟩, 0, [0]⟩,
           ⟨⟨(some 77), .mov (.t 0), none⟩, 0, [0]⟩,
           ⟨⟨(some 78), .cint .u64 (.t 77), none⟩, 0, [0]⟩,
           ⟨⟨(some 79), .mov (.t 7), none⟩, 0, [0]⟩,
           ⟨⟨(some 80), .call 16 [(.t 78), (.t 79)], none⟩, 0, [0]⟩,
           ⟨⟨(some 81), .bin .add (.t 76) (.t 80), none⟩, 1, []⟩,
           ⟨⟨(some 82), .litz 1 [(.t 81)], none⟩, 1, []⟩,
           ⟨⟨(some 83), .app 1 16 (.t 71) (.t 82), none⟩, 1, []⟩,
           ⟨⟨(some 5), .mov (.t 83), none⟩, 2, []⟩])
    .skip))))))
    (.rg [⟨(some 84), .bin .add (.t 21) (.c (.p (.int .i64 1))), none⟩,
        ⟨(some 21), .mov (.t 84), none⟩]))))
theorem c9_cut : c9 =
  (.seq (.rg [⟨(some 4), .mov (.c (.p (.string ⟨#[]⟩))), none⟩])
    (.seq (.rg [⟨(some 5), .mov (.c (.p (.slice none 0 0))), none⟩])
    (.seq (.seq (.rg [⟨(some 8), .mov (.t 0), none⟩,
      ⟨(some 9), .bin .geq (.t 8) (.c (.p (.int .i64 (-32)))), none⟩,
      ⟨(some 10), .mov (.t 9), none⟩,
      ⟨(some 11), .mov (.t 0), (some (10, true))⟩,
      ⟨(some 12), .bin .lss (.t 11) (.c (.p (.int .i64 128))), (some (10, true))⟩,
      ⟨(some 13), .pick (.t 10) (.t 12) (.c (.p (.bool false))), none⟩])
    (.cond (.t 13) (.rg [⟨(some 14), .mov (.t 5), none⟩,
        ⟨(some 15), .mov (.t 0), none⟩,
        ⟨(some 16), .cint .u8 (.t 15), none⟩,
        ⟨(some 17), .lit 1 [(.t 16)], none⟩,
        ⟨(some 18), .b2s (.t 17), none⟩,
        ⟨(some 19), .lit 1 [(.t 18)], none⟩,
        ⟨(some 20), .app 1 16 (.t 14) (.t 19), none⟩,
        ⟨(some 5), .mov (.t 20), none⟩])
    .skip))
    (.seq (.seq (.rg [⟨(some 21), .mov (.c (.p (.int .i64 0))), none⟩])
    (.block 0 (.loop c9L0)))
    (.seq (.rg [⟨(some 85), .mov (.t 5), none⟩,
      ⟨(some 86), .mov (.t 1), none⟩,
      ⟨(some 87), .mov (.t 5), none⟩,
      ⟨(some 88), .lenl (.t 87), none⟩,
      ⟨(some 89), .bin .rem (.t 86) (.t 88), none⟩,
      ⟨(some 90), .iaddr 1 (.t 85) (.t 89), none⟩,
      ⟨(some 91), .load false 1 (.t 90), none⟩,
      ⟨(some 4), .mov (.t 91), none⟩])
    .ret))))) := rfl

theorem round0 {G : Nat → DV} (h : List Blk) (n : Int) (way : Nat) (hn : I64 n) (d : DV) (h1 : List Blk) (L : List (List UInt8)) (hLl : L.length ≤ 8) (ho : Own h 1 h1 d (txs L)) (B : DX → St → Prop)
    (hk : ∀ d' h2 L', Own h 1 h2 d' (txs L') → L' = L ++ (if -128 ≤ n ∧ n < 128 then [[208] ++ beB 1 (u64 n)] else []) ++ (if 0 ≤ n ∧ n < 256 then [[204] ++ beB 1 (u64 n)] else []) → ∀ t, fits t (fr 92 [(0, .p (.int .i64 n)), (1, .p (.int .i64 way)), (5, d'), (21, .p (.int .i64 1))]) true → B .nrm ⟨t, h2⟩) :
    VV Tryd.prog G h c9L0 ⟨fr 92 [(0, .p (.int .i64 n)), (1, .p (.int .i64 way)), (5, d), (21, .p (.int .i64 0))], h1⟩ [] B := by
  have w4 : IntKind.u64.wrap n = (u64 n : Int) := wrap_u64 n
  by_cases hX : -128 ≤ n ∧ n < 128
  · obtain ⟨hA, hB⟩ := hX
    simp [c9L0, show ishl .i64 1 0 = 1 by decide, show IntKind.i64.wrap 8 = 8 by decide, show IntKind.i64.wrap 7 = 7 by decide, show IntKind.i64.wrap 1 = 1 by decide, show IntKind.u8.wrap 0 = 0 by decide, show IntKind.u8.wrap 208 = 208 by decide, show IntKind.u8.wrap 204 = 204 by decide, w4, show isByte (.p (.int .u8 208)) = true by rfl, show isByte (.p (.int .u8 204)) = true by rfl, show strOf [.p (.int .u8 208)] = txt [208] by rfl, show strOf [.p (.int .u8 204)] = txt [204] by rfl, show ishl .i64 1 7 = 128 by decide, show ishl .i64 1 8 = 256 by decide, show IntKind.i64.wrap (0 - 128) = -128 by decide, show IntKind.i64.wrap (-128) = -128 by decide, hA, hB]
    refine DF_by (ok16 _ (u64 n) 1 (u64_lt n) (by omega)) ?_
    simp
    refine DA_own ho (ys := [.p (.string (txt (208 :: beB 1 (u64 n))))]) (by simp [elemsOf]) (by simp; omega) ?_
    intro d' h2 ho' hle' hoth
    rw [txs_push] at ho'
    clear ho
    have ho := ho'
    clear ho'
    have hll : (L ++ [(208 : UInt8) :: beB 1 (u64 n)]).length ≤ L.length + 1 := by simp
    generalize hL208 : L ++ [(208 : UInt8) :: beB 1 (u64 n)] = L208 at ho hll
    simp [show ishl .i64 1 0 = 1 by decide, show IntKind.i64.wrap 8 = 8 by decide, show IntKind.i64.wrap 7 = 7 by decide, show IntKind.i64.wrap 1 = 1 by decide, show IntKind.u8.wrap 0 = 0 by decide, show IntKind.u8.wrap 208 = 208 by decide, show IntKind.u8.wrap 204 = 204 by decide, w4, show isByte (.p (.int .u8 208)) = true by rfl, show isByte (.p (.int .u8 204)) = true by rfl, show strOf [.p (.int .u8 208)] = txt [208] by rfl, show strOf [.p (.int .u8 204)] = txt [204] by rfl, show ishl .i64 1 7 = 128 by decide, show ishl .i64 1 8 = 256 by decide, show IntKind.i64.wrap (0 - 128) = -128 by decide, show IntKind.i64.wrap (-128) = -128 by decide]
    by_cases hC : 0 ≤ n
    · by_cases hD : n < 256
      · simp [show ishl .i64 1 0 = 1 by decide, show IntKind.i64.wrap 8 = 8 by decide, show IntKind.i64.wrap 7 = 7 by decide, show IntKind.i64.wrap 1 = 1 by decide, show IntKind.u8.wrap 0 = 0 by decide, show IntKind.u8.wrap 208 = 208 by decide, show IntKind.u8.wrap 204 = 204 by decide, w4, show isByte (.p (.int .u8 208)) = true by rfl, show isByte (.p (.int .u8 204)) = true by rfl, show strOf [.p (.int .u8 208)] = txt [208] by rfl, show strOf [.p (.int .u8 204)] = txt [204] by rfl, show ishl .i64 1 7 = 128 by decide, show ishl .i64 1 8 = 256 by decide, show IntKind.i64.wrap (0 - 128) = -128 by decide, show IntKind.i64.wrap (-128) = -128 by decide, hC, hD]
        refine DF_by (ok16 _ (u64 n) 1 (u64_lt n) (by omega)) ?_
        simp
        refine DA_own ho (ys := [.p (.string (txt (204 :: beB 1 (u64 n))))]) (by simp [elemsOf]) (by simp; omega) ?_
        intro d' h2 ho' hle' hoth
        rw [txs_push] at ho'
        clear ho
        have ho := ho'
        clear ho'
        have hll : (L208 ++ [(204 : UInt8) :: beB 1 (u64 n)]).length ≤ L208.length + 1 := by simp
        generalize hL204 : L208 ++ [(204 : UInt8) :: beB 1 (u64 n)] = L204 at ho hll
        simp [show ishl .i64 1 0 = 1 by decide, show IntKind.i64.wrap 8 = 8 by decide, show IntKind.i64.wrap 7 = 7 by decide, show IntKind.i64.wrap 1 = 1 by decide, show IntKind.u8.wrap 0 = 0 by decide, show IntKind.u8.wrap 208 = 208 by decide, show IntKind.u8.wrap 204 = 204 by decide, w4, show isByte (.p (.int .u8 208)) = true by rfl, show isByte (.p (.int .u8 204)) = true by rfl, show strOf [.p (.int .u8 208)] = txt [208] by rfl, show strOf [.p (.int .u8 204)] = txt [204] by rfl, show ishl .i64 1 7 = 128 by decide, show ishl .i64 1 8 = 256 by decide, show IntKind.i64.wrap (0 - 128) = -128 by decide, show IntKind.i64.wrap (-128) = -128 by decide]
        exact hk _ _ _ ho (by rw [← hL204, ← hL208]; simp [hA, hB, hC, hD]) _ (by simp)
      · simp [show ishl .i64 1 0 = 1 by decide, show IntKind.i64.wrap 8 = 8 by decide, show IntKind.i64.wrap 7 = 7 by decide, show IntKind.i64.wrap 1 = 1 by decide, show IntKind.u8.wrap 0 = 0 by decide, show IntKind.u8.wrap 208 = 208 by decide, show IntKind.u8.wrap 204 = 204 by decide, w4, show isByte (.p (.int .u8 208)) = true by rfl, show isByte (.p (.int .u8 204)) = true by rfl, show strOf [.p (.int .u8 208)] = txt [208] by rfl, show strOf [.p (.int .u8 204)] = txt [204] by rfl, show ishl .i64 1 7 = 128 by decide, show ishl .i64 1 8 = 256 by decide, show IntKind.i64.wrap (0 - 128) = -128 by decide, show IntKind.i64.wrap (-128) = -128 by decide, hC, hD]
        exact hk _ _ _ ho (by simp [hA, hB, hC, hD, ← hL208]) _ (by simp)
    · simp [show ishl .i64 1 0 = 1 by decide, show IntKind.i64.wrap 8 = 8 by decide, show IntKind.i64.wrap 7 = 7 by decide, show IntKind.i64.wrap 1 = 1 by decide, show IntKind.u8.wrap 0 = 0 by decide, show IntKind.u8.wrap 208 = 208 by decide, show IntKind.u8.wrap 204 = 204 by decide, w4, show isByte (.p (.int .u8 208)) = true by rfl, show isByte (.p (.int .u8 204)) = true by rfl, show strOf [.p (.int .u8 208)] = txt [208] by rfl, show strOf [.p (.int .u8 204)] = txt [204] by rfl, show ishl .i64 1 7 = 128 by decide, show ishl .i64 1 8 = 256 by decide, show IntKind.i64.wrap (0 - 128) = -128 by decide, show IntKind.i64.wrap (-128) = -128 by decide, hC]
      exact hk _ _ _ ho (by simp [hA, hB, hC, ← hL208]) _ (by simp)
  · by_cases hA : -128 ≤ n
    · have hB : ¬ n < 128 := fun hb => hX ⟨hA, hb⟩
      simp [c9L0, show ishl .i64 1 0 = 1 by decide, show IntKind.i64.wrap 8 = 8 by decide, show IntKind.i64.wrap 7 = 7 by decide, show IntKind.i64.wrap 1 = 1 by decide, show IntKind.u8.wrap 0 = 0 by decide, show IntKind.u8.wrap 208 = 208 by decide, show IntKind.u8.wrap 204 = 204 by decide, w4, show isByte (.p (.int .u8 208)) = true by rfl, show isByte (.p (.int .u8 204)) = true by rfl, show strOf [.p (.int .u8 208)] = txt [208] by rfl, show strOf [.p (.int .u8 204)] = txt [204] by rfl, show ishl .i64 1 7 = 128 by decide, show ishl .i64 1 8 = 256 by decide, show IntKind.i64.wrap (0 - 128) = -128 by decide, show IntKind.i64.wrap (-128) = -128 by decide, hA, hB]
      by_cases hC : 0 ≤ n
      · by_cases hD : n < 256
        · simp [show ishl .i64 1 0 = 1 by decide, show IntKind.i64.wrap 8 = 8 by decide, show IntKind.i64.wrap 7 = 7 by decide, show IntKind.i64.wrap 1 = 1 by decide, show IntKind.u8.wrap 0 = 0 by decide, show IntKind.u8.wrap 208 = 208 by decide, show IntKind.u8.wrap 204 = 204 by decide, w4, show isByte (.p (.int .u8 208)) = true by rfl, show isByte (.p (.int .u8 204)) = true by rfl, show strOf [.p (.int .u8 208)] = txt [208] by rfl, show strOf [.p (.int .u8 204)] = txt [204] by rfl, show ishl .i64 1 7 = 128 by decide, show ishl .i64 1 8 = 256 by decide, show IntKind.i64.wrap (0 - 128) = -128 by decide, show IntKind.i64.wrap (-128) = -128 by decide, hC, hD]
          refine DF_by (ok16 _ (u64 n) 1 (u64_lt n) (by omega)) ?_
          simp
          refine DA_own ho (ys := [.p (.string (txt (204 :: beB 1 (u64 n))))]) (by simp [elemsOf]) (by simp; omega) ?_
          intro d' h2 ho' hle' hoth
          rw [txs_push] at ho'
          clear ho
          have ho := ho'
          clear ho'
          have hll : (L ++ [(204 : UInt8) :: beB 1 (u64 n)]).length ≤ L.length + 1 := by simp
          generalize hL204 : L ++ [(204 : UInt8) :: beB 1 (u64 n)] = L204 at ho hll
          simp [show ishl .i64 1 0 = 1 by decide, show IntKind.i64.wrap 8 = 8 by decide, show IntKind.i64.wrap 7 = 7 by decide, show IntKind.i64.wrap 1 = 1 by decide, show IntKind.u8.wrap 0 = 0 by decide, show IntKind.u8.wrap 208 = 208 by decide, show IntKind.u8.wrap 204 = 204 by decide, w4, show isByte (.p (.int .u8 208)) = true by rfl, show isByte (.p (.int .u8 204)) = true by rfl, show strOf [.p (.int .u8 208)] = txt [208] by rfl, show strOf [.p (.int .u8 204)] = txt [204] by rfl, show ishl .i64 1 7 = 128 by decide, show ishl .i64 1 8 = 256 by decide, show IntKind.i64.wrap (0 - 128) = -128 by decide, show IntKind.i64.wrap (-128) = -128 by decide]
          exact hk _ _ _ ho (by rw [← hL204]; simp [hA, hB, hC, hD]) _ (by simp)
        · simp [show ishl .i64 1 0 = 1 by decide, show IntKind.i64.wrap 8 = 8 by decide, show IntKind.i64.wrap 7 = 7 by decide, show IntKind.i64.wrap 1 = 1 by decide, show IntKind.u8.wrap 0 = 0 by decide, show IntKind.u8.wrap 208 = 208 by decide, show IntKind.u8.wrap 204 = 204 by decide, w4, show isByte (.p (.int .u8 208)) = true by rfl, show isByte (.p (.int .u8 204)) = true by rfl, show strOf [.p (.int .u8 208)] = txt [208] by rfl, show strOf [.p (.int .u8 204)] = txt [204] by rfl, show ishl .i64 1 7 = 128 by decide, show ishl .i64 1 8 = 256 by decide, show IntKind.i64.wrap (0 - 128) = -128 by decide, show IntKind.i64.wrap (-128) = -128 by decide, hC, hD]
          exact hk _ _ _ ho (by simp [hA, hB, hC, hD]) _ (by simp)
      · simp [show ishl .i64 1 0 = 1 by decide, show IntKind.i64.wrap 8 = 8 by decide, show IntKind.i64.wrap 7 = 7 by decide, show IntKind.i64.wrap 1 = 1 by decide, show IntKind.u8.wrap 0 = 0 by decide, show IntKind.u8.wrap 208 = 208 by decide, show IntKind.u8.wrap 204 = 204 by decide, w4, show isByte (.p (.int .u8 208)) = true by rfl, show isByte (.p (.int .u8 204)) = true by rfl, show strOf [.p (.int .u8 208)] = txt [208] by rfl, show strOf [.p (.int .u8 204)] = txt [204] by rfl, show ishl .i64 1 7 = 128 by decide, show ishl .i64 1 8 = 256 by decide, show IntKind.i64.wrap (0 - 128) = -128 by decide, show IntKind.i64.wrap (-128) = -128 by decide, hC]
        exact hk _ _ _ ho (by simp [hA, hB, hC]) _ (by simp)
    · simp [c9L0, show ishl .i64 1 0 = 1 by decide, show IntKind.i64.wrap 8 = 8 by decide, show IntKind.i64.wrap 7 = 7 by decide, show IntKind.i64.wrap 1 = 1 by decide, show IntKind.u8.wrap 0 = 0 by decide, show IntKind.u8.wrap 208 = 208 by decide, show IntKind.u8.wrap 204 = 204 by decide, w4, show isByte (.p (.int .u8 208)) = true by rfl, show isByte (.p (.int .u8 204)) = true by rfl, show strOf [.p (.int .u8 208)] = txt [208] by rfl, show strOf [.p (.int .u8 204)] = txt [204] by rfl, show ishl .i64 1 7 = 128 by decide, show ishl .i64 1 8 = 256 by decide, show IntKind.i64.wrap (0 - 128) = -128 by decide, show IntKind.i64.wrap (-128) = -128 by decide, hA]
      by_cases hC : 0 ≤ n
      · by_cases hD : n < 256
        · simp [show ishl .i64 1 0 = 1 by decide, show IntKind.i64.wrap 8 = 8 by decide, show IntKind.i64.wrap 7 = 7 by decide, show IntKind.i64.wrap 1 = 1 by decide, show IntKind.u8.wrap 0 = 0 by decide, show IntKind.u8.wrap 208 = 208 by decide, show IntKind.u8.wrap 204 = 204 by decide, w4, show isByte (.p (.int .u8 208)) = true by rfl, show isByte (.p (.int .u8 204)) = true by rfl, show strOf [.p (.int .u8 208)] = txt [208] by rfl, show strOf [.p (.int .u8 204)] = txt [204] by rfl, show ishl .i64 1 7 = 128 by decide, show ishl .i64 1 8 = 256 by decide, show IntKind.i64.wrap (0 - 128) = -128 by decide, show IntKind.i64.wrap (-128) = -128 by decide, hC, hD]
          refine DF_by (ok16 _ (u64 n) 1 (u64_lt n) (by omega)) ?_
          simp
          refine DA_own ho (ys := [.p (.string (txt (204 :: beB 1 (u64 n))))]) (by simp [elemsOf]) (by simp; omega) ?_
          intro d' h2 ho' hle' hoth
          rw [txs_push] at ho'
          clear ho
          have ho := ho'
          clear ho'
          have hll : (L ++ [(204 : UInt8) :: beB 1 (u64 n)]).length ≤ L.length + 1 := by simp
          generalize hL204 : L ++ [(204 : UInt8) :: beB 1 (u64 n)] = L204 at ho hll
          simp [show ishl .i64 1 0 = 1 by decide, show IntKind.i64.wrap 8 = 8 by decide, show IntKind.i64.wrap 7 = 7 by decide, show IntKind.i64.wrap 1 = 1 by decide, show IntKind.u8.wrap 0 = 0 by decide, show IntKind.u8.wrap 208 = 208 by decide, show IntKind.u8.wrap 204 = 204 by decide, w4, show isByte (.p (.int .u8 208)) = true by rfl, show isByte (.p (.int .u8 204)) = true by rfl, show strOf [.p (.int .u8 208)] = txt [208] by rfl, show strOf [.p (.int .u8 204)] = txt [204] by rfl, show ishl .i64 1 7 = 128 by decide, show ishl .i64 1 8 = 256 by decide, show IntKind.i64.wrap (0 - 128) = -128 by decide, show IntKind.i64.wrap (-128) = -128 by decide]
          exact hk _ _ _ ho (by rw [← hL204]; simp [hA, hC, hD]) _ (by simp)
        · simp [show ishl .i64 1 0 = 1 by decide, show IntKind.i64.wrap 8 = 8 by decide, show IntKind.i64.wrap 7 = 7 by decide, show IntKind.i64.wrap 1 = 1 by decide, show IntKind.u8.wrap 0 = 0 by decide, show IntKind.u8.wrap 208 = 208 by decide, show IntKind.u8.wrap 204 = 204 by decide, w4, show isByte (.p (.int .u8 208)) = true by rfl, show isByte (.p (.int .u8 204)) = true by rfl, show strOf [.p (.int .u8 208)] = txt [208] by rfl, show strOf [.p (.int .u8 204)] = txt [204] by rfl, show ishl .i64 1 7 = 128 by decide, show ishl .i64 1 8 = 256 by decide, show IntKind.i64.wrap (0 - 128) = -128 by decide, show IntKind.i64.wrap (-128) = -128 by decide, hC, hD]
          exact hk _ _ _ ho (by simp [hA, hC, hD]) _ (by simp)
      · simp [show ishl .i64 1 0 = 1 by decide, show IntKind.i64.wrap 8 = 8 by decide, show IntKind.i64.wrap 7 = 7 by decide, show IntKind.i64.wrap 1 = 1 by decide, show IntKind.u8.wrap 0 = 0 by decide, show IntKind.u8.wrap 208 = 208 by decide, show IntKind.u8.wrap 204 = 204 by decide, w4, show isByte (.p (.int .u8 208)) = true by rfl, show isByte (.p (.int .u8 204)) = true by rfl, show strOf [.p (.int .u8 208)] = txt [208] by rfl, show strOf [.p (.int .u8 204)] = txt [204] by rfl, show ishl .i64 1 7 = 128 by decide, show ishl .i64 1 8 = 256 by decide, show IntKind.i64.wrap (0 - 128) = -128 by decide, show IntKind.i64.wrap (-128) = -128 by decide, hC]
        exact hk _ _ _ ho (by simp [hA, hC]) _ (by simp)

theorem round1 {G : Nat → DV} (h : List Blk) (n : Int) (way : Nat) (hn : I64 n) (d : DV) (h1 : List Blk) (L : List (List UInt8)) (hLl : L.length ≤ 8) (ho : Own h 1 h1 d (txs L)) (B : DX → St → Prop)
    (hk : ∀ d' h2 L', Own h 1 h2 d' (txs L') → L' = L ++ (if -32768 ≤ n ∧ n < 32768 then [[209] ++ beB 2 (u64 n)] else []) ++ (if 0 ≤ n ∧ n < 65536 then [[205] ++ beB 2 (u64 n)] else []) → ∀ t, fits t (fr 92 [(0, .p (.int .i64 n)), (1, .p (.int .i64 way)), (5, d'), (21, .p (.int .i64 2))]) true → B .nrm ⟨t, h2⟩) :
    VV Tryd.prog G h c9L0 ⟨fr 92 [(0, .p (.int .i64 n)), (1, .p (.int .i64 way)), (5, d), (21, .p (.int .i64 1))], h1⟩ [] B := by
  have w4 : IntKind.u64.wrap n = (u64 n : Int) := wrap_u64 n
  by_cases hX : -32768 ≤ n ∧ n < 32768
  · obtain ⟨hA, hB⟩ := hX
    simp [c9L0, show ishl .i64 1 1 = 2 by decide, show IntKind.i64.wrap 16 = 16 by decide, show IntKind.i64.wrap 15 = 15 by decide, show IntKind.i64.wrap 2 = 2 by decide, show IntKind.u8.wrap 1 = 1 by decide, show IntKind.u8.wrap 209 = 209 by decide, show IntKind.u8.wrap 205 = 205 by decide, w4, show isByte (.p (.int .u8 209)) = true by rfl, show isByte (.p (.int .u8 205)) = true by rfl, show strOf [.p (.int .u8 209)] = txt [209] by rfl, show strOf [.p (.int .u8 205)] = txt [205] by rfl, show ishl .i64 1 15 = 32768 by decide, show ishl .i64 1 16 = 65536 by decide, show IntKind.i64.wrap (0 - 32768) = -32768 by decide, show IntKind.i64.wrap (-32768) = -32768 by decide, hA, hB]
    refine DF_by (ok16 _ (u64 n) 2 (u64_lt n) (by omega)) ?_
    simp
    refine DA_own ho (ys := [.p (.string (txt (209 :: beB 2 (u64 n))))]) (by simp [elemsOf]) (by simp; omega) ?_
    intro d' h2 ho' hle' hoth
    rw [txs_push] at ho'
    clear ho
    have ho := ho'
    clear ho'
    have hll : (L ++ [(209 : UInt8) :: beB 2 (u64 n)]).length ≤ L.length + 1 := by simp
    generalize hL208 : L ++ [(209 : UInt8) :: beB 2 (u64 n)] = L208 at ho hll
    simp [show ishl .i64 1 1 = 2 by decide, show IntKind.i64.wrap 16 = 16 by decide, show IntKind.i64.wrap 15 = 15 by decide, show IntKind.i64.wrap 2 = 2 by decide, show IntKind.u8.wrap 1 = 1 by decide, show IntKind.u8.wrap 209 = 209 by decide, show IntKind.u8.wrap 205 = 205 by decide, w4, show isByte (.p (.int .u8 209)) = true by rfl, show isByte (.p (.int .u8 205)) = true by rfl, show strOf [.p (.int .u8 209)] = txt [209] by rfl, show strOf [.p (.int .u8 205)] = txt [205] by rfl, show ishl .i64 1 15 = 32768 by decide, show ishl .i64 1 16 = 65536 by decide, show IntKind.i64.wrap (0 - 32768) = -32768 by decide, show IntKind.i64.wrap (-32768) = -32768 by decide]
    by_cases hC : 0 ≤ n
    · by_cases hD : n < 65536
      · simp [show ishl .i64 1 1 = 2 by decide, show IntKind.i64.wrap 16 = 16 by decide, show IntKind.i64.wrap 15 = 15 by decide, show IntKind.i64.wrap 2 = 2 by decide, show IntKind.u8.wrap 1 = 1 by decide, show IntKind.u8.wrap 209 = 209 by decide, show IntKind.u8.wrap 205 = 205 by decide, w4, show isByte (.p (.int .u8 209)) = true by rfl, show isByte (.p (.int .u8 205)) = true by rfl, show strOf [.p (.int .u8 209)] = txt [209] by rfl, show strOf [.p (.int .u8 205)] = txt [205] by rfl, show ishl .i64 1 15 = 32768 by decide, show ishl .i64 1 16 = 65536 by decide, show IntKind.i64.wrap (0 - 32768) = -32768 by decide, show IntKind.i64.wrap (-32768) = -32768 by decide, hC, hD]
        refine DF_by (ok16 _ (u64 n) 2 (u64_lt n) (by omega)) ?_
        simp
        refine DA_own ho (ys := [.p (.string (txt (205 :: beB 2 (u64 n))))]) (by simp [elemsOf]) (by simp; omega) ?_
        intro d' h2 ho' hle' hoth
        rw [txs_push] at ho'
        clear ho
        have ho := ho'
        clear ho'
        have hll : (L208 ++ [(205 : UInt8) :: beB 2 (u64 n)]).length ≤ L208.length + 1 := by simp
        generalize hL204 : L208 ++ [(205 : UInt8) :: beB 2 (u64 n)] = L204 at ho hll
        simp [show ishl .i64 1 1 = 2 by decide, show IntKind.i64.wrap 16 = 16 by decide, show IntKind.i64.wrap 15 = 15 by decide, show IntKind.i64.wrap 2 = 2 by decide, show IntKind.u8.wrap 1 = 1 by decide, show IntKind.u8.wrap 209 = 209 by decide, show IntKind.u8.wrap 205 = 205 by decide, w4, show isByte (.p (.int .u8 209)) = true by rfl, show isByte (.p (.int .u8 205)) = true by rfl, show strOf [.p (.int .u8 209)] = txt [209] by rfl, show strOf [.p (.int .u8 205)] = txt [205] by rfl, show ishl .i64 1 15 = 32768 by decide, show ishl .i64 1 16 = 65536 by decide, show IntKind.i64.wrap (0 - 32768) = -32768 by decide, show IntKind.i64.wrap (-32768) = -32768 by decide]
        exact hk _ _ _ ho (by rw [← hL204, ← hL208]; simp [hA, hB, hC, hD]) _ (by simp)
      · simp [show ishl .i64 1 1 = 2 by decide, show IntKind.i64.wrap 16 = 16 by decide, show IntKind.i64.wrap 15 = 15 by decide, show IntKind.i64.wrap 2 = 2 by decide, show IntKind.u8.wrap 1 = 1 by decide, show IntKind.u8.wrap 209 = 209 by decide, show IntKind.u8.wrap 205 = 205 by decide, w4, show isByte (.p (.int .u8 209)) = true by rfl, show isByte (.p (.int .u8 205)) = true by rfl, show strOf [.p (.int .u8 209)] = txt [209] by rfl, show strOf [.p (.int .u8 205)] = txt [205] by rfl, show ishl .i64 1 15 = 32768 by decide, show ishl .i64 1 16 = 65536 by decide, show IntKind.i64.wrap (0 - 32768) = -32768 by decide, show IntKind.i64.wrap (-32768) = -32768 by decide, hC, hD]
        exact hk _ _ _ ho (by simp [hA, hB, hC, hD, ← hL208]) _ (by simp)
    · simp [show ishl .i64 1 1 = 2 by decide, show IntKind.i64.wrap 16 = 16 by decide, show IntKind.i64.wrap 15 = 15 by decide, show IntKind.i64.wrap 2 = 2 by decide, show IntKind.u8.wrap 1 = 1 by decide, show IntKind.u8.wrap 209 = 209 by decide, show IntKind.u8.wrap 205 = 205 by decide, w4, show isByte (.p (.int .u8 209)) = true by rfl, show isByte (.p (.int .u8 205)) = true by rfl, show strOf [.p (.int .u8 209)] = txt [209] by rfl, show strOf [.p (.int .u8 205)] = txt [205] by rfl, show ishl .i64 1 15 = 32768 by decide, show ishl .i64 1 16 = 65536 by decide, show IntKind.i64.wrap (0 - 32768) = -32768 by decide, show IntKind.i64.wrap (-32768) = -32768 by decide, hC]
      exact hk _ _ _ ho (by simp [hA, hB, hC, ← hL208]) _ (by simp)
  · by_cases hA : -32768 ≤ n
    · have hB : ¬ n < 32768 := fun hb => hX ⟨hA, hb⟩
      simp [c9L0, show ishl .i64 1 1 = 2 by decide, show IntKind.i64.wrap 16 = 16 by decide, show IntKind.i64.wrap 15 = 15 by decide, show IntKind.i64.wrap 2 = 2 by decide, show IntKind.u8.wrap 1 = 1 by decide, show IntKind.u8.wrap 209 = 209 by decide, show IntKind.u8.wrap 205 = 205 by decide, w4, show isByte (.p (.int .u8 209)) = true by rfl, show isByte (.p (.int .u8 205)) = true by rfl, show strOf [.p (.int .u8 209)] = txt [209] by rfl, show strOf [.p (.int .u8 205)] = txt [205] by rfl, show ishl .i64 1 15 = 32768 by decide, show ishl .i64 1 16 = 65536 by decide, show IntKind.i64.wrap (0 - 32768) = -32768 by decide, show IntKind.i64.wrap (-32768) = -32768 by decide, hA, hB]
      by_cases hC : 0 ≤ n
      · by_cases hD : n < 65536
        · simp [show ishl .i64 1 1 = 2 by decide, show IntKind.i64.wrap 16 = 16 by decide, show IntKind.i64.wrap 15 = 15 by decide, show IntKind.i64.wrap 2 = 2 by decide, show IntKind.u8.wrap 1 = 1 by decide, show IntKind.u8.wrap 209 = 209 by decide, show IntKind.u8.wrap 205 = 205 by decide, w4, show isByte (.p (.int .u8 209)) = true by rfl, show isByte (.p (.int .u8 205)) = true by rfl, show strOf [.p (.int .u8 209)] = txt [209] by rfl, show strOf [.p (.int .u8 205)] = txt [205] by rfl, show ishl .i64 1 15 = 32768 by decide, show ishl .i64 1 16 = 65536 by decide, show IntKind.i64.wrap (0 - 32768) = -32768 by decide, show IntKind.i64.wrap (-32768) = -32768 by decide, hC, hD]
          refine DF_by (ok16 _ (u64 n) 2 (u64_lt n) (by omega)) ?_
          simp
          refine DA_own ho (ys := [.p (.string (txt (205 :: beB 2 (u64 n))))]) (by simp [elemsOf]) (by simp; omega) ?_
          intro d' h2 ho' hle' hoth
          rw [txs_push] at ho'
          clear ho
          have ho := ho'
          clear ho'
          have hll : (L ++ [(205 : UInt8) :: beB 2 (u64 n)]).length ≤ L.length + 1 := by simp
          generalize hL204 : L ++ [(205 : UInt8) :: beB 2 (u64 n)] = L204 at ho hll
          simp [show ishl .i64 1 1 = 2 by decide, show IntKind.i64.wrap 16 = 16 by decide, show IntKind.i64.wrap 15 = 15 by decide, show IntKind.i64.wrap 2 = 2 by decide, show IntKind.u8.wrap 1 = 1 by decide, show IntKind.u8.wrap 209 = 209 by decide, show IntKind.u8.wrap 205 = 205 by decide, w4, show isByte (.p (.int .u8 209)) = true by rfl, show isByte (.p (.int .u8 205)) = true by rfl, show strOf [.p (.int .u8 209)] = txt [209] by rfl, show strOf [.p (.int .u8 205)] = txt [205] by rfl, show ishl .i64 1 15 = 32768 by decide, show ishl .i64 1 16 = 65536 by decide, show IntKind.i64.wrap (0 - 32768) = -32768 by decide, show IntKind.i64.wrap (-32768) = -32768 by decide]
          exact hk _ _ _ ho (by rw [← hL204]; simp [hA, hB, hC, hD]) _ (by simp)
        · simp [show ishl .i64 1 1 = 2 by decide, show IntKind.i64.wrap 16 = 16 by decide, show IntKind.i64.wrap 15 = 15 by decide, show IntKind.i64.wrap 2 = 2 by decide, show IntKind.u8.wrap 1 = 1 by decide, show IntKind.u8.wrap 209 = 209 by decide, show IntKind.u8.wrap 205 = 205 by decide, w4, show isByte (.p (.int .u8 209)) = true by rfl, show isByte (.p (.int .u8 205)) = true by rfl, show strOf [.p (.int .u8 209)] = txt [209] by rfl, show strOf [.p (.int .u8 205)] = txt [205] by rfl, show ishl .i64 1 15 = 32768 by decide, show ishl .i64 1 16 = 65536 by decide, show IntKind.i64.wrap (0 - 32768) = -32768 by decide, show IntKind.i64.wrap (-32768) = -32768 by decide, hC, hD]
          exact hk _ _ _ ho (by simp [hA, hB, hC, hD]) _ (by simp)
      · simp [show ishl .i64 1 1 = 2 by decide, show IntKind.i64.wrap 16 = 16 by decide, show IntKind.i64.wrap 15 = 15 by decide, show IntKind.i64.wrap 2 = 2 by decide, show IntKind.u8.wrap 1 = 1 by decide, show IntKind.u8.wrap 209 = 209 by decide, show IntKind.u8.wrap 205 = 205 by decide, w4, show isByte (.p (.int .u8 209)) = true by rfl, show isByte (.p (.int .u8 205)) = true by rfl, show strOf [.p (.int .u8 209)] = txt [209] by rfl, show strOf [.p (.int .u8 205)] = txt [205] by rfl, show ishl .i64 1 15 = 32768 by decide, show ishl .i64 1 16 = 65536 by decide, show IntKind.i64.wrap (0 - 32768) = -32768 by decide, show IntKind.i64.wrap (-32768) = -32768 by decide, hC]
        exact hk _ _ _ ho (by simp [hA, hB, hC]) _ (by simp)
    · simp [c9L0, show ishl .i64 1 1 = 2 by decide, show IntKind.i64.wrap 16 = 16 by decide, show IntKind.i64.wrap 15 = 15 by decide, show IntKind.i64.wrap 2 = 2 by decide, show IntKind.u8.wrap 1 = 1 by decide, show IntKind.u8.wrap 209 = 209 by decide, show IntKind.u8.wrap 205 = 205 by decide, w4, show isByte (.p (.int .u8 209)) = true by rfl, show isByte (.p (.int .u8 205)) = true by rfl, show strOf [.p (.int .u8 209)] = txt [209] by rfl, show strOf [.p (.int .u8 205)] = txt [205] by rfl, show ishl .i64 1 15 = 32768 by decide, show ishl .i64 1 16 = 65536 by decide, show IntKind.i64.wrap (0 - 32768) = -32768 by decide, show IntKind.i64.wrap (-32768) = -32768 by decide, hA]
      by_cases hC : 0 ≤ n
      · by_cases hD : n < 65536
        · simp [show ishl .i64 1 1 = 2 by decide, show IntKind.i64.wrap 16 = 16 by decide, show IntKind.i64.wrap 15 = 15 by decide, show IntKind.i64.wrap 2 = 2 by decide, show IntKind.u8.wrap 1 = 1 by decide, show IntKind.u8.wrap 209 = 209 by decide, show IntKind.u8.wrap 205 = 205 by decide, w4, show isByte (.p (.int .u8 209)) = true by rfl, show isByte (.p (.int .u8 205)) = true by rfl, show strOf [.p (.int .u8 209)] = txt [209] by rfl, show strOf [.p (.int .u8 205)] = txt [205] by rfl, show ishl .i64 1 15 = 32768 by decide, show ishl .i64 1 16 = 65536 by decide, show IntKind.i64.wrap (0 - 32768) = -32768 by decide, show IntKind.i64.wrap (-32768) = -32768 by decide, hC, hD]
          refine DF_by (ok16 _ (u64 n) 2 (u64_lt n) (by omega)) ?_
          simp
          refine DA_own ho (ys := [.p (.string (txt (205 :: beB 2 (u64 n))))]) (by simp [elemsOf]) (by simp; omega) ?_
          intro d' h2 ho' hle' hoth
          rw [txs_push] at ho'
          clear ho
          have ho := ho'
          clear ho'
          have hll : (L ++ [(205 : UInt8) :: beB 2 (u64 n)]).length ≤ L.length + 1 := by simp
          generalize hL204 : L ++ [(205 : UInt8) :: beB 2 (u64 n)] = L204 at ho hll
          simp [show ishl .i64 1 1 = 2 by decide, show IntKind.i64.wrap 16 = 16 by decide, show IntKind.i64.wrap 15 = 15 by decide, show IntKind.i64.wrap 2 = 2 by decide, show IntKind.u8.wrap 1 = 1 by decide, show IntKind.u8.wrap 209 = 209 by decide, show IntKind.u8.wrap 205 = 205 by decide, w4, show isByte (.p (.int .u8 209)) = true by rfl, show isByte (.p (.int .u8 205)) = true by rfl, show strOf [.p (.int .u8 209)] = txt [209] by rfl, show strOf [.p (.int .u8 205)] = txt [205] by rfl, show ishl .i64 1 15 = 32768 by decide, show ishl .i64 1 16 = 65536 by decide, show IntKind.i64.wrap (0 - 32768) = -32768 by decide, show IntKind.i64.wrap (-32768) = -32768 by decide]
          exact hk _ _ _ ho (by rw [← hL204]; simp [hA, hC, hD]) _ (by simp)
        · simp [show ishl .i64 1 1 = 2 by decide, show IntKind.i64.wrap 16 = 16 by decide, show IntKind.i64.wrap 15 = 15 by decide, show IntKind.i64.wrap 2 = 2 by decide, show IntKind.u8.wrap 1 = 1 by decide, show IntKind.u8.wrap 209 = 209 by decide, show IntKind.u8.wrap 205 = 205 by decide, w4, show isByte (.p (.int .u8 209)) = true by rfl, show isByte (.p (.int .u8 205)) = true by rfl, show strOf [.p (.int .u8 209)] = txt [209] by rfl, show strOf [.p (.int .u8 205)] = txt [205] by rfl, show ishl .i64 1 15 = 32768 by decide, show ishl .i64 1 16 = 65536 by decide, show IntKind.i64.wrap (0 - 32768) = -32768 by decide, show IntKind.i64.wrap (-32768) = -32768 by decide, hC, hD]
          exact hk _ _ _ ho (by simp [hA, hC, hD]) _ (by simp)
      · simp [show ishl .i64 1 1 = 2 by decide, show IntKind.i64.wrap 16 = 16 by decide, show IntKind.i64.wrap 15 = 15 by decide, show IntKind.i64.wrap 2 = 2 by decide, show IntKind.u8.wrap 1 = 1 by decide, show IntKind.u8.wrap 209 = 209 by decide, show IntKind.u8.wrap 205 = 205 by decide, w4, show isByte (.p (.int .u8 209)) = true by rfl, show isByte (.p (.int .u8 205)) = true by rfl, show strOf [.p (.int .u8 209)] = txt [209] by rfl, show strOf [.p (.int .u8 205)] = txt [205] by rfl, show ishl .i64 1 15 = 32768 by decide, show ishl .i64 1 16 = 65536 by decide, show IntKind.i64.wrap (0 - 32768) = -32768 by decide, show IntKind.i64.wrap (-32768) = -32768 by decide, hC]
        exact hk _ _ _ ho (by simp [hA, hC]) _ (by simp)

theorem round2 {G : Nat → DV} (h : List Blk) (n : Int) (way : Nat) (hn : I64 n) (d : DV) (h1 : List Blk) (L : List (List UInt8)) (hLl : L.length ≤ 8) (ho : Own h 1 h1 d (txs L)) (B : DX → St → Prop)
    (hk : ∀ d' h2 L', Own h 1 h2 d' (txs L') → L' = L ++ (if -2147483648 ≤ n ∧ n < 2147483648 then [[210] ++ beB 4 (u64 n)] else []) ++ (if 0 ≤ n ∧ n < 4294967296 then [[206] ++ beB 4 (u64 n)] else []) → ∀ t, fits t (fr 92 [(0, .p (.int .i64 n)), (1, .p (.int .i64 way)), (5, d'), (21, .p (.int .i64 3))]) true → B .nrm ⟨t, h2⟩) :
    VV Tryd.prog G h c9L0 ⟨fr 92 [(0, .p (.int .i64 n)), (1, .p (.int .i64 way)), (5, d), (21, .p (.int .i64 2))], h1⟩ [] B := by
  have w4 : IntKind.u64.wrap n = (u64 n : Int) := wrap_u64 n
  by_cases hX : -2147483648 ≤ n ∧ n < 2147483648
  · obtain ⟨hA, hB⟩ := hX
    simp [c9L0, show ishl .i64 1 2 = 4 by decide, show IntKind.i64.wrap 32 = 32 by decide, show IntKind.i64.wrap 31 = 31 by decide, show IntKind.i64.wrap 3 = 3 by decide, show IntKind.u8.wrap 2 = 2 by decide, show IntKind.u8.wrap 210 = 210 by decide, show IntKind.u8.wrap 206 = 206 by decide, w4, show isByte (.p (.int .u8 210)) = true by rfl, show isByte (.p (.int .u8 206)) = true by rfl, show strOf [.p (.int .u8 210)] = txt [210] by rfl, show strOf [.p (.int .u8 206)] = txt [206] by rfl, show ishl .i64 1 31 = 2147483648 by decide, show ishl .i64 1 32 = 4294967296 by decide, show IntKind.i64.wrap (0 - 2147483648) = -2147483648 by decide, show IntKind.i64.wrap (-2147483648) = -2147483648 by decide, hA, hB]
    refine DF_by (ok16 _ (u64 n) 4 (u64_lt n) (by omega)) ?_
    simp
    refine DA_own ho (ys := [.p (.string (txt (210 :: beB 4 (u64 n))))]) (by simp [elemsOf]) (by simp; omega) ?_
    intro d' h2 ho' hle' hoth
    rw [txs_push] at ho'
    clear ho
    have ho := ho'
    clear ho'
    have hll : (L ++ [(210 : UInt8) :: beB 4 (u64 n)]).length ≤ L.length + 1 := by simp
    generalize hL208 : L ++ [(210 : UInt8) :: beB 4 (u64 n)] = L208 at ho hll
    simp [show ishl .i64 1 2 = 4 by decide, show IntKind.i64.wrap 32 = 32 by decide, show IntKind.i64.wrap 31 = 31 by decide, show IntKind.i64.wrap 3 = 3 by decide, show IntKind.u8.wrap 2 = 2 by decide, show IntKind.u8.wrap 210 = 210 by decide, show IntKind.u8.wrap 206 = 206 by decide, w4, show isByte (.p (.int .u8 210)) = true by rfl, show isByte (.p (.int .u8 206)) = true by rfl, show strOf [.p (.int .u8 210)] = txt [210] by rfl, show strOf [.p (.int .u8 206)] = txt [206] by rfl, show ishl .i64 1 31 = 2147483648 by decide, show ishl .i64 1 32 = 4294967296 by decide, show IntKind.i64.wrap (0 - 2147483648) = -2147483648 by decide, show IntKind.i64.wrap (-2147483648) = -2147483648 by decide]
    by_cases hC : 0 ≤ n
    · by_cases hD : n < 4294967296
      · simp [show ishl .i64 1 2 = 4 by decide, show IntKind.i64.wrap 32 = 32 by decide, show IntKind.i64.wrap 31 = 31 by decide, show IntKind.i64.wrap 3 = 3 by decide, show IntKind.u8.wrap 2 = 2 by decide, show IntKind.u8.wrap 210 = 210 by decide, show IntKind.u8.wrap 206 = 206 by decide, w4, show isByte (.p (.int .u8 210)) = true by rfl, show isByte (.p (.int .u8 206)) = true by rfl, show strOf [.p (.int .u8 210)] = txt [210] by rfl, show strOf [.p (.int .u8 206)] = txt [206] by rfl, show ishl .i64 1 31 = 2147483648 by decide, show ishl .i64 1 32 = 4294967296 by decide, show IntKind.i64.wrap (0 - 2147483648) = -2147483648 by decide, show IntKind.i64.wrap (-2147483648) = -2147483648 by decide, hC, hD]
        refine DF_by (ok16 _ (u64 n) 4 (u64_lt n) (by omega)) ?_
        simp
        refine DA_own ho (ys := [.p (.string (txt (206 :: beB 4 (u64 n))))]) (by simp [elemsOf]) (by simp; omega) ?_
        intro d' h2 ho' hle' hoth
        rw [txs_push] at ho'
        clear ho
        have ho := ho'
        clear ho'
        have hll : (L208 ++ [(206 : UInt8) :: beB 4 (u64 n)]).length ≤ L208.length + 1 := by simp
        generalize hL204 : L208 ++ [(206 : UInt8) :: beB 4 (u64 n)] = L204 at ho hll
        simp [show ishl .i64 1 2 = 4 by decide, show IntKind.i64.wrap 32 = 32 by decide, show IntKind.i64.wrap 31 = 31 by decide, show IntKind.i64.wrap 3 = 3 by decide, show IntKind.u8.wrap 2 = 2 by decide, show IntKind.u8.wrap 210 = 210 by decide, show IntKind.u8.wrap 206 = 206 by decide, w4, show isByte (.p (.int .u8 210)) = true by rfl, show isByte (.p (.int .u8 206)) = true by rfl, show strOf [.p (.int .u8 210)] = txt [210] by rfl, show strOf [.p (.int .u8 206)] = txt [206] by rfl, show ishl .i64 1 31 = 2147483648 by decide, show ishl .i64 1 32 = 4294967296 by decide, show IntKind.i64.wrap (0 - 2147483648) = -2147483648 by decide, show IntKind.i64.wrap (-2147483648) = -2147483648 by decide]
        exact hk _ _ _ ho (by rw [← hL204, ← hL208]; simp [hA, hB, hC, hD]) _ (by simp)
      · simp [show ishl .i64 1 2 = 4 by decide, show IntKind.i64.wrap 32 = 32 by decide, show IntKind.i64.wrap 31 = 31 by decide, show IntKind.i64.wrap 3 = 3 by decide, show IntKind.u8.wrap 2 = 2 by decide, show IntKind.u8.wrap 210 = 210 by decide, show IntKind.u8.wrap 206 = 206 by decide, w4, show isByte (.p (.int .u8 210)) = true by rfl, show isByte (.p (.int .u8 206)) = true by rfl, show strOf [.p (.int .u8 210)] = txt [210] by rfl, show strOf [.p (.int .u8 206)] = txt [206] by rfl, show ishl .i64 1 31 = 2147483648 by decide, show ishl .i64 1 32 = 4294967296 by decide, show IntKind.i64.wrap (0 - 2147483648) = -2147483648 by decide, show IntKind.i64.wrap (-2147483648) = -2147483648 by decide, hC, hD]
        exact hk _ _ _ ho (by simp [hA, hB, hC, hD, ← hL208]) _ (by simp)
    · simp [show ishl .i64 1 2 = 4 by decide, show IntKind.i64.wrap 32 = 32 by decide, show IntKind.i64.wrap 31 = 31 by decide, show IntKind.i64.wrap 3 = 3 by decide, show IntKind.u8.wrap 2 = 2 by decide, show IntKind.u8.wrap 210 = 210 by decide, show IntKind.u8.wrap 206 = 206 by decide, w4, show isByte (.p (.int .u8 210)) = true by rfl, show isByte (.p (.int .u8 206)) = true by rfl, show strOf [.p (.int .u8 210)] = txt [210] by rfl, show strOf [.p (.int .u8 206)] = txt [206] by rfl, show ishl .i64 1 31 = 2147483648 by decide, show ishl .i64 1 32 = 4294967296 by decide, show IntKind.i64.wrap (0 - 2147483648) = -2147483648 by decide, show IntKind.i64.wrap (-2147483648) = -2147483648 by decide, hC]
      exact hk _ _ _ ho (by simp [hA, hB, hC, ← hL208]) _ (by simp)
  · by_cases hA : -2147483648 ≤ n
    · have hB : ¬ n < 2147483648 := fun hb => hX ⟨hA, hb⟩
      simp [c9L0, show ishl .i64 1 2 = 4 by decide, show IntKind.i64.wrap 32 = 32 by decide, show IntKind.i64.wrap 31 = 31 by decide, show IntKind.i64.wrap 3 = 3 by decide, show IntKind.u8.wrap 2 = 2 by decide, show IntKind.u8.wrap 210 = 210 by decide, show IntKind.u8.wrap 206 = 206 by decide, w4, show isByte (.p (.int .u8 210)) = true by rfl, show isByte (.p (.int .u8 206)) = true by rfl, show strOf [.p (.int .u8 210)] = txt [210] by rfl, show strOf [.p (.int .u8 206)] = txt [206] by rfl, show ishl .i64 1 31 = 2147483648 by decide, show ishl .i64 1 32 = 4294967296 by decide, show IntKind.i64.wrap (0 - 2147483648) = -2147483648 by decide, show IntKind.i64.wrap (-2147483648) = -2147483648 by decide, hA, hB]
      by_cases hC : 0 ≤ n
      · by_cases hD : n < 4294967296
        · simp [show ishl .i64 1 2 = 4 by decide, show IntKind.i64.wrap 32 = 32 by decide, show IntKind.i64.wrap 31 = 31 by decide, show IntKind.i64.wrap 3 = 3 by decide, show IntKind.u8.wrap 2 = 2 by decide, show IntKind.u8.wrap 210 = 210 by decide, show IntKind.u8.wrap 206 = 206 by decide, w4, show isByte (.p (.int .u8 210)) = true by rfl, show isByte (.p (.int .u8 206)) = true by rfl, show strOf [.p (.int .u8 210)] = txt [210] by rfl, show strOf [.p (.int .u8 206)] = txt [206] by rfl, show ishl .i64 1 31 = 2147483648 by decide, show ishl .i64 1 32 = 4294967296 by decide, show IntKind.i64.wrap (0 - 2147483648) = -2147483648 by decide, show IntKind.i64.wrap (-2147483648) = -2147483648 by decide, hC, hD]
          refine DF_by (ok16 _ (u64 n) 4 (u64_lt n) (by omega)) ?_
          simp
          refine DA_own ho (ys := [.p (.string (txt (206 :: beB 4 (u64 n))))]) (by simp [elemsOf]) (by simp; omega) ?_
          intro d' h2 ho' hle' hoth
          rw [txs_push] at ho'
          clear ho
          have ho := ho'
          clear ho'
          have hll : (L ++ [(206 : UInt8) :: beB 4 (u64 n)]).length ≤ L.length + 1 := by simp
          generalize hL204 : L ++ [(206 : UInt8) :: beB 4 (u64 n)] = L204 at ho hll
          simp [show ishl .i64 1 2 = 4 by decide, show IntKind.i64.wrap 32 = 32 by decide, show IntKind.i64.wrap 31 = 31 by decide, show IntKind.i64.wrap 3 = 3 by decide, show IntKind.u8.wrap 2 = 2 by decide, show IntKind.u8.wrap 210 = 210 by decide, show IntKind.u8.wrap 206 = 206 by decide, w4, show isByte (.p (.int .u8 210)) = true by rfl, show isByte (.p (.int .u8 206)) = true by rfl, show strOf [.p (.int .u8 210)] = txt [210] by rfl, show strOf [.p (.int .u8 206)] = txt [206] by rfl, show ishl .i64 1 31 = 2147483648 by decide, show ishl .i64 1 32 = 4294967296 by decide, show IntKind.i64.wrap (0 - 2147483648) = -2147483648 by decide, show IntKind.i64.wrap (-2147483648) = -2147483648 by decide]
          exact hk _ _ _ ho (by rw [← hL204]; simp [hA, hB, hC, hD]) _ (by simp)
        · simp [show ishl .i64 1 2 = 4 by decide, show IntKind.i64.wrap 32 = 32 by decide, show IntKind.i64.wrap 31 = 31 by decide, show IntKind.i64.wrap 3 = 3 by decide, show IntKind.u8.wrap 2 = 2 by decide, show IntKind.u8.wrap 210 = 210 by decide, show IntKind.u8.wrap 206 = 206 by decide, w4, show isByte (.p (.int .u8 210)) = true by rfl, show isByte (.p (.int .u8 206)) = true by rfl, show strOf [.p (.int .u8 210)] = txt [210] by rfl, show strOf [.p (.int .u8 206)] = txt [206] by rfl, show ishl .i64 1 31 = 2147483648 by decide, show ishl .i64 1 32 = 4294967296 by decide, show IntKind.i64.wrap (0 - 2147483648) = -2147483648 by decide, show IntKind.i64.wrap (-2147483648) = -2147483648 by decide, hC, hD]
          exact hk _ _ _ ho (by simp [hA, hB, hC, hD]) _ (by simp)
      · simp [show ishl .i64 1 2 = 4 by decide, show IntKind.i64.wrap 32 = 32 by decide, show IntKind.i64.wrap 31 = 31 by decide, show IntKind.i64.wrap 3 = 3 by decide, show IntKind.u8.wrap 2 = 2 by decide, show IntKind.u8.wrap 210 = 210 by decide, show IntKind.u8.wrap 206 = 206 by decide, w4, show isByte (.p (.int .u8 210)) = true by rfl, show isByte (.p (.int .u8 206)) = true by rfl, show strOf [.p (.int .u8 210)] = txt [210] by rfl, show strOf [.p (.int .u8 206)] = txt [206] by rfl, show ishl .i64 1 31 = 2147483648 by decide, show ishl .i64 1 32 = 4294967296 by decide, show IntKind.i64.wrap (0 - 2147483648) = -2147483648 by decide, show IntKind.i64.wrap (-2147483648) = -2147483648 by decide, hC]
        exact hk _ _ _ ho (by simp [hA, hB, hC]) _ (by simp)
    · simp [c9L0, show ishl .i64 1 2 = 4 by decide, show IntKind.i64.wrap 32 = 32 by decide, show IntKind.i64.wrap 31 = 31 by decide, show IntKind.i64.wrap 3 = 3 by decide, show IntKind.u8.wrap 2 = 2 by decide, show IntKind.u8.wrap 210 = 210 by decide, show IntKind.u8.wrap 206 = 206 by decide, w4, show isByte (.p (.int .u8 210)) = true by rfl, show isByte (.p (.int .u8 206)) = true by rfl, show strOf [.p (.int .u8 210)] = txt [210] by rfl, show strOf [.p (.int .u8 206)] = txt [206] by rfl, show ishl .i64 1 31 = 2147483648 by decide, show ishl .i64 1 32 = 4294967296 by decide, show IntKind.i64.wrap (0 - 2147483648) = -2147483648 by decide, show IntKind.i64.wrap (-2147483648) = -2147483648 by decide, hA]
      by_cases hC : 0 ≤ n
      · by_cases hD : n < 4294967296
        · simp [show ishl .i64 1 2 = 4 by decide, show IntKind.i64.wrap 32 = 32 by decide, show IntKind.i64.wrap 31 = 31 by decide, show IntKind.i64.wrap 3 = 3 by decide, show IntKind.u8.wrap 2 = 2 by decide, show IntKind.u8.wrap 210 = 210 by decide, show IntKind.u8.wrap 206 = 206 by decide, w4, show isByte (.p (.int .u8 210)) = true by rfl, show isByte (.p (.int .u8 206)) = true by rfl, show strOf [.p (.int .u8 210)] = txt [210] by rfl, show strOf [.p (.int .u8 206)] = txt [206] by rfl, show ishl .i64 1 31 = 2147483648 by decide, show ishl .i64 1 32 = 4294967296 by decide, show IntKind.i64.wrap (0 - 2147483648) = -2147483648 by decide, show IntKind.i64.wrap (-2147483648) = -2147483648 by decide, hC, hD]
          refine DF_by (ok16 _ (u64 n) 4 (u64_lt n) (by omega)) ?_
          simp
          refine DA_own ho (ys := [.p (.string (txt (206 :: beB 4 (u64 n))))]) (by simp [elemsOf]) (by simp; omega) ?_
          intro d' h2 ho' hle' hoth
          rw [txs_push] at ho'
          clear ho
          have ho := ho'
          clear ho'
          have hll : (L ++ [(206 : UInt8) :: beB 4 (u64 n)]).length ≤ L.length + 1 := by simp
          generalize hL204 : L ++ [(206 : UInt8) :: beB 4 (u64 n)] = L204 at ho hll
          simp [show ishl .i64 1 2 = 4 by decide, show IntKind.i64.wrap 32 = 32 by decide, show IntKind.i64.wrap 31 = 31 by decide, show IntKind.i64.wrap 3 = 3 by decide, show IntKind.u8.wrap 2 = 2 by decide, show IntKind.u8.wrap 210 = 210 by decide, show IntKind.u8.wrap 206 = 206 by decide, w4, show isByte (.p (.int .u8 210)) = true by rfl, show isByte (.p (.int .u8 206)) = true by rfl, show strOf [.p (.int .u8 210)] = txt [210] by rfl, show strOf [.p (.int .u8 206)] = txt [206] by rfl, show ishl .i64 1 31 = 2147483648 by decide, show ishl .i64 1 32 = 4294967296 by decide, show IntKind.i64.wrap (0 - 2147483648) = -2147483648 by decide, show IntKind.i64.wrap (-2147483648) = -2147483648 by decide]
          exact hk _ _ _ ho (by rw [← hL204]; simp [hA, hC, hD]) _ (by simp)
        · simp [show ishl .i64 1 2 = 4 by decide, show IntKind.i64.wrap 32 = 32 by decide, show IntKind.i64.wrap 31 = 31 by decide, show IntKind.i64.wrap 3 = 3 by decide, show IntKind.u8.wrap 2 = 2 by decide, show IntKind.u8.wrap 210 = 210 by decide, show IntKind.u8.wrap 206 = 206 by decide, w4, show isByte (.p (.int .u8 210)) = true by rfl, show isByte (.p (.int .u8 206)) = true by rfl, show strOf [.p (.int .u8 210)] = txt [210] by rfl, show strOf [.p (.int .u8 206)] = txt [206] by rfl, show ishl .i64 1 31 = 2147483648 by decide, show ishl .i64 1 32 = 4294967296 by decide, show IntKind.i64.wrap (0 - 2147483648) = -2147483648 by decide, show IntKind.i64.wrap (-2147483648) = -2147483648 by decide, hC, hD]
          exact hk _ _ _ ho (by simp [hA, hC, hD]) _ (by simp)
      · simp [show ishl .i64 1 2 = 4 by decide, show IntKind.i64.wrap 32 = 32 by decide, show IntKind.i64.wrap 31 = 31 by decide, show IntKind.i64.wrap 3 = 3 by decide, show IntKind.u8.wrap 2 = 2 by decide, show IntKind.u8.wrap 210 = 210 by decide, show IntKind.u8.wrap 206 = 206 by decide, w4, show isByte (.p (.int .u8 210)) = true by rfl, show isByte (.p (.int .u8 206)) = true by rfl, show strOf [.p (.int .u8 210)] = txt [210] by rfl, show strOf [.p (.int .u8 206)] = txt [206] by rfl, show ishl .i64 1 31 = 2147483648 by decide, show ishl .i64 1 32 = 4294967296 by decide, show IntKind.i64.wrap (0 - 2147483648) = -2147483648 by decide, show IntKind.i64.wrap (-2147483648) = -2147483648 by decide, hC]
        exact hk _ _ _ ho (by simp [hA, hC]) _ (by simp)

theorem round3 {G : Nat → DV} (h : List Blk) (n : Int) (way : Nat) (hn : I64 n) (d : DV) (h1 : List Blk) (L : List (List UInt8)) (hLl : L.length ≤ 8) (ho : Own h 1 h1 d (txs L)) (B : DX → St → Prop)
    (hk : ∀ d' h2 L', Own h 1 h2 d' (txs L') → L' = L ++ (if True then [[211] ++ beB 8 (u64 n)] else []) ++ (if 0 ≤ n then [[207] ++ beB 8 (u64 n)] else []) → ∀ t, fits t (fr 92 [(0, .p (.int .i64 n)), (1, .p (.int .i64 way)), (5, d'), (21, .p (.int .i64 4))]) true → B .nrm ⟨t, h2⟩) :
    VV Tryd.prog G h c9L0 ⟨fr 92 [(0, .p (.int .i64 n)), (1, .p (.int .i64 way)), (5, d), (21, .p (.int .i64 3))], h1⟩ [] B := by
  have w4 : IntKind.u64.wrap n = (u64 n : Int) := wrap_u64 n
  simp [c9L0, show ishl .i64 1 3 = 8 by decide, show IntKind.i64.wrap 64 = 64 by decide, show IntKind.i64.wrap 63 = 63 by decide, show IntKind.i64.wrap 4 = 4 by decide, show IntKind.u8.wrap 3 = 3 by decide, show IntKind.u8.wrap 211 = 211 by decide, show IntKind.u8.wrap 207 = 207 by decide, w4, show isByte (.p (.int .u8 211)) = true by rfl, show isByte (.p (.int .u8 207)) = true by rfl, show strOf [.p (.int .u8 211)] = txt [211] by rfl, show strOf [.p (.int .u8 207)] = txt [207] by rfl]
  refine DF_by (ok16 _ (u64 n) 8 (u64_lt n) (by omega)) ?_
  simp
  refine DA_own ho (ys := [.p (.string (txt (211 :: beB 8 (u64 n))))]) (by simp [elemsOf]) (by simp; omega) ?_
  intro d' h2 ho' hle' hoth
  rw [txs_push] at ho'
  clear ho
  have ho := ho'
  clear ho'
  have hll : (L ++ [(211 : UInt8) :: beB 8 (u64 n)]).length ≤ L.length + 1 := by simp
  generalize hL208 : L ++ [(211 : UInt8) :: beB 8 (u64 n)] = L208 at ho hll
  simp [show ishl .i64 1 3 = 8 by decide, show IntKind.i64.wrap 64 = 64 by decide, show IntKind.i64.wrap 63 = 63 by decide, show IntKind.i64.wrap 4 = 4 by decide, show IntKind.u8.wrap 3 = 3 by decide, show IntKind.u8.wrap 211 = 211 by decide, show IntKind.u8.wrap 207 = 207 by decide, w4, show isByte (.p (.int .u8 211)) = true by rfl, show isByte (.p (.int .u8 207)) = true by rfl, show strOf [.p (.int .u8 211)] = txt [211] by rfl, show strOf [.p (.int .u8 207)] = txt [207] by rfl]
  by_cases hC : 0 ≤ n
  · simp [show ishl .i64 1 3 = 8 by decide, show IntKind.i64.wrap 64 = 64 by decide, show IntKind.i64.wrap 63 = 63 by decide, show IntKind.i64.wrap 4 = 4 by decide, show IntKind.u8.wrap 3 = 3 by decide, show IntKind.u8.wrap 211 = 211 by decide, show IntKind.u8.wrap 207 = 207 by decide, w4, show isByte (.p (.int .u8 211)) = true by rfl, show isByte (.p (.int .u8 207)) = true by rfl, show strOf [.p (.int .u8 211)] = txt [211] by rfl, show strOf [.p (.int .u8 207)] = txt [207] by rfl, hC]
    refine DF_by (ok16 _ (u64 n) 8 (u64_lt n) (by omega)) ?_
    simp
    refine DA_own ho (ys := [.p (.string (txt (207 :: beB 8 (u64 n))))]) (by simp [elemsOf]) (by simp; omega) ?_
    intro d' h2 ho' hle' hoth
    rw [txs_push] at ho'
    clear ho
    have ho := ho'
    clear ho'
    have hll : (L208 ++ [(207 : UInt8) :: beB 8 (u64 n)]).length ≤ L208.length + 1 := by simp
    generalize hL204 : L208 ++ [(207 : UInt8) :: beB 8 (u64 n)] = L204 at ho hll
    simp [show ishl .i64 1 3 = 8 by decide, show IntKind.i64.wrap 64 = 64 by decide, show IntKind.i64.wrap 63 = 63 by decide, show IntKind.i64.wrap 4 = 4 by decide, show IntKind.u8.wrap 3 = 3 by decide, show IntKind.u8.wrap 211 = 211 by decide, show IntKind.u8.wrap 207 = 207 by decide, w4, show isByte (.p (.int .u8 211)) = true by rfl, show isByte (.p (.int .u8 207)) = true by rfl, show strOf [.p (.int .u8 211)] = txt [211] by rfl, show strOf [.p (.int .u8 207)] = txt [207] by rfl]
    exact hk _ _ _ ho (by rw [← hL204, ← hL208]; simp [hC]) _ (by simp)
  · simp [show ishl .i64 1 3 = 8 by decide, show IntKind.i64.wrap 64 = 64 by decide, show IntKind.i64.wrap 63 = 63 by decide, show IntKind.i64.wrap 4 = 4 by decide, show IntKind.u8.wrap 3 = 3 by decide, show IntKind.u8.wrap 211 = 211 by decide, show IntKind.u8.wrap 207 = 207 by decide, w4, show isByte (.p (.int .u8 211)) = true by rfl, show isByte (.p (.int .u8 207)) = true by rfl, show strOf [.p (.int .u8 211)] = txt [211] by rfl, show strOf [.p (.int .u8 207)] = txt [207] by rfl, hC]
    exact hk _ _ _ ho (by simp [hC, hC, ← hL208]) _ (by simp)


end Go.Proofs.YtppjcnaffphakaaDoor
