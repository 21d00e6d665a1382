/- The codes of the functions, in the small language of Den. -/
import Derived.Test.YtppjcnaffphakaaGreatDoorLibE
import Derived.Test.YtppjcnaffphakaaGreatDoorProg
set_option linter.unusedVariables false
set_option linter.unusedSimpArgs false
set_option maxRecDepth 100000
namespace Go.Proofs.YtppjcnaffphakaaGreatDoor
open Go Go.Den Go.Proofs

/-- given.example/pub-assaymark/laws.FnStrSetRead -/
def c3 : DC :=
  (.seq (.rg [⟨(some 10), .mov (.c (.p (.bool false))), none⟩])
    (.seq (.seq (.rg [⟨(some 29), .mov (.t 1), none⟩,
      ⟨(some 30), .callr 6 [(.t 29)], none⟩,
      ⟨(some 31), .un .not (.t 30), none⟩,
      ⟨(some 32), .mov (.t 31), none⟩,
      ⟨(some 33), .mov (.t 3), (some (32, false))⟩,
      ⟨(some 34), .lens (.t 33), (some (32, false))⟩,
      ⟨(some 35), .bin .gtr (.t 34) (.c (.p (.int .i64 2147483647))), (some (32, false))⟩,
      ⟨(some 36), .pick (.t 32) (.c (.p (.bool true))) (.t 35), none⟩])
    (.cond (.t 36) (.seq (.rg [⟨(some 10), .mov (.c (.p (.bool true))), none⟩])
      .ret)
      .skip))
    (.seq (.rgd [⟨⟨(some 37), .mov (.t 1), none⟩, 0, []⟩,
      ⟨⟨(some 38), .call 7 [(.t 37)], none⟩, 0, []⟩,
      ⟨⟨(some 39), .mov (.t 3), none⟩, 0, []⟩,
      ⟨⟨(some 40), .mov (.t 3), none⟩, 0, []⟩,
      ⟨⟨(some 41), .lens (.t 40), none⟩, 0, []⟩,
      ⟨⟨(some 42), .mm false (.t 41) (.c (.p (.int .i64 20))), none⟩, 0, []⟩,
      ⟨⟨(some 43), .slcs (.t 39) none (some (.t 42)), none⟩, 0, []⟩,
      ⟨⟨(some 1), .mov (.t 38), none⟩, 1, []⟩,
      ⟨⟨(some 3), .mov (.t 43), none⟩, 1, []⟩])
    (.seq (.rg [⟨(some 44), .mov (.t 2), none⟩,
      ⟨(some 45), .cint .i64 (.t 44), none⟩,
      ⟨(some 11), .mov (.c (.p (.string ⟨#[]⟩))), none⟩,
      ⟨(some 12), .mov (.t 45), none⟩])
    (.seq (.seq (.rg [⟨(some 46), .mov (.t 0), none⟩])
    (.cond (.t 46) (.seq (.rg [⟨(some 47), .lit 1 [(.c (.p (.string ⟨#[]⟩))), (.c (.p (.string ⟨#[32]⟩))), (.c (.p (.string ⟨#[10, 9]⟩)))], none⟩,
        ⟨(some 48), .mov (.t 12), none⟩,
        ⟨(some 49), .bin .rem (.t 48) (.c (.p (.int .i64 3))), none⟩,
        ⟨(some 50), .iaddr 1 (.t 47) (.t 49), none⟩,
        ⟨(some 51), .load false 1 (.t 50), none⟩,
        ⟨(some 52), .bin .add (.c (.p (.string ⟨#[91]⟩))) (.t 51), none⟩,
        ⟨(some 11), .mov (.t 52), none⟩])
      (.seq (.seq (.rg [⟨(some 53), .mov (.t 1), none⟩,
        ⟨(some 54), .lenl (.t 53), none⟩,
        ⟨(some 55), .mov (.c (.p (.int .i64 0))), none⟩])
      (.block 0 (.loop (.seq (.rg [⟨(some 56), .bin .lss (.t 55) (.t 54), none⟩])
        (.seq (.cond (.t 56) .skip
          (.exit 0))
        (.seq (.block 1 (.seq (.rg [⟨(some 57), .mov (.t 55), none⟩,
           ⟨(some 58), .iaddr 1 (.t 53) (.t 55), none⟩,
           ⟨(some 59), .load false 1 (.t 58), none⟩,
           ⟨(some 13), .mov (.t 57), none⟩,
           ⟨(some 14), .mov (.t 59), none⟩])
         (.seq (.seq (.rg [⟨(some 60), .mov (.t 13), none⟩,
           ⟨(some 61), .bin .gtr (.t 60) (.c (.p (.int .i64 0))), none⟩])
         (.cond (.t 61) (.rg [⟨(some 62), .mov (.t 11), none⟩,
             ⟨(some 63), .lit 1 [(.c (.p (.string ⟨#[44]⟩))), (.c (.p (.string ⟨#[44, 32]⟩))), (.c (.p (.string ⟨#[32, 44, 10]⟩)))], none⟩,
             ⟨(some 64), .mov (.t 12), none⟩,
             ⟨(some 65), .bin .shr (.t 64) (.c (.p (.int .u64 2))), none⟩,
             ⟨(some 66), .bin .rem (.t 65) (.c (.p (.int .i64 3))), none⟩,
             ⟨(some 67), .iaddr 1 (.t 63) (.t 66), none⟩,
             ⟨(some 68), .load false 1 (.t 67), none⟩,
             ⟨(some 69), .bin .add (.t 62) (.t 68), none⟩,
             ⟨(some 11), .mov (.t 69), none⟩])
           .skip))
         (.rg [⟨(some 70), .mov (.t 11), none⟩,
           ⟨(some 71), .mov (.t 14), none⟩,
           ⟨(some 72), .callr 8 [(.t 71)], none⟩,
           ⟨(some 73), .bin .add (.t 70) (.t 72), none⟩,
           ⟨(some 11), .mov (.t 73), none⟩]))))
        (.rg [⟨(some 74), .bin .add (.t 55) (.c (.p (.int .i64 1))), none⟩,
          ⟨(some 55), .mov (.t 74), none⟩])))))))
      (.seq (.rg [⟨(some 75), .mov (.t 11), none⟩,
        ⟨(some 76), .bin .add (.t 75) (.c (.p (.string ⟨#[93]⟩))), none⟩,
        ⟨(some 11), .mov (.t 76), none⟩])
      (.seq (.rg [⟨(some 78), .mov (.t 11), none⟩,
        ⟨(some 79), .callr 9 [(.c (.p (.int .i64 0))), (.t 78)], none⟩,
        ⟨(some 77), .mov (.t 79), none⟩,
        ⟨(some 80), .ext (.t 77) 0, none⟩,
        ⟨(some 81), .ext (.t 77) 1, none⟩,
        ⟨(some 82), .ext (.t 77) 2, none⟩,
        ⟨(some 15), .mov (.t 80), none⟩,
        ⟨(some 16), .mov (.t 81), none⟩,
        ⟨(some 17), .mov (.t 82), none⟩])
      (.seq (.rg [⟨(some 84), .mov (.t 11), none⟩,
        ⟨(some 85), .mov (.t 4), none⟩,
        ⟨(some 86), .cint .i64 (.t 85), none⟩,
        ⟨(some 87), .mov (.t 11), none⟩,
        ⟨(some 88), .lens (.t 87), none⟩,
        ⟨(some 89), .bin .rem (.t 86) (.t 88), none⟩,
        ⟨(some 90), .slcs (.t 84) none (some (.t 89)), none⟩,
        ⟨(some 91), .callr 9 [(.c (.p (.int .i64 0))), (.t 90)], none⟩,
        ⟨(some 83), .mov (.t 91), none⟩,
        ⟨(some 92), .ext (.t 83) 0, none⟩,
        ⟨(some 93), .ext (.t 83) 1, none⟩,
        ⟨(some 94), .ext (.t 83) 2, none⟩,
        ⟨(some 18), .mov (.t 92), none⟩,
        ⟨(some 19), .mov (.t 93), none⟩,
        ⟨(some 20), .mov (.t 94), none⟩])
      (.seq (.rg [⟨(some 95), .mov (.t 17), none⟩,
        ⟨(some 96), .mov (.t 95), none⟩,
        ⟨(some 97), .mov (.t 20), (some (96, true))⟩,
        ⟨(some 98), .un .not (.t 97), (some (96, true))⟩,
        ⟨(some 99), .pick (.t 96) (.t 98) (.c (.p (.bool false))), none⟩,
        ⟨(some 100), .mov (.t 99), none⟩,
        ⟨(some 101), .mov (.t 15), (some (100, true))⟩,
        ⟨(some 102), .mov (.t 1), (some (100, true))⟩,
        ⟨(some 103), .callr 11 [(.t 102)], (some (100, true))⟩,
        ⟨(some 104), .callr 10 [(.t 101), (.t 103)], (some (100, true))⟩,
        ⟨(some 105), .pick (.t 100) (.t 104) (.c (.p (.bool false))), none⟩,
        ⟨(some 10), .mov (.t 105), none⟩])
      .ret))))))
      .skip))
    (.seq (.rg [⟨(some 106), .mov (.t 1), none⟩,
      ⟨(some 107), .lenl (.t 106), none⟩,
      ⟨(some 108), .mov (.t 12), none⟩,
      ⟨(some 109), .callr 12 [(.t 107), (.t 108)], none⟩,
      ⟨(some 11), .mov (.t 109), none⟩])
    (.seq (.seq (.rg [⟨(some 110), .mov (.t 1), none⟩,
      ⟨(some 111), .lenl (.t 110), none⟩,
      ⟨(some 112), .mov (.c (.p (.int .i64 0))), none⟩])
    (.block 2 (.loop (.seq (.rg [⟨(some 113), .bin .lss (.t 112) (.t 111), none⟩])
      (.seq (.cond (.t 113) .skip
        (.exit 2))
      (.seq (.block 3 (.seq (.rg [⟨(some 114), .mov (.t 112), none⟩,
         ⟨(some 115), .iaddr 1 (.t 110) (.t 112), none⟩,
         ⟨(some 116), .load false 1 (.t 115), none⟩,
         ⟨(some 21), .mov (.t 114), none⟩,
         ⟨(some 22), .mov (.t 116), none⟩])
       (.rg [⟨(some 117), .mov (.t 11), none⟩,
         ⟨(some 118), .mov (.t 22), none⟩,
         ⟨(some 119), .mov (.t 12), none⟩,
         ⟨(some 120), .mov (.t 21), none⟩,
         ⟨(some 121), .bin .rem (.t 120) (.c (.p (.int .i64 8))), none⟩,
         ⟨(some 122), .bin .shr (.t 119) (.t 121), none⟩,
         ⟨(some 123), .callr 13 [(.t 118), (.t 122)], none⟩,
         ⟨(some 124), .bin .add (.t 117) (.t 123), none⟩,
         ⟨(some 11), .mov (.t 124), none⟩])))
      (.rg [⟨(some 125), .bin .add (.t 112) (.c (.p (.int .i64 1))), none⟩,
        ⟨(some 112), .mov (.t 125), none⟩])))))))
    (.seq (.rg [⟨(some 127), .mov (.t 11), none⟩,
      ⟨(some 128), .mov (.t 3), none⟩,
      ⟨(some 129), .bin .add (.t 127) (.t 128), none⟩,
      ⟨(some 130), .callr 9 [(.c (.p (.int .i64 1))), (.t 129)], none⟩,
      ⟨(some 126), .mov (.t 130), none⟩,
      ⟨(some 131), .ext (.t 126) 0, none⟩,
      ⟨(some 132), .ext (.t 126) 1, none⟩,
      ⟨(some 133), .ext (.t 126) 2, none⟩,
      ⟨(some 23), .mov (.t 131), none⟩,
      ⟨(some 24), .mov (.t 132), none⟩,
      ⟨(some 25), .mov (.t 133), none⟩])
    (.seq (.rg [⟨(some 135), .mov (.t 11), none⟩,
      ⟨(some 136), .mov (.t 4), none⟩,
      ⟨(some 137), .cint .i64 (.t 136), none⟩,
      ⟨(some 138), .mov (.t 11), none⟩,
      ⟨(some 139), .lens (.t 138), none⟩,
      ⟨(some 140), .bin .rem (.t 137) (.t 139), none⟩,
      ⟨(some 141), .slcs (.t 135) none (some (.t 140)), none⟩,
      ⟨(some 142), .callr 9 [(.c (.p (.int .i64 1))), (.t 141)], none⟩,
      ⟨(some 134), .mov (.t 142), none⟩,
      ⟨(some 143), .ext (.t 134) 0, none⟩,
      ⟨(some 144), .ext (.t 134) 1, none⟩,
      ⟨(some 145), .ext (.t 134) 2, none⟩,
      ⟨(some 26), .mov (.t 143), none⟩,
      ⟨(some 27), .mov (.t 144), none⟩,
      ⟨(some 28), .mov (.t 145), none⟩])
    (.seq (.rg [⟨(some 146), .mov (.t 25), none⟩,
      ⟨(some 147), .mov (.t 146), none⟩,
      ⟨(some 148), .mov (.t 28), (some (147, true))⟩,
      ⟨(some 149), .un .not (.t 148), (some (147, true))⟩,
      ⟨(some 150), .pick (.t 147) (.t 149) (.c (.p (.bool false))), none⟩,
      ⟨(some 151), .mov (.t 150), none⟩,
      ⟨(some 152), .mov (.t 24), (some (151, true))⟩,
      ⟨(some 153), .mov (.t 3), (some (151, true))⟩,
      ⟨(some 154), .bin .eql (.t 152) (.t 153), (some (151, true))⟩,
      ⟨(some 155), .pick (.t 151) (.t 154) (.c (.p (.bool false))), none⟩,
      ⟨(some 156), .mov (.t 155), none⟩,
      ⟨(some 157), .mov (.t 23), (some (156, true))⟩,
      ⟨(some 158), .mov (.t 1), (some (156, true))⟩,
      ⟨(some 159), .callr 11 [(.t 158)], (some (156, true))⟩,
      ⟨(some 160), .callr 10 [(.t 157), (.t 159)], (some (156, true))⟩,
      ⟨(some 161), .pick (.t 156) (.t 160) (.c (.p (.bool false))), none⟩,
      ⟨(some 10), .mov (.t 161), none⟩])
    .ret))))))))))
def r3 : List DR := [.tmp 10]
theorem c3_ok : Tryz.f3.body.bind (cCode Tryz.prog) = some c3 := by kernel_rfl
theorem r3_ok : cRes Tryz.prog Tryz.f3.results.toList = some r3 := by kernel_rfl

/-- given.example/pub-assaymark/laws.zzFits8 -/
def c6 : DC :=
  (.seq (.rg [⟨(some 2), .mov (.c (.p (.bool false))), none⟩])
    (.seq (.seq (.rg [⟨(some 5), .mov (.t 0), none⟩,
      ⟨(some 6), .lenl (.t 5), none⟩,
      ⟨(some 7), .bin .gtr (.t 6) (.c (.p (.int .i64 2147483647))), none⟩])
    (.cond (.t 7) (.seq (.rg [⟨(some 2), .mov (.c (.p (.bool false))), none⟩])
      .ret)
      .skip))
    (.seq (.seq (.rg [⟨(some 8), .mov (.t 0), none⟩,
      ⟨(some 9), .lenl (.t 8), none⟩,
      ⟨(some 10), .mov (.c (.p (.int .i64 0))), none⟩])
    (.block 0 (.loop (.seq (.rg [⟨(some 11), .bin .lss (.t 10) (.t 9), none⟩])
      (.seq (.cond (.t 11) .skip
        (.exit 0))
      (.seq (.block 1 (.seq (.rg [⟨(some 12), .iaddr 1 (.t 8) (.t 10), none⟩,
         ⟨(some 13), .load false 1 (.t 12), none⟩,
         ⟨(some 4), .mov (.t 13), none⟩])
       (.seq (.rg [⟨(some 14), .mov (.t 4), none⟩,
         ⟨(some 15), .lens (.t 14), none⟩,
         ⟨(some 16), .bin .gtr (.t 15) (.c (.p (.int .i64 2147483647))), none⟩])
       (.cond (.t 16) (.seq (.rg [⟨(some 2), .mov (.c (.p (.bool false))), none⟩])
         .ret)
         .skip))))
      (.rg [⟨(some 17), .bin .add (.t 10) (.c (.p (.int .i64 1))), none⟩,
        ⟨(some 10), .mov (.t 17), none⟩])))))))
    (.seq (.rg [⟨(some 2), .mov (.c (.p (.bool true))), none⟩])
    .ret))))
def r6 : List DR := [.tmp 2]
theorem c6_ok : Tryz.f6.body.bind (cCode Tryz.prog) = some c6 := by kernel_rfl
theorem r6_ok : cRes Tryz.prog Tryz.f6.results.toList = some r6 := by kernel_rfl

/-- given.example/pub-assaymark/laws.setPlain -/
def c7 : DC :=
  (.seq (.rg [⟨(some 2), .mov (.c (.p (.slice none 0 0))), none⟩])
    (.seq (.rg [⟨(some 3), .mov (.c (.p (.slice none 0 0))), none⟩])
    (.seq (.seq (.rg [⟨(some 9), .mov (.t 0), none⟩,
      ⟨(some 10), .callr 22 [(.t 9)], none⟩,
      ⟨(some 11), .lenl (.t 10), none⟩,
      ⟨(some 12), .mov (.c (.p (.int .i64 0))), none⟩])
    (.block 0 (.loop (.seq (.rg [⟨(some 13), .bin .lss (.t 12) (.t 11), none⟩])
      (.seq (.cond (.t 13) .skip
        (.exit 0))
      (.seq (.block 1 (.seq (.rg [⟨(some 14), .iaddr 1 (.t 10) (.t 12), none⟩,
         ⟨(some 15), .load false 1 (.t 14), none⟩,
         ⟨(some 5), .mov (.t 15), none⟩])
       (.seq (.rg [⟨(some 6), .mov (.c (.p (.slice none 0 0))), none⟩])
       (.seq (.seq (.rg [⟨(some 16), .mov (.t 5), none⟩,
         ⟨(some 17), .s2b (.t 16), none⟩,
         ⟨(some 18), .lenl (.t 17), none⟩,
         ⟨(some 19), .mov (.c (.p (.int .i64 0))), none⟩])
       (.block 2 (.loop (.seq (.rg [⟨(some 20), .bin .lss (.t 19) (.t 18), none⟩])
         (.seq (.cond (.t 20) .skip
           (.exit 2))
         (.seq (.block 3 (.seq (.rg [⟨(some 21), .iaddr 1 (.t 17) (.t 19), none⟩,
            ⟨(some 22), .load false 1 (.t 21), none⟩,
            ⟨(some 8), .mov (.t 22), none⟩])
          (.seq (.rg [⟨(some 23), .mov (.t 8), none⟩,
            ⟨(some 24), .bin .geq (.t 23) (.c (.p (.int .u8 32))), none⟩,
            ⟨(some 25), .mov (.t 24), none⟩,
            ⟨(some 26), .mov (.t 8), (some (25, true))⟩,
            ⟨(some 27), .bin .leq (.t 26) (.c (.p (.int .u8 126))), (some (25, true))⟩,
            ⟨(some 28), .pick (.t 25) (.t 27) (.c (.p (.bool false))), none⟩])
          (.cond (.t 28) (.rg [⟨(some 29), .mov (.t 6), none⟩,
              ⟨(some 30), .mov (.t 8), none⟩,
              ⟨(some 31), .lit 1 [(.t 30)], none⟩,
              ⟨(some 32), .app 1 1 (.t 29) (.t 31), none⟩,
              ⟨(some 6), .mov (.t 32), none⟩])
            .skip))))
         (.rg [⟨(some 33), .bin .add (.t 19) (.c (.p (.int .i64 1))), none⟩,
           ⟨(some 19), .mov (.t 33), none⟩])))))))
       (.rg [⟨(some 34), .mov (.t 3), none⟩,
         ⟨(some 35), .mov (.t 6), none⟩,
         ⟨(some 36), .b2s (.t 35), none⟩,
         ⟨(some 37), .lit 1 [(.t 36)], none⟩,
         ⟨(some 38), .app 1 16 (.t 34) (.t 37), none⟩,
         ⟨(some 3), .mov (.t 38), none⟩])))))
      (.rg [⟨(some 39), .bin .add (.t 12) (.c (.p (.int .i64 1))), none⟩,
        ⟨(some 12), .mov (.t 39), none⟩])))))))
    (.seq (.rg [⟨(some 40), .mov (.t 3), none⟩,
      ⟨(some 2), .mov (.t 40), none⟩])
    .ret))))
def r7 : List DR := [.tmp 2]
theorem c7_ok : Tryz.f7.body.bind (cCode Tryz.prog) = some c7 := by kernel_rfl
theorem r7_ok : cRes Tryz.prog Tryz.f7.results.toList = some r7 := by kernel_rfl

/-- given.example/pub-assaymark/spec.JsonText -/
def c8 : DC :=
  (.seq (.rg [⟨(some 2), .mov (.c (.p (.string ⟨#[]⟩))), none⟩])
    (.seq (.rg [⟨(some 3), .mov (.c (.p (.string ⟨#[34]⟩))), none⟩])
    (.seq (.seq (.rg [⟨(some 6), .mov (.t 0), none⟩,
      ⟨(some 7), .lens (.t 6), none⟩,
      ⟨(some 8), .mov (.c (.p (.int .i64 0))), none⟩])
    (.block 0 (.loop (.seq (.rg [⟨(some 9), .bin .lss (.t 8) (.t 7), none⟩])
      (.seq (.cond (.t 9) .skip
        (.exit 0))
      (.seq (.block 1 (.seq (.rg [⟨(some 10), .mov (.t 8), none⟩,
         ⟨(some 4), .mov (.t 10), none⟩])
       (.seq (.rg [⟨(some 11), .mov (.t 0), none⟩,
         ⟨(some 12), .mov (.t 4), none⟩,
         ⟨(some 13), .idxs (.t 11) (.t 12), none⟩,
         ⟨(some 5), .mov (.t 13), none⟩])
       (.seq (.rg [⟨(some 14), .mov (.t 5), none⟩])
       (.block 2 (.seq (.seq (.rg [⟨(some 23), .bin .eql (.t 14) (.c (.p (.int .u8 34))), none⟩,
          ⟨(some 22), .mov (.t 23), none⟩])
        (.cond (.t 22) .skip
          (.rg [⟨(some 24), .bin .eql (.t 14) (.c (.p (.int .u8 92))), none⟩,
            ⟨(some 22), .mov (.t 24), none⟩])))
        (.cond (.t 22) (.rg [⟨(some 25), .mov (.t 3), none⟩,
            ⟨(some 26), .mov (.t 0), none⟩,
            ⟨(some 27), .mov (.t 4), none⟩,
            ⟨(some 28), .mov (.t 4), none⟩,
            ⟨(some 29), .bin .add (.t 28) (.c (.p (.int .i64 1))), none⟩,
            ⟨(some 30), .slcs (.t 26) (some (.t 27)) (some (.t 29)), none⟩,
            ⟨(some 31), .bin .add (.c (.p (.string ⟨#[92]⟩))) (.t 30), none⟩,
            ⟨(some 32), .bin .add (.t 25) (.t 31), none⟩,
            ⟨(some 3), .mov (.t 32), none⟩])
          (.seq (.rg [⟨(some 34), .bin .eql (.t 14) (.c (.p (.int .u8 60))), none⟩,
            ⟨(some 33), .mov (.t 34), none⟩])
          (.cond (.t 33) (.rg [⟨(some 35), .mov (.t 3), none⟩,
              ⟨(some 36), .bin .add (.t 35) (.c (.p (.string ⟨#[92, 117, 48, 48, 51, 99]⟩))), none⟩,
              ⟨(some 3), .mov (.t 36), none⟩])
            (.seq (.rg [⟨(some 38), .bin .eql (.t 14) (.c (.p (.int .u8 62))), none⟩,
              ⟨(some 37), .mov (.t 38), none⟩])
            (.cond (.t 37) (.rg [⟨(some 39), .mov (.t 3), none⟩,
                ⟨(some 40), .bin .add (.t 39) (.c (.p (.string ⟨#[92, 117, 48, 48, 51, 101]⟩))), none⟩,
                ⟨(some 3), .mov (.t 40), none⟩])
              (.seq (.rg [⟨(some 42), .bin .eql (.t 14) (.c (.p (.int .u8 38))), none⟩,
                ⟨(some 41), .mov (.t 42), none⟩])
              (.cond (.t 41) (.rg [⟨(some 43), .mov (.t 3), none⟩,
                  ⟨(some 44), .bin .add (.t 43) (.c (.p (.string ⟨#[92, 117, 48, 48, 50, 54]⟩))), none⟩,
                  ⟨(some 3), .mov (.t 44), none⟩])
                (.rg [⟨(some 15), .mov (.t 3), none⟩,
                  ⟨(some 16), .mov (.t 0), none⟩,
                  ⟨(some 17), .mov (.t 4), none⟩,
                  ⟨(some 18), .mov (.t 4), none⟩,
                  ⟨(some 19), .bin .add (.t 18) (.c (.p (.int .i64 1))), none⟩,
                  ⟨(some 20), .slcs (.t 16) (some (.t 17)) (some (.t 19)), none⟩,
                  ⟨(some 21), .bin .add (.t 15) (.t 20), none⟩,
                  ⟨(some 3), .mov (.t 21), none⟩]))))))))))))))
      (.rg [⟨(some 45), .bin .add (.t 8) (.c (.p (.int .i64 1))), none⟩,
        ⟨(some 8), .mov (.t 45), none⟩])))))))
    (.seq (.rg [⟨(some 46), .mov (.t 3), none⟩,
      ⟨(some 47), .bin .add (.t 46) (.c (.p (.string ⟨#[34]⟩))), none⟩,
      ⟨(some 2), .mov (.t 47), none⟩])
    .ret))))
def r8 : List DR := [.tmp 2]
theorem c8_ok : Tryz.f8.body.bind (cCode Tryz.prog) = some c8 := by kernel_rfl
theorem r8_ok : cRes Tryz.prog Tryz.f8.results.toList = some r8 := by kernel_rfl

/-- given.example/pub-assaymark/impl.StrSetRead -/
def c9 : DC :=
  (.seq (.rg [⟨(some 4), .mov (.c (.p (.slice none 0 0))), none⟩,
      ⟨(some 5), .mov (.c (.p (.string ⟨#[]⟩))), none⟩,
      ⟨(some 6), .mov (.c (.p (.bool false))), none⟩])
    (.seq (.rg [⟨(some 7), .alloc 1 (.p (.map none)), none⟩])
    (.seq (.rg [⟨(some 8), .mov (.c (.p (.slice none 0 0))), none⟩])
    (.seq (.rg [⟨(some 9), .mov (.c (.p .nilIface)), none⟩])
    (.seq (.seq (.rg [⟨(some 10), .mov (.t 0), none⟩])
    (.block 0 (.seq (.rg [⟨(some 12), .bin .eql (.t 10) (.c (.p (.int .i64 0))), none⟩,
       ⟨(some 11), .mov (.t 12), none⟩])
     (.cond (.t 11) (.rg [⟨(some 13), .mov (.t 1), none⟩,
         ⟨(some 14), .s2b (.t 13), none⟩,
         ⟨(some 15), .callr 23 [(.t 7), (.t 14)], none⟩,
         ⟨(some 9), .mov (.t 15), none⟩])
       (.seq (.rg [⟨(some 17), .bin .eql (.t 10) (.c (.p (.int .i64 1))), none⟩,
         ⟨(some 16), .mov (.t 17), none⟩])
       (.cond (.t 16) (.rg [⟨(some 19), .mov (.t 1), none⟩,
           ⟨(some 20), .s2b (.t 19), none⟩,
           ⟨(some 21), .callr 24 [(.t 7), (.t 20)], none⟩,
           ⟨(some 18), .mov (.t 21), none⟩,
           ⟨(some 22), .ext (.t 18) 0, none⟩,
           ⟨(some 23), .ext (.t 18) 1, none⟩,
           ⟨(some 8), .mov (.t 22), none⟩,
           ⟨(some 9), .mov (.t 23), none⟩])
         (.seq (.rg [⟨(some 25), .bin .eql (.t 10) (.c (.p (.int .i64 2))), none⟩,
           ⟨(some 24), .mov (.t 25), none⟩])
         (.cond (.t 24) (.rg [⟨(some 26), .mov (.t 1), none⟩,
             ⟨(some 27), .s2b (.t 26), none⟩,
             ⟨(some 28), .callr 25 [(.t 7), (.t 27)], none⟩,
             ⟨(some 9), .mov (.t 28), none⟩])
           (.seq (.rg [⟨(some 4), .mov (.c (.p (.slice none 0 0))), none⟩,
             ⟨(some 5), .mov (.c (.p (.string ⟨#[]⟩))), none⟩,
             ⟨(some 6), .mov (.c (.p (.bool false))), none⟩])
           .ret)))))))))
    (.seq (.seq (.rg [⟨(some 29), .mov (.t 9), none⟩,
      ⟨(some 30), .eqn true .iface (.t 29), none⟩])
    (.cond (.t 30) (.seq (.rg [⟨(some 4), .mov (.c (.p (.slice none 0 0))), none⟩,
        ⟨(some 5), .mov (.c (.p (.string ⟨#[]⟩))), none⟩,
        ⟨(some 6), .mov (.c (.p (.bool false))), none⟩])
      .ret)
      .skip))
    (.seq (.rgd [⟨⟨(some 31), .load false 1 (.t 7), none⟩, 0, [0]⟩,
      ⟨⟨(some 32), .call 26 [(.t 31)], none⟩, 0, [0]⟩,
      ⟨⟨(some 33), .mov (.t 8), none⟩, 0, [0]⟩,
      ⟨⟨(some 34), .b2s (.t 33), none⟩, 0, [0]⟩,
      ⟨⟨(some 4), .mov (.t 32), none⟩, 1, [0]⟩,
      ⟨⟨(some 5), .mov (.t 34), none⟩, 1, []⟩,
      ⟨⟨(some 6), .mov (.c (.p (.bool true))), none⟩, 1, []⟩])
    .ret)))))))
def r9 : List DR := [.tmp 4, .tmp 5, .tmp 6]
theorem c9_ok : Tryz.f9.body.bind (cCode Tryz.prog) = some c9 := by kernel_rfl
theorem r9_ok : cRes Tryz.prog Tryz.f9.results.toList = some r9 := by kernel_rfl

/-- given.example/pub-assaymark/spec.SetSame -/
def c10 : DC :=
  (.seq (.rg [⟨(some 4), .mov (.c (.p (.bool false))), none⟩])
    (.seq (.seq (.rg [⟨(some 7), .mov (.t 0), none⟩,
      ⟨(some 8), .lenl (.t 7), none⟩,
      ⟨(some 9), .mov (.t 1), none⟩,
      ⟨(some 10), .lenl (.t 9), none⟩,
      ⟨(some 11), .bin .neq (.t 8) (.t 10), none⟩])
    (.cond (.t 11) (.seq (.rg [⟨(some 4), .mov (.c (.p (.bool false))), none⟩])
      .ret)
      .skip))
    (.seq (.seq (.rg [⟨(some 12), .mov (.t 0), none⟩,
      ⟨(some 13), .lenl (.t 12), none⟩,
      ⟨(some 14), .mov (.c (.p (.int .i64 0))), none⟩])
    (.block 0 (.loop (.seq (.rg [⟨(some 15), .bin .lss (.t 14) (.t 13), none⟩])
      (.seq (.cond (.t 15) .skip
        (.exit 0))
      (.seq (.block 1 (.seq (.rg [⟨(some 16), .mov (.t 14), none⟩,
         ⟨(some 17), .iaddr 1 (.t 12) (.t 14), none⟩,
         ⟨(some 18), .load false 1 (.t 17), none⟩,
         ⟨(some 5), .mov (.t 16), none⟩,
         ⟨(some 6), .mov (.t 18), none⟩])
       (.seq (.rg [⟨(some 19), .mov (.t 6), none⟩,
         ⟨(some 20), .mov (.t 1), none⟩,
         ⟨(some 21), .mov (.t 5), none⟩,
         ⟨(some 22), .iaddr 1 (.t 20) (.t 21), none⟩,
         ⟨(some 23), .load false 1 (.t 22), none⟩,
         ⟨(some 24), .bin .neq (.t 19) (.t 23), none⟩])
       (.cond (.t 24) (.seq (.rg [⟨(some 4), .mov (.c (.p (.bool false))), none⟩])
         .ret)
         .skip))))
      (.rg [⟨(some 25), .bin .add (.t 14) (.c (.p (.int .i64 1))), none⟩,
        ⟨(some 14), .mov (.t 25), none⟩])))))))
    (.seq (.rg [⟨(some 4), .mov (.c (.p (.bool true))), none⟩])
    .ret))))
def r10 : List DR := [.tmp 4]
theorem c10_ok : Tryz.f10.body.bind (cCode Tryz.prog) = some c10 := by kernel_rfl
theorem r10_ok : cRes Tryz.prog Tryz.f10.results.toList = some r10 := by kernel_rfl

/-- given.example/pub-assaymark/spec.SetOf -/
def c11 : DC :=
  (.seq (.rg [⟨(some 2), .mov (.c (.p (.slice none 0 0))), none⟩])
    (.seq (.rg [⟨(some 3), .mov (.c (.p (.slice none 0 0))), none⟩])
    (.seq (.seq (.rg [⟨(some 7), .mov (.t 0), none⟩,
      ⟨(some 8), .lenl (.t 7), none⟩,
      ⟨(some 9), .mov (.c (.p (.int .i64 0))), none⟩])
    (.block 0 (.loop (.seq (.rg [⟨(some 10), .bin .lss (.t 9) (.t 8), none⟩])
      (.seq (.cond (.t 10) .skip
        (.exit 0))
      (.seq (.block 1 (.seq (.rg [⟨(some 11), .iaddr 1 (.t 7) (.t 9), none⟩,
         ⟨(some 12), .load false 1 (.t 11), none⟩,
         ⟨(some 5), .mov (.t 12), none⟩])
       (.seq (.rg [⟨(some 6), .mov (.c (.p (.int .i64 0))), none⟩])
       (.seq (.block 2 (.loop (.seq (.seq (.rg [⟨(some 13), .mov (.t 6), none⟩,
           ⟨(some 14), .mov (.t 3), none⟩,
           ⟨(some 15), .lenl (.t 14), none⟩,
           ⟨(some 16), .bin .lss (.t 13) (.t 15), none⟩,
           ⟨(some 17), .mov (.t 16), none⟩,
           ⟨(some 18), .mov (.t 3), (some (17, true))⟩,
           ⟨(some 19), .mov (.t 6), (some (17, true))⟩,
           ⟨(some 20), .iaddr 1 (.t 18) (.t 19), (some (17, true))⟩,
           ⟨(some 21), .load false 1 (.t 20), (some (17, true))⟩,
           ⟨(some 22), .mov (.t 5), (some (17, true))⟩,
           ⟨(some 23), .bin .lss (.t 21) (.t 22), (some (17, true))⟩,
           ⟨(some 24), .pick (.t 17) (.t 23) (.c (.p (.bool false))), none⟩])
         (.cond (.t 24) .skip
           (.exit 2)))
         (.block 3 (.rg [⟨(some 25), .mov (.t 6), none⟩,
            ⟨(some 26), .bin .add (.t 25) (.c (.p (.int .i64 1))), none⟩,
            ⟨(some 6), .mov (.t 26), none⟩])))))
       (.seq (.rg [⟨(some 27), .mov (.t 6), none⟩,
         ⟨(some 28), .mov (.t 3), none⟩,
         ⟨(some 29), .lenl (.t 28), none⟩,
         ⟨(some 30), .bin .eql (.t 27) (.t 29), none⟩,
         ⟨(some 31), .mov (.t 30), none⟩,
         ⟨(some 32), .mov (.t 3), (some (31, false))⟩,
         ⟨(some 33), .mov (.t 6), (some (31, false))⟩,
         ⟨(some 34), .iaddr 1 (.t 32) (.t 33), (some (31, false))⟩,
         ⟨(some 35), .load false 1 (.t 34), (some (31, false))⟩,
         ⟨(some 36), .mov (.t 5), (some (31, false))⟩,
         ⟨(some 37), .bin .neq (.t 35) (.t 36), (some (31, false))⟩,
         ⟨(some 38), .pick (.t 31) (.c (.p (.bool true))) (.t 37), none⟩])
       (.cond (.t 38) (.rgd [⟨⟨(some 39), .mov (.t 3), none⟩, 0, [0]⟩,
           ⟨⟨(some 40), .mov (.t 6), none⟩, 0, [0]⟩,
           ⟨⟨(some 41), .slcl 1 (.t 39) none (some (.t 40)), none⟩, 0, [0]⟩,
           ⟨⟨(some 42), .mov (.t 5), none⟩, 0, [0]⟩,
           ⟨⟨(some 43), .lit 1 [(.t 42)], none⟩, 0, [0]⟩,
           ⟨⟨(some 44), .mov (.t 3), none⟩, 0, [0]⟩,
           ⟨⟨(some 45), .mov (.t 6), none⟩, 0, [0]⟩,
           ⟨⟨(some 46), .slcl 1 (.t 44) (some (.t 45)) none, none⟩, 0, [0]⟩,
           ⟨⟨(some 47), .app 1 16 (.t 43) (.t 46), none⟩, 1, [0]⟩,
           ⟨⟨(some 48), .app 1 16 (.t 41) (.t 47), none⟩, 2, []⟩,
           ⟨⟨(some 3), .mov (.t 48), none⟩, 3, []⟩])
         .skip))))))
      (.rg [⟨(some 49), .bin .add (.t 9) (.c (.p (.int .i64 1))), none⟩,
        ⟨(some 9), .mov (.t 49), none⟩])))))))
    (.seq (.rg [⟨(some 50), .mov (.t 3), none⟩,
      ⟨(some 2), .mov (.t 50), none⟩])
    .ret))))
def r11 : List DR := [.tmp 2]
theorem c11_ok : Tryz.f11.body.bind (cCode Tryz.prog) = some c11 := by kernel_rfl
theorem r11_ok : cRes Tryz.prog Tryz.f11.results.toList = some r11 := by kernel_rfl

/-- given.example/pub-assaymark/spec.PackText -/
def c13 : DC :=
  (.seq (.rg [⟨(some 4), .mov (.c (.p (.string ⟨#[]⟩))), none⟩])
    (.seq (.rg [⟨(some 5), .mov (.t 0), none⟩,
      ⟨(some 6), .lens (.t 5), none⟩,
      ⟨(some 7), .lit 1 [(.c (.p (.int .u8 217))), (.c (.p (.int .u8 218))), (.c (.p (.int .u8 219)))], none⟩,
      ⟨(some 8), .mov (.t 1), none⟩,
      ⟨(some 9), .callr 27 [(.t 6), (.c (.p (.int .u8 160))), (.c (.p (.int .u8 31))), (.t 7), (.t 8)], none⟩,
      ⟨(some 10), .mov (.t 0), none⟩,
      ⟨(some 11), .bin .add (.t 9) (.t 10), none⟩,
      ⟨(some 4), .mov (.t 11), none⟩])
    .ret))
def r13 : List DR := [.tmp 4]
theorem c13_ok : Tryz.f13.body.bind (cCode Tryz.prog) = some c13 := by kernel_rfl
theorem r13_ok : cRes Tryz.prog Tryz.f13.results.toList = some r13 := by kernel_rfl

/-- given.example/pub-assaymark/laws.setTexts -/
def c22 : DC :=
  (.seq (.rg [⟨(some 2), .mov (.c (.p (.slice none 0 0))), none⟩])
    (.seq (.rg [⟨(some 3), .mov (.c (.p (.slice none 0 0))), none⟩])
    (.seq (.seq (.rg [⟨(some 6), .mov (.t 0), none⟩,
      ⟨(some 7), .mov (.t 0), none⟩,
      ⟨(some 8), .lenl (.t 7), none⟩,
      ⟨(some 9), .mm false (.t 8) (.c (.p (.int .i64 10))), none⟩,
      ⟨(some 10), .slcl 1 (.t 6) none (some (.t 9)), none⟩,
      ⟨(some 11), .lenl (.t 10), none⟩,
      ⟨(some 12), .mov (.c (.p (.int .i64 0))), none⟩])
    (.block 0 (.loop (.seq (.rg [⟨(some 13), .bin .lss (.t 12) (.t 11), none⟩])
      (.seq (.cond (.t 13) .skip
        (.exit 0))
      (.seq (.block 1 (.seq (.rg [⟨(some 14), .iaddr 1 (.t 10) (.t 12), none⟩,
         ⟨(some 15), .load false 1 (.t 14), none⟩,
         ⟨(some 5), .mov (.t 15), none⟩])
       (.rg [⟨(some 16), .mov (.t 3), none⟩,
         ⟨(some 17), .mov (.t 5), none⟩,
         ⟨(some 18), .mov (.t 5), none⟩,
         ⟨(some 19), .lens (.t 18), none⟩,
         ⟨(some 20), .mm false (.t 19) (.c (.p (.int .i64 20))), none⟩,
         ⟨(some 21), .slcs (.t 17) none (some (.t 20)), none⟩,
         ⟨(some 22), .lit 1 [(.t 21)], none⟩,
         ⟨(some 23), .app 1 16 (.t 16) (.t 22), none⟩,
         ⟨(some 3), .mov (.t 23), none⟩])))
      (.rg [⟨(some 24), .bin .add (.t 12) (.c (.p (.int .i64 1))), none⟩,
        ⟨(some 12), .mov (.t 24), none⟩])))))))
    (.seq (.rg [⟨(some 25), .mov (.t 3), none⟩,
      ⟨(some 2), .mov (.t 25), none⟩])
    .ret))))
def r22 : List DR := [.tmp 2]
theorem c22_ok : Tryz.f22.body.bind (cCode Tryz.prog) = some c22 := by kernel_rfl
theorem r22_ok : cRes Tryz.prog Tryz.f22.results.toList = some r22 := by kernel_rfl

/-- (*given.example/pub-assaymark/pub/miniogo/pkg/set.StringSet).UnmarshalJSON -/
def c23 : DC :=
  (.seq (.rg [⟨(some 4), .mov (.c (.p .nilIface)), none⟩])
    (.seq (.rg [⟨(some 5), .alloc 1 (.p (.slice none 0 0)), none⟩])
    (.seq (.rg [⟨(some 9), .mov (.t 1), none⟩,
      ⟨(some 10), .ifc 77 (.t 5), none⟩,
      ⟨(some 11), .callr 45 [(.t 9), (.t 10)], none⟩,
      ⟨(some 6), .mov (.t 11), none⟩])
    (.seq (.seq (.rg [⟨(some 12), .mov (.t 6), none⟩,
      ⟨(some 13), .eqn false .iface (.t 12), none⟩])
    (.cond (.t 13) (.seq (.rg [⟨(some 14), .mov (.t 0), none⟩,
        ⟨(some 15), .mkmap, none⟩,
        ⟨(some 16), .nilchk .ptr (.t 14), none⟩,
        ⟨none, .store 1 (.t 16) (.t 15), none⟩])
      (.seq (.rg [⟨(some 17), .load false 1 (.t 5), none⟩,
        ⟨(some 18), .lenl (.t 17), none⟩,
        ⟨(some 19), .mov (.c (.p (.int .i64 0))), none⟩])
      (.block 0 (.loop (.seq (.rg [⟨(some 20), .bin .lss (.t 19) (.t 18), none⟩])
        (.seq (.cond (.t 20) .skip
          (.exit 0))
        (.seq (.block 1 (.seq (.rg [⟨(some 21), .iaddr 1 (.t 17) (.t 19), none⟩,
           ⟨(some 22), .load false 1 (.t 21), none⟩,
           ⟨(some 8), .mov (.t 22), none⟩])
         (.rg [⟨(some 23), .mov (.t 0), none⟩,
           ⟨(some 24), .nilchk .ptr (.t 23), none⟩,
           ⟨(some 25), .load false 1 (.t 24), none⟩,
           ⟨(some 26), .mov (.t 8), none⟩,
           ⟨(some 27), .callr 46 [(.t 25), (.t 26)], none⟩])))
        (.rg [⟨(some 28), .bin .add (.t 19) (.c (.p (.int .i64 1))), none⟩,
          ⟨(some 19), .mov (.t 28), none⟩]))))))))
      .skip))
    (.seq (.rg [⟨(some 29), .mov (.t 6), none⟩,
      ⟨(some 4), .mov (.t 29), none⟩])
    .ret)))))
def r23 : List DR := [.tmp 4]
theorem c23_ok : Tryz.f23.body.bind (cCode Tryz.prog) = some c23 := by kernel_rfl
theorem r23_ok : cRes Tryz.prog Tryz.f23.results.toList = some r23 := by kernel_rfl

/-- (*given.example/pub-assaymark/pub/miniogo/pkg/set.StringSet).UnmarshalMsg -/
def c24 : DC :=
  (.seq (.rg [⟨(some 4), .mov (.c (.p (.slice none 0 0))), none⟩,
      ⟨(some 5), .mov (.c (.p .nilIface)), none⟩])
    (.seq (.seq (.rg [⟨(some 10), .mov (.t 1), none⟩,
      ⟨(some 11), .lenl (.t 10), none⟩,
      ⟨(some 12), .bin .gtr (.t 11) (.c (.p (.int .i64 0))), none⟩,
      ⟨(some 13), .mov (.t 12), none⟩,
      ⟨(some 14), .mov (.t 1), (some (13, true))⟩,
      ⟨(some 15), .iaddr 1 (.t 14) (.c (.p (.int .i64 0))), (some (13, true))⟩,
      ⟨(some 16), .load false 1 (.t 15), (some (13, true))⟩,
      ⟨(some 17), .bin .eql (.t 16) (.c (.p (.int .u8 192))), (some (13, true))⟩,
      ⟨(some 18), .pick (.t 13) (.t 17) (.c (.p (.bool false))), none⟩])
    (.cond (.t 18) (.seq (.rg [⟨(some 19), .mov (.t 0), none⟩,
        ⟨(some 20), .nilchk .ptr (.t 19), none⟩,
        ⟨none, .store 1 (.t 20) (.c (.p (.map none))), none⟩])
      (.seq (.rg [⟨(some 21), .mov (.t 1), none⟩,
        ⟨(some 22), .slcl 1 (.t 21) (some (.c (.p (.int .i64 1)))) none, none⟩,
        ⟨(some 4), .mov (.t 22), none⟩,
        ⟨(some 5), .mov (.c (.p .nilIface)), none⟩])
      .ret))
      .skip))
    (.seq (.rg [⟨(some 24), .mov (.t 1), none⟩,
      ⟨(some 25), .callr 47 [(.t 24)], none⟩,
      ⟨(some 23), .mov (.t 25), none⟩,
      ⟨(some 26), .ext (.t 23) 0, none⟩,
      ⟨(some 27), .ext (.t 23) 1, none⟩,
      ⟨(some 28), .ext (.t 23) 2, none⟩,
      ⟨(some 6), .mov (.t 26), none⟩,
      ⟨(some 1), .mov (.t 27), none⟩,
      ⟨(some 7), .mov (.t 28), none⟩])
    (.seq (.seq (.rg [⟨(some 29), .mov (.t 7), none⟩,
      ⟨(some 30), .eqn true .iface (.t 29), none⟩])
    (.cond (.t 30) (.seq (.rg [⟨(some 31), .mov (.t 7), none⟩,
        ⟨(some 4), .mov (.c (.p (.slice none 0 0))), none⟩,
        ⟨(some 5), .mov (.t 31), none⟩])
      .ret)
      .skip))
    (.seq (.rg [⟨(some 32), .mkmap, none⟩,
      ⟨(some 8), .mov (.t 32), none⟩])
    (.seq (.seq (.rg [⟨(some 33), .mov (.t 6), none⟩,
      ⟨(some 34), .mov (.c (.p (.int .i64 0))), none⟩])
    (.block 0 (.loop (.seq (.rg [⟨(some 35), .bin .lss (.t 34) (.t 33), none⟩])
      (.seq (.cond (.t 35) .skip
        (.exit 0))
      (.seq (.block 1 (.seq (.rg [⟨(some 9), .mov (.c (.p (.string ⟨#[]⟩))), none⟩])
       (.seq (.rg [⟨(some 37), .mov (.t 1), none⟩,
         ⟨(some 38), .callr 48 [(.t 37)], none⟩,
         ⟨(some 36), .mov (.t 38), none⟩,
         ⟨(some 39), .ext (.t 36) 0, none⟩,
         ⟨(some 40), .ext (.t 36) 1, none⟩,
         ⟨(some 41), .ext (.t 36) 2, none⟩,
         ⟨(some 9), .mov (.t 39), none⟩,
         ⟨(some 1), .mov (.t 40), none⟩,
         ⟨(some 7), .mov (.t 41), none⟩])
       (.seq (.seq (.rg [⟨(some 42), .mov (.t 7), none⟩,
         ⟨(some 43), .eqn true .iface (.t 42), none⟩])
       (.cond (.t 43) (.seq (.rg [⟨(some 44), .mov (.t 7), none⟩,
           ⟨(some 4), .mov (.c (.p (.slice none 0 0))), none⟩,
           ⟨(some 5), .mov (.t 44), none⟩])
         .ret)
         .skip))
       (.rg [⟨(some 45), .mov (.t 8), none⟩,
         ⟨(some 46), .mov (.t 9), none⟩,
         ⟨(some 47), .callr 46 [(.t 45), (.t 46)], none⟩])))))
      (.rg [⟨(some 48), .bin .add (.t 34) (.c (.p (.int .i64 1))), none⟩,
        ⟨(some 34), .mov (.t 48), none⟩])))))))
    (.seq (.rg [⟨(some 49), .mov (.t 0), none⟩,
      ⟨(some 50), .mov (.t 8), none⟩,
      ⟨(some 51), .nilchk .ptr (.t 49), none⟩,
      ⟨none, .store 1 (.t 51) (.t 50), none⟩])
    (.seq (.rg [⟨(some 52), .mov (.t 1), none⟩,
      ⟨(some 4), .mov (.t 52), none⟩,
      ⟨(some 5), .mov (.c (.p .nilIface)), none⟩])
    .ret))))))))
def r24 : List DR := [.tmp 4, .tmp 5]
theorem c24_ok : Tryz.f24.body.bind (cCode Tryz.prog) = some c24 := by kernel_rfl
theorem r24_ok : cRes Tryz.prog Tryz.f24.results.toList = some r24 := by kernel_rfl

/-- (given.example/pub-assaymark/pub/miniogo/pkg/set.StringSet).ToSlice -/
def c26 : DC :=
  (.seq (.rg [⟨(some 2), .mov (.c (.p (.slice none 0 0))), none⟩])
    (.seq (.rg [⟨(some 3), .mov (.t 0), none⟩,
      ⟨(some 4), .callr 49 [(.t 3)], none⟩,
      ⟨(some 2), .mov (.t 4), none⟩])
    .ret))
def r26 : List DR := [.tmp 2]
theorem c26_ok : Tryz.f26.body.bind (cCode Tryz.prog) = some c26 := by kernel_rfl
theorem r26_ok : cRes Tryz.prog Tryz.f26.results.toList = some r26 := by kernel_rfl

/-- given.example/pub-assaymark/pub/zzjson.Unmarshal -/
def c45 : DC :=
  (.seq (.rg [⟨(some 4), .mov (.c (.p .nilIface)), none⟩])
    (.seq (.rg [⟨(some 8), .mov (.t 0), none⟩,
      ⟨(some 9), .bld [.p (.slice none 0 0), .p (.int .i64 0), .p (.int .i64 0)] [(0, 1, (.t 8))], none⟩,
      ⟨(some 10), .box (.t 9), none⟩,
      ⟨(some 5), .mov (.t 10), none⟩])
    (.seq (.rg [⟨(some 12), .mov (.t 5), none⟩,
      ⟨(some 13), .callr 65 [(.t 12)], none⟩,
      ⟨(some 11), .mov (.t 13), none⟩,
      ⟨(some 14), .ext (.t 11) 0, none⟩,
      ⟨(some 15), .ext (.t 11) 1, none⟩,
      ⟨(some 6), .alloc 5 (.agg [.p (.int .u8 0), .p (.bool false), .p (.string ⟨#[]⟩), .p (.slice none 0 0), .p (.slice none 0 0)]), none⟩,
      ⟨none, .store 5 (.t 6) (.t 14), none⟩,
      ⟨(some 7), .mov (.t 15), none⟩])
    (.seq (.rg [⟨(some 16), .mov (.t 5), none⟩,
      ⟨(some 17), .callr 66 [(.t 16)], none⟩])
    (.seq (.seq (.rgd [⟨⟨(some 18), .mov (.t 7), none⟩, 0, []⟩,
      ⟨⟨(some 19), .un .not (.t 18), none⟩, 0, []⟩,
      ⟨⟨(some 20), .mov (.t 19), none⟩, 0, []⟩,
      ⟨⟨(some 21), .mov (.t 5), (some (20, false))⟩, 0, [0]⟩,
      ⟨⟨(some 22), .nilchk .ptr (.t 21), (some (20, false))⟩, 0, [0]⟩,
      ⟨⟨(some 23), .faddr false 1 1 (.t 22), (some (20, false))⟩, 0, [0]⟩,
      ⟨⟨(some 24), .load false 1 (.t 23), (some (20, false))⟩, 0, [0]⟩,
      ⟨⟨(some 25), .mov (.t 5), (some (20, false))⟩, 0, [0]⟩,
      ⟨⟨(some 26), .nilchk .ptr (.t 25), (some (20, false))⟩, 0, [0]⟩,
      ⟨⟨(some 27), .faddr false 0 1 (.t 26), (some (20, false))⟩, 0, [0]⟩,
      ⟨⟨(some 28), .load false 1 (.t 27), (some (20, false))⟩, 0, [0]⟩,
      ⟨⟨(some 29), .lenl (.t 28), (some (20, false))⟩, 0, [0]⟩,
      ⟨⟨(some 30), .bin .lss (.t 24) (.t 29), (some (20, false))⟩, 0, []⟩,
      ⟨⟨(some 31), .pick (.t 20) (.c (.p (.bool true))) (.t 30), none⟩, 0, []⟩])
    (.cond (.t 31) (.seq (.rg [⟨(some 32), .ifc 117 (.c (.p (.string ⟨#[105, 110, 118, 97, 108, 105, 100, 32, 74, 83, 79, 78]⟩))), none⟩,
        ⟨(some 4), .mov (.t 32), none⟩])
      .ret)
      .skip))
    (.seq (.seq (.rg [⟨(some 33), .mov (.t 1), none⟩,
      ⟨(some 34), .load true 5 (.t 6), none⟩,
      ⟨(some 35), .inv true "ZzTake" (.t 33) [(.t 34)], none⟩,
      ⟨(some 36), .un .not (.t 35), none⟩])
    (.cond (.t 36) (.seq (.rg [⟨(some 37), .ifc 117 (.c (.p (.string ⟨#[74, 83, 79, 78, 32, 118, 97, 108, 117, 101, 32, 111, 102, 32, 97, 110, 111, 116, 104, 101, 114, 32, 116, 121, 112, 101]⟩))), none⟩,
        ⟨(some 4), .mov (.t 37), none⟩])
      .ret)
      .skip))
    (.seq (.rg [⟨(some 4), .mov (.c (.p .nilIface)), none⟩])
    .ret)))))))
def r45 : List DR := [.tmp 4]
theorem c45_ok : Tryz.f45.body.bind (cCode Tryz.prog) = some c45 := by kernel_rfl
theorem r45_ok : cRes Tryz.prog Tryz.f45.results.toList = some r45 := by kernel_rfl

/-- (given.example/pub-assaymark/pub/miniogo/pkg/set.StringSet).Add -/
def c46 : DC :=
  (.rg [⟨(some 4), .mov (.t 0), none⟩,
      ⟨(some 5), .mov (.t 1), none⟩,
      ⟨(some 6), .callr 67 [(.t 4), (.t 5)], none⟩])
def r46 : List DR := []
theorem c46_ok : Tryz.f46.body.bind (cCode Tryz.prog) = some c46 := by kernel_rfl
theorem r46_ok : cRes Tryz.prog Tryz.f46.results.toList = some r46 := by kernel_rfl

/-- given.example/pub-assaymark/pub/zzmsgp.ReadString -/
def c48 : DC :=
  (.seq (.rg [⟨(some 2), .mov (.c (.p (.string ⟨#[]⟩))), none⟩,
      ⟨(some 3), .mov (.c (.p (.slice none 0 0))), none⟩,
      ⟨(some 4), .mov (.c (.p .nilIface)), none⟩])
    (.seq (.seq (.rg [⟨(some 7), .mov (.t 0), none⟩,
      ⟨(some 8), .lenl (.t 7), none⟩,
      ⟨(some 9), .bin .eql (.t 8) (.c (.p (.int .i64 0))), none⟩])
    (.cond (.t 9) (.seq (.rg [⟨(some 10), .mov (.t 0), none⟩,
        ⟨(some 11), .ifc 117 (.c (.p (.string ⟨#[116, 111, 111, 32, 102, 101, 119, 32, 98, 121, 116, 101, 115, 32, 108, 101, 102, 116, 32, 116, 111, 32, 114, 101, 97, 100, 32, 111, 98, 106, 101, 99, 116]⟩))), none⟩,
        ⟨(some 2), .mov (.c (.p (.string ⟨#[]⟩))), none⟩,
        ⟨(some 3), .mov (.t 10), none⟩,
        ⟨(some 4), .mov (.t 11), none⟩])
      .ret)
      .skip))
    (.seq (.rg [⟨(some 5), .mov (.c (.p (.int .u64 0))), none⟩])
    (.seq (.seq (.rg [⟨(some 12), .mov (.t 0), none⟩,
      ⟨(some 13), .iaddr 1 (.t 12) (.c (.p (.int .i64 0))), none⟩,
      ⟨(some 14), .load false 1 (.t 13), none⟩,
      ⟨(some 6), .mov (.t 14), none⟩])
    (.block 0 (.seq (.rg [⟨(some 18), .mov (.t 6), none⟩,
       ⟨(some 19), .bin .and (.t 18) (.c (.p (.int .u8 224))), none⟩,
       ⟨(some 20), .bin .eql (.t 19) (.c (.p (.int .u8 160))), none⟩,
       ⟨(some 17), .mov (.t 20), none⟩])
     (.cond (.t 17) (.rgd [⟨⟨(some 21), .mov (.t 6), none⟩, 0, [0]⟩,
         ⟨⟨(some 22), .bin .and (.t 21) (.c (.p (.int .u8 31))), none⟩, 0, [0]⟩,
         ⟨⟨(some 23), .cint .u64 (.t 22), none⟩, 0, [0]⟩,
         ⟨⟨(some 24), .mov (.t 0), none⟩, 0, []⟩,
         ⟨⟨(some 25), .slcl 1 (.t 24) (some (.c (.p (.int .i64 1)))) none, none⟩, 0, [0]⟩,
         ⟨⟨(some 5), .mov (.t 23), none⟩, 0, [0]⟩,
         ⟨⟨(some 3), .mov (.t 25), none⟩, 0, []⟩])
       (.seq (.rg [⟨(some 27), .mov (.t 6), none⟩,
         ⟨(some 28), .bin .eql (.t 27) (.c (.p (.int .u8 217))), none⟩,
         ⟨(some 29), .mov (.t 28), none⟩,
         ⟨(some 30), .mov (.t 6), (some (29, false))⟩,
         ⟨(some 31), .bin .eql (.t 30) (.c (.p (.int .u8 218))), (some (29, false))⟩,
         ⟨(some 32), .pick (.t 29) (.c (.p (.bool true))) (.t 31), none⟩,
         ⟨(some 33), .mov (.t 32), none⟩,
         ⟨(some 34), .mov (.t 6), (some (33, false))⟩,
         ⟨(some 35), .bin .eql (.t 34) (.c (.p (.int .u8 219))), (some (33, false))⟩,
         ⟨(some 36), .pick (.t 33) (.c (.p (.bool true))) (.t 35), none⟩,
         ⟨(some 26), .mov (.t 36), none⟩])
       (.cond (.t 26) (.rg [⟨(some 38), .mov (.t 0), none⟩,
           ⟨(some 39), .mov (.t 6), none⟩,
           ⟨(some 40), .bin .sub (.t 39) (.c (.p (.int .u8 217))), none⟩,
           ⟨(some 41), .bin .shl (.c (.p (.int .i64 1))) (.t 40), none⟩,
           ⟨(some 42), .callr 68 [(.t 38), (.t 41)], none⟩,
           ⟨(some 37), .mov (.t 42), none⟩,
           ⟨(some 43), .ext (.t 37) 0, none⟩,
           ⟨(some 44), .ext (.t 37) 1, none⟩,
           ⟨(some 45), .ext (.t 37) 2, none⟩,
           ⟨(some 5), .mov (.t 43), none⟩,
           ⟨(some 3), .mov (.t 44), none⟩,
           ⟨(some 4), .mov (.t 45), none⟩])
         (.seq (.rg [⟨(some 15), .mov (.t 0), none⟩,
           ⟨(some 16), .ifc 117 (.c (.p (.string ⟨#[117, 110, 114, 101, 99, 111, 103, 110, 105, 122, 101, 100, 32, 116, 121, 112, 101, 32, 112, 114, 101, 102, 105, 120]⟩))), none⟩,
           ⟨(some 2), .mov (.c (.p (.string ⟨#[]⟩))), none⟩,
           ⟨(some 3), .mov (.t 15), none⟩,
           ⟨(some 4), .mov (.t 16), none⟩])
         .ret)))))))
    (.seq (.seq (.rg [⟨(some 46), .mov (.t 4), none⟩,
      ⟨(some 47), .eqn true .iface (.t 46), none⟩])
    (.cond (.t 47) (.seq (.rg [⟨(some 48), .mov (.t 0), none⟩,
        ⟨(some 49), .mov (.t 4), none⟩,
        ⟨(some 2), .mov (.c (.p (.string ⟨#[]⟩))), none⟩,
        ⟨(some 3), .mov (.t 48), none⟩,
        ⟨(some 4), .mov (.t 49), none⟩])
      .ret)
      .skip))
    (.seq (.seq (.rg [⟨(some 50), .mov (.t 5), none⟩,
      ⟨(some 51), .mov (.t 3), none⟩,
      ⟨(some 52), .lenl (.t 51), none⟩,
      ⟨(some 53), .cint .u64 (.t 52), none⟩,
      ⟨(some 54), .bin .gtr (.t 50) (.t 53), none⟩])
    (.cond (.t 54) (.seq (.rg [⟨(some 55), .mov (.t 0), none⟩,
        ⟨(some 56), .ifc 117 (.c (.p (.string ⟨#[116, 111, 111, 32, 102, 101, 119, 32, 98, 121, 116, 101, 115, 32, 108, 101, 102, 116, 32, 116, 111, 32, 114, 101, 97, 100, 32, 111, 98, 106, 101, 99, 116]⟩))), none⟩,
        ⟨(some 2), .mov (.c (.p (.string ⟨#[]⟩))), none⟩,
        ⟨(some 3), .mov (.t 55), none⟩,
        ⟨(some 4), .mov (.t 56), none⟩])
      .ret)
      .skip))
    (.seq (.rgd [⟨⟨(some 57), .mov (.t 3), none⟩, 0, [0]⟩,
      ⟨⟨(some 58), .mov (.t 5), none⟩, 0, [0]⟩,
      ⟨⟨(some 59), .slcl 1 (.t 57) none (some (.t 58)), none⟩, 0, [0]⟩,
      ⟨⟨(some 60), .b2s (.t 59), none⟩, 0, [0]⟩,
      ⟨⟨(some 61), .mov (.t 3), none⟩, 0, [0]⟩,
      ⟨⟨(some 62), .mov (.t 5), none⟩, 0, [0]⟩,
      ⟨⟨(some 63), .slcl 1 (.t 61) (some (.t 62)) none, none⟩, 0, [0]⟩,
      ⟨⟨(some 2), .mov (.t 60), none⟩, 0, [0]⟩,
      ⟨⟨(some 3), .mov (.t 63), none⟩, 0, []⟩,
      ⟨⟨(some 4), .mov (.c (.p .nilIface)), none⟩, 0, []⟩])
    .ret)))))))
def r48 : List DR := [.tmp 2, .tmp 3, .tmp 4]
theorem c48_ok : Tryz.f48.body.bind (cCode Tryz.prog) = some c48 := by kernel_rfl
theorem r48_ok : cRes Tryz.prog Tryz.f48.results.toList = some r48 := by kernel_rfl

/-- given.example/pub-assaymark/pub/miniogo/pkg/set.ToSliceOrdered[string] -/
def c49 : DC :=
  (.seq (.rg [⟨(some 2), .mov (.c (.p (.slice none 0 0))), none⟩])
    (.seq (.rg [⟨(some 5), .mov (.t 0), none⟩,
      ⟨(some 6), .lenm (.t 5), none⟩,
      ⟨(some 7), .mks false 1 16 (.p (.string ⟨#[]⟩)) (.c (.p (.int .i64 0))) (.t 6), none⟩,
      ⟨(some 3), .mov (.t 7), none⟩])
    (.seq (.seq (.rg [⟨(some 8), .mov (.t 0), none⟩,
      ⟨(some 9), .rngm (.t 8), none⟩])
    (.block 0 (.loop (.seq (.rg [⟨(some 10), .nxtm (.t 9), none⟩,
        ⟨(some 11), .ext (.t 10) 0, none⟩])
      (.seq (.cond (.t 11) .skip
        (.exit 0))
      (.block 1 (.seq (.rg [⟨(some 12), .ent (.t 9), none⟩,
         ⟨(some 13), .ext (.t 12) 0, none⟩,
         ⟨(some 4), .mov (.t 13), none⟩])
       (.rg [⟨(some 14), .mov (.t 3), none⟩,
         ⟨(some 15), .mov (.t 4), none⟩,
         ⟨(some 16), .lit 1 [(.t 15)], none⟩,
         ⟨(some 17), .app 1 16 (.t 14) (.t 16), none⟩,
         ⟨(some 3), .mov (.t 17), none⟩]))))))))
    (.seq (.rg [⟨(some 18), .mov (.t 3), none⟩,
      ⟨(some 19), .callr 69 [(.t 18)], none⟩])
    (.seq (.rg [⟨(some 20), .mov (.t 3), none⟩,
      ⟨(some 2), .mov (.t 20), none⟩])
    .ret)))))
def r49 : List DR := [.tmp 2]
theorem c49_ok : Tryz.f49.body.bind (cCode Tryz.prog) = some c49 := by kernel_rfl
theorem r49_ok : cRes Tryz.prog Tryz.f49.results.toList = some r49 := by kernel_rfl

/-- (*given.example/pub-assaymark/pub/zzjson.reader).value -/
def c65 : DC :=
  (.seq (.rg [⟨(some 2), .alloc 5 (.agg [.p (.int .u8 0), .p (.bool false), .p (.string ⟨#[]⟩), .p (.slice none 0 0), .p (.slice none 0 0)]), none⟩,
      ⟨(some 3), .mov (.c (.p (.bool false))), none⟩])
    (.seq (.rg [⟨(some 8), .mov (.t 0), none⟩,
      ⟨(some 9), .callr 66 [(.t 8)], none⟩])
    (.seq (.seq (.rgd [⟨⟨(some 10), .mov (.t 0), none⟩, 0, [0]⟩,
      ⟨⟨(some 11), .nilchk .ptr (.t 10), none⟩, 0, [0]⟩,
      ⟨⟨(some 12), .faddr false 1 1 (.t 11), none⟩, 0, [0]⟩,
      ⟨⟨(some 13), .load false 1 (.t 12), none⟩, 0, [0]⟩,
      ⟨⟨(some 14), .mov (.t 0), none⟩, 0, [0]⟩,
      ⟨⟨(some 15), .nilchk .ptr (.t 14), none⟩, 0, [0]⟩,
      ⟨⟨(some 16), .faddr false 0 1 (.t 15), none⟩, 0, [0]⟩,
      ⟨⟨(some 17), .load false 1 (.t 16), none⟩, 0, [0]⟩,
      ⟨⟨(some 18), .lenl (.t 17), none⟩, 0, [0]⟩,
      ⟨⟨(some 19), .bin .geq (.t 13) (.t 18), none⟩, 0, []⟩])
    (.cond (.t 19) (.seq (.rg [⟨(some 20), .load true 5 (.t 2), none⟩,
        ⟨none, .store 5 (.t 2) (.t 20), none⟩,
        ⟨(some 3), .mov (.c (.p (.bool false))), none⟩])
      .ret)
      .skip))
    (.seq (.seq (.rgd [⟨⟨(some 21), .mov (.t 0), none⟩, 0, [0]⟩,
      ⟨⟨(some 22), .nilchk .ptr (.t 21), none⟩, 0, [0]⟩,
      ⟨⟨(some 23), .faddr false 0 1 (.t 22), none⟩, 0, [0]⟩,
      ⟨⟨(some 24), .load false 1 (.t 23), none⟩, 0, [0]⟩,
      ⟨⟨(some 25), .mov (.t 0), none⟩, 0, [0]⟩,
      ⟨⟨(some 26), .nilchk .ptr (.t 25), none⟩, 0, [0]⟩,
      ⟨⟨(some 27), .faddr false 1 1 (.t 26), none⟩, 0, [0]⟩,
      ⟨⟨(some 28), .load false 1 (.t 27), none⟩, 0, [0]⟩,
      ⟨⟨(some 29), .iaddr 1 (.t 24) (.t 28), none⟩, 0, [0]⟩,
      ⟨⟨(some 30), .load false 1 (.t 29), none⟩, 0, [0]⟩,
      ⟨⟨(some 4), .mov (.t 30), none⟩, 0, []⟩])
    (.seq (.rg [⟨(some 31), .mov (.t 4), none⟩])
    (.block 0 (.seq (.rg [⟨(some 33), .bin .eql (.t 31) (.c (.p (.int .u8 123))), none⟩,
       ⟨(some 32), .mov (.t 33), none⟩])
     (.cond (.t 32) (.seq (.rg [⟨(some 34), .mov (.t 0), none⟩,
         ⟨(some 35), .callr 77 [(.t 34)], none⟩,
         ⟨(some 36), .ext (.t 35) 0, none⟩,
         ⟨(some 37), .ext (.t 35) 1, none⟩,
         ⟨none, .store 5 (.t 2) (.t 36), none⟩,
         ⟨(some 3), .mov (.t 37), none⟩])
       .ret)
       (.seq (.rg [⟨(some 39), .bin .eql (.t 31) (.c (.p (.int .u8 91))), none⟩,
         ⟨(some 38), .mov (.t 39), none⟩])
       (.cond (.t 38) (.seq (.rg [⟨(some 40), .mov (.t 0), none⟩,
           ⟨(some 41), .callr 78 [(.t 40)], none⟩,
           ⟨(some 42), .ext (.t 41) 0, none⟩,
           ⟨(some 43), .ext (.t 41) 1, none⟩,
           ⟨none, .store 5 (.t 2) (.t 42), none⟩,
           ⟨(some 3), .mov (.t 43), none⟩])
         .ret)
         (.seq (.rg [⟨(some 45), .bin .eql (.t 31) (.c (.p (.int .u8 34))), none⟩,
           ⟨(some 44), .mov (.t 45), none⟩])
         (.cond (.t 44) (.seq (.rg [⟨(some 46), .faddr false 0 1 (.t 2), none⟩,
             ⟨none, .store 1 (.t 46) (.c (.p (.int .u8 34))), none⟩,
             ⟨(some 47), .faddr false 1 1 (.t 2), none⟩,
             ⟨none, .store 1 (.t 47) (.c (.p (.bool true))), none⟩])
           (.seq (.rg [⟨(some 48), .mov (.t 0), none⟩,
             ⟨(some 49), .nilchk .ptr (.t 48), none⟩,
             ⟨(some 50), .faddr false 1 1 (.t 49), none⟩,
             ⟨(some 51), .load false 1 (.t 50), none⟩,
             ⟨(some 5), .mov (.t 51), none⟩])
           (.seq (.rg [⟨(some 53), .mov (.t 0), none⟩,
             ⟨(some 54), .callr 79 [(.t 53)], none⟩,
             ⟨(some 52), .mov (.t 54), none⟩,
             ⟨(some 55), .ext (.t 52) 0, none⟩,
             ⟨(some 56), .ext (.t 52) 1, none⟩,
             ⟨(some 57), .faddr false 2 1 (.t 2), none⟩,
             ⟨none, .store 1 (.t 57) (.t 55), none⟩,
             ⟨(some 3), .mov (.t 56), none⟩])
           (.seq (.seq (.rgd [⟨⟨(some 58), .mov (.t 0), none⟩, 0, [0]⟩,
             ⟨⟨(some 59), .nilchk .ptr (.t 58), none⟩, 0, [0]⟩,
             ⟨⟨(some 60), .faddr false 0 1 (.t 59), none⟩, 0, [0]⟩,
             ⟨⟨(some 61), .load false 1 (.t 60), none⟩, 0, [0]⟩,
             ⟨⟨(some 62), .mov (.t 5), none⟩, 0, [0]⟩,
             ⟨⟨(some 63), .mov (.t 0), none⟩, 0, [0]⟩,
             ⟨⟨(some 64), .nilchk .ptr (.t 63), none⟩, 0, [0]⟩,
             ⟨⟨(some 65), .faddr false 1 1 (.t 64), none⟩, 0, [0]⟩,
             ⟨⟨(some 66), .load false 1 (.t 65), none⟩, 0, [0]⟩,
             ⟨⟨(some 67), .slcl 1 (.t 61) (some (.t 62)) (some (.t 66)), none⟩, 0, [0]⟩,
             ⟨⟨(some 68), .lenl (.t 67), none⟩, 0, []⟩,
             ⟨⟨(some 69), .mov (.c (.p (.int .i64 0))), none⟩, 0, [0]⟩])
           (.block 1 (.loop (.seq (.rg [⟨(some 70), .bin .lss (.t 69) (.t 68), none⟩])
             (.seq (.cond (.t 70) .skip
               (.exit 1))
             (.seq (.block 2 (.seq (.rg [⟨(some 71), .iaddr 1 (.t 67) (.t 69), none⟩,
                ⟨(some 72), .load false 1 (.t 71), none⟩,
                ⟨(some 7), .mov (.t 72), none⟩])
              (.rg [⟨(some 73), .faddr false 1 1 (.t 2), none⟩,
                ⟨(some 74), .load false 1 (.t 73), none⟩,
                ⟨(some 75), .mov (.t 74), none⟩,
                ⟨(some 76), .mov (.t 7), (some (75, true))⟩,
                ⟨(some 77), .bin .neq (.t 76) (.c (.p (.int .u8 92))), (some (75, true))⟩,
                ⟨(some 78), .pick (.t 75) (.t 77) (.c (.p (.bool false))), none⟩,
                ⟨(some 79), .faddr false 1 1 (.t 2), none⟩,
                ⟨none, .store 1 (.t 79) (.t 78), none⟩])))
             (.rg [⟨(some 80), .bin .add (.t 69) (.c (.p (.int .i64 1))), none⟩,
               ⟨(some 69), .mov (.t 80), none⟩])))))))
           (.seq (.rg [⟨(some 81), .load true 5 (.t 2), none⟩,
             ⟨(some 82), .mov (.t 3), none⟩,
             ⟨none, .store 5 (.t 2) (.t 81), none⟩,
             ⟨(some 3), .mov (.t 82), none⟩])
           .ret)))))
           (.seq (.rg [⟨(some 84), .bin .eql (.t 31) (.c (.p (.int .u8 116))), none⟩,
             ⟨(some 83), .mov (.t 84), none⟩])
           (.cond (.t 83) (.seq (.rg [⟨(some 85), .bld [.p (.int .u8 0), .p (.bool false), .p (.string ⟨#[]⟩), .p (.slice none 0 0), .p (.slice none 0 0)] [(0, 1, (.c (.p (.int .u8 116))))], none⟩,
               ⟨(some 86), .mov (.t 0), none⟩,
               ⟨(some 87), .callr 80 [(.t 86), (.c (.p (.string ⟨#[116, 114, 117, 101]⟩)))], none⟩,
               ⟨none, .store 5 (.t 2) (.t 85), none⟩,
               ⟨(some 3), .mov (.t 87), none⟩])
             .ret)
             (.seq (.rg [⟨(some 89), .bin .eql (.t 31) (.c (.p (.int .u8 102))), none⟩,
               ⟨(some 88), .mov (.t 89), none⟩])
             (.cond (.t 88) (.seq (.rg [⟨(some 90), .bld [.p (.int .u8 0), .p (.bool false), .p (.string ⟨#[]⟩), .p (.slice none 0 0), .p (.slice none 0 0)] [(0, 1, (.c (.p (.int .u8 102))))], none⟩,
                 ⟨(some 91), .mov (.t 0), none⟩,
                 ⟨(some 92), .callr 80 [(.t 91), (.c (.p (.string ⟨#[102, 97, 108, 115, 101]⟩)))], none⟩,
                 ⟨none, .store 5 (.t 2) (.t 90), none⟩,
                 ⟨(some 3), .mov (.t 92), none⟩])
               .ret)
               (.seq (.rg [⟨(some 94), .bin .eql (.t 31) (.c (.p (.int .u8 110))), none⟩,
                 ⟨(some 93), .mov (.t 94), none⟩])
               (.cond (.t 93) (.seq (.rg [⟨(some 95), .bld [.p (.int .u8 0), .p (.bool false), .p (.string ⟨#[]⟩), .p (.slice none 0 0), .p (.slice none 0 0)] [(0, 1, (.c (.p (.int .u8 110))))], none⟩,
                   ⟨(some 96), .mov (.t 0), none⟩,
                   ⟨(some 97), .callr 80 [(.t 96), (.c (.p (.string ⟨#[110, 117, 108, 108]⟩)))], none⟩,
                   ⟨none, .store 5 (.t 2) (.t 95), none⟩,
                   ⟨(some 3), .mov (.t 97), none⟩])
                 .ret)
                 .skip)))))))))))))))
    (.seq (.rg [⟨(some 98), .faddr false 0 1 (.t 2), none⟩,
      ⟨none, .store 1 (.t 98) (.c (.p (.int .u8 48))), none⟩])
    (.seq (.rg [⟨(some 100), .mov (.t 0), none⟩,
      ⟨(some 101), .callr 81 [(.t 100)], none⟩,
      ⟨(some 99), .mov (.t 101), none⟩,
      ⟨(some 102), .ext (.t 99) 0, none⟩,
      ⟨(some 103), .ext (.t 99) 1, none⟩,
      ⟨(some 104), .faddr false 2 1 (.t 2), none⟩,
      ⟨none, .store 1 (.t 104) (.t 102), none⟩,
      ⟨(some 3), .mov (.t 103), none⟩])
    (.seq (.rg [⟨(some 105), .load true 5 (.t 2), none⟩,
      ⟨(some 106), .mov (.t 3), none⟩,
      ⟨none, .store 5 (.t 2) (.t 105), none⟩,
      ⟨(some 3), .mov (.t 106), none⟩])
    .ret)))))))
def r65 : List DR := [.cell 2 true 5, .tmp 3]
theorem c65_ok : Tryz.f65.body.bind (cCode Tryz.prog) = some c65 := by kernel_rfl
theorem r65_ok : cRes Tryz.prog Tryz.f65.results.toList = some r65 := by kernel_rfl

/-- (*given.example/pub-assaymark/pub/zzjson.reader).blank -/
def c66 : DC :=
  (.block 0 (.loop (.seq (.seq (.rgd [⟨⟨(some 2), .mov (.t 0), none⟩, 0, [0]⟩,
        ⟨⟨(some 3), .nilchk .ptr (.t 2), none⟩, 0, [0]⟩,
        ⟨⟨(some 4), .faddr false 1 1 (.t 3), none⟩, 0, [0]⟩,
        ⟨⟨(some 5), .load false 1 (.t 4), none⟩, 0, [0]⟩,
        ⟨⟨(some 6), .mov (.t 0), none⟩, 0, [0]⟩,
        ⟨⟨(some 7), .nilchk .ptr (.t 6), none⟩, 0, [0]⟩,
        ⟨⟨(some 8), .faddr false 0 1 (.t 7), none⟩, 0, [0]⟩,
        ⟨⟨(some 9), .load false 1 (.t 8), none⟩, 0, [0]⟩,
        ⟨⟨(some 10), .lenl (.t 9), none⟩, 0, [0]⟩,
        ⟨⟨(some 11), .bin .lss (.t 5) (.t 10), none⟩, 0, []⟩,
        ⟨⟨(some 12), .mov (.t 11), none⟩, 0, []⟩,
        ⟨⟨(some 13), .mov (.t 0), (some (12, true))⟩, 0, [0]⟩,
        ⟨⟨(some 14), .nilchk .ptr (.t 13), (some (12, true))⟩, 0, [0]⟩,
        ⟨⟨(some 15), .faddr false 0 1 (.t 14), (some (12, true))⟩, 0, [0]⟩,
        ⟨⟨(some 16), .load false 1 (.t 15), (some (12, true))⟩, 0, [0]⟩,
        ⟨⟨(some 17), .mov (.t 0), (some (12, true))⟩, 0, [0]⟩,
        ⟨⟨(some 18), .nilchk .ptr (.t 17), (some (12, true))⟩, 0, [0]⟩,
        ⟨⟨(some 19), .faddr false 1 1 (.t 18), (some (12, true))⟩, 0, [0]⟩,
        ⟨⟨(some 20), .load false 1 (.t 19), (some (12, true))⟩, 0, [0]⟩,
        ⟨⟨(some 21), .iaddr 1 (.t 16) (.t 20), (some (12, true))⟩, 0, [0]⟩,
        ⟨⟨(some 22), .load false 1 (.t 21), (some (12, true))⟩, 0, [0]⟩,
        ⟨⟨(some 23), .bin .eql (.t 22) (.c (.p (.int .u8 32))), (some (12, true))⟩, 0, []⟩,
        ⟨⟨(some 24), .mov (.t 23), (some (12, true))⟩, 0, []⟩,
        ⟨⟨(some 25), .mov (.t 0), (some (24, false))⟩, 0, [0]⟩,
        ⟨⟨(some 26), .nilchk .ptr (.t 25), (some (24, false))⟩, 0, [0]⟩,
        ⟨⟨(some 27), .faddr false 0 1 (.t 26), (some (24, false))⟩, 0, [0]⟩,
        ⟨⟨(some 28), .load false 1 (.t 27), (some (24, false))⟩, 0, [0]⟩,
        ⟨⟨(some 29), .mov (.t 0), (some (24, false))⟩, 0, [0]⟩,
        ⟨⟨(some 30), .nilchk .ptr (.t 29), (some (24, false))⟩, 0, [0]⟩,
        ⟨⟨(some 31), .faddr false 1 1 (.t 30), (some (24, false))⟩, 0, [0]⟩,
        ⟨⟨(some 32), .load false 1 (.t 31), (some (24, false))⟩, 0, [0]⟩,
        ⟨⟨(some 33), .iaddr 1 (.t 28) (.t 32), (some (24, false))⟩, 0, [0]⟩,
        ⟨⟨(some 34), .load false 1 (.t 33), (some (24, false))⟩, 0, [0]⟩,
        ⟨⟨(some 35), .bin .eql (.t 34) (.c (.p (.int .u8 9))), (some (24, false))⟩, 0, []⟩,
        ⟨⟨(some 36), .pick (.t 24) (.c (.p (.bool true))) (.t 35), (some (12, true))⟩, 0, []⟩,
        ⟨⟨(some 37), .mov (.t 36), (some (12, true))⟩, 0, []⟩,
        ⟨⟨(some 38), .mov (.t 0), (some (37, false))⟩, 0, [0]⟩,
        ⟨⟨(some 39), .nilchk .ptr (.t 38), (some (37, false))⟩, 0, [0]⟩,
        ⟨⟨(some 40), .faddr false 0 1 (.t 39), (some (37, false))⟩, 0, [0]⟩,
        ⟨⟨(some 41), .load false 1 (.t 40), (some (37, false))⟩, 0, [0]⟩,
        ⟨⟨(some 42), .mov (.t 0), (some (37, false))⟩, 0, [0]⟩,
        ⟨⟨(some 43), .nilchk .ptr (.t 42), (some (37, false))⟩, 0, [0]⟩,
        ⟨⟨(some 44), .faddr false 1 1 (.t 43), (some (37, false))⟩, 0, [0]⟩,
        ⟨⟨(some 45), .load false 1 (.t 44), (some (37, false))⟩, 0, [0]⟩,
        ⟨⟨(some 46), .iaddr 1 (.t 41) (.t 45), (some (37, false))⟩, 0, [0]⟩,
        ⟨⟨(some 47), .load false 1 (.t 46), (some (37, false))⟩, 0, [0]⟩,
        ⟨⟨(some 48), .bin .eql (.t 47) (.c (.p (.int .u8 10))), (some (37, false))⟩, 0, []⟩,
        ⟨⟨(some 49), .pick (.t 37) (.c (.p (.bool true))) (.t 48), (some (12, true))⟩, 0, []⟩,
        ⟨⟨(some 50), .mov (.t 49), (some (12, true))⟩, 0, []⟩,
        ⟨⟨(some 51), .mov (.t 0), (some (50, false))⟩, 0, [0]⟩,
        ⟨⟨(some 52), .nilchk .ptr (.t 51), (some (50, false))⟩, 0, [0]⟩,
        ⟨⟨(some 53), .faddr false 0 1 (.t 52), (some (50, false))⟩, 0, [0]⟩,
        ⟨⟨(some 54), .load false 1 (.t 53), (some (50, false))⟩, 0, [0]⟩,
        ⟨⟨(some 55), .mov (.t 0), (some (50, false))⟩, 0, [0]⟩,
        ⟨⟨(some 56), .nilchk .ptr (.t 55), (some (50, false))⟩, 0, [0]⟩,
        ⟨⟨(some 57), .faddr false 1 1 (.t 56), (some (50, false))⟩, 0, [0]⟩,
        ⟨⟨(some 58), .load false 1 (.t 57), (some (50, false))⟩, 0, [0]⟩,
        ⟨⟨(some 59), .iaddr 1 (.t 54) (.t 58), (some (50, false))⟩, 0, [0]⟩,
        ⟨⟨(some 60), .load false 1 (.t 59), (some (50, false))⟩, 0, [0]⟩,
        ⟨⟨(some 61), .bin .eql (.t 60) (.c (.p (.int .u8 13))), (some (50, false))⟩, 0, []⟩,
        ⟨⟨(some 62), .pick (.t 50) (.c (.p (.bool true))) (.t 61), (some (12, true))⟩, 0, []⟩,
        ⟨⟨(some 63), .pick (.t 12) (.t 62) (.c (.p (.bool false))), none⟩, 0, []⟩])
      (.cond (.t 63) .skip
        (.exit 0)))
      (.block 1 (.rg [⟨(some 64), .mov (.t 0), none⟩,
         ⟨(some 65), .nilchk .ptr (.t 64), none⟩,
         ⟨(some 66), .faddr false 1 1 (.t 65), none⟩,
         ⟨(some 67), .load false 1 (.t 66), none⟩,
         ⟨(some 68), .bin .add (.t 67) (.c (.p (.int .i64 1))), none⟩,
         ⟨(some 69), .nilchk .ptr (.t 64), none⟩,
         ⟨(some 70), .faddr false 1 1 (.t 69), none⟩,
         ⟨none, .store 1 (.t 70) (.t 68), none⟩])))))
def r66 : List DR := []
theorem c66_ok : Tryz.f66.body.bind (cCode Tryz.prog) = some c66 := by kernel_rfl
theorem r66_ok : cRes Tryz.prog Tryz.f66.results.toList = some r66 := by kernel_rfl

/-- (given.example/pub-assaymark/pub/miniogo/pkg/set.Set[string]).Add -/
def c67 : DC :=
  (.rg [⟨(some 4), .mov (.t 0), none⟩,
      ⟨(some 5), .mov (.t 1), none⟩,
      ⟨(some 6), .bld [] [], none⟩,
      ⟨none, .mupd .str (.t 4) (.t 5) (.t 6), none⟩])
def r67 : List DR := []
theorem c67_ok : Tryz.f67.body.bind (cCode Tryz.prog) = some c67 := by kernel_rfl
theorem r67_ok : cRes Tryz.prog Tryz.f67.results.toList = some r67 := by kernel_rfl

/-- (*given.example/pub-assaymark/pub/zzjson.reader).elements -/
def c78 : DC :=
  (.seq (.rg [⟨(some 2), .alloc 5 (.agg [.p (.int .u8 0), .p (.bool false), .p (.string ⟨#[]⟩), .p (.slice none 0 0), .p (.slice none 0 0)]), none⟩,
      ⟨(some 3), .mov (.c (.p (.bool false))), none⟩])
    (.seq (.rg [⟨(some 6), .faddr false 0 1 (.t 2), none⟩,
      ⟨none, .store 1 (.t 6) (.c (.p (.int .u8 91))), none⟩])
    (.seq (.rg [⟨(some 7), .mov (.t 0), none⟩,
      ⟨(some 8), .nilchk .ptr (.t 7), none⟩,
      ⟨(some 9), .faddr false 1 1 (.t 8), none⟩,
      ⟨(some 10), .load false 1 (.t 9), none⟩,
      ⟨(some 11), .bin .add (.t 10) (.c (.p (.int .i64 1))), none⟩,
      ⟨(some 12), .nilchk .ptr (.t 7), none⟩,
      ⟨(some 13), .faddr false 1 1 (.t 12), none⟩,
      ⟨none, .store 1 (.t 13) (.t 11), none⟩])
    (.seq (.seq (.rg [⟨(some 14), .mov (.t 0), none⟩,
      ⟨(some 15), .nilchk .ptr (.t 14), none⟩,
      ⟨(some 16), .faddr false 2 1 (.t 15), none⟩,
      ⟨(some 17), .load false 1 (.t 16), none⟩,
      ⟨(some 18), .bin .add (.t 17) (.c (.p (.int .i64 1))), none⟩,
      ⟨(some 19), .nilchk .ptr (.t 14), none⟩,
      ⟨(some 20), .faddr false 2 1 (.t 19), none⟩,
      ⟨none, .store 1 (.t 20) (.t 18), none⟩])
    (.seq (.rg [⟨(some 21), .mov (.t 0), none⟩,
      ⟨(some 22), .nilchk .ptr (.t 21), none⟩,
      ⟨(some 23), .faddr false 2 1 (.t 22), none⟩,
      ⟨(some 24), .load false 1 (.t 23), none⟩,
      ⟨(some 25), .bin .gtr (.t 24) (.c (.p (.int .i64 10000))), none⟩])
    (.cond (.t 25) (.seq (.rg [⟨(some 26), .load true 5 (.t 2), none⟩,
        ⟨none, .store 5 (.t 2) (.t 26), none⟩,
        ⟨(some 3), .mov (.c (.p (.bool false))), none⟩])
      .ret)
      .skip)))
    (.seq (.rg [⟨(some 27), .mov (.t 0), none⟩,
      ⟨(some 28), .callr 66 [(.t 27)], none⟩])
    (.seq (.seq (.rg [⟨(some 29), .mov (.t 0), none⟩,
      ⟨(some 30), .callr 80 [(.t 29), (.c (.p (.string ⟨#[93]⟩)))], none⟩])
    (.cond (.t 30) (.seq (.rg [⟨(some 31), .mov (.t 0), none⟩,
        ⟨(some 32), .nilchk .ptr (.t 31), none⟩,
        ⟨(some 33), .faddr false 2 1 (.t 32), none⟩,
        ⟨(some 34), .load false 1 (.t 33), none⟩,
        ⟨(some 35), .bin .sub (.t 34) (.c (.p (.int .i64 1))), none⟩,
        ⟨(some 36), .nilchk .ptr (.t 31), none⟩,
        ⟨(some 37), .faddr false 2 1 (.t 36), none⟩,
        ⟨none, .store 1 (.t 37) (.t 35), none⟩])
      (.seq (.rg [⟨(some 38), .load true 5 (.t 2), none⟩,
        ⟨none, .store 5 (.t 2) (.t 38), none⟩,
        ⟨(some 3), .mov (.c (.p (.bool true))), none⟩])
      .ret))
      .skip))
    (.block 0 (.loop (.block 1 (.seq (.rg [⟨(some 40), .mov (.t 0), none⟩,
         ⟨(some 41), .callr 65 [(.t 40)], none⟩,
         ⟨(some 39), .mov (.t 41), none⟩,
         ⟨(some 42), .ext (.t 39) 0, none⟩,
         ⟨(some 43), .ext (.t 39) 1, none⟩,
         ⟨(some 4), .alloc 5 (.agg [.p (.int .u8 0), .p (.bool false), .p (.string ⟨#[]⟩), .p (.slice none 0 0), .p (.slice none 0 0)]), none⟩,
         ⟨none, .store 5 (.t 4) (.t 42), none⟩,
         ⟨(some 5), .mov (.t 43), none⟩])
       (.seq (.seq (.rg [⟨(some 44), .mov (.t 5), none⟩,
         ⟨(some 45), .un .not (.t 44), none⟩])
       (.cond (.t 45) (.seq (.rg [⟨(some 46), .load true 5 (.t 2), none⟩,
           ⟨none, .store 5 (.t 2) (.t 46), none⟩,
           ⟨(some 3), .mov (.c (.p (.bool false))), none⟩])
         .ret)
         .skip))
       (.seq (.rg [⟨(some 47), .faddr false 3 1 (.t 2), none⟩,
         ⟨(some 48), .load false 1 (.t 47), none⟩,
         ⟨(some 49), .load true 5 (.t 4), none⟩,
         ⟨(some 50), .lit 5 [(.t 49)], none⟩,
         ⟨(some 51), .app 5 72 (.t 48) (.t 50), none⟩,
         ⟨(some 52), .faddr false 3 1 (.t 2), none⟩,
         ⟨none, .store 1 (.t 52) (.t 51), none⟩])
       (.seq (.rg [⟨(some 53), .mov (.t 0), none⟩,
         ⟨(some 54), .callr 66 [(.t 53)], none⟩])
       (.seq (.seq (.rg [⟨(some 55), .mov (.t 0), none⟩,
         ⟨(some 56), .callr 80 [(.t 55), (.c (.p (.string ⟨#[93]⟩)))], none⟩])
       (.cond (.t 56) (.seq (.rg [⟨(some 57), .mov (.t 0), none⟩,
           ⟨(some 58), .nilchk .ptr (.t 57), none⟩,
           ⟨(some 59), .faddr false 2 1 (.t 58), none⟩,
           ⟨(some 60), .load false 1 (.t 59), none⟩,
           ⟨(some 61), .bin .sub (.t 60) (.c (.p (.int .i64 1))), none⟩,
           ⟨(some 62), .nilchk .ptr (.t 57), none⟩,
           ⟨(some 63), .faddr false 2 1 (.t 62), none⟩,
           ⟨none, .store 1 (.t 63) (.t 61), none⟩])
         (.seq (.rg [⟨(some 64), .load true 5 (.t 2), none⟩,
           ⟨none, .store 5 (.t 2) (.t 64), none⟩,
           ⟨(some 3), .mov (.c (.p (.bool true))), none⟩])
         .ret))
         .skip))
       (.seq (.rg [⟨(some 65), .mov (.t 0), none⟩,
         ⟨(some 66), .callr 80 [(.t 65), (.c (.p (.string ⟨#[44]⟩)))], none⟩,
         ⟨(some 67), .un .not (.t 66), none⟩])
       (.cond (.t 67) (.seq (.rg [⟨(some 68), .load true 5 (.t 2), none⟩,
           ⟨none, .store 5 (.t 2) (.t 68), none⟩,
           ⟨(some 3), .mov (.c (.p (.bool false))), none⟩])
         .ret)
         .skip))))))))))))))))
def r78 : List DR := [.cell 2 true 5, .tmp 3]
theorem c78_ok : Tryz.f78.body.bind (cCode Tryz.prog) = some c78 := by kernel_rfl
theorem r78_ok : cRes Tryz.prog Tryz.f78.results.toList = some r78 := by kernel_rfl

/-- (*given.example/pub-assaymark/pub/zzjson.reader).text -/
def c79 : DC :=
  (.seq (.rg [⟨(some 2), .mov (.c (.p (.string ⟨#[]⟩))), none⟩,
      ⟨(some 3), .mov (.c (.p (.bool false))), none⟩])
    (.seq (.rg [⟨(some 13), .mov (.t 0), none⟩,
      ⟨(some 14), .nilchk .ptr (.t 13), none⟩,
      ⟨(some 15), .faddr false 1 1 (.t 14), none⟩,
      ⟨(some 16), .load false 1 (.t 15), none⟩,
      ⟨(some 17), .bin .add (.t 16) (.c (.p (.int .i64 1))), none⟩,
      ⟨(some 18), .nilchk .ptr (.t 13), none⟩,
      ⟨(some 19), .faddr false 1 1 (.t 18), none⟩,
      ⟨none, .store 1 (.t 19) (.t 17), none⟩])
    (.seq (.rg [⟨(some 4), .mov (.c (.p (.slice none 0 0))), none⟩])
    (.seq (.block 0 (.loop (.seq (.seq (.rgd [⟨⟨(some 20), .mov (.t 0), none⟩, 0, [0]⟩,
        ⟨⟨(some 21), .nilchk .ptr (.t 20), none⟩, 0, [0]⟩,
        ⟨⟨(some 22), .faddr false 1 1 (.t 21), none⟩, 0, [0]⟩,
        ⟨⟨(some 23), .load false 1 (.t 22), none⟩, 0, [0]⟩,
        ⟨⟨(some 24), .mov (.t 0), none⟩, 0, [0]⟩,
        ⟨⟨(some 25), .nilchk .ptr (.t 24), none⟩, 0, [0]⟩,
        ⟨⟨(some 26), .faddr false 0 1 (.t 25), none⟩, 0, [0]⟩,
        ⟨⟨(some 27), .load false 1 (.t 26), none⟩, 0, [0]⟩,
        ⟨⟨(some 28), .lenl (.t 27), none⟩, 0, [0]⟩,
        ⟨⟨(some 29), .bin .lss (.t 23) (.t 28), none⟩, 0, []⟩])
      (.cond (.t 29) .skip
        (.exit 0)))
      (.block 1 (.seq (.rgd [⟨⟨(some 30), .mov (.t 0), none⟩, 0, [0]⟩,
         ⟨⟨(some 31), .nilchk .ptr (.t 30), none⟩, 0, [0]⟩,
         ⟨⟨(some 32), .faddr false 0 1 (.t 31), none⟩, 0, [0]⟩,
         ⟨⟨(some 33), .load false 1 (.t 32), none⟩, 0, [0]⟩,
         ⟨⟨(some 34), .mov (.t 0), none⟩, 0, [0]⟩,
         ⟨⟨(some 35), .nilchk .ptr (.t 34), none⟩, 0, [0]⟩,
         ⟨⟨(some 36), .faddr false 1 1 (.t 35), none⟩, 0, [0]⟩,
         ⟨⟨(some 37), .load false 1 (.t 36), none⟩, 0, [0]⟩,
         ⟨⟨(some 38), .iaddr 1 (.t 33) (.t 37), none⟩, 0, [0]⟩,
         ⟨⟨(some 39), .load false 1 (.t 38), none⟩, 0, [0]⟩,
         ⟨⟨(some 5), .mov (.t 39), none⟩, 0, []⟩])
       (.seq (.block 2 (.seq (.rg [⟨(some 41), .mov (.t 5), none⟩,
          ⟨(some 42), .bin .eql (.t 41) (.c (.p (.int .u8 34))), none⟩,
          ⟨(some 40), .mov (.t 42), none⟩])
        (.cond (.t 40) (.seq (.rg [⟨(some 43), .mov (.t 0), none⟩,
            ⟨(some 44), .nilchk .ptr (.t 43), none⟩,
            ⟨(some 45), .faddr false 1 1 (.t 44), none⟩,
            ⟨(some 46), .load false 1 (.t 45), none⟩,
            ⟨(some 47), .bin .add (.t 46) (.c (.p (.int .i64 1))), none⟩,
            ⟨(some 48), .nilchk .ptr (.t 43), none⟩,
            ⟨(some 49), .faddr false 1 1 (.t 48), none⟩,
            ⟨none, .store 1 (.t 49) (.t 47), none⟩])
          (.seq (.rg [⟨(some 50), .mov (.t 4), none⟩,
            ⟨(some 51), .b2s (.t 50), none⟩,
            ⟨(some 2), .mov (.t 51), none⟩,
            ⟨(some 3), .mov (.c (.p (.bool true))), none⟩])
          .ret))
          (.seq (.rg [⟨(some 53), .mov (.t 5), none⟩,
            ⟨(some 54), .bin .lss (.t 53) (.c (.p (.int .u8 32))), none⟩,
            ⟨(some 52), .mov (.t 54), none⟩])
          (.cond (.t 52) (.seq (.rg [⟨(some 2), .mov (.c (.p (.string ⟨#[]⟩))), none⟩,
              ⟨(some 3), .mov (.c (.p (.bool false))), none⟩])
            .ret)
            (.seq (.rg [⟨(some 56), .mov (.t 5), none⟩,
              ⟨(some 57), .bin .neq (.t 56) (.c (.p (.int .u8 92))), none⟩,
              ⟨(some 55), .mov (.t 57), none⟩])
            (.cond (.t 55) (.seq (.rgd [⟨⟨(some 59), .mov (.t 0), none⟩, 0, [0]⟩,
                ⟨⟨(some 60), .nilchk .ptr (.t 59), none⟩, 0, [0]⟩,
                ⟨⟨(some 61), .faddr false 0 1 (.t 60), none⟩, 0, [0]⟩,
                ⟨⟨(some 62), .load false 1 (.t 61), none⟩, 0, [0]⟩,
                ⟨⟨(some 63), .mov (.t 0), none⟩, 0, [0]⟩,
                ⟨⟨(some 64), .nilchk .ptr (.t 63), none⟩, 0, [0]⟩,
                ⟨⟨(some 65), .faddr false 1 1 (.t 64), none⟩, 0, [0]⟩,
                ⟨⟨(some 66), .load false 1 (.t 65), none⟩, 0, [0]⟩,
                ⟨⟨(some 67), .slcl 1 (.t 62) (some (.t 66)) none, none⟩, 0, [0]⟩,
                ⟨⟨(some 68), .call 90 [(.t 67)], none⟩, 0, []⟩,
                ⟨⟨(some 58), .mov (.t 68), none⟩, 1, []⟩,
                ⟨⟨(some 69), .ext (.t 58) 0, none⟩, 1, []⟩,
                ⟨⟨(some 70), .ext (.t 58) 1, none⟩, 1, []⟩,
                ⟨⟨(some 6), .mov (.t 69), none⟩, 1, []⟩,
                ⟨⟨(some 7), .mov (.t 70), none⟩, 1, []⟩])
              (.seq (.rg [⟨(some 71), .mov (.t 0), none⟩,
                ⟨(some 72), .nilchk .ptr (.t 71), none⟩,
                ⟨(some 73), .faddr false 1 1 (.t 72), none⟩,
                ⟨(some 74), .load false 1 (.t 73), none⟩,
                ⟨(some 75), .mov (.t 7), none⟩,
                ⟨(some 76), .bin .add (.t 74) (.t 75), none⟩,
                ⟨(some 77), .nilchk .ptr (.t 71), none⟩,
                ⟨(some 78), .faddr false 1 1 (.t 77), none⟩,
                ⟨none, .store 1 (.t 78) (.t 76), none⟩])
              (.seq (.rg [⟨(some 79), .mov (.t 4), none⟩,
                ⟨(some 80), .mov (.t 6), none⟩,
                ⟨(some 81), .callr 91 [(.t 79), (.t 80)], none⟩,
                ⟨(some 4), .mov (.t 81), none⟩])
              (.exit 1))))
              .skip)))))))
       (.seq (.rg [⟨(some 82), .mov (.t 0), none⟩,
         ⟨(some 83), .nilchk .ptr (.t 82), none⟩,
         ⟨(some 84), .faddr false 1 1 (.t 83), none⟩,
         ⟨(some 85), .load false 1 (.t 84), none⟩,
         ⟨(some 86), .bin .add (.t 85) (.c (.p (.int .i64 1))), none⟩,
         ⟨(some 87), .nilchk .ptr (.t 82), none⟩,
         ⟨(some 88), .faddr false 1 1 (.t 87), none⟩,
         ⟨none, .store 1 (.t 88) (.t 86), none⟩])
       (.seq (.seq (.rgd [⟨⟨(some 89), .mov (.t 0), none⟩, 0, [0]⟩,
         ⟨⟨(some 90), .nilchk .ptr (.t 89), none⟩, 0, [0]⟩,
         ⟨⟨(some 91), .faddr false 1 1 (.t 90), none⟩, 0, [0]⟩,
         ⟨⟨(some 92), .load false 1 (.t 91), none⟩, 0, [0]⟩,
         ⟨⟨(some 93), .mov (.t 0), none⟩, 0, [0]⟩,
         ⟨⟨(some 94), .nilchk .ptr (.t 93), none⟩, 0, [0]⟩,
         ⟨⟨(some 95), .faddr false 0 1 (.t 94), none⟩, 0, [0]⟩,
         ⟨⟨(some 96), .load false 1 (.t 95), none⟩, 0, [0]⟩,
         ⟨⟨(some 97), .lenl (.t 96), none⟩, 0, [0]⟩,
         ⟨⟨(some 98), .bin .geq (.t 92) (.t 97), none⟩, 0, []⟩])
       (.cond (.t 98) (.seq (.rg [⟨(some 2), .mov (.c (.p (.string ⟨#[]⟩))), none⟩,
           ⟨(some 3), .mov (.c (.p (.bool false))), none⟩])
         .ret)
         .skip))
       (.seq (.rgd [⟨⟨(some 99), .mov (.t 0), none⟩, 0, [0]⟩,
         ⟨⟨(some 100), .nilchk .ptr (.t 99), none⟩, 0, [0]⟩,
         ⟨⟨(some 101), .faddr false 0 1 (.t 100), none⟩, 0, [0]⟩,
         ⟨⟨(some 102), .load false 1 (.t 101), none⟩, 0, [0]⟩,
         ⟨⟨(some 103), .mov (.t 0), none⟩, 0, [0]⟩,
         ⟨⟨(some 104), .nilchk .ptr (.t 103), none⟩, 0, [0]⟩,
         ⟨⟨(some 105), .faddr false 1 1 (.t 104), none⟩, 0, [0]⟩,
         ⟨⟨(some 106), .load false 1 (.t 105), none⟩, 0, [0]⟩,
         ⟨⟨(some 107), .iaddr 1 (.t 102) (.t 106), none⟩, 0, [0]⟩,
         ⟨⟨(some 108), .load false 1 (.t 107), none⟩, 0, [0]⟩,
         ⟨⟨(some 5), .mov (.t 108), none⟩, 0, []⟩])
       (.seq (.rg [⟨(some 109), .mov (.t 0), none⟩,
         ⟨(some 110), .nilchk .ptr (.t 109), none⟩,
         ⟨(some 111), .faddr false 1 1 (.t 110), none⟩,
         ⟨(some 112), .load false 1 (.t 111), none⟩,
         ⟨(some 113), .bin .add (.t 112) (.c (.p (.int .i64 1))), none⟩,
         ⟨(some 114), .nilchk .ptr (.t 109), none⟩,
         ⟨(some 115), .faddr false 1 1 (.t 114), none⟩,
         ⟨none, .store 1 (.t 115) (.t 113), none⟩])
       (.seq (.rg [⟨(some 116), .mov (.t 5), none⟩])
       (.block 3 (.seq (.seq (.rg [⟨(some 118), .bin .eql (.t 116) (.c (.p (.int .u8 34))), none⟩,
          ⟨(some 117), .mov (.t 118), none⟩])
        (.cond (.t 117) .skip
          (.seq (.rg [⟨(some 119), .bin .eql (.t 116) (.c (.p (.int .u8 92))), none⟩,
            ⟨(some 117), .mov (.t 119), none⟩])
          (.cond (.t 117) .skip
            (.rg [⟨(some 120), .bin .eql (.t 116) (.c (.p (.int .u8 47))), none⟩,
              ⟨(some 117), .mov (.t 120), none⟩])))))
        (.cond (.t 117) (.rg [⟨(some 121), .mov (.t 4), none⟩,
            ⟨(some 122), .mov (.t 5), none⟩,
            ⟨(some 123), .lit 1 [(.t 122)], none⟩,
            ⟨(some 124), .app 1 1 (.t 121) (.t 123), none⟩,
            ⟨(some 4), .mov (.t 124), none⟩])
          (.seq (.rg [⟨(some 126), .bin .eql (.t 116) (.c (.p (.int .u8 98))), none⟩,
            ⟨(some 125), .mov (.t 126), none⟩])
          (.cond (.t 125) (.rg [⟨(some 127), .mov (.t 4), none⟩,
              ⟨(some 128), .lit 1 [(.c (.p (.int .u8 8)))], none⟩,
              ⟨(some 129), .app 1 1 (.t 127) (.t 128), none⟩,
              ⟨(some 4), .mov (.t 129), none⟩])
            (.seq (.rg [⟨(some 131), .bin .eql (.t 116) (.c (.p (.int .u8 102))), none⟩,
              ⟨(some 130), .mov (.t 131), none⟩])
            (.cond (.t 130) (.rg [⟨(some 132), .mov (.t 4), none⟩,
                ⟨(some 133), .lit 1 [(.c (.p (.int .u8 12)))], none⟩,
                ⟨(some 134), .app 1 1 (.t 132) (.t 133), none⟩,
                ⟨(some 4), .mov (.t 134), none⟩])
              (.seq (.rg [⟨(some 136), .bin .eql (.t 116) (.c (.p (.int .u8 110))), none⟩,
                ⟨(some 135), .mov (.t 136), none⟩])
              (.cond (.t 135) (.rg [⟨(some 137), .mov (.t 4), none⟩,
                  ⟨(some 138), .lit 1 [(.c (.p (.int .u8 10)))], none⟩,
                  ⟨(some 139), .app 1 1 (.t 137) (.t 138), none⟩,
                  ⟨(some 4), .mov (.t 139), none⟩])
                (.seq (.rg [⟨(some 141), .bin .eql (.t 116) (.c (.p (.int .u8 114))), none⟩,
                  ⟨(some 140), .mov (.t 141), none⟩])
                (.cond (.t 140) (.rg [⟨(some 142), .mov (.t 4), none⟩,
                    ⟨(some 143), .lit 1 [(.c (.p (.int .u8 13)))], none⟩,
                    ⟨(some 144), .app 1 1 (.t 142) (.t 143), none⟩,
                    ⟨(some 4), .mov (.t 144), none⟩])
                  (.seq (.rg [⟨(some 146), .bin .eql (.t 116) (.c (.p (.int .u8 116))), none⟩,
                    ⟨(some 145), .mov (.t 146), none⟩])
                  (.cond (.t 145) (.rg [⟨(some 147), .mov (.t 4), none⟩,
                      ⟨(some 148), .lit 1 [(.c (.p (.int .u8 9)))], none⟩,
                      ⟨(some 149), .app 1 1 (.t 147) (.t 148), none⟩,
                      ⟨(some 4), .mov (.t 149), none⟩])
                    (.seq (.rg [⟨(some 151), .bin .eql (.t 116) (.c (.p (.int .u8 117))), none⟩,
                      ⟨(some 150), .mov (.t 151), none⟩])
                    (.cond (.t 150) (.seq (.rg [⟨(some 153), .mov (.t 0), none⟩,
                        ⟨(some 154), .callr 92 [(.t 153)], none⟩,
                        ⟨(some 152), .mov (.t 154), none⟩,
                        ⟨(some 155), .ext (.t 152) 0, none⟩,
                        ⟨(some 156), .ext (.t 152) 1, none⟩,
                        ⟨(some 8), .mov (.t 155), none⟩,
                        ⟨(some 9), .mov (.t 156), none⟩])
                      (.seq (.seq (.rg [⟨(some 157), .mov (.t 9), none⟩,
                        ⟨(some 158), .un .not (.t 157), none⟩])
                      (.cond (.t 158) (.seq (.rg [⟨(some 2), .mov (.c (.p (.string ⟨#[]⟩))), none⟩,
                          ⟨(some 3), .mov (.c (.p (.bool false))), none⟩])
                        .ret)
                        .skip))
                      (.seq (.seq (.rg [⟨(some 159), .mov (.t 8), none⟩,
                        ⟨(some 160), .bin .geq (.t 159) (.c (.p (.int .i32 55296))), none⟩,
                        ⟨(some 161), .mov (.t 160), none⟩,
                        ⟨(some 162), .mov (.t 8), (some (161, true))⟩,
                        ⟨(some 163), .bin .lss (.t 162) (.c (.p (.int .i32 56320))), (some (161, true))⟩,
                        ⟨(some 164), .pick (.t 161) (.t 163) (.c (.p (.bool false))), none⟩])
                      (.cond (.t 164) (.seq (.rg [⟨(some 165), .mov (.t 0), none⟩,
                          ⟨(some 166), .nilchk .ptr (.t 165), none⟩,
                          ⟨(some 167), .faddr false 1 1 (.t 166), none⟩,
                          ⟨(some 168), .load false 1 (.t 167), none⟩,
                          ⟨(some 10), .mov (.t 168), none⟩])
                        (.seq (.rg [⟨(some 169), .mov (.t 0), none⟩,
                          ⟨(some 170), .callr 80 [(.t 169), (.c (.p (.string ⟨#[92, 117]⟩)))], none⟩])
                        (.cond (.t 170) (.seq (.rg [⟨(some 172), .mov (.t 0), none⟩,
                            ⟨(some 173), .callr 92 [(.t 172)], none⟩,
                            ⟨(some 171), .mov (.t 173), none⟩,
                            ⟨(some 174), .ext (.t 171) 0, none⟩,
                            ⟨(some 175), .ext (.t 171) 1, none⟩,
                            ⟨(some 11), .mov (.t 174), none⟩,
                            ⟨(some 12), .mov (.t 175), none⟩])
                          (.seq (.seq (.rg [⟨(some 176), .mov (.t 12), none⟩,
                            ⟨(some 177), .un .not (.t 176), none⟩])
                          (.cond (.t 177) (.seq (.rg [⟨(some 2), .mov (.c (.p (.string ⟨#[]⟩))), none⟩,
                              ⟨(some 3), .mov (.c (.p (.bool false))), none⟩])
                            .ret)
                            .skip))
                          (.seq (.rg [⟨(some 178), .mov (.t 11), none⟩,
                            ⟨(some 179), .bin .geq (.t 178) (.c (.p (.int .i32 56320))), none⟩,
                            ⟨(some 180), .mov (.t 179), none⟩,
                            ⟨(some 181), .mov (.t 11), (some (180, true))⟩,
                            ⟨(some 182), .bin .lss (.t 181) (.c (.p (.int .i32 57344))), (some (180, true))⟩,
                            ⟨(some 183), .pick (.t 180) (.t 182) (.c (.p (.bool false))), none⟩])
                          (.cond (.t 183) (.rg [⟨(some 184), .mov (.t 8), none⟩,
                              ⟨(some 185), .bin .sub (.t 184) (.c (.p (.int .i32 55296))), none⟩,
                              ⟨(some 186), .bin .shl (.t 185) (.c (.p (.int .u64 10))), none⟩,
                              ⟨(some 187), .bin .add (.c (.p (.int .i32 65536))) (.t 186), none⟩,
                              ⟨(some 188), .mov (.t 11), none⟩,
                              ⟨(some 189), .bin .sub (.t 188) (.c (.p (.int .i32 56320))), none⟩,
                              ⟨(some 190), .bin .add (.t 187) (.t 189), none⟩,
                              ⟨(some 8), .mov (.t 190), none⟩])
                            (.rg [⟨(some 191), .mov (.t 0), none⟩,
                              ⟨(some 192), .mov (.t 10), none⟩,
                              ⟨(some 193), .nilchk .ptr (.t 191), none⟩,
                              ⟨(some 194), .faddr false 1 1 (.t 193), none⟩,
                              ⟨none, .store 1 (.t 194) (.t 192), none⟩])))))
                          .skip)))
                        .skip))
                      (.rg [⟨(some 195), .mov (.t 4), none⟩,
                        ⟨(some 196), .mov (.t 8), none⟩,
                        ⟨(some 197), .callr 91 [(.t 195), (.t 196)], none⟩,
                        ⟨(some 4), .mov (.t 197), none⟩]))))
                      (.seq (.rg [⟨(some 2), .mov (.c (.p (.string ⟨#[]⟩))), none⟩,
                        ⟨(some 3), .mov (.c (.p (.bool false))), none⟩])
                      .ret)))))))))))))))))))))))))))
    (.seq (.rg [⟨(some 2), .mov (.c (.p (.string ⟨#[]⟩))), none⟩,
      ⟨(some 3), .mov (.c (.p (.bool false))), none⟩])
    .ret)))))
def r79 : List DR := [.tmp 2, .tmp 3]
theorem c79_ok : Tryz.f79.body.bind (cCode Tryz.prog) = some c79 := by kernel_rfl
theorem r79_ok : cRes Tryz.prog Tryz.f79.results.toList = some r79 := by kernel_rfl

/-- (*given.example/pub-assaymark/pub/zzjson.reader).word -/
def c80 : DC :=
  (.seq (.rg [⟨(some 4), .mov (.c (.p (.bool false))), none⟩])
    (.seq (.seq (.rgd [⟨⟨(some 5), .mov (.t 0), none⟩, 0, [0]⟩,
      ⟨⟨(some 6), .nilchk .ptr (.t 5), none⟩, 0, [0]⟩,
      ⟨⟨(some 7), .faddr false 1 1 (.t 6), none⟩, 0, [0]⟩,
      ⟨⟨(some 8), .load false 1 (.t 7), none⟩, 0, [0]⟩,
      ⟨⟨(some 9), .mov (.t 1), none⟩, 0, [0]⟩,
      ⟨⟨(some 10), .lens (.t 9), none⟩, 0, [0]⟩,
      ⟨⟨(some 11), .bin .add (.t 8) (.t 10), none⟩, 0, [0]⟩,
      ⟨⟨(some 12), .mov (.t 0), none⟩, 0, [0]⟩,
      ⟨⟨(some 13), .nilchk .ptr (.t 12), none⟩, 0, [0]⟩,
      ⟨⟨(some 14), .faddr false 0 1 (.t 13), none⟩, 0, [0]⟩,
      ⟨⟨(some 15), .load false 1 (.t 14), none⟩, 0, [0]⟩,
      ⟨⟨(some 16), .lenl (.t 15), none⟩, 0, [0]⟩,
      ⟨⟨(some 17), .bin .gtr (.t 11) (.t 16), none⟩, 0, []⟩,
      ⟨⟨(some 18), .mov (.t 17), none⟩, 0, []⟩,
      ⟨⟨(some 19), .mov (.t 0), (some (18, false))⟩, 0, [0]⟩,
      ⟨⟨(some 20), .nilchk .ptr (.t 19), (some (18, false))⟩, 0, [0]⟩,
      ⟨⟨(some 21), .faddr false 0 1 (.t 20), (some (18, false))⟩, 0, [0]⟩,
      ⟨⟨(some 22), .load false 1 (.t 21), (some (18, false))⟩, 0, [0]⟩,
      ⟨⟨(some 23), .mov (.t 0), (some (18, false))⟩, 0, [0]⟩,
      ⟨⟨(some 24), .nilchk .ptr (.t 23), (some (18, false))⟩, 0, [0]⟩,
      ⟨⟨(some 25), .faddr false 1 1 (.t 24), (some (18, false))⟩, 0, [0]⟩,
      ⟨⟨(some 26), .load false 1 (.t 25), (some (18, false))⟩, 0, [0]⟩,
      ⟨⟨(some 27), .mov (.t 0), (some (18, false))⟩, 0, [0]⟩,
      ⟨⟨(some 28), .nilchk .ptr (.t 27), (some (18, false))⟩, 0, [0]⟩,
      ⟨⟨(some 29), .faddr false 1 1 (.t 28), (some (18, false))⟩, 0, [0]⟩,
      ⟨⟨(some 30), .load false 1 (.t 29), (some (18, false))⟩, 0, [0]⟩,
      ⟨⟨(some 31), .mov (.t 1), (some (18, false))⟩, 0, [0]⟩,
      ⟨⟨(some 32), .lens (.t 31), (some (18, false))⟩, 0, [0]⟩,
      ⟨⟨(some 33), .bin .add (.t 30) (.t 32), (some (18, false))⟩, 0, [0]⟩,
      ⟨⟨(some 34), .slcl 1 (.t 22) (some (.t 26)) (some (.t 33)), (some (18, false))⟩, 0, [0]⟩,
      ⟨⟨(some 35), .b2s (.t 34), (some (18, false))⟩, 0, [0]⟩,
      ⟨⟨(some 36), .mov (.t 1), (some (18, false))⟩, 0, [0]⟩,
      ⟨⟨(some 37), .bin .neq (.t 35) (.t 36), (some (18, false))⟩, 0, []⟩,
      ⟨⟨(some 38), .pick (.t 18) (.c (.p (.bool true))) (.t 37), none⟩, 0, []⟩])
    (.cond (.t 38) (.seq (.rg [⟨(some 4), .mov (.c (.p (.bool false))), none⟩])
      .ret)
      .skip))
    (.seq (.rg [⟨(some 39), .mov (.t 0), none⟩,
      ⟨(some 40), .nilchk .ptr (.t 39), none⟩,
      ⟨(some 41), .faddr false 1 1 (.t 40), none⟩,
      ⟨(some 42), .load false 1 (.t 41), none⟩,
      ⟨(some 43), .mov (.t 1), none⟩,
      ⟨(some 44), .lens (.t 43), none⟩,
      ⟨(some 45), .bin .add (.t 42) (.t 44), none⟩,
      ⟨(some 46), .nilchk .ptr (.t 39), none⟩,
      ⟨(some 47), .faddr false 1 1 (.t 46), none⟩,
      ⟨none, .store 1 (.t 47) (.t 45), none⟩])
    (.seq (.rg [⟨(some 4), .mov (.c (.p (.bool true))), none⟩])
    .ret))))
def r80 : List DR := [.tmp 4]
theorem c80_ok : Tryz.f80.body.bind (cCode Tryz.prog) = some c80 := by kernel_rfl
theorem r80_ok : cRes Tryz.prog Tryz.f80.results.toList = some r80 := by kernel_rfl

/-- unicode/utf8.DecodeRune -/
def c90 : DC :=
  (.seq (.rg [⟨(some 2), .mov (.c (.p (.int .i32 0))), none⟩,
      ⟨(some 3), .mov (.c (.p (.int .i64 0))), none⟩])
    (.seq (.seq (.rg [⟨(some 6), .mov (.t 0), none⟩,
      ⟨(some 7), .lenl (.t 6), none⟩,
      ⟨(some 8), .mov (.c (.p (.int .i64 0))), none⟩])
    (.block 0 (.loop (.seq (.rg [⟨(some 9), .bin .lss (.t 8) (.t 7), none⟩])
      (.seq (.cond (.t 9) .skip
        (.exit 0))
      (.seq (.block 1 (.seq (.rg [⟨(some 10), .iaddr 1 (.t 6) (.t 8), none⟩,
         ⟨(some 11), .load false 1 (.t 10), none⟩,
         ⟨(some 5), .mov (.t 11), none⟩])
       (.seq (.seq (.rg [⟨(some 12), .mov (.t 5), none⟩,
         ⟨(some 13), .bin .lss (.t 12) (.c (.p (.int .u8 128))), none⟩])
       (.cond (.t 13) (.seq (.rg [⟨(some 14), .mov (.t 5), none⟩,
           ⟨(some 15), .cint .i32 (.t 14), none⟩,
           ⟨(some 2), .mov (.t 15), none⟩,
           ⟨(some 3), .mov (.c (.p (.int .i64 1))), none⟩])
         .ret)
         .skip))
       (.exit 0))))
      (.rg [⟨(some 16), .bin .add (.t 8) (.c (.p (.int .i64 1))), none⟩,
        ⟨(some 8), .mov (.t 16), none⟩])))))))
    (.seq (.rg [⟨(some 18), .mov (.t 0), none⟩,
      ⟨(some 19), .callr 115 [(.t 18)], none⟩,
      ⟨(some 17), .mov (.t 19), none⟩,
      ⟨(some 20), .ext (.t 17) 0, none⟩,
      ⟨(some 21), .ext (.t 17) 1, none⟩,
      ⟨(some 2), .mov (.t 20), none⟩,
      ⟨(some 3), .mov (.t 21), none⟩])
    .ret)))
def r90 : List DR := [.tmp 2, .tmp 3]
theorem c90_ok : Tryz.f90.body.bind (cCode Tryz.prog) = some c90 := by kernel_rfl
theorem r90_ok : cRes Tryz.prog Tryz.f90.results.toList = some r90 := by kernel_rfl

/-- unicode/utf8.AppendRune -/
def c91 : DC :=
  (.seq (.rg [⟨(some 4), .mov (.c (.p (.slice none 0 0))), none⟩])
    (.seq (.seq (.rg [⟨(some 5), .mov (.t 1), none⟩,
      ⟨(some 6), .cint .u32 (.t 5), none⟩,
      ⟨(some 7), .bin .leq (.t 6) (.c (.p (.int .u32 127))), none⟩])
    (.cond (.t 7) (.seq (.rg [⟨(some 8), .mov (.t 0), none⟩,
        ⟨(some 9), .mov (.t 1), none⟩,
        ⟨(some 10), .cint .u8 (.t 9), none⟩,
        ⟨(some 11), .lit 1 [(.t 10)], none⟩,
        ⟨(some 12), .app 1 1 (.t 8) (.t 11), none⟩,
        ⟨(some 4), .mov (.t 12), none⟩])
      .ret)
      .skip))
    (.seq (.rg [⟨(some 13), .mov (.t 0), none⟩,
      ⟨(some 14), .mov (.t 1), none⟩,
      ⟨(some 15), .callr 116 [(.t 13), (.t 14)], none⟩,
      ⟨(some 4), .mov (.t 15), none⟩])
    .ret)))
def r91 : List DR := [.tmp 4]
theorem c91_ok : Tryz.f91.body.bind (cCode Tryz.prog) = some c91 := by kernel_rfl
theorem r91_ok : cRes Tryz.prog Tryz.f91.results.toList = some r91 := by kernel_rfl

/-- (*given.example/pub-assaymark/pub/zzjson.reader).unit -/
def c92 : DC :=
  (.seq (.rg [⟨(some 2), .mov (.c (.p (.int .i32 0))), none⟩,
      ⟨(some 3), .mov (.c (.p (.bool false))), none⟩])
    (.seq (.seq (.rgd [⟨⟨(some 5), .mov (.t 0), none⟩, 0, [0]⟩,
      ⟨⟨(some 6), .nilchk .ptr (.t 5), none⟩, 0, [0]⟩,
      ⟨⟨(some 7), .faddr false 1 1 (.t 6), none⟩, 0, [0]⟩,
      ⟨⟨(some 8), .load false 1 (.t 7), none⟩, 0, [0]⟩,
      ⟨⟨(some 9), .bin .add (.t 8) (.c (.p (.int .i64 4))), none⟩, 0, [0]⟩,
      ⟨⟨(some 10), .mov (.t 0), none⟩, 0, [0]⟩,
      ⟨⟨(some 11), .nilchk .ptr (.t 10), none⟩, 0, [0]⟩,
      ⟨⟨(some 12), .faddr false 0 1 (.t 11), none⟩, 0, [0]⟩,
      ⟨⟨(some 13), .load false 1 (.t 12), none⟩, 0, [0]⟩,
      ⟨⟨(some 14), .lenl (.t 13), none⟩, 0, [0]⟩,
      ⟨⟨(some 15), .bin .gtr (.t 9) (.t 14), none⟩, 0, []⟩])
    (.cond (.t 15) (.seq (.rg [⟨(some 2), .mov (.c (.p (.int .i32 0))), none⟩,
        ⟨(some 3), .mov (.c (.p (.bool false))), none⟩])
      .ret)
      .skip))
    (.seq (.seq (.rg [⟨(some 16), .mov (.c (.p (.int .i64 0))), none⟩])
    (.block 0 (.loop (.seq (.rg [⟨(some 17), .bin .lss (.t 16) (.c (.p (.int .i64 4))), none⟩])
      (.seq (.cond (.t 17) .skip
        (.exit 0))
      (.seq (.block 1 (.seq (.rgd [⟨⟨(some 18), .mov (.t 0), none⟩, 0, [0]⟩,
         ⟨⟨(some 19), .nilchk .ptr (.t 18), none⟩, 0, [0]⟩,
         ⟨⟨(some 20), .faddr false 0 1 (.t 19), none⟩, 0, [0]⟩,
         ⟨⟨(some 21), .load false 1 (.t 20), none⟩, 0, [0]⟩,
         ⟨⟨(some 22), .mov (.t 0), none⟩, 0, [0]⟩,
         ⟨⟨(some 23), .nilchk .ptr (.t 22), none⟩, 0, [0]⟩,
         ⟨⟨(some 24), .faddr false 1 1 (.t 23), none⟩, 0, [0]⟩,
         ⟨⟨(some 25), .load false 1 (.t 24), none⟩, 0, [0]⟩,
         ⟨⟨(some 26), .iaddr 1 (.t 21) (.t 25), none⟩, 0, [0]⟩,
         ⟨⟨(some 27), .load false 1 (.t 26), none⟩, 0, [0]⟩,
         ⟨⟨(some 4), .mov (.t 27), none⟩, 0, []⟩])
       (.seq (.block 2 (.seq (.rg [⟨(some 29), .mov (.t 4), none⟩,
          ⟨(some 30), .bin .geq (.t 29) (.c (.p (.int .u8 48))), none⟩,
          ⟨(some 31), .mov (.t 30), none⟩,
          ⟨(some 32), .mov (.t 4), (some (31, true))⟩,
          ⟨(some 33), .bin .leq (.t 32) (.c (.p (.int .u8 57))), (some (31, true))⟩,
          ⟨(some 34), .pick (.t 31) (.t 33) (.c (.p (.bool false))), none⟩,
          ⟨(some 28), .mov (.t 34), none⟩])
        (.cond (.t 28) (.rg [⟨(some 35), .mov (.t 2), none⟩,
            ⟨(some 36), .bin .shl (.t 35) (.c (.p (.int .u64 4))), none⟩,
            ⟨(some 37), .mov (.t 4), none⟩,
            ⟨(some 38), .bin .sub (.t 37) (.c (.p (.int .u8 48))), none⟩,
            ⟨(some 39), .cint .i32 (.t 38), none⟩,
            ⟨(some 40), .bin .or (.t 36) (.t 39), none⟩,
            ⟨(some 2), .mov (.t 40), none⟩])
          (.seq (.rg [⟨(some 42), .mov (.t 4), none⟩,
            ⟨(some 43), .bin .geq (.t 42) (.c (.p (.int .u8 97))), none⟩,
            ⟨(some 44), .mov (.t 43), none⟩,
            ⟨(some 45), .mov (.t 4), (some (44, true))⟩,
            ⟨(some 46), .bin .leq (.t 45) (.c (.p (.int .u8 102))), (some (44, true))⟩,
            ⟨(some 47), .pick (.t 44) (.t 46) (.c (.p (.bool false))), none⟩,
            ⟨(some 41), .mov (.t 47), none⟩])
          (.cond (.t 41) (.rg [⟨(some 48), .mov (.t 2), none⟩,
              ⟨(some 49), .bin .shl (.t 48) (.c (.p (.int .u64 4))), none⟩,
              ⟨(some 50), .mov (.t 4), none⟩,
              ⟨(some 51), .bin .sub (.t 50) (.c (.p (.int .u8 97))), none⟩,
              ⟨(some 52), .bin .add (.t 51) (.c (.p (.int .u8 10))), none⟩,
              ⟨(some 53), .cint .i32 (.t 52), none⟩,
              ⟨(some 54), .bin .or (.t 49) (.t 53), none⟩,
              ⟨(some 2), .mov (.t 54), none⟩])
            (.seq (.rg [⟨(some 56), .mov (.t 4), none⟩,
              ⟨(some 57), .bin .geq (.t 56) (.c (.p (.int .u8 65))), none⟩,
              ⟨(some 58), .mov (.t 57), none⟩,
              ⟨(some 59), .mov (.t 4), (some (58, true))⟩,
              ⟨(some 60), .bin .leq (.t 59) (.c (.p (.int .u8 70))), (some (58, true))⟩,
              ⟨(some 61), .pick (.t 58) (.t 60) (.c (.p (.bool false))), none⟩,
              ⟨(some 55), .mov (.t 61), none⟩])
            (.cond (.t 55) (.rg [⟨(some 62), .mov (.t 2), none⟩,
                ⟨(some 63), .bin .shl (.t 62) (.c (.p (.int .u64 4))), none⟩,
                ⟨(some 64), .mov (.t 4), none⟩,
                ⟨(some 65), .bin .sub (.t 64) (.c (.p (.int .u8 65))), none⟩,
                ⟨(some 66), .bin .add (.t 65) (.c (.p (.int .u8 10))), none⟩,
                ⟨(some 67), .cint .i32 (.t 66), none⟩,
                ⟨(some 68), .bin .or (.t 63) (.t 67), none⟩,
                ⟨(some 2), .mov (.t 68), none⟩])
              (.seq (.rg [⟨(some 2), .mov (.c (.p (.int .i32 0))), none⟩,
                ⟨(some 3), .mov (.c (.p (.bool false))), none⟩])
              .ret))))))))
       (.rg [⟨(some 69), .mov (.t 0), none⟩,
         ⟨(some 70), .nilchk .ptr (.t 69), none⟩,
         ⟨(some 71), .faddr false 1 1 (.t 70), none⟩,
         ⟨(some 72), .load false 1 (.t 71), none⟩,
         ⟨(some 73), .bin .add (.t 72) (.c (.p (.int .i64 1))), none⟩,
         ⟨(some 74), .nilchk .ptr (.t 69), none⟩,
         ⟨(some 75), .faddr false 1 1 (.t 74), none⟩,
         ⟨none, .store 1 (.t 75) (.t 73), none⟩]))))
      (.rg [⟨(some 76), .bin .add (.t 16) (.c (.p (.int .i64 1))), none⟩,
        ⟨(some 16), .mov (.t 76), none⟩])))))))
    (.seq (.rg [⟨(some 77), .mov (.t 2), none⟩,
      ⟨(some 2), .mov (.t 77), none⟩,
      ⟨(some 3), .mov (.c (.p (.bool true))), none⟩])
    .ret))))
def r92 : List DR := [.tmp 2, .tmp 3]
theorem c92_ok : Tryz.f92.body.bind (cCode Tryz.prog) = some c92 := by kernel_rfl
theorem r92_ok : cRes Tryz.prog Tryz.f92.results.toList = some r92 := by kernel_rfl

/-- (*given.example/pub-assaymark/pub/miniogo/pkg/set.zzAny).ZzTake -/
def c147 : DC :=
  (.seq (.rg [⟨(some 3), .box (.t 1), none⟩,
      ⟨(some 4), .mov (.c (.p (.bool false))), none⟩])
    (.seq (.seq (.rg [⟨(some 12), .faddr false 0 1 (.t 3), none⟩,
      ⟨(some 13), .load false 1 (.t 12), none⟩])
    (.block 0 (.seq (.rg [⟨(some 15), .bin .eql (.t 13) (.c (.p (.int .u8 110))), none⟩,
       ⟨(some 14), .mov (.t 15), none⟩])
     (.cond (.t 14) (.seq (.rg [⟨(some 16), .mov (.t 0), none⟩,
         ⟨(some 17), .nilchk .ptr (.t 16), none⟩,
         ⟨none, .store 1 (.t 17) (.c (.p (.slice none 0 0))), none⟩])
       (.seq (.rg [⟨(some 4), .mov (.c (.p (.bool true))), none⟩])
       .ret))
       (.seq (.rg [⟨(some 19), .bin .eql (.t 13) (.c (.p (.int .u8 91))), none⟩,
         ⟨(some 18), .mov (.t 19), none⟩])
       (.cond (.t 18) (.seq (.rg [⟨(some 5), .mov (.c (.p (.bool true))), none⟩])
         (.seq (.seq (.rg [⟨(some 20), .faddr false 3 1 (.t 3), none⟩,
           ⟨(some 21), .load false 1 (.t 20), none⟩,
           ⟨(some 22), .lenl (.t 21), none⟩,
           ⟨(some 23), .mov (.c (.p (.int .i64 0))), none⟩])
         (.block 1 (.loop (.seq (.rg [⟨(some 24), .bin .lss (.t 23) (.t 22), none⟩])
           (.seq (.cond (.t 24) .skip
             (.exit 1))
           (.seq (.block 2 (.seq (.rg [⟨(some 25), .iaddr 5 (.t 21) (.t 23), none⟩,
              ⟨(some 26), .load true 5 (.t 25), none⟩,
              ⟨(some 7), .alloc 5 (.agg [.p (.int .u8 0), .p (.bool false), .p (.string ⟨#[]⟩), .p (.slice none 0 0), .p (.slice none 0 0)]), none⟩,
              ⟨none, .store 5 (.t 7) (.t 26), none⟩])
            (.seq (.rg [⟨(some 28), .load true 5 (.t 7), none⟩,
              ⟨(some 29), .callr 148 [(.t 28)], none⟩,
              ⟨(some 27), .mov (.t 29), none⟩,
              ⟨(some 30), .ext (.t 27) 0, none⟩,
              ⟨(some 31), .ext (.t 27) 1, none⟩,
              ⟨(some 8), .mov (.t 30), none⟩,
              ⟨(some 9), .mov (.t 31), none⟩])
            (.seq (.rg [⟨(some 32), .mov (.t 0), none⟩,
              ⟨(some 33), .mov (.t 0), none⟩,
              ⟨(some 34), .nilchk .ptr (.t 33), none⟩,
              ⟨(some 35), .load false 1 (.t 34), none⟩,
              ⟨(some 36), .mov (.t 8), none⟩,
              ⟨(some 37), .lit 1 [(.t 36)], none⟩,
              ⟨(some 38), .app 1 16 (.t 35) (.t 37), none⟩,
              ⟨(some 39), .nilchk .ptr (.t 32), none⟩,
              ⟨none, .store 1 (.t 39) (.t 38), none⟩])
            (.rg [⟨(some 40), .mov (.t 5), none⟩,
              ⟨(some 41), .mov (.t 40), none⟩,
              ⟨(some 42), .mov (.t 9), (some (41, true))⟩,
              ⟨(some 43), .pick (.t 41) (.t 42) (.c (.p (.bool false))), none⟩,
              ⟨(some 5), .mov (.t 43), none⟩])))))
           (.rg [⟨(some 44), .bin .add (.t 23) (.c (.p (.int .i64 1))), none⟩,
             ⟨(some 23), .mov (.t 44), none⟩])))))))
         (.seq (.rg [⟨(some 45), .mov (.t 5), none⟩,
           ⟨(some 4), .mov (.t 45), none⟩])
         .ret)))
         .skip))))))
    (.seq (.rg [⟨(some 47), .load true 5 (.t 3), none⟩,
      ⟨(some 48), .callr 148 [(.t 47)], none⟩,
      ⟨(some 46), .mov (.t 48), none⟩,
      ⟨(some 49), .ext (.t 46) 0, none⟩,
      ⟨(some 50), .ext (.t 46) 1, none⟩,
      ⟨(some 10), .mov (.t 49), none⟩,
      ⟨(some 11), .mov (.t 50), none⟩])
    (.seq (.rg [⟨(some 51), .mov (.t 0), none⟩,
      ⟨(some 52), .mov (.t 10), none⟩,
      ⟨(some 53), .lit 1 [(.t 52)], none⟩,
      ⟨(some 54), .nilchk .ptr (.t 51), none⟩,
      ⟨none, .store 1 (.t 54) (.t 53), none⟩])
    (.seq (.rg [⟨(some 55), .mov (.t 11), none⟩,
      ⟨(some 4), .mov (.t 55), none⟩])
    .ret)))))
def r147 : List DR := [.tmp 4]
theorem c147_ok : Tryz.f147.body.bind (cCode Tryz.prog) = some c147 := by kernel_rfl
theorem r147_ok : cRes Tryz.prog Tryz.f147.results.toList = some r147 := by kernel_rfl

/-- given.example/pub-assaymark/pub/miniogo/pkg/set.zzTell -/
def c148 : DC :=
  (.seq (.rg [⟨(some 1), .box (.t 0), none⟩,
      ⟨(some 2), .mov (.c (.p (.string ⟨#[]⟩))), none⟩,
      ⟨(some 3), .mov (.c (.p (.bool false))), none⟩])
    (.seq (.seq (.rg [⟨(some 21), .faddr false 0 1 (.t 1), none⟩,
      ⟨(some 22), .load false 1 (.t 21), none⟩])
    (.block 0 (.seq (.rg [⟨(some 24), .bin .eql (.t 22) (.c (.p (.int .u8 34))), none⟩,
       ⟨(some 23), .mov (.t 24), none⟩])
     (.cond (.t 23) (.seq (.rg [⟨(some 25), .faddr false 2 1 (.t 1), none⟩,
         ⟨(some 26), .load false 1 (.t 25), none⟩,
         ⟨(some 2), .mov (.t 26), none⟩,
         ⟨(some 3), .mov (.c (.p (.bool true))), none⟩])
       .ret)
       (.seq (.rg [⟨(some 28), .bin .eql (.t 22) (.c (.p (.int .u8 116))), none⟩,
         ⟨(some 27), .mov (.t 28), none⟩])
       (.cond (.t 27) (.seq (.rg [⟨(some 2), .mov (.c (.p (.string ⟨#[116, 114, 117, 101]⟩))), none⟩,
           ⟨(some 3), .mov (.c (.p (.bool true))), none⟩])
         .ret)
         (.seq (.rg [⟨(some 30), .bin .eql (.t 22) (.c (.p (.int .u8 102))), none⟩,
           ⟨(some 29), .mov (.t 30), none⟩])
         (.cond (.t 29) (.seq (.rg [⟨(some 2), .mov (.c (.p (.string ⟨#[102, 97, 108, 115, 101]⟩))), none⟩,
             ⟨(some 3), .mov (.c (.p (.bool true))), none⟩])
           .ret)
           (.seq (.rg [⟨(some 32), .bin .eql (.t 22) (.c (.p (.int .u8 110))), none⟩,
             ⟨(some 31), .mov (.t 32), none⟩])
           (.cond (.t 31) (.seq (.rg [⟨(some 2), .mov (.c (.p (.string ⟨#[60, 110, 105, 108, 62]⟩))), none⟩,
               ⟨(some 3), .mov (.c (.p (.bool true))), none⟩])
             .ret)
             (.seq (.rg [⟨(some 34), .bin .eql (.t 22) (.c (.p (.int .u8 48))), none⟩,
               ⟨(some 33), .mov (.t 34), none⟩])
             (.cond (.t 33) (.seq (.rg [⟨(some 36), .faddr false 2 1 (.t 1), none⟩,
                 ⟨(some 37), .load false 1 (.t 36), none⟩,
                 ⟨(some 38), .callr 149 [(.t 37), (.c (.p (.int .i64 64)))], none⟩,
                 ⟨(some 35), .mov (.t 38), none⟩,
                 ⟨(some 39), .ext (.t 35) 0, none⟩,
                 ⟨(some 40), .ext (.t 35) 1, none⟩,
                 ⟨(some 4), .mov (.t 39), none⟩,
                 ⟨(some 5), .mov (.t 40), none⟩])
               (.seq (.seq (.rg [⟨(some 41), .mov (.t 5), none⟩,
                 ⟨(some 42), .eqn true .iface (.t 41), none⟩])
               (.cond (.t 42) (.seq (.rg [⟨(some 2), .mov (.c (.p (.string ⟨#[]⟩))), none⟩,
                   ⟨(some 3), .mov (.c (.p (.bool false))), none⟩])
                 .ret)
                 .skip))
               (.seq (.rg [⟨(some 43), .mov (.t 4), none⟩,
                 ⟨(some 44), .callr 150 [(.t 43)], none⟩,
                 ⟨(some 2), .mov (.t 44), none⟩,
                 ⟨(some 3), .mov (.c (.p (.bool true))), none⟩])
               .ret)))
               (.seq (.rg [⟨(some 46), .bin .eql (.t 22) (.c (.p (.int .u8 91))), none⟩,
                 ⟨(some 45), .mov (.t 46), none⟩])
               (.cond (.t 45) (.seq (.rg [⟨(some 6), .mov (.c (.p (.slice none 0 0))), none⟩])
                 (.seq (.rg [⟨(some 7), .mov (.c (.p (.bool true))), none⟩])
                 (.seq (.seq (.rg [⟨(some 47), .faddr false 3 1 (.t 1), none⟩,
                   ⟨(some 48), .load false 1 (.t 47), none⟩,
                   ⟨(some 49), .lenl (.t 48), none⟩,
                   ⟨(some 50), .mov (.c (.p (.int .i64 0))), none⟩])
                 (.block 1 (.loop (.seq (.rg [⟨(some 51), .bin .lss (.t 50) (.t 49), none⟩])
                   (.seq (.cond (.t 51) .skip
                     (.exit 1))
                   (.seq (.block 2 (.seq (.rg [⟨(some 52), .iaddr 5 (.t 48) (.t 50), none⟩,
                      ⟨(some 53), .load true 5 (.t 52), none⟩,
                      ⟨(some 9), .alloc 5 (.agg [.p (.int .u8 0), .p (.bool false), .p (.string ⟨#[]⟩), .p (.slice none 0 0), .p (.slice none 0 0)]), none⟩,
                      ⟨none, .store 5 (.t 9) (.t 53), none⟩])
                    (.seq (.rg [⟨(some 55), .load true 5 (.t 9), none⟩,
                      ⟨(some 56), .callr 148 [(.t 55)], none⟩,
                      ⟨(some 54), .mov (.t 56), none⟩,
                      ⟨(some 57), .ext (.t 54) 0, none⟩,
                      ⟨(some 58), .ext (.t 54) 1, none⟩,
                      ⟨(some 10), .mov (.t 57), none⟩,
                      ⟨(some 11), .mov (.t 58), none⟩])
                    (.rg [⟨(some 59), .mov (.t 6), none⟩,
                      ⟨(some 60), .mov (.t 10), none⟩,
                      ⟨(some 61), .lit 1 [(.t 60)], none⟩,
                      ⟨(some 62), .app 1 16 (.t 59) (.t 61), none⟩,
                      ⟨(some 63), .mov (.t 7), none⟩,
                      ⟨(some 64), .mov (.t 63), none⟩,
                      ⟨(some 65), .mov (.t 11), (some (64, true))⟩,
                      ⟨(some 66), .pick (.t 64) (.t 65) (.c (.p (.bool false))), none⟩,
                      ⟨(some 6), .mov (.t 62), none⟩,
                      ⟨(some 7), .mov (.t 66), none⟩]))))
                   (.rg [⟨(some 67), .bin .add (.t 50) (.c (.p (.int .i64 1))), none⟩,
                     ⟨(some 50), .mov (.t 67), none⟩])))))))
                 (.seq (.rg [⟨(some 68), .mov (.t 6), none⟩,
                   ⟨(some 69), .callr 151 [(.t 68), (.c (.p (.string ⟨#[32]⟩)))], none⟩,
                   ⟨(some 70), .bin .add (.c (.p (.string ⟨#[91]⟩))) (.t 69), none⟩,
                   ⟨(some 71), .bin .add (.t 70) (.c (.p (.string ⟨#[93]⟩))), none⟩,
                   ⟨(some 72), .mov (.t 7), none⟩,
                   ⟨(some 2), .mov (.t 71), none⟩,
                   ⟨(some 3), .mov (.t 72), none⟩])
                 .ret))))
                 .skip))))))))))))))
    (.seq (.rg [⟨(some 73), .mkmap, none⟩,
      ⟨(some 12), .mov (.t 73), none⟩,
      ⟨(some 13), .mov (.c (.p (.bool true))), none⟩])
    (.seq (.seq (.rg [⟨(some 74), .faddr false 3 1 (.t 1), none⟩,
      ⟨(some 75), .load false 1 (.t 74), none⟩,
      ⟨(some 76), .lenl (.t 75), none⟩,
      ⟨(some 77), .mov (.c (.p (.int .i64 0))), none⟩])
    (.block 3 (.loop (.seq (.rg [⟨(some 78), .bin .lss (.t 77) (.t 76), none⟩])
      (.seq (.cond (.t 78) .skip
        (.exit 3))
      (.seq (.block 4 (.seq (.rg [⟨(some 79), .mov (.t 77), none⟩,
         ⟨(some 80), .iaddr 5 (.t 75) (.t 77), none⟩,
         ⟨(some 81), .load true 5 (.t 80), none⟩,
         ⟨(some 15), .alloc 5 (.agg [.p (.int .u8 0), .p (.bool false), .p (.string ⟨#[]⟩), .p (.slice none 0 0), .p (.slice none 0 0)]), none⟩,
         ⟨(some 14), .mov (.t 79), none⟩,
         ⟨none, .store 5 (.t 15) (.t 81), none⟩])
       (.seq (.rg [⟨(some 83), .load true 5 (.t 15), none⟩,
         ⟨(some 84), .callr 148 [(.t 83)], none⟩,
         ⟨(some 82), .mov (.t 84), none⟩,
         ⟨(some 85), .ext (.t 82) 0, none⟩,
         ⟨(some 86), .ext (.t 82) 1, none⟩,
         ⟨(some 16), .mov (.t 85), none⟩,
         ⟨(some 17), .mov (.t 86), none⟩])
       (.rg [⟨(some 87), .mov (.t 12), none⟩,
         ⟨(some 88), .faddr false 4 1 (.t 1), none⟩,
         ⟨(some 89), .load false 1 (.t 88), none⟩,
         ⟨(some 90), .mov (.t 14), none⟩,
         ⟨(some 91), .iaddr 1 (.t 89) (.t 90), none⟩,
         ⟨(some 92), .load false 1 (.t 91), none⟩,
         ⟨(some 93), .mov (.t 16), none⟩,
         ⟨(some 94), .mov (.t 13), none⟩,
         ⟨(some 95), .mov (.t 94), none⟩,
         ⟨(some 96), .mov (.t 17), (some (95, true))⟩,
         ⟨(some 97), .pick (.t 95) (.t 96) (.c (.p (.bool false))), none⟩,
         ⟨(some 98), .stop, none⟩,
         ⟨(some 99), .ext (.t 98) 1, none⟩,
         ⟨none, .stop, none⟩,
         ⟨(some 13), .mov (.t 97), none⟩]))))
      (.rg [⟨(some 100), .bin .add (.t 77) (.c (.p (.int .i64 1))), none⟩,
        ⟨(some 77), .mov (.t 100), none⟩])))))))
    (.seq (.rg [⟨(some 18), .mov (.c (.p (.slice none 0 0))), none⟩])
    (.seq (.seq (.rg [⟨(some 101), .mov (.t 12), none⟩,
      ⟨(some 102), .callr 152 [(.t 101)], none⟩,
      ⟨(some 103), .lenl (.t 102), none⟩,
      ⟨(some 104), .mov (.c (.p (.int .i64 0))), none⟩])
    (.block 5 (.loop (.seq (.rg [⟨(some 105), .bin .lss (.t 104) (.t 103), none⟩])
      (.seq (.cond (.t 105) .skip
        (.exit 5))
      (.seq (.block 6 (.seq (.rg [⟨(some 106), .iaddr 1 (.t 102) (.t 104), none⟩,
         ⟨(some 107), .load false 1 (.t 106), none⟩,
         ⟨(some 20), .mov (.t 107), none⟩])
       (.rg [⟨(some 108), .mov (.t 18), none⟩,
         ⟨(some 109), .mov (.t 20), none⟩,
         ⟨(some 110), .bin .add (.t 109) (.c (.p (.string ⟨#[58]⟩))), none⟩,
         ⟨(some 111), .mov (.t 12), none⟩,
         ⟨(some 112), .mov (.t 20), none⟩,
         ⟨(some 113), .look .str (.p (.string ⟨#[]⟩)) false (.t 111) (.t 112), none⟩,
         ⟨(some 114), .bin .add (.t 110) (.t 113), none⟩,
         ⟨(some 115), .lit 1 [(.t 114)], none⟩,
         ⟨(some 116), .app 1 16 (.t 108) (.t 115), none⟩,
         ⟨(some 18), .mov (.t 116), none⟩])))
      (.rg [⟨(some 117), .bin .add (.t 104) (.c (.p (.int .i64 1))), none⟩,
        ⟨(some 104), .mov (.t 117), none⟩])))))))
    (.seq (.rg [⟨(some 118), .mov (.t 18), none⟩,
      ⟨(some 119), .callr 151 [(.t 118), (.c (.p (.string ⟨#[32]⟩)))], none⟩,
      ⟨(some 120), .bin .add (.c (.p (.string ⟨#[109, 97, 112, 91]⟩))) (.t 119), none⟩,
      ⟨(some 121), .bin .add (.t 120) (.c (.p (.string ⟨#[93]⟩))), none⟩,
      ⟨(some 122), .mov (.t 13), none⟩,
      ⟨(some 2), .mov (.t 121), none⟩,
      ⟨(some 3), .mov (.t 122), none⟩])
    .ret)))))))
def r148 : List DR := [.tmp 2, .tmp 3]
theorem c148_ok : Tryz.f148.body.bind (cCode Tryz.prog) = some c148 := by kernel_rfl
theorem r148_ok : cRes Tryz.prog Tryz.f148.results.toList = some r148 := by kernel_rfl

end Go.Proofs.YtppjcnaffphakaaGreatDoor
