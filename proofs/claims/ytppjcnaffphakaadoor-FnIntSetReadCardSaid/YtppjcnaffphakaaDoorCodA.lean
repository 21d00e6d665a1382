/- The codes of the functions, in the small language of Den. -/
import Derived.Test.YtppjcnaffphakaaDoorLibE
import Derived.Test.YtppjcnaffphakaaDoorProg
set_option linter.unusedVariables false
set_option linter.unusedSimpArgs false
set_option maxRecDepth 100000
namespace Go.Proofs.YtppjcnaffphakaaDoor
open Go Go.Den Go.Proofs

/-- given.example/pub-assaymark/laws.FnIntSetRead -/
def c3 : DC :=
  (.seq (.rg [⟨(some 10), .mov (.c (.p (.bool false))), none⟩])
    (.seq (.seq (.rg [⟨(some 29), .mov (.t 1), none⟩,
      ⟨(some 30), .lenl (.t 29), none⟩,
      ⟨(some 31), .bin .gtr (.t 30) (.c (.p (.int .i64 2147483647))), none⟩,
      ⟨(some 32), .mov (.t 31), none⟩,
      ⟨(some 33), .mov (.t 3), (some (32, false))⟩,
      ⟨(some 34), .lens (.t 33), (some (32, false))⟩,
      ⟨(some 35), .bin .gtr (.t 34) (.c (.p (.int .i64 2147483647))), (some (32, false))⟩,
      ⟨(some 36), .pick (.t 32) (.c (.p (.bool true))) (.t 35), none⟩])
    (.cond (.t 36) (.seq (.rg [⟨(some 10), .mov (.c (.p (.bool true))), none⟩])
      .ret)
      .skip))
    (.seq (.rgd [⟨⟨(some 37), .mov (.t 1), none⟩, 0, []⟩,
      ⟨⟨(some 38), .mov (.t 1), none⟩, 0, []⟩,
      ⟨⟨(some 39), .lenl (.t 38), none⟩, 0, []⟩,
      ⟨⟨(some 40), .mm false (.t 39) (.c (.p (.int .i64 10))), none⟩, 0, []⟩,
      ⟨⟨(some 41), .slcl 1 (.t 37) none (some (.t 40)), none⟩, 0, [0]⟩,
      ⟨⟨(some 42), .mov (.t 3), none⟩, 0, [0]⟩,
      ⟨⟨(some 43), .mov (.t 3), none⟩, 0, [0]⟩,
      ⟨⟨(some 44), .lens (.t 43), none⟩, 0, [0]⟩,
      ⟨⟨(some 45), .mm false (.t 44) (.c (.p (.int .i64 20))), none⟩, 0, [0]⟩,
      ⟨⟨(some 46), .slcs (.t 42) none (some (.t 45)), none⟩, 0, [0]⟩,
      ⟨⟨(some 1), .mov (.t 41), none⟩, 0, []⟩,
      ⟨⟨(some 3), .mov (.t 46), none⟩, 0, []⟩])
    (.seq (.rg [⟨(some 47), .mov (.t 2), none⟩,
      ⟨(some 48), .cint .i64 (.t 47), none⟩,
      ⟨(some 11), .mov (.c (.p (.string ⟨#[91]⟩))), none⟩,
      ⟨(some 12), .mov (.t 48), none⟩])
    (.seq (.seq (.rg [⟨(some 49), .mov (.t 0), none⟩])
    (.cond (.t 49) (.seq (.seq (.rg [⟨(some 50), .mov (.t 1), none⟩,
        ⟨(some 51), .lenl (.t 50), none⟩,
        ⟨(some 52), .mov (.c (.p (.int .i64 0))), none⟩])
      (.block 0 (.loop (.seq (.rg [⟨(some 53), .bin .lss (.t 52) (.t 51), none⟩])
        (.seq (.cond (.t 53) .skip
          (.exit 0))
        (.seq (.block 1 (.seq (.rg [⟨(some 54), .mov (.t 52), none⟩,
           ⟨(some 55), .iaddr 1 (.t 50) (.t 52), none⟩,
           ⟨(some 56), .load false 1 (.t 55), none⟩,
           ⟨(some 13), .mov (.t 54), none⟩,
           ⟨(some 14), .mov (.t 56), none⟩])
         (.seq (.seq (.rg [⟨(some 57), .mov (.t 13), none⟩,
           ⟨(some 58), .bin .gtr (.t 57) (.c (.p (.int .i64 0))), none⟩])
         (.cond (.t 58) (.rg [⟨(some 59), .mov (.t 11), none⟩,
             ⟨(some 60), .lit 1 [(.c (.p (.string ⟨#[44]⟩))), (.c (.p (.string ⟨#[44, 32]⟩))), (.c (.p (.string ⟨#[32, 44, 10]⟩)))], none⟩,
             ⟨(some 61), .mov (.t 12), none⟩,
             ⟨(some 62), .bin .rem (.t 61) (.c (.p (.int .i64 3))), none⟩,
             ⟨(some 63), .iaddr 1 (.t 60) (.t 62), none⟩,
             ⟨(some 64), .load false 1 (.t 63), none⟩,
             ⟨(some 65), .bin .add (.t 59) (.t 64), none⟩,
             ⟨(some 11), .mov (.t 65), none⟩])
           .skip))
         (.rg [⟨(some 66), .mov (.t 11), none⟩,
           ⟨(some 67), .mov (.t 14), none⟩,
           ⟨(some 68), .callr 4 [(.t 67)], none⟩,
           ⟨(some 69), .bin .add (.t 66) (.t 68), none⟩,
           ⟨(some 11), .mov (.t 69), none⟩]))))
        (.rg [⟨(some 70), .bin .add (.t 52) (.c (.p (.int .i64 1))), none⟩,
          ⟨(some 52), .mov (.t 70), none⟩])))))))
      (.seq (.rg [⟨(some 71), .mov (.t 11), none⟩,
        ⟨(some 72), .bin .add (.t 71) (.c (.p (.string ⟨#[93]⟩))), none⟩,
        ⟨(some 11), .mov (.t 72), none⟩])
      (.seq (.rg [⟨(some 74), .mov (.t 11), none⟩,
        ⟨(some 75), .callr 5 [(.c (.p (.int .i64 0))), (.t 74)], none⟩,
        ⟨(some 73), .mov (.t 75), none⟩,
        ⟨(some 76), .ext (.t 73) 0, none⟩,
        ⟨(some 77), .ext (.t 73) 1, none⟩,
        ⟨(some 78), .ext (.t 73) 2, none⟩,
        ⟨(some 15), .mov (.t 76), none⟩,
        ⟨(some 16), .mov (.t 77), none⟩,
        ⟨(some 17), .mov (.t 78), none⟩])
      (.seq (.rg [⟨(some 80), .mov (.t 11), none⟩,
        ⟨(some 81), .mov (.t 4), none⟩,
        ⟨(some 82), .cint .i64 (.t 81), none⟩,
        ⟨(some 83), .mov (.t 11), none⟩,
        ⟨(some 84), .lens (.t 83), none⟩,
        ⟨(some 85), .bin .rem (.t 82) (.t 84), none⟩,
        ⟨(some 86), .slcs (.t 80) none (some (.t 85)), none⟩,
        ⟨(some 87), .callr 5 [(.c (.p (.int .i64 0))), (.t 86)], none⟩,
        ⟨(some 79), .mov (.t 87), none⟩,
        ⟨(some 88), .ext (.t 79) 0, none⟩,
        ⟨(some 89), .ext (.t 79) 1, none⟩,
        ⟨(some 90), .ext (.t 79) 2, none⟩,
        ⟨(some 18), .mov (.t 88), none⟩,
        ⟨(some 19), .mov (.t 89), none⟩,
        ⟨(some 20), .mov (.t 90), none⟩])
      (.seq (.rg [⟨(some 91), .mov (.t 17), none⟩,
        ⟨(some 92), .mov (.t 91), none⟩,
        ⟨(some 93), .mov (.t 20), (some (92, true))⟩,
        ⟨(some 94), .un .not (.t 93), (some (92, true))⟩,
        ⟨(some 95), .pick (.t 92) (.t 94) (.c (.p (.bool false))), none⟩,
        ⟨(some 96), .mov (.t 95), none⟩,
        ⟨(some 97), .mov (.t 15), (some (96, true))⟩,
        ⟨(some 98), .mov (.t 1), (some (96, true))⟩,
        ⟨(some 99), .callr 7 [(.t 98)], (some (96, true))⟩,
        ⟨(some 100), .callr 6 [(.t 97), (.t 99)], (some (96, true))⟩,
        ⟨(some 101), .pick (.t 96) (.t 100) (.c (.p (.bool false))), none⟩,
        ⟨(some 10), .mov (.t 101), none⟩])
      .ret)))))
      .skip))
    (.seq (.rg [⟨(some 102), .mov (.t 1), none⟩,
      ⟨(some 103), .lenl (.t 102), none⟩,
      ⟨(some 104), .mov (.t 12), none⟩,
      ⟨(some 105), .callr 8 [(.t 103), (.t 104)], none⟩,
      ⟨(some 11), .mov (.t 105), none⟩])
    (.seq (.seq (.rg [⟨(some 106), .mov (.t 1), none⟩,
      ⟨(some 107), .lenl (.t 106), none⟩,
      ⟨(some 108), .mov (.c (.p (.int .i64 0))), none⟩])
    (.block 2 (.loop (.seq (.rg [⟨(some 109), .bin .lss (.t 108) (.t 107), none⟩])
      (.seq (.cond (.t 109) .skip
        (.exit 2))
      (.seq (.block 3 (.seq (.rg [⟨(some 110), .mov (.t 108), none⟩,
         ⟨(some 111), .iaddr 1 (.t 106) (.t 108), none⟩,
         ⟨(some 112), .load false 1 (.t 111), none⟩,
         ⟨(some 21), .mov (.t 110), none⟩,
         ⟨(some 22), .mov (.t 112), none⟩])
       (.rg [⟨(some 113), .mov (.t 11), none⟩,
         ⟨(some 114), .mov (.t 22), none⟩,
         ⟨(some 115), .mov (.t 12), none⟩,
         ⟨(some 116), .mov (.t 21), none⟩,
         ⟨(some 117), .bin .rem (.t 116) (.c (.p (.int .i64 8))), none⟩,
         ⟨(some 118), .bin .shr (.t 115) (.t 117), none⟩,
         ⟨(some 119), .callr 9 [(.t 114), (.t 118)], none⟩,
         ⟨(some 120), .bin .add (.t 113) (.t 119), none⟩,
         ⟨(some 11), .mov (.t 120), none⟩])))
      (.rg [⟨(some 121), .bin .add (.t 108) (.c (.p (.int .i64 1))), none⟩,
        ⟨(some 108), .mov (.t 121), none⟩])))))))
    (.seq (.rg [⟨(some 123), .mov (.t 11), none⟩,
      ⟨(some 124), .mov (.t 3), none⟩,
      ⟨(some 125), .bin .add (.t 123) (.t 124), none⟩,
      ⟨(some 126), .callr 5 [(.c (.p (.int .i64 1))), (.t 125)], none⟩,
      ⟨(some 122), .mov (.t 126), none⟩,
      ⟨(some 127), .ext (.t 122) 0, none⟩,
      ⟨(some 128), .ext (.t 122) 1, none⟩,
      ⟨(some 129), .ext (.t 122) 2, none⟩,
      ⟨(some 23), .mov (.t 127), none⟩,
      ⟨(some 24), .mov (.t 128), none⟩,
      ⟨(some 25), .mov (.t 129), none⟩])
    (.seq (.rg [⟨(some 131), .mov (.t 11), none⟩,
      ⟨(some 132), .mov (.t 4), none⟩,
      ⟨(some 133), .cint .i64 (.t 132), none⟩,
      ⟨(some 134), .mov (.t 11), none⟩,
      ⟨(some 135), .lens (.t 134), none⟩,
      ⟨(some 136), .bin .rem (.t 133) (.t 135), none⟩,
      ⟨(some 137), .slcs (.t 131) none (some (.t 136)), none⟩,
      ⟨(some 138), .callr 5 [(.c (.p (.int .i64 1))), (.t 137)], none⟩,
      ⟨(some 130), .mov (.t 138), none⟩,
      ⟨(some 139), .ext (.t 130) 0, none⟩,
      ⟨(some 140), .ext (.t 130) 1, none⟩,
      ⟨(some 141), .ext (.t 130) 2, none⟩,
      ⟨(some 26), .mov (.t 139), none⟩,
      ⟨(some 27), .mov (.t 140), none⟩,
      ⟨(some 28), .mov (.t 141), none⟩])
    (.seq (.rg [⟨(some 142), .mov (.t 25), none⟩,
      ⟨(some 143), .mov (.t 142), none⟩,
      ⟨(some 144), .mov (.t 28), (some (143, true))⟩,
      ⟨(some 145), .un .not (.t 144), (some (143, true))⟩,
      ⟨(some 146), .pick (.t 143) (.t 145) (.c (.p (.bool false))), none⟩,
      ⟨(some 147), .mov (.t 146), none⟩,
      ⟨(some 148), .mov (.t 24), (some (147, true))⟩,
      ⟨(some 149), .mov (.t 3), (some (147, true))⟩,
      ⟨(some 150), .bin .eql (.t 148) (.t 149), (some (147, true))⟩,
      ⟨(some 151), .pick (.t 147) (.t 150) (.c (.p (.bool false))), none⟩,
      ⟨(some 152), .mov (.t 151), none⟩,
      ⟨(some 153), .mov (.t 23), (some (152, true))⟩,
      ⟨(some 154), .mov (.t 1), (some (152, true))⟩,
      ⟨(some 155), .callr 7 [(.t 154)], (some (152, true))⟩,
      ⟨(some 156), .callr 6 [(.t 153), (.t 155)], (some (152, true))⟩,
      ⟨(some 157), .pick (.t 152) (.t 156) (.c (.p (.bool false))), none⟩,
      ⟨(some 10), .mov (.t 157), none⟩])
    .ret))))))))))
def r3 : List DR := [.tmp 10]
theorem c3_ok : Tryd.f3.body.bind (cCode Tryd.prog) = some c3 := by kernel_rfl
theorem r3_ok : cRes Tryd.prog Tryd.f3.results.toList = some r3 := by kernel_rfl

/-- given.example/pub-assaymark/impl.IntSetRead -/
def c5 : DC :=
  (.seq (.rg [⟨(some 4), .mov (.c (.p (.slice none 0 0))), none⟩,
      ⟨(some 5), .mov (.c (.p (.string ⟨#[]⟩))), none⟩,
      ⟨(some 6), .mov (.c (.p (.bool false))), none⟩])
    (.seq (.rg [⟨(some 7), .alloc 1 (.p (.map none)), none⟩])
    (.seq (.rg [⟨(some 8), .mov (.c (.p (.slice none 0 0))), none⟩])
    (.seq (.rg [⟨(some 9), .mov (.c (.p .nilIface)), none⟩])
    (.seq (.seq (.rg [⟨(some 10), .mov (.t 0), none⟩])
    (.block 0 (.seq (.rg [⟨(some 12), .bin .eql (.t 10) (.c (.p (.int .i64 0))), none⟩,
       ⟨(some 11), .mov (.t 12), none⟩])
     (.cond (.t 11) (.rg [⟨(some 13), .mov (.t 1), none⟩,
         ⟨(some 14), .s2b (.t 13), none⟩,
         ⟨(some 15), .callr 11 [(.t 7), (.t 14)], none⟩,
         ⟨(some 9), .mov (.t 15), none⟩])
       (.seq (.rg [⟨(some 17), .bin .eql (.t 10) (.c (.p (.int .i64 1))), none⟩,
         ⟨(some 16), .mov (.t 17), none⟩])
       (.cond (.t 16) (.rg [⟨(some 19), .mov (.t 1), none⟩,
           ⟨(some 20), .s2b (.t 19), none⟩,
           ⟨(some 21), .callr 12 [(.t 7), (.t 20)], none⟩,
           ⟨(some 18), .mov (.t 21), none⟩,
           ⟨(some 22), .ext (.t 18) 0, none⟩,
           ⟨(some 23), .ext (.t 18) 1, none⟩,
           ⟨(some 8), .mov (.t 22), none⟩,
           ⟨(some 9), .mov (.t 23), none⟩])
         (.seq (.rg [⟨(some 25), .bin .eql (.t 10) (.c (.p (.int .i64 2))), none⟩,
           ⟨(some 24), .mov (.t 25), none⟩])
         (.cond (.t 24) (.rg [⟨(some 26), .mov (.t 1), none⟩,
             ⟨(some 27), .s2b (.t 26), none⟩,
             ⟨(some 28), .callr 13 [(.t 7), (.t 27)], none⟩,
             ⟨(some 9), .mov (.t 28), none⟩])
           (.seq (.rg [⟨(some 4), .mov (.c (.p (.slice none 0 0))), none⟩,
             ⟨(some 5), .mov (.c (.p (.string ⟨#[]⟩))), none⟩,
             ⟨(some 6), .mov (.c (.p (.bool false))), none⟩])
           .ret)))))))))
    (.seq (.seq (.rg [⟨(some 29), .mov (.t 9), none⟩,
      ⟨(some 30), .eqn true .iface (.t 29), none⟩])
    (.cond (.t 30) (.seq (.rg [⟨(some 4), .mov (.c (.p (.slice none 0 0))), none⟩,
        ⟨(some 5), .mov (.c (.p (.string ⟨#[]⟩))), none⟩,
        ⟨(some 6), .mov (.c (.p (.bool false))), none⟩])
      .ret)
      .skip))
    (.seq (.rgd [⟨⟨(some 31), .load false 1 (.t 7), none⟩, 0, [0]⟩,
      ⟨⟨(some 32), .call 14 [(.t 31)], none⟩, 0, [0]⟩,
      ⟨⟨(some 33), .mov (.t 8), none⟩, 0, [0]⟩,
      ⟨⟨(some 34), .b2s (.t 33), none⟩, 0, [0]⟩,
      ⟨⟨(some 4), .mov (.t 32), none⟩, 1, [0]⟩,
      ⟨⟨(some 5), .mov (.t 34), none⟩, 1, []⟩,
      ⟨⟨(some 6), .mov (.c (.p (.bool true))), none⟩, 1, []⟩])
    .ret)))))))
def r5 : List DR := [.tmp 4, .tmp 5, .tmp 6]
theorem c5_ok : Tryd.f5.body.bind (cCode Tryd.prog) = some c5 := by kernel_rfl
theorem r5_ok : cRes Tryd.prog Tryd.f5.results.toList = some r5 := by kernel_rfl

/-- given.example/pub-assaymark/spec.IntsSame -/
def c6 : DC :=
  (.seq (.rg [⟨(some 4), .mov (.c (.p (.bool false))), none⟩])
    (.seq (.seq (.rg [⟨(some 7), .mov (.t 0), none⟩,
      ⟨(some 8), .lenl (.t 7), none⟩,
      ⟨(some 9), .mov (.t 1), none⟩,
      ⟨(some 10), .lenl (.t 9), none⟩,
      ⟨(some 11), .bin .neq (.t 8) (.t 10), none⟩])
    (.cond (.t 11) (.seq (.rg [⟨(some 4), .mov (.c (.p (.bool false))), none⟩])
      .ret)
      .skip))
    (.seq (.seq (.rg [⟨(some 12), .mov (.t 0), none⟩,
      ⟨(some 13), .lenl (.t 12), none⟩,
      ⟨(some 14), .mov (.c (.p (.int .i64 0))), none⟩])
    (.block 0 (.loop (.seq (.rg [⟨(some 15), .bin .lss (.t 14) (.t 13), none⟩])
      (.seq (.cond (.t 15) .skip
        (.exit 0))
      (.seq (.block 1 (.seq (.rg [⟨(some 16), .mov (.t 14), none⟩,
         ⟨(some 17), .iaddr 1 (.t 12) (.t 14), none⟩,
         ⟨(some 18), .load false 1 (.t 17), none⟩,
         ⟨(some 5), .mov (.t 16), none⟩,
         ⟨(some 6), .mov (.t 18), none⟩])
       (.seq (.rg [⟨(some 19), .mov (.t 6), none⟩,
         ⟨(some 20), .mov (.t 1), none⟩,
         ⟨(some 21), .mov (.t 5), none⟩,
         ⟨(some 22), .iaddr 1 (.t 20) (.t 21), none⟩,
         ⟨(some 23), .load false 1 (.t 22), none⟩,
         ⟨(some 24), .bin .neq (.t 19) (.t 23), none⟩])
       (.cond (.t 24) (.seq (.rg [⟨(some 4), .mov (.c (.p (.bool false))), none⟩])
         .ret)
         .skip))))
      (.rg [⟨(some 25), .bin .add (.t 14) (.c (.p (.int .i64 1))), none⟩,
        ⟨(some 14), .mov (.t 25), none⟩])))))))
    (.seq (.rg [⟨(some 4), .mov (.c (.p (.bool true))), none⟩])
    .ret))))
def r6 : List DR := [.tmp 4]
theorem c6_ok : Tryd.f6.body.bind (cCode Tryd.prog) = some c6 := by kernel_rfl
theorem r6_ok : cRes Tryd.prog Tryd.f6.results.toList = some r6 := by kernel_rfl

/-- given.example/pub-assaymark/spec.IntsOf -/
def c7 : DC :=
  (.seq (.rg [⟨(some 2), .mov (.c (.p (.slice none 0 0))), none⟩])
    (.seq (.rg [⟨(some 3), .mov (.c (.p (.slice none 0 0))), none⟩])
    (.seq (.seq (.rg [⟨(some 7), .mov (.t 0), none⟩,
      ⟨(some 8), .lenl (.t 7), none⟩,
      ⟨(some 9), .mov (.c (.p (.int .i64 0))), none⟩])
    (.block 0 (.loop (.seq (.rg [⟨(some 10), .bin .lss (.t 9) (.t 8), none⟩])
      (.seq (.cond (.t 10) .skip
        (.exit 0))
      (.seq (.block 1 (.seq (.rg [⟨(some 11), .iaddr 1 (.t 7) (.t 9), none⟩,
         ⟨(some 12), .load false 1 (.t 11), none⟩,
         ⟨(some 5), .mov (.t 12), none⟩])
       (.seq (.rg [⟨(some 6), .mov (.c (.p (.int .i64 0))), none⟩])
       (.seq (.block 2 (.loop (.seq (.seq (.rg [⟨(some 13), .mov (.t 6), none⟩,
           ⟨(some 14), .mov (.t 3), none⟩,
           ⟨(some 15), .lenl (.t 14), none⟩,
           ⟨(some 16), .bin .lss (.t 13) (.t 15), none⟩,
           ⟨(some 17), .mov (.t 16), none⟩,
           ⟨(some 18), .mov (.t 3), (some (17, true))⟩,
           ⟨(some 19), .mov (.t 6), (some (17, true))⟩,
           ⟨(some 20), .iaddr 1 (.t 18) (.t 19), (some (17, true))⟩,
           ⟨(some 21), .load false 1 (.t 20), (some (17, true))⟩,
           ⟨(some 22), .mov (.t 5), (some (17, true))⟩,
           ⟨(some 23), .bin .lss (.t 21) (.t 22), (some (17, true))⟩,
           ⟨(some 24), .pick (.t 17) (.t 23) (.c (.p (.bool false))), none⟩])
         (.cond (.t 24) .skip
           (.exit 2)))
         (.block 3 (.rg [⟨(some 25), .mov (.t 6), none⟩,
            ⟨(some 26), .bin .add (.t 25) (.c (.p (.int .i64 1))), none⟩,
            ⟨(some 6), .mov (.t 26), none⟩])))))
       (.seq (.rg [⟨(some 27), .mov (.t 6), none⟩,
         ⟨(some 28), .mov (.t 3), none⟩,
         ⟨(some 29), .lenl (.t 28), none⟩,
         ⟨(some 30), .bin .eql (.t 27) (.t 29), none⟩,
         ⟨(some 31), .mov (.t 30), none⟩,
         ⟨(some 32), .mov (.t 3), (some (31, false))⟩,
         ⟨(some 33), .mov (.t 6), (some (31, false))⟩,
         ⟨(some 34), .iaddr 1 (.t 32) (.t 33), (some (31, false))⟩,
         ⟨(some 35), .load false 1 (.t 34), (some (31, false))⟩,
         ⟨(some 36), .mov (.t 5), (some (31, false))⟩,
         ⟨(some 37), .bin .neq (.t 35) (.t 36), (some (31, false))⟩,
         ⟨(some 38), .pick (.t 31) (.c (.p (.bool true))) (.t 37), none⟩])
       (.cond (.t 38) (.rgd [⟨⟨(some 39), .mov (.t 3), none⟩, 0, [0]⟩,
           ⟨⟨(some 40), .mov (.t 6), none⟩, 0, [0]⟩,
           ⟨⟨(some 41), .slcl 1 (.t 39) none (some (.t 40)), none⟩, 0, [0]⟩,
           ⟨⟨(some 42), .mov (.t 5), none⟩, 0, [0]⟩,
           ⟨⟨(some 43), .lit 1 [(.t 42)], none⟩, 0, [0]⟩,
           ⟨⟨(some 44), .mov (.t 3), none⟩, 0, [0]⟩,
           ⟨⟨(some 45), .mov (.t 6), none⟩, 0, [0]⟩,
           ⟨⟨(some 46), .slcl 1 (.t 44) (some (.t 45)) none, none⟩, 0, [0]⟩,
           ⟨⟨(some 47), .app 1 8 (.t 43) (.t 46), none⟩, 1, [0]⟩,
           ⟨⟨(some 48), .app 1 8 (.t 41) (.t 47), none⟩, 2, []⟩,
           ⟨⟨(some 3), .mov (.t 48), none⟩, 3, []⟩])
         .skip))))))
      (.rg [⟨(some 49), .bin .add (.t 9) (.c (.p (.int .i64 1))), none⟩,
        ⟨(some 9), .mov (.t 49), none⟩])))))))
    (.seq (.rg [⟨(some 50), .mov (.t 3), none⟩,
      ⟨(some 2), .mov (.t 50), none⟩])
    .ret))))
def r7 : List DR := [.tmp 2]
theorem c7_ok : Tryd.f7.body.bind (cCode Tryd.prog) = some c7 := by kernel_rfl
theorem r7_ok : cRes Tryd.prog Tryd.f7.results.toList = some r7 := by kernel_rfl

/-- given.example/pub-assaymark/spec.PackList -/
def c8 : DC :=
  (.seq (.rg [⟨(some 4), .mov (.c (.p (.string ⟨#[]⟩))), none⟩])
    (.seq (.rg [⟨(some 5), .mov (.t 0), none⟩,
      ⟨(some 6), .lit 1 [(.c (.p (.int .u8 220))), (.c (.p (.int .u8 221)))], none⟩,
      ⟨(some 7), .mov (.t 1), none⟩,
      ⟨(some 8), .callr 15 [(.t 5), (.c (.p (.int .u8 144))), (.c (.p (.int .u8 15))), (.t 6), (.t 7)], none⟩,
      ⟨(some 4), .mov (.t 8), none⟩])
    .ret))
def r8 : List DR := [.tmp 4]
theorem c8_ok : Tryd.f8.body.bind (cCode Tryd.prog) = some c8 := by kernel_rfl
theorem r8_ok : cRes Tryd.prog Tryd.f8.results.toList = some r8 := by kernel_rfl

/-- given.example/pub-assaymark/spec.PackInt -/
def c9 : DC :=
  (.seq (.rg [⟨(some 4), .mov (.c (.p (.string ⟨#[]⟩))), none⟩])
    (.seq (.rg [⟨(some 5), .mov (.c (.p (.slice none 0 0))), none⟩])
    (.seq (.seq (.rg [⟨(some 8), .mov (.t 0), none⟩,
      ⟨(some 9), .bin .geq (.t 8) (.c (.p (.int .i64 (-32)))), none⟩,
      ⟨(some 10), .mov (.t 9), none⟩,
      ⟨(some 11), .mov (.t 0), (some (10, true))⟩,
      ⟨(some 12), .bin .lss (.t 11) (.c (.p (.int .i64 128))), (some (10, true))⟩,
      ⟨(some 13), .pick (.t 10) (.t 12) (.c (.p (.bool false))), none⟩])
    (.cond (.t 13) (.rg [⟨(some 14), .mov (.t 5), none⟩,
        ⟨(some 15), .mov (.t 0), none⟩,
        ⟨(some 16), .cint .u8 (.t 15), none⟩,
        ⟨(some 17), .lit 1 [(.t 16)], none⟩,
        ⟨(some 18), .b2s (.t 17), none⟩,
        ⟨(some 19), .lit 1 [(.t 18)], none⟩,
        ⟨(some 20), .app 1 16 (.t 14) (.t 19), none⟩,
        ⟨(some 5), .mov (.t 20), none⟩])
      .skip))
    (.seq (.seq (.rg [⟨(some 21), .mov (.c (.p (.int .i64 0))), none⟩])
    (.block 0 (.loop (.seq (.rg [⟨(some 22), .bin .lss (.t 21) (.c (.p (.int .i64 4))), none⟩])
      (.seq (.cond (.t 22) .skip
        (.exit 0))
      (.seq (.block 1 (.seq (.rg [⟨(some 23), .mov (.t 21), none⟩,
         ⟨(some 6), .mov (.t 23), none⟩])
       (.seq (.rg [⟨(some 24), .mov (.t 6), none⟩,
         ⟨(some 25), .bin .shl (.c (.p (.int .i64 1))) (.t 24), none⟩,
         ⟨(some 7), .mov (.t 25), none⟩])
       (.seq (.seq (.rg [⟨(some 26), .mov (.t 7), none⟩,
         ⟨(some 27), .bin .eql (.t 26) (.c (.p (.int .i64 8))), none⟩,
         ⟨(some 28), .mov (.t 27), none⟩,
         ⟨(some 29), .mov (.t 0), (some (28, false))⟩,
         ⟨(some 30), .mov (.t 7), (some (28, false))⟩,
         ⟨(some 31), .bin .mul (.c (.p (.int .i64 8))) (.t 30), (some (28, false))⟩,
         ⟨(some 32), .bin .sub (.t 31) (.c (.p (.int .i64 1))), (some (28, false))⟩,
         ⟨(some 33), .bin .shl (.c (.p (.int .i64 1))) (.t 32), (some (28, false))⟩,
         ⟨(some 34), .un .neg (.t 33), (some (28, false))⟩,
         ⟨(some 35), .bin .geq (.t 29) (.t 34), (some (28, false))⟩,
         ⟨(some 36), .mov (.t 35), (some (28, false))⟩,
         ⟨(some 37), .mov (.t 0), (some (36, true))⟩,
         ⟨(some 38), .mov (.t 7), (some (36, true))⟩,
         ⟨(some 39), .bin .mul (.c (.p (.int .i64 8))) (.t 38), (some (36, true))⟩,
         ⟨(some 40), .bin .sub (.t 39) (.c (.p (.int .i64 1))), (some (36, true))⟩,
         ⟨(some 41), .bin .shl (.c (.p (.int .i64 1))) (.t 40), (some (36, true))⟩,
         ⟨(some 42), .bin .lss (.t 37) (.t 41), (some (36, true))⟩,
         ⟨(some 43), .pick (.t 36) (.t 42) (.c (.p (.bool false))), (some (28, false))⟩,
         ⟨(some 44), .pick (.t 28) (.c (.p (.bool true))) (.t 43), none⟩])
       (.cond (.t 44) (.rgd [⟨⟨(some 45), .mov (.t 5), none⟩, 0, [0]⟩,
           ⟨⟨(some 46), .mov (.t 6), none⟩, 0, []⟩,
           ⟨⟨(some 47), .cint .u8 (.t 46), none⟩, 0, []⟩,
           ⟨⟨(some 48), .bin .add (.c (.p (.int .u8 208))) (.t 47), none⟩, 0, []⟩,
           ⟨⟨(some 49), .litz 1 [(.t 48)], none⟩, 0, []⟩,
           ⟨⟨(some 50), .b2s (.t 49), none⟩, 0, [0]⟩,
           ⟨⟨(some 51), .mov (.t 0), none⟩, 0, [0]⟩,
           ⟨⟨(some 52), .cint .u64 (.t 51), none⟩, 0, [0]⟩,
           ⟨⟨(some 53), .mov (.t 7), none⟩, 0, [0]⟩,
           ⟨⟨(some 54), .call 16 [(.t 52), (.t 53)], none⟩, 0, [0]⟩,
           ⟨⟨(some 55), .bin .add (.t 50) (.t 54), none⟩, 1, []⟩,
           ⟨⟨(some 56), .litz 1 [(.t 55)], none⟩, 1, []⟩,
           ⟨⟨(some 57), .app 1 16 (.t 45) (.t 56), none⟩, 1, []⟩,
           ⟨⟨(some 5), .mov (.t 57), none⟩, 2, []⟩])
         .skip))
       (.seq (.rg [⟨(some 58), .mov (.t 0), none⟩,
         ⟨(some 59), .bin .geq (.t 58) (.c (.p (.int .i64 0))), none⟩,
         ⟨(some 60), .mov (.t 59), none⟩,
         ⟨(some 61), .mov (.t 7), (some (60, true))⟩,
         ⟨(some 62), .bin .eql (.t 61) (.c (.p (.int .i64 8))), (some (60, true))⟩,
         ⟨(some 63), .mov (.t 62), (some (60, true))⟩,
         ⟨(some 64), .mov (.t 0), (some (63, false))⟩,
         ⟨(some 65), .mov (.t 7), (some (63, false))⟩,
         ⟨(some 66), .bin .mul (.c (.p (.int .i64 8))) (.t 65), (some (63, false))⟩,
         ⟨(some 67), .bin .shl (.c (.p (.int .i64 1))) (.t 66), (some (63, false))⟩,
         ⟨(some 68), .bin .lss (.t 64) (.t 67), (some (63, false))⟩,
         ⟨(some 69), .pick (.t 63) (.c (.p (.bool true))) (.t 68), (some (60, true))⟩,
         ⟨(some 70), .pick (.t 60) (.t 69) (.c (.p (.bool false))), none⟩])
       (.cond (.t 70) (.rgd [⟨⟨(some 71), .mov (.t 5), none⟩, 0, [0]⟩,
           ⟨⟨(some 72), .mov (.t 6), none⟩, 0, []⟩,
           ⟨⟨(some 73), .cint .u8 (.t 72), none⟩, 0, []⟩,
           ⟨⟨(some 74), .bin .add (.c (.p (.int .u8 204))) (.t 73), none⟩, 0, []⟩,
           ⟨⟨(some 75), .litz 1 [(.t 74)], none⟩, 0, []⟩,
           ⟨⟨(some 76), .b2s (.t 75), none⟩, 0, [0]⟩,
           ⟨⟨(some 77), .mov (.t 0), none⟩, 0, [0]⟩,
           ⟨⟨(some 78), .cint .u64 (.t 77), none⟩, 0, [0]⟩,
           ⟨⟨(some 79), .mov (.t 7), none⟩, 0, [0]⟩,
           ⟨⟨(some 80), .call 16 [(.t 78), (.t 79)], none⟩, 0, [0]⟩,
           ⟨⟨(some 81), .bin .add (.t 76) (.t 80), none⟩, 1, []⟩,
           ⟨⟨(some 82), .litz 1 [(.t 81)], none⟩, 1, []⟩,
           ⟨⟨(some 83), .app 1 16 (.t 71) (.t 82), none⟩, 1, []⟩,
           ⟨⟨(some 5), .mov (.t 83), none⟩, 2, []⟩])
         .skip))))))
      (.rg [⟨(some 84), .bin .add (.t 21) (.c (.p (.int .i64 1))), none⟩,
        ⟨(some 21), .mov (.t 84), none⟩])))))))
    (.seq (.rg [⟨(some 85), .mov (.t 5), none⟩,
      ⟨(some 86), .mov (.t 1), none⟩,
      ⟨(some 87), .mov (.t 5), none⟩,
      ⟨(some 88), .lenl (.t 87), none⟩,
      ⟨(some 89), .bin .rem (.t 86) (.t 88), none⟩,
      ⟨(some 90), .iaddr 1 (.t 85) (.t 89), none⟩,
      ⟨(some 91), .load false 1 (.t 90), none⟩,
      ⟨(some 4), .mov (.t 91), none⟩])
    .ret)))))
def r9 : List DR := [.tmp 4]
theorem c9_ok : Tryd.f9.body.bind (cCode Tryd.prog) = some c9 := by kernel_rfl
theorem r9_ok : cRes Tryd.prog Tryd.f9.results.toList = some r9 := by kernel_rfl

/-- (*given.example/pub-assaymark/pub/miniogo/pkg/set.IntSet).UnmarshalJSON -/
def c11 : DC :=
  (.seq (.rg [⟨(some 4), .mov (.c (.p .nilIface)), none⟩])
    (.seq (.rg [⟨(some 9), .lit 1 [], none⟩,
      ⟨(some 5), .alloc 1 (.p (.slice none 0 0)), none⟩,
      ⟨none, .store 1 (.t 5) (.t 9), none⟩])
    (.seq (.rg [⟨(some 6), .mov (.c (.p .nilIface)), none⟩])
    (.seq (.seq (.rg [⟨(some 10), .mov (.t 1), none⟩,
      ⟨(some 11), .ifc 48 (.t 5), none⟩,
      ⟨(some 12), .callr 18 [(.t 10), (.t 11)], none⟩,
      ⟨(some 6), .mov (.t 12), none⟩])
    (.seq (.rg [⟨(some 13), .mov (.t 6), none⟩,
      ⟨(some 14), .eqn false .iface (.t 13), none⟩])
    (.cond (.t 14) (.seq (.rg [⟨(some 15), .mov (.t 0), none⟩,
        ⟨(some 16), .mkmap, none⟩,
        ⟨(some 17), .nilchk .ptr (.t 15), none⟩,
        ⟨none, .store 1 (.t 17) (.t 16), none⟩])
      (.seq (.rg [⟨(some 18), .load false 1 (.t 5), none⟩,
        ⟨(some 19), .lenl (.t 18), none⟩,
        ⟨(some 20), .mov (.c (.p (.int .i64 0))), none⟩])
      (.block 0 (.loop (.seq (.rg [⟨(some 21), .bin .lss (.t 20) (.t 19), none⟩])
        (.seq (.cond (.t 21) .skip
          (.exit 0))
        (.seq (.block 1 (.seq (.rg [⟨(some 22), .iaddr 1 (.t 18) (.t 20), none⟩,
           ⟨(some 23), .load false 1 (.t 22), none⟩,
           ⟨(some 8), .mov (.t 23), none⟩])
         (.rg [⟨(some 24), .mov (.t 0), none⟩,
           ⟨(some 25), .nilchk .ptr (.t 24), none⟩,
           ⟨(some 26), .load false 1 (.t 25), none⟩,
           ⟨(some 27), .mov (.t 8), none⟩,
           ⟨(some 28), .callr 19 [(.t 26), (.t 27)], none⟩])))
        (.rg [⟨(some 29), .bin .add (.t 20) (.c (.p (.int .i64 1))), none⟩,
          ⟨(some 20), .mov (.t 29), none⟩]))))))))
      .skip)))
    (.seq (.rg [⟨(some 30), .mov (.t 6), none⟩,
      ⟨(some 4), .mov (.t 30), none⟩])
    .ret)))))
def r11 : List DR := [.tmp 4]
theorem c11_ok : Tryd.f11.body.bind (cCode Tryd.prog) = some c11 := by kernel_rfl
theorem r11_ok : cRes Tryd.prog Tryd.f11.results.toList = some r11 := by kernel_rfl

/-- (*given.example/pub-assaymark/pub/miniogo/pkg/set.IntSet).UnmarshalMsg -/
def c12 : DC :=
  (.seq (.rg [⟨(some 4), .mov (.c (.p (.slice none 0 0))), none⟩,
      ⟨(some 5), .mov (.c (.p .nilIface)), none⟩])
    (.seq (.seq (.rg [⟨(some 10), .mov (.t 1), none⟩,
      ⟨(some 11), .lenl (.t 10), none⟩,
      ⟨(some 12), .bin .gtr (.t 11) (.c (.p (.int .i64 0))), none⟩,
      ⟨(some 13), .mov (.t 12), none⟩,
      ⟨(some 14), .mov (.t 1), (some (13, true))⟩,
      ⟨(some 15), .iaddr 1 (.t 14) (.c (.p (.int .i64 0))), (some (13, true))⟩,
      ⟨(some 16), .load false 1 (.t 15), (some (13, true))⟩,
      ⟨(some 17), .bin .eql (.t 16) (.c (.p (.int .u8 192))), (some (13, true))⟩,
      ⟨(some 18), .pick (.t 13) (.t 17) (.c (.p (.bool false))), none⟩])
    (.cond (.t 18) (.seq (.rg [⟨(some 19), .mov (.t 0), none⟩,
        ⟨(some 20), .nilchk .ptr (.t 19), none⟩,
        ⟨none, .store 1 (.t 20) (.c (.p (.map none))), none⟩])
      (.seq (.rg [⟨(some 21), .mov (.t 1), none⟩,
        ⟨(some 22), .slcl 1 (.t 21) (some (.c (.p (.int .i64 1)))) none, none⟩,
        ⟨(some 4), .mov (.t 22), none⟩,
        ⟨(some 5), .mov (.c (.p .nilIface)), none⟩])
      .ret))
      .skip))
    (.seq (.rg [⟨(some 24), .mov (.t 1), none⟩,
      ⟨(some 25), .callr 20 [(.t 24)], none⟩,
      ⟨(some 23), .mov (.t 25), none⟩,
      ⟨(some 26), .ext (.t 23) 0, none⟩,
      ⟨(some 27), .ext (.t 23) 1, none⟩,
      ⟨(some 28), .ext (.t 23) 2, none⟩,
      ⟨(some 6), .mov (.t 26), none⟩,
      ⟨(some 1), .mov (.t 27), none⟩,
      ⟨(some 7), .mov (.t 28), none⟩])
    (.seq (.seq (.rg [⟨(some 29), .mov (.t 7), none⟩,
      ⟨(some 30), .eqn true .iface (.t 29), none⟩])
    (.cond (.t 30) (.seq (.rg [⟨(some 31), .mov (.t 7), none⟩,
        ⟨(some 4), .mov (.c (.p (.slice none 0 0))), none⟩,
        ⟨(some 5), .mov (.t 31), none⟩])
      .ret)
      .skip))
    (.seq (.rg [⟨(some 32), .mkmap, none⟩,
      ⟨(some 8), .mov (.t 32), none⟩])
    (.seq (.seq (.rg [⟨(some 33), .mov (.t 6), none⟩,
      ⟨(some 34), .mov (.c (.p (.int .i64 0))), none⟩])
    (.block 0 (.loop (.seq (.rg [⟨(some 35), .bin .lss (.t 34) (.t 33), none⟩])
      (.seq (.cond (.t 35) .skip
        (.exit 0))
      (.seq (.block 1 (.seq (.rg [⟨(some 9), .mov (.c (.p (.int .i64 0))), none⟩])
       (.seq (.rg [⟨(some 37), .mov (.t 1), none⟩,
         ⟨(some 38), .callr 21 [(.t 37)], none⟩,
         ⟨(some 36), .mov (.t 38), none⟩,
         ⟨(some 39), .ext (.t 36) 0, none⟩,
         ⟨(some 40), .ext (.t 36) 1, none⟩,
         ⟨(some 41), .ext (.t 36) 2, none⟩,
         ⟨(some 9), .mov (.t 39), none⟩,
         ⟨(some 1), .mov (.t 40), none⟩,
         ⟨(some 7), .mov (.t 41), none⟩])
       (.seq (.seq (.rg [⟨(some 42), .mov (.t 7), none⟩,
         ⟨(some 43), .eqn true .iface (.t 42), none⟩])
       (.cond (.t 43) (.seq (.rg [⟨(some 44), .mov (.t 7), none⟩,
           ⟨(some 4), .mov (.c (.p (.slice none 0 0))), none⟩,
           ⟨(some 5), .mov (.t 44), none⟩])
         .ret)
         .skip))
       (.rg [⟨(some 45), .mov (.t 8), none⟩,
         ⟨(some 46), .mov (.t 9), none⟩,
         ⟨(some 47), .callr 19 [(.t 45), (.t 46)], none⟩])))))
      (.rg [⟨(some 48), .bin .add (.t 34) (.c (.p (.int .i64 1))), none⟩,
        ⟨(some 34), .mov (.t 48), none⟩])))))))
    (.seq (.rg [⟨(some 49), .mov (.t 0), none⟩,
      ⟨(some 50), .mov (.t 8), none⟩,
      ⟨(some 51), .nilchk .ptr (.t 49), none⟩,
      ⟨none, .store 1 (.t 51) (.t 50), none⟩])
    (.seq (.rg [⟨(some 52), .mov (.t 1), none⟩,
      ⟨(some 4), .mov (.t 52), none⟩,
      ⟨(some 5), .mov (.c (.p .nilIface)), none⟩])
    .ret))))))))
def r12 : List DR := [.tmp 4, .tmp 5]
theorem c12_ok : Tryd.f12.body.bind (cCode Tryd.prog) = some c12 := by kernel_rfl
theorem r12_ok : cRes Tryd.prog Tryd.f12.results.toList = some r12 := by kernel_rfl

/-- (given.example/pub-assaymark/pub/miniogo/pkg/set.IntSet).ToSlice -/
def c14 : DC :=
  (.seq (.rg [⟨(some 2), .mov (.c (.p (.slice none 0 0))), none⟩])
    (.seq (.rg [⟨(some 3), .mov (.t 0), none⟩,
      ⟨(some 4), .callr 22 [(.t 3)], none⟩,
      ⟨(some 2), .mov (.t 4), none⟩])
    .ret))
def r14 : List DR := [.tmp 2]
theorem c14_ok : Tryd.f14.body.bind (cCode Tryd.prog) = some c14 := by kernel_rfl
theorem r14_ok : cRes Tryd.prog Tryd.f14.results.toList = some r14 := by kernel_rfl

/-- given.example/pub-assaymark/spec.packHead -/
def c15 : DC :=
  (.seq (.rg [⟨(some 10), .mov (.c (.p (.string ⟨#[]⟩))), none⟩])
    (.seq (.rg [⟨(some 11), .mov (.c (.p (.slice none 0 0))), none⟩])
    (.seq (.seq (.rg [⟨(some 15), .mov (.t 0), none⟩,
      ⟨(some 16), .mov (.t 2), none⟩,
      ⟨(some 17), .cint .i64 (.t 16), none⟩,
      ⟨(some 18), .bin .leq (.t 15) (.t 17), none⟩])
    (.cond (.t 18) (.rg [⟨(some 19), .mov (.t 11), none⟩,
        ⟨(some 20), .mov (.t 1), none⟩,
        ⟨(some 21), .mov (.t 0), none⟩,
        ⟨(some 22), .cint .u8 (.t 21), none⟩,
        ⟨(some 23), .bin .or (.t 20) (.t 22), none⟩,
        ⟨(some 24), .lit 1 [(.t 23)], none⟩,
        ⟨(some 25), .b2s (.t 24), none⟩,
        ⟨(some 26), .lit 1 [(.t 25)], none⟩,
        ⟨(some 27), .app 1 16 (.t 19) (.t 26), none⟩,
        ⟨(some 11), .mov (.t 27), none⟩])
      .skip))
    (.seq (.seq (.rg [⟨(some 28), .mov (.t 3), none⟩,
      ⟨(some 29), .lenl (.t 28), none⟩,
      ⟨(some 30), .mov (.c (.p (.int .i64 0))), none⟩])
    (.block 0 (.loop (.seq (.rg [⟨(some 31), .bin .lss (.t 30) (.t 29), none⟩])
      (.seq (.cond (.t 31) .skip
        (.exit 0))
      (.seq (.block 1 (.seq (.rg [⟨(some 32), .mov (.t 30), none⟩,
         ⟨(some 33), .iaddr 1 (.t 28) (.t 30), none⟩,
         ⟨(some 34), .load false 1 (.t 33), none⟩,
         ⟨(some 12), .mov (.t 32), none⟩,
         ⟨(some 13), .mov (.t 34), none⟩])
       (.seq (.rg [⟨(some 35), .mov (.t 12), none⟩,
         ⟨(some 36), .bin .add (.t 35) (.c (.p (.int .i64 3))), none⟩,
         ⟨(some 37), .mov (.t 3), none⟩,
         ⟨(some 38), .lenl (.t 37), none⟩,
         ⟨(some 39), .bin .sub (.t 36) (.t 38), none⟩,
         ⟨(some 40), .bin .shl (.c (.p (.int .i64 1))) (.t 39), none⟩,
         ⟨(some 14), .mov (.t 40), none⟩])
       (.seq (.rg [⟨(some 41), .mov (.t 14), none⟩,
         ⟨(some 42), .bin .geq (.t 41) (.c (.p (.int .i64 4))), none⟩,
         ⟨(some 43), .mov (.t 42), none⟩,
         ⟨(some 44), .mov (.t 0), (some (43, false))⟩,
         ⟨(some 45), .mov (.t 14), (some (43, false))⟩,
         ⟨(some 46), .bin .mul (.c (.p (.int .i64 8))) (.t 45), (some (43, false))⟩,
         ⟨(some 47), .bin .shl (.c (.p (.int .i64 1))) (.t 46), (some (43, false))⟩,
         ⟨(some 48), .bin .lss (.t 44) (.t 47), (some (43, false))⟩,
         ⟨(some 49), .pick (.t 43) (.c (.p (.bool true))) (.t 48), none⟩])
       (.cond (.t 49) (.rgd [⟨⟨(some 50), .mov (.t 11), none⟩, 0, [0]⟩,
           ⟨⟨(some 51), .mov (.t 13), none⟩, 0, []⟩,
           ⟨⟨(some 52), .litz 1 [(.t 51)], none⟩, 0, []⟩,
           ⟨⟨(some 53), .b2s (.t 52), none⟩, 0, [0]⟩,
           ⟨⟨(some 54), .mov (.t 0), none⟩, 0, [0]⟩,
           ⟨⟨(some 55), .cint .u64 (.t 54), none⟩, 0, [0]⟩,
           ⟨⟨(some 56), .mov (.t 14), none⟩, 0, [0]⟩,
           ⟨⟨(some 57), .call 16 [(.t 55), (.t 56)], none⟩, 0, [0]⟩,
           ⟨⟨(some 58), .bin .add (.t 53) (.t 57), none⟩, 1, []⟩,
           ⟨⟨(some 59), .litz 1 [(.t 58)], none⟩, 1, []⟩,
           ⟨⟨(some 60), .app 1 16 (.t 50) (.t 59), none⟩, 1, []⟩,
           ⟨⟨(some 11), .mov (.t 60), none⟩, 2, []⟩])
         .skip)))))
      (.rg [⟨(some 61), .bin .add (.t 30) (.c (.p (.int .i64 1))), none⟩,
        ⟨(some 30), .mov (.t 61), none⟩])))))))
    (.seq (.rg [⟨(some 62), .mov (.t 11), none⟩,
      ⟨(some 63), .mov (.t 4), none⟩,
      ⟨(some 64), .mov (.t 11), none⟩,
      ⟨(some 65), .lenl (.t 64), none⟩,
      ⟨(some 66), .bin .rem (.t 63) (.t 65), none⟩,
      ⟨(some 67), .iaddr 1 (.t 62) (.t 66), none⟩,
      ⟨(some 68), .load false 1 (.t 67), none⟩,
      ⟨(some 10), .mov (.t 68), none⟩])
    .ret)))))
def r15 : List DR := [.tmp 10]
theorem c15_ok : Tryd.f15.body.bind (cCode Tryd.prog) = some c15 := by kernel_rfl
theorem r15_ok : cRes Tryd.prog Tryd.f15.results.toList = some r15 := by kernel_rfl

/-- given.example/pub-assaymark/spec.packBig -/
def c16 : DC :=
  (.seq (.rg [⟨(some 4), .mov (.c (.p (.string ⟨#[]⟩))), none⟩])
    (.seq (.rg [⟨(some 7), .mov (.t 1), none⟩,
      ⟨(some 8), .mks false 1 1 (.p (.int .u8 0)) (.t 7) (.t 7), none⟩,
      ⟨(some 5), .mov (.t 8), none⟩])
    (.seq (.seq (.rg [⟨(some 9), .mov (.t 5), none⟩,
      ⟨(some 10), .lenl (.t 9), none⟩,
      ⟨(some 11), .mov (.c (.p (.int .i64 0))), none⟩])
    (.block 0 (.loop (.seq (.rg [⟨(some 12), .bin .lss (.t 11) (.t 10), none⟩])
      (.seq (.cond (.t 12) .skip
        (.exit 0))
      (.seq (.block 1 (.seq (.rg [⟨(some 13), .mov (.t 11), none⟩,
         ⟨(some 6), .mov (.t 13), none⟩])
       (.rg [⟨(some 14), .mov (.t 5), none⟩,
         ⟨(some 15), .mov (.t 6), none⟩,
         ⟨(some 16), .mov (.t 0), none⟩,
         ⟨(some 17), .mov (.t 1), none⟩,
         ⟨(some 18), .bin .sub (.t 17) (.c (.p (.int .i64 1))), none⟩,
         ⟨(some 19), .mov (.t 6), none⟩,
         ⟨(some 20), .bin .sub (.t 18) (.t 19), none⟩,
         ⟨(some 21), .bin .mul (.c (.p (.int .i64 8))) (.t 20), none⟩,
         ⟨(some 22), .bin .shr (.t 16) (.t 21), none⟩,
         ⟨(some 23), .cint .u8 (.t 22), none⟩,
         ⟨(some 24), .iaddr 1 (.t 14) (.t 15), none⟩,
         ⟨none, .store 1 (.t 24) (.t 23), none⟩])))
      (.rg [⟨(some 25), .bin .add (.t 11) (.c (.p (.int .i64 1))), none⟩,
        ⟨(some 11), .mov (.t 25), none⟩])))))))
    (.seq (.rg [⟨(some 26), .mov (.t 5), none⟩,
      ⟨(some 27), .b2s (.t 26), none⟩,
      ⟨(some 4), .mov (.t 27), none⟩])
    .ret))))
def r16 : List DR := [.tmp 4]
theorem c16_ok : Tryd.f16.body.bind (cCode Tryd.prog) = some c16 := by kernel_rfl
theorem r16_ok : cRes Tryd.prog Tryd.f16.results.toList = some r16 := by kernel_rfl

/-- given.example/pub-assaymark/pub/zzjson.Unmarshal -/
def c18 : DC :=
  (.seq (.rg [⟨(some 4), .mov (.c (.p .nilIface)), none⟩])
    (.seq (.rg [⟨(some 8), .mov (.t 0), none⟩,
      ⟨(some 9), .bld [.p (.slice none 0 0), .p (.int .i64 0), .p (.int .i64 0)] [(0, 1, (.t 8))], none⟩,
      ⟨(some 10), .box (.t 9), none⟩,
      ⟨(some 5), .mov (.t 10), none⟩])
    (.seq (.rg [⟨(some 12), .mov (.t 5), none⟩,
      ⟨(some 13), .callr 27 [(.t 12)], none⟩,
      ⟨(some 11), .mov (.t 13), none⟩,
      ⟨(some 14), .ext (.t 11) 0, none⟩,
      ⟨(some 15), .ext (.t 11) 1, none⟩,
      ⟨(some 6), .alloc 5 (.agg [.p (.int .u8 0), .p (.bool false), .p (.string ⟨#[]⟩), .p (.slice none 0 0), .p (.slice none 0 0)]), none⟩,
      ⟨none, .store 5 (.t 6) (.t 14), none⟩,
      ⟨(some 7), .mov (.t 15), none⟩])
    (.seq (.rg [⟨(some 16), .mov (.t 5), none⟩,
      ⟨(some 17), .callr 28 [(.t 16)], none⟩])
    (.seq (.seq (.rgd [⟨⟨(some 18), .mov (.t 7), none⟩, 0, []⟩,
      ⟨⟨(some 19), .un .not (.t 18), none⟩, 0, []⟩,
      ⟨⟨(some 20), .mov (.t 19), none⟩, 0, []⟩,
      ⟨⟨(some 21), .mov (.t 5), (some (20, false))⟩, 0, [0]⟩,
      ⟨⟨(some 22), .nilchk .ptr (.t 21), (some (20, false))⟩, 0, [0]⟩,
      ⟨⟨(some 23), .faddr false 1 1 (.t 22), (some (20, false))⟩, 0, [0]⟩,
      ⟨⟨(some 24), .load false 1 (.t 23), (some (20, false))⟩, 0, [0]⟩,
      ⟨⟨(some 25), .mov (.t 5), (some (20, false))⟩, 0, [0]⟩,
      ⟨⟨(some 26), .nilchk .ptr (.t 25), (some (20, false))⟩, 0, [0]⟩,
      ⟨⟨(some 27), .faddr false 0 1 (.t 26), (some (20, false))⟩, 0, [0]⟩,
      ⟨⟨(some 28), .load false 1 (.t 27), (some (20, false))⟩, 0, [0]⟩,
      ⟨⟨(some 29), .lenl (.t 28), (some (20, false))⟩, 0, [0]⟩,
      ⟨⟨(some 30), .bin .lss (.t 24) (.t 29), (some (20, false))⟩, 0, []⟩,
      ⟨⟨(some 31), .pick (.t 20) (.c (.p (.bool true))) (.t 30), none⟩, 0, []⟩])
    (.cond (.t 31) (.seq (.rg [⟨(some 32), .ifc 71 (.c (.p (.string ⟨#[105, 110, 118, 97, 108, 105, 100, 32, 74, 83, 79, 78]⟩))), none⟩,
        ⟨(some 4), .mov (.t 32), none⟩])
      .ret)
      .skip))
    (.seq (.seq (.rg [⟨(some 33), .mov (.t 1), none⟩,
      ⟨(some 34), .load true 5 (.t 6), none⟩,
      ⟨(some 35), .inv true "ZzTake" (.t 33) [(.t 34)], none⟩,
      ⟨(some 36), .un .not (.t 35), none⟩])
    (.cond (.t 36) (.seq (.rg [⟨(some 37), .ifc 71 (.c (.p (.string ⟨#[74, 83, 79, 78, 32, 118, 97, 108, 117, 101, 32, 111, 102, 32, 97, 110, 111, 116, 104, 101, 114, 32, 116, 121, 112, 101]⟩))), none⟩,
        ⟨(some 4), .mov (.t 37), none⟩])
      .ret)
      .skip))
    (.seq (.rg [⟨(some 4), .mov (.c (.p .nilIface)), none⟩])
    .ret)))))))
def r18 : List DR := [.tmp 4]
theorem c18_ok : Tryd.f18.body.bind (cCode Tryd.prog) = some c18 := by kernel_rfl
theorem r18_ok : cRes Tryd.prog Tryd.f18.results.toList = some r18 := by kernel_rfl

/-- (given.example/pub-assaymark/pub/miniogo/pkg/set.IntSet).Add -/
def c19 : DC :=
  (.rg [⟨(some 4), .mov (.t 0), none⟩,
      ⟨(some 5), .mov (.t 1), none⟩,
      ⟨(some 6), .callr 29 [(.t 4), (.t 5)], none⟩])
def r19 : List DR := []
theorem c19_ok : Tryd.f19.body.bind (cCode Tryd.prog) = some c19 := by kernel_rfl
theorem r19_ok : cRes Tryd.prog Tryd.f19.results.toList = some r19 := by kernel_rfl

/-- given.example/pub-assaymark/pub/zzmsgp.ReadArrayHeader -/
def c20 : DC :=
  (.seq (.rg [⟨(some 2), .mov (.c (.p (.int .i64 0))), none⟩,
      ⟨(some 3), .mov (.c (.p (.slice none 0 0))), none⟩,
      ⟨(some 4), .mov (.c (.p .nilIface)), none⟩])
    (.seq (.seq (.rg [⟨(some 9), .mov (.t 0), none⟩,
      ⟨(some 10), .lenl (.t 9), none⟩,
      ⟨(some 11), .bin .eql (.t 10) (.c (.p (.int .i64 0))), none⟩])
    (.cond (.t 11) (.seq (.rg [⟨(some 12), .mov (.t 0), none⟩,
        ⟨(some 13), .ifc 71 (.c (.p (.string ⟨#[116, 111, 111, 32, 102, 101, 119, 32, 98, 121, 116, 101, 115, 32, 108, 101, 102, 116, 32, 116, 111, 32, 114, 101, 97, 100, 32, 111, 98, 106, 101, 99, 116]⟩))), none⟩,
        ⟨(some 2), .mov (.c (.p (.int .i64 0))), none⟩,
        ⟨(some 3), .mov (.t 12), none⟩,
        ⟨(some 4), .mov (.t 13), none⟩])
      .ret)
      .skip))
    (.seq (.seq (.rg [⟨(some 14), .mov (.t 0), none⟩,
      ⟨(some 15), .iaddr 1 (.t 14) (.c (.p (.int .i64 0))), none⟩,
      ⟨(some 16), .load false 1 (.t 15), none⟩,
      ⟨(some 5), .mov (.t 16), none⟩])
    (.block 0 (.seq (.rg [⟨(some 18), .mov (.t 5), none⟩,
       ⟨(some 19), .bin .and (.t 18) (.c (.p (.int .u8 240))), none⟩,
       ⟨(some 20), .bin .eql (.t 19) (.c (.p (.int .u8 144))), none⟩,
       ⟨(some 17), .mov (.t 20), none⟩])
     (.cond (.t 17) (.seq (.rgd [⟨⟨(some 21), .mov (.t 5), none⟩, 0, [0]⟩,
         ⟨⟨(some 22), .bin .and (.t 21) (.c (.p (.int .u8 15))), none⟩, 0, [0]⟩,
         ⟨⟨(some 23), .cint .i64 (.t 22), none⟩, 0, [0]⟩,
         ⟨⟨(some 24), .mov (.t 0), none⟩, 0, []⟩,
         ⟨⟨(some 25), .slcl 1 (.t 24) (some (.c (.p (.int .i64 1)))) none, none⟩, 0, [0]⟩,
         ⟨⟨(some 2), .mov (.t 23), none⟩, 0, [0]⟩,
         ⟨⟨(some 3), .mov (.t 25), none⟩, 0, []⟩,
         ⟨⟨(some 4), .mov (.c (.p .nilIface)), none⟩, 0, []⟩])
       .ret)
       (.seq (.rg [⟨(some 27), .mov (.t 5), none⟩,
         ⟨(some 28), .bin .eql (.t 27) (.c (.p (.int .u8 220))), none⟩,
         ⟨(some 29), .mov (.t 28), none⟩,
         ⟨(some 30), .mov (.t 5), (some (29, false))⟩,
         ⟨(some 31), .bin .eql (.t 30) (.c (.p (.int .u8 221))), (some (29, false))⟩,
         ⟨(some 32), .pick (.t 29) (.c (.p (.bool true))) (.t 31), none⟩,
         ⟨(some 26), .mov (.t 32), none⟩])
       (.cond (.t 26) (.seq (.rg [⟨(some 34), .mov (.t 0), none⟩,
           ⟨(some 35), .mov (.t 5), none⟩,
           ⟨(some 36), .bin .sub (.t 35) (.c (.p (.int .u8 220))), none⟩,
           ⟨(some 37), .cint .i64 (.t 36), none⟩,
           ⟨(some 38), .bin .mul (.t 37) (.c (.p (.int .i64 2))), none⟩,
           ⟨(some 39), .bin .add (.t 38) (.c (.p (.int .i64 2))), none⟩,
           ⟨(some 40), .callr 30 [(.t 34), (.t 39)], none⟩,
           ⟨(some 33), .mov (.t 40), none⟩,
           ⟨(some 41), .ext (.t 33) 0, none⟩,
           ⟨(some 42), .ext (.t 33) 1, none⟩,
           ⟨(some 43), .ext (.t 33) 2, none⟩,
           ⟨(some 6), .mov (.t 41), none⟩,
           ⟨(some 7), .mov (.t 42), none⟩,
           ⟨(some 8), .mov (.t 43), none⟩])
         (.seq (.rg [⟨(some 44), .mov (.t 6), none⟩,
           ⟨(some 45), .cint .i64 (.t 44), none⟩,
           ⟨(some 46), .mov (.t 7), none⟩,
           ⟨(some 47), .mov (.t 8), none⟩,
           ⟨(some 2), .mov (.t 45), none⟩,
           ⟨(some 3), .mov (.t 46), none⟩,
           ⟨(some 4), .mov (.t 47), none⟩])
         .ret))
         .skip))))))
    (.seq (.rg [⟨(some 48), .mov (.t 0), none⟩,
      ⟨(some 49), .ifc 71 (.c (.p (.string ⟨#[117, 110, 114, 101, 99, 111, 103, 110, 105, 122, 101, 100, 32, 116, 121, 112, 101, 32, 112, 114, 101, 102, 105, 120]⟩))), none⟩,
      ⟨(some 2), .mov (.c (.p (.int .i64 0))), none⟩,
      ⟨(some 3), .mov (.t 48), none⟩,
      ⟨(some 4), .mov (.t 49), none⟩])
    .ret))))
def r20 : List DR := [.tmp 2, .tmp 3, .tmp 4]
theorem c20_ok : Tryd.f20.body.bind (cCode Tryd.prog) = some c20 := by kernel_rfl
theorem r20_ok : cRes Tryd.prog Tryd.f20.results.toList = some r20 := by kernel_rfl

/-- given.example/pub-assaymark/pub/zzmsgp.ReadInt -/
def c21 : DC :=
  (.seq (.rg [⟨(some 2), .mov (.c (.p (.int .i64 0))), none⟩,
      ⟨(some 3), .mov (.c (.p (.slice none 0 0))), none⟩,
      ⟨(some 4), .mov (.c (.p .nilIface)), none⟩])
    (.seq (.seq (.rg [⟨(some 13), .mov (.t 0), none⟩,
      ⟨(some 14), .lenl (.t 13), none⟩,
      ⟨(some 15), .bin .eql (.t 14) (.c (.p (.int .i64 0))), none⟩])
    (.cond (.t 15) (.seq (.rg [⟨(some 16), .mov (.t 0), none⟩,
        ⟨(some 17), .ifc 71 (.c (.p (.string ⟨#[116, 111, 111, 32, 102, 101, 119, 32, 98, 121, 116, 101, 115, 32, 108, 101, 102, 116, 32, 116, 111, 32, 114, 101, 97, 100, 32, 111, 98, 106, 101, 99, 116]⟩))), none⟩,
        ⟨(some 2), .mov (.c (.p (.int .i64 0))), none⟩,
        ⟨(some 3), .mov (.t 16), none⟩,
        ⟨(some 4), .mov (.t 17), none⟩])
      .ret)
      .skip))
    (.seq (.rg [⟨(some 18), .mov (.t 0), none⟩,
      ⟨(some 19), .iaddr 1 (.t 18) (.c (.p (.int .i64 0))), none⟩,
      ⟨(some 20), .load false 1 (.t 19), none⟩,
      ⟨(some 5), .mov (.t 20), none⟩])
    (.seq (.block 0 (.seq (.rg [⟨(some 22), .mov (.t 5), none⟩,
       ⟨(some 23), .bin .lss (.t 22) (.c (.p (.int .u8 128))), none⟩,
       ⟨(some 24), .mov (.t 23), none⟩,
       ⟨(some 25), .mov (.t 5), (some (24, false))⟩,
       ⟨(some 26), .bin .geq (.t 25) (.c (.p (.int .u8 224))), (some (24, false))⟩,
       ⟨(some 27), .pick (.t 24) (.c (.p (.bool true))) (.t 26), none⟩,
       ⟨(some 21), .mov (.t 27), none⟩])
     (.cond (.t 21) (.seq (.rgd [⟨⟨(some 28), .mov (.t 5), none⟩, 0, [0]⟩,
         ⟨⟨(some 29), .cint .i8 (.t 28), none⟩, 0, [0]⟩,
         ⟨⟨(some 30), .cint .i64 (.t 29), none⟩, 0, [0]⟩,
         ⟨⟨(some 31), .mov (.t 0), none⟩, 0, []⟩,
         ⟨⟨(some 32), .slcl 1 (.t 31) (some (.c (.p (.int .i64 1)))) none, none⟩, 0, [0]⟩,
         ⟨⟨(some 2), .mov (.t 30), none⟩, 0, [0]⟩,
         ⟨⟨(some 3), .mov (.t 32), none⟩, 0, []⟩,
         ⟨⟨(some 4), .mov (.c (.p .nilIface)), none⟩, 0, []⟩])
       .ret)
       (.seq (.rg [⟨(some 34), .mov (.t 5), none⟩,
         ⟨(some 35), .bin .geq (.t 34) (.c (.p (.int .u8 204))), none⟩,
         ⟨(some 36), .mov (.t 35), none⟩,
         ⟨(some 37), .mov (.t 5), (some (36, true))⟩,
         ⟨(some 38), .bin .leq (.t 37) (.c (.p (.int .u8 207))), (some (36, true))⟩,
         ⟨(some 39), .pick (.t 36) (.t 38) (.c (.p (.bool false))), none⟩,
         ⟨(some 33), .mov (.t 39), none⟩])
       (.cond (.t 33) (.seq (.rg [⟨(some 41), .mov (.t 0), none⟩,
           ⟨(some 42), .mov (.t 5), none⟩,
           ⟨(some 43), .bin .sub (.t 42) (.c (.p (.int .u8 204))), none⟩,
           ⟨(some 44), .bin .shl (.c (.p (.int .i64 1))) (.t 43), none⟩,
           ⟨(some 45), .callr 30 [(.t 41), (.t 44)], none⟩,
           ⟨(some 40), .mov (.t 45), none⟩,
           ⟨(some 46), .ext (.t 40) 0, none⟩,
           ⟨(some 47), .ext (.t 40) 1, none⟩,
           ⟨(some 48), .ext (.t 40) 2, none⟩,
           ⟨(some 6), .mov (.t 46), none⟩,
           ⟨(some 7), .mov (.t 47), none⟩,
           ⟨(some 8), .mov (.t 48), none⟩])
         (.seq (.seq (.rg [⟨(some 49), .mov (.t 8), none⟩,
           ⟨(some 50), .eqn false .iface (.t 49), none⟩,
           ⟨(some 51), .mov (.t 50), none⟩,
           ⟨(some 52), .mov (.t 6), (some (51, true))⟩,
           ⟨(some 53), .bin .gtr (.t 52) (.c (.p (.int .u64 9223372036854775807))), (some (51, true))⟩,
           ⟨(some 54), .pick (.t 51) (.t 53) (.c (.p (.bool false))), none⟩])
         (.cond (.t 54) (.seq (.rg [⟨(some 55), .mov (.t 0), none⟩,
             ⟨(some 56), .ifc 71 (.c (.p (.string ⟨#[110, 117, 109, 98, 101, 114, 32, 111, 118, 101, 114, 102, 108, 111, 119, 115, 32, 105, 110, 116, 54, 52]⟩))), none⟩,
             ⟨(some 2), .mov (.c (.p (.int .i64 0))), none⟩,
             ⟨(some 3), .mov (.t 55), none⟩,
             ⟨(some 4), .mov (.t 56), none⟩])
           .ret)
           .skip))
         (.seq (.rg [⟨(some 57), .mov (.t 6), none⟩,
           ⟨(some 58), .cint .i64 (.t 57), none⟩,
           ⟨(some 59), .mov (.t 7), none⟩,
           ⟨(some 60), .mov (.t 8), none⟩,
           ⟨(some 2), .mov (.t 58), none⟩,
           ⟨(some 3), .mov (.t 59), none⟩,
           ⟨(some 4), .mov (.t 60), none⟩])
         .ret)))
         (.seq (.rg [⟨(some 62), .mov (.t 5), none⟩,
           ⟨(some 63), .bin .geq (.t 62) (.c (.p (.int .u8 208))), none⟩,
           ⟨(some 64), .mov (.t 63), none⟩,
           ⟨(some 65), .mov (.t 5), (some (64, true))⟩,
           ⟨(some 66), .bin .leq (.t 65) (.c (.p (.int .u8 211))), (some (64, true))⟩,
           ⟨(some 67), .pick (.t 64) (.t 66) (.c (.p (.bool false))), none⟩,
           ⟨(some 61), .mov (.t 67), none⟩])
         (.cond (.t 61) (.seq (.rg [⟨(some 68), .mov (.t 5), none⟩,
             ⟨(some 69), .bin .sub (.t 68) (.c (.p (.int .u8 208))), none⟩,
             ⟨(some 70), .bin .shl (.c (.p (.int .i64 1))) (.t 69), none⟩,
             ⟨(some 9), .mov (.t 70), none⟩])
           (.seq (.rg [⟨(some 72), .mov (.t 0), none⟩,
             ⟨(some 73), .mov (.t 9), none⟩,
             ⟨(some 74), .callr 30 [(.t 72), (.t 73)], none⟩,
             ⟨(some 71), .mov (.t 74), none⟩,
             ⟨(some 75), .ext (.t 71) 0, none⟩,
             ⟨(some 76), .ext (.t 71) 1, none⟩,
             ⟨(some 77), .ext (.t 71) 2, none⟩,
             ⟨(some 10), .mov (.t 75), none⟩,
             ⟨(some 11), .mov (.t 76), none⟩,
             ⟨(some 12), .mov (.t 77), none⟩])
           (.seq (.rg [⟨(some 78), .mov (.t 10), none⟩,
             ⟨(some 79), .mov (.t 9), none⟩,
             ⟨(some 80), .bin .mul (.c (.p (.int .i64 8))) (.t 79), none⟩,
             ⟨(some 81), .bin .sub (.c (.p (.int .i64 64))) (.t 80), none⟩,
             ⟨(some 82), .bin .shl (.t 78) (.t 81), none⟩,
             ⟨(some 83), .cint .i64 (.t 82), none⟩,
             ⟨(some 84), .mov (.t 9), none⟩,
             ⟨(some 85), .bin .mul (.c (.p (.int .i64 8))) (.t 84), none⟩,
             ⟨(some 86), .bin .sub (.c (.p (.int .i64 64))) (.t 85), none⟩,
             ⟨(some 87), .bin .shr (.t 83) (.t 86), none⟩,
             ⟨(some 88), .mov (.t 11), none⟩,
             ⟨(some 89), .mov (.t 12), none⟩,
             ⟨(some 2), .mov (.t 87), none⟩,
             ⟨(some 3), .mov (.t 88), none⟩,
             ⟨(some 4), .mov (.t 89), none⟩])
           .ret)))
           .skip)))))))
    (.seq (.rg [⟨(some 90), .mov (.t 0), none⟩,
      ⟨(some 91), .ifc 71 (.c (.p (.string ⟨#[117, 110, 114, 101, 99, 111, 103, 110, 105, 122, 101, 100, 32, 116, 121, 112, 101, 32, 112, 114, 101, 102, 105, 120]⟩))), none⟩,
      ⟨(some 2), .mov (.c (.p (.int .i64 0))), none⟩,
      ⟨(some 3), .mov (.t 90), none⟩,
      ⟨(some 4), .mov (.t 91), none⟩])
    .ret)))))
def r21 : List DR := [.tmp 2, .tmp 3, .tmp 4]
theorem c21_ok : Tryd.f21.body.bind (cCode Tryd.prog) = some c21 := by kernel_rfl
theorem r21_ok : cRes Tryd.prog Tryd.f21.results.toList = some r21 := by kernel_rfl

/-- given.example/pub-assaymark/pub/miniogo/pkg/set.ToSliceOrdered[int] -/
def c22 : DC :=
  (.seq (.rg [⟨(some 2), .mov (.c (.p (.slice none 0 0))), none⟩])
    (.seq (.rg [⟨(some 5), .mov (.t 0), none⟩,
      ⟨(some 6), .lenm (.t 5), none⟩,
      ⟨(some 7), .mks false 1 8 (.p (.int .i64 0)) (.c (.p (.int .i64 0))) (.t 6), none⟩,
      ⟨(some 3), .mov (.t 7), none⟩])
    (.seq (.seq (.rg [⟨(some 8), .mov (.t 0), none⟩,
      ⟨(some 9), .rngm (.t 8), none⟩])
    (.block 0 (.loop (.seq (.rg [⟨(some 10), .nxtm (.t 9), none⟩,
        ⟨(some 11), .ext (.t 10) 0, none⟩])
      (.seq (.cond (.t 11) .skip
        (.exit 0))
      (.block 1 (.seq (.rg [⟨(some 12), .ent (.t 9), none⟩,
         ⟨(some 13), .ext (.t 12) 0, none⟩,
         ⟨(some 4), .mov (.t 13), none⟩])
       (.rg [⟨(some 14), .mov (.t 3), none⟩,
         ⟨(some 15), .mov (.t 4), none⟩,
         ⟨(some 16), .lit 1 [(.t 15)], none⟩,
         ⟨(some 17), .app 1 8 (.t 14) (.t 16), none⟩,
         ⟨(some 3), .mov (.t 17), none⟩]))))))))
    (.seq (.rg [⟨(some 18), .mov (.t 3), none⟩,
      ⟨(some 19), .callr 31 [(.t 18)], none⟩])
    (.seq (.rg [⟨(some 20), .mov (.t 3), none⟩,
      ⟨(some 2), .mov (.t 20), none⟩])
    .ret)))))
def r22 : List DR := [.tmp 2]
theorem c22_ok : Tryd.f22.body.bind (cCode Tryd.prog) = some c22 := by kernel_rfl
theorem r22_ok : cRes Tryd.prog Tryd.f22.results.toList = some r22 := by kernel_rfl

/-- (*given.example/pub-assaymark/pub/zzjson.reader).value -/
def c27 : DC :=
  (.seq (.rg [⟨(some 2), .alloc 5 (.agg [.p (.int .u8 0), .p (.bool false), .p (.string ⟨#[]⟩), .p (.slice none 0 0), .p (.slice none 0 0)]), none⟩,
      ⟨(some 3), .mov (.c (.p (.bool false))), none⟩])
    (.seq (.rg [⟨(some 8), .mov (.t 0), none⟩,
      ⟨(some 9), .callr 28 [(.t 8)], none⟩])
    (.seq (.seq (.rgd [⟨⟨(some 10), .mov (.t 0), none⟩, 0, [0]⟩,
      ⟨⟨(some 11), .nilchk .ptr (.t 10), none⟩, 0, [0]⟩,
      ⟨⟨(some 12), .faddr false 1 1 (.t 11), none⟩, 0, [0]⟩,
      ⟨⟨(some 13), .load false 1 (.t 12), none⟩, 0, [0]⟩,
      ⟨⟨(some 14), .mov (.t 0), none⟩, 0, [0]⟩,
      ⟨⟨(some 15), .nilchk .ptr (.t 14), none⟩, 0, [0]⟩,
      ⟨⟨(some 16), .faddr false 0 1 (.t 15), none⟩, 0, [0]⟩,
      ⟨⟨(some 17), .load false 1 (.t 16), none⟩, 0, [0]⟩,
      ⟨⟨(some 18), .lenl (.t 17), none⟩, 0, [0]⟩,
      ⟨⟨(some 19), .bin .geq (.t 13) (.t 18), none⟩, 0, []⟩])
    (.cond (.t 19) (.seq (.rg [⟨(some 20), .load true 5 (.t 2), none⟩,
        ⟨none, .store 5 (.t 2) (.t 20), none⟩,
        ⟨(some 3), .mov (.c (.p (.bool false))), none⟩])
      .ret)
      .skip))
    (.seq (.seq (.rgd [⟨⟨(some 21), .mov (.t 0), none⟩, 0, [0]⟩,
      ⟨⟨(some 22), .nilchk .ptr (.t 21), none⟩, 0, [0]⟩,
      ⟨⟨(some 23), .faddr false 0 1 (.t 22), none⟩, 0, [0]⟩,
      ⟨⟨(some 24), .load false 1 (.t 23), none⟩, 0, [0]⟩,
      ⟨⟨(some 25), .mov (.t 0), none⟩, 0, [0]⟩,
      ⟨⟨(some 26), .nilchk .ptr (.t 25), none⟩, 0, [0]⟩,
      ⟨⟨(some 27), .faddr false 1 1 (.t 26), none⟩, 0, [0]⟩,
      ⟨⟨(some 28), .load false 1 (.t 27), none⟩, 0, [0]⟩,
      ⟨⟨(some 29), .iaddr 1 (.t 24) (.t 28), none⟩, 0, [0]⟩,
      ⟨⟨(some 30), .load false 1 (.t 29), none⟩, 0, [0]⟩,
      ⟨⟨(some 4), .mov (.t 30), none⟩, 0, []⟩])
    (.seq (.rg [⟨(some 31), .mov (.t 4), none⟩])
    (.block 0 (.seq (.rg [⟨(some 33), .bin .eql (.t 31) (.c (.p (.int .u8 123))), none⟩,
       ⟨(some 32), .mov (.t 33), none⟩])
     (.cond (.t 32) (.seq (.rg [⟨(some 34), .mov (.t 0), none⟩,
         ⟨(some 35), .callr 37 [(.t 34)], none⟩,
         ⟨(some 36), .ext (.t 35) 0, none⟩,
         ⟨(some 37), .ext (.t 35) 1, none⟩,
         ⟨none, .store 5 (.t 2) (.t 36), none⟩,
         ⟨(some 3), .mov (.t 37), none⟩])
       .ret)
       (.seq (.rg [⟨(some 39), .bin .eql (.t 31) (.c (.p (.int .u8 91))), none⟩,
         ⟨(some 38), .mov (.t 39), none⟩])
       (.cond (.t 38) (.seq (.rg [⟨(some 40), .mov (.t 0), none⟩,
           ⟨(some 41), .callr 38 [(.t 40)], none⟩,
           ⟨(some 42), .ext (.t 41) 0, none⟩,
           ⟨(some 43), .ext (.t 41) 1, none⟩,
           ⟨none, .store 5 (.t 2) (.t 42), none⟩,
           ⟨(some 3), .mov (.t 43), none⟩])
         .ret)
         (.seq (.rg [⟨(some 45), .bin .eql (.t 31) (.c (.p (.int .u8 34))), none⟩,
           ⟨(some 44), .mov (.t 45), none⟩])
         (.cond (.t 44) (.seq (.rg [⟨(some 46), .faddr false 0 1 (.t 2), none⟩,
             ⟨none, .store 1 (.t 46) (.c (.p (.int .u8 34))), none⟩,
             ⟨(some 47), .faddr false 1 1 (.t 2), none⟩,
             ⟨none, .store 1 (.t 47) (.c (.p (.bool true))), none⟩])
           (.seq (.rg [⟨(some 48), .mov (.t 0), none⟩,
             ⟨(some 49), .nilchk .ptr (.t 48), none⟩,
             ⟨(some 50), .faddr false 1 1 (.t 49), none⟩,
             ⟨(some 51), .load false 1 (.t 50), none⟩,
             ⟨(some 5), .mov (.t 51), none⟩])
           (.seq (.rg [⟨(some 53), .mov (.t 0), none⟩,
             ⟨(some 54), .callr 39 [(.t 53)], none⟩,
             ⟨(some 52), .mov (.t 54), none⟩,
             ⟨(some 55), .ext (.t 52) 0, none⟩,
             ⟨(some 56), .ext (.t 52) 1, none⟩,
             ⟨(some 57), .faddr false 2 1 (.t 2), none⟩,
             ⟨none, .store 1 (.t 57) (.t 55), none⟩,
             ⟨(some 3), .mov (.t 56), none⟩])
           (.seq (.seq (.rgd [⟨⟨(some 58), .mov (.t 0), none⟩, 0, [0]⟩,
             ⟨⟨(some 59), .nilchk .ptr (.t 58), none⟩, 0, [0]⟩,
             ⟨⟨(some 60), .faddr false 0 1 (.t 59), none⟩, 0, [0]⟩,
             ⟨⟨(some 61), .load false 1 (.t 60), none⟩, 0, [0]⟩,
             ⟨⟨(some 62), .mov (.t 5), none⟩, 0, [0]⟩,
             ⟨⟨(some 63), .mov (.t 0), none⟩, 0, [0]⟩,
             ⟨⟨(some 64), .nilchk .ptr (.t 63), none⟩, 0, [0]⟩,
             ⟨⟨(some 65), .faddr false 1 1 (.t 64), none⟩, 0, [0]⟩,
             ⟨⟨(some 66), .load false 1 (.t 65), none⟩, 0, [0]⟩,
             ⟨⟨(some 67), .slcl 1 (.t 61) (some (.t 62)) (some (.t 66)), none⟩, 0, [0]⟩,
             ⟨⟨(some 68), .lenl (.t 67), none⟩, 0, []⟩,
             ⟨⟨(some 69), .mov (.c (.p (.int .i64 0))), none⟩, 0, [0]⟩])
           (.block 1 (.loop (.seq (.rg [⟨(some 70), .bin .lss (.t 69) (.t 68), none⟩])
             (.seq (.cond (.t 70) .skip
               (.exit 1))
             (.seq (.block 2 (.seq (.rg [⟨(some 71), .iaddr 1 (.t 67) (.t 69), none⟩,
                ⟨(some 72), .load false 1 (.t 71), none⟩,
                ⟨(some 7), .mov (.t 72), none⟩])
              (.rg [⟨(some 73), .faddr false 1 1 (.t 2), none⟩,
                ⟨(some 74), .load false 1 (.t 73), none⟩,
                ⟨(some 75), .mov (.t 74), none⟩,
                ⟨(some 76), .mov (.t 7), (some (75, true))⟩,
                ⟨(some 77), .bin .neq (.t 76) (.c (.p (.int .u8 92))), (some (75, true))⟩,
                ⟨(some 78), .pick (.t 75) (.t 77) (.c (.p (.bool false))), none⟩,
                ⟨(some 79), .faddr false 1 1 (.t 2), none⟩,
                ⟨none, .store 1 (.t 79) (.t 78), none⟩])))
             (.rg [⟨(some 80), .bin .add (.t 69) (.c (.p (.int .i64 1))), none⟩,
               ⟨(some 69), .mov (.t 80), none⟩])))))))
           (.seq (.rg [⟨(some 81), .load true 5 (.t 2), none⟩,
             ⟨(some 82), .mov (.t 3), none⟩,
             ⟨none, .store 5 (.t 2) (.t 81), none⟩,
             ⟨(some 3), .mov (.t 82), none⟩])
           .ret)))))
           (.seq (.rg [⟨(some 84), .bin .eql (.t 31) (.c (.p (.int .u8 116))), none⟩,
             ⟨(some 83), .mov (.t 84), none⟩])
           (.cond (.t 83) (.seq (.rg [⟨(some 85), .bld [.p (.int .u8 0), .p (.bool false), .p (.string ⟨#[]⟩), .p (.slice none 0 0), .p (.slice none 0 0)] [(0, 1, (.c (.p (.int .u8 116))))], none⟩,
               ⟨(some 86), .mov (.t 0), none⟩,
               ⟨(some 87), .callr 40 [(.t 86), (.c (.p (.string ⟨#[116, 114, 117, 101]⟩)))], none⟩,
               ⟨none, .store 5 (.t 2) (.t 85), none⟩,
               ⟨(some 3), .mov (.t 87), none⟩])
             .ret)
             (.seq (.rg [⟨(some 89), .bin .eql (.t 31) (.c (.p (.int .u8 102))), none⟩,
               ⟨(some 88), .mov (.t 89), none⟩])
             (.cond (.t 88) (.seq (.rg [⟨(some 90), .bld [.p (.int .u8 0), .p (.bool false), .p (.string ⟨#[]⟩), .p (.slice none 0 0), .p (.slice none 0 0)] [(0, 1, (.c (.p (.int .u8 102))))], none⟩,
                 ⟨(some 91), .mov (.t 0), none⟩,
                 ⟨(some 92), .callr 40 [(.t 91), (.c (.p (.string ⟨#[102, 97, 108, 115, 101]⟩)))], none⟩,
                 ⟨none, .store 5 (.t 2) (.t 90), none⟩,
                 ⟨(some 3), .mov (.t 92), none⟩])
               .ret)
               (.seq (.rg [⟨(some 94), .bin .eql (.t 31) (.c (.p (.int .u8 110))), none⟩,
                 ⟨(some 93), .mov (.t 94), none⟩])
               (.cond (.t 93) (.seq (.rg [⟨(some 95), .bld [.p (.int .u8 0), .p (.bool false), .p (.string ⟨#[]⟩), .p (.slice none 0 0), .p (.slice none 0 0)] [(0, 1, (.c (.p (.int .u8 110))))], none⟩,
                   ⟨(some 96), .mov (.t 0), none⟩,
                   ⟨(some 97), .callr 40 [(.t 96), (.c (.p (.string ⟨#[110, 117, 108, 108]⟩)))], none⟩,
                   ⟨none, .store 5 (.t 2) (.t 95), none⟩,
                   ⟨(some 3), .mov (.t 97), none⟩])
                 .ret)
                 .skip)))))))))))))))
    (.seq (.rg [⟨(some 98), .faddr false 0 1 (.t 2), none⟩,
      ⟨none, .store 1 (.t 98) (.c (.p (.int .u8 48))), none⟩])
    (.seq (.rg [⟨(some 100), .mov (.t 0), none⟩,
      ⟨(some 101), .callr 41 [(.t 100)], none⟩,
      ⟨(some 99), .mov (.t 101), none⟩,
      ⟨(some 102), .ext (.t 99) 0, none⟩,
      ⟨(some 103), .ext (.t 99) 1, none⟩,
      ⟨(some 104), .faddr false 2 1 (.t 2), none⟩,
      ⟨none, .store 1 (.t 104) (.t 102), none⟩,
      ⟨(some 3), .mov (.t 103), none⟩])
    (.seq (.rg [⟨(some 105), .load true 5 (.t 2), none⟩,
      ⟨(some 106), .mov (.t 3), none⟩,
      ⟨none, .store 5 (.t 2) (.t 105), none⟩,
      ⟨(some 3), .mov (.t 106), none⟩])
    .ret)))))))
def r27 : List DR := [.cell 2 true 5, .tmp 3]
theorem c27_ok : Tryd.f27.body.bind (cCode Tryd.prog) = some c27 := by kernel_rfl
theorem r27_ok : cRes Tryd.prog Tryd.f27.results.toList = some r27 := by kernel_rfl

/-- (*given.example/pub-assaymark/pub/zzjson.reader).blank -/
def c28 : DC :=
  (.block 0 (.loop (.seq (.seq (.rgd [⟨⟨(some 2), .mov (.t 0), none⟩, 0, [0]⟩,
        ⟨⟨(some 3), .nilchk .ptr (.t 2), none⟩, 0, [0]⟩,
        ⟨⟨(some 4), .faddr false 1 1 (.t 3), none⟩, 0, [0]⟩,
        ⟨⟨(some 5), .load false 1 (.t 4), none⟩, 0, [0]⟩,
        ⟨⟨(some 6), .mov (.t 0), none⟩, 0, [0]⟩,
        ⟨⟨(some 7), .nilchk .ptr (.t 6), none⟩, 0, [0]⟩,
        ⟨⟨(some 8), .faddr false 0 1 (.t 7), none⟩, 0, [0]⟩,
        ⟨⟨(some 9), .load false 1 (.t 8), none⟩, 0, [0]⟩,
        ⟨⟨(some 10), .lenl (.t 9), none⟩, 0, [0]⟩,
        ⟨⟨(some 11), .bin .lss (.t 5) (.t 10), none⟩, 0, []⟩,
        ⟨⟨(some 12), .mov (.t 11), none⟩, 0, []⟩,
        ⟨⟨(some 13), .mov (.t 0), (some (12, true))⟩, 0, [0]⟩,
        ⟨⟨(some 14), .nilchk .ptr (.t 13), (some (12, true))⟩, 0, [0]⟩,
        ⟨⟨(some 15), .faddr false 0 1 (.t 14), (some (12, true))⟩, 0, [0]⟩,
        ⟨⟨(some 16), .load false 1 (.t 15), (some (12, true))⟩, 0, [0]⟩,
        ⟨⟨(some 17), .mov (.t 0), (some (12, true))⟩, 0, [0]⟩,
        ⟨⟨(some 18), .nilchk .ptr (.t 17), (some (12, true))⟩, 0, [0]⟩,
        ⟨⟨(some 19), .faddr false 1 1 (.t 18), (some (12, true))⟩, 0, [0]⟩,
        ⟨⟨(some 20), .load false 1 (.t 19), (some (12, true))⟩, 0, [0]⟩,
        ⟨⟨(some 21), .iaddr 1 (.t 16) (.t 20), (some (12, true))⟩, 0, [0]⟩,
        ⟨⟨(some 22), .load false 1 (.t 21), (some (12, true))⟩, 0, [0]⟩,
        ⟨⟨(some 23), .bin .eql (.t 22) (.c (.p (.int .u8 32))), (some (12, true))⟩, 0, []⟩,
        ⟨⟨(some 24), .mov (.t 23), (some (12, true))⟩, 0, []⟩,
        ⟨⟨(some 25), .mov (.t 0), (some (24, false))⟩, 0, [0]⟩,
        ⟨⟨(some 26), .nilchk .ptr (.t 25), (some (24, false))⟩, 0, [0]⟩,
        ⟨⟨(some 27), .faddr false 0 1 (.t 26), (some (24, false))⟩, 0, [0]⟩,
        ⟨⟨(some 28), .load false 1 (.t 27), (some (24, false))⟩, 0, [0]⟩,
        ⟨⟨(some 29), .mov (.t 0), (some (24, false))⟩, 0, [0]⟩,
        ⟨⟨(some 30), .nilchk .ptr (.t 29), (some (24, false))⟩, 0, [0]⟩,
        ⟨⟨(some 31), .faddr false 1 1 (.t 30), (some (24, false))⟩, 0, [0]⟩,
        ⟨⟨(some 32), .load false 1 (.t 31), (some (24, false))⟩, 0, [0]⟩,
        ⟨⟨(some 33), .iaddr 1 (.t 28) (.t 32), (some (24, false))⟩, 0, [0]⟩,
        ⟨⟨(some 34), .load false 1 (.t 33), (some (24, false))⟩, 0, [0]⟩,
        ⟨⟨(some 35), .bin .eql (.t 34) (.c (.p (.int .u8 9))), (some (24, false))⟩, 0, []⟩,
        ⟨⟨(some 36), .pick (.t 24) (.c (.p (.bool true))) (.t 35), (some (12, true))⟩, 0, []⟩,
        ⟨⟨(some 37), .mov (.t 36), (some (12, true))⟩, 0, []⟩,
        ⟨⟨(some 38), .mov (.t 0), (some (37, false))⟩, 0, [0]⟩,
        ⟨⟨(some 39), .nilchk .ptr (.t 38), (some (37, false))⟩, 0, [0]⟩,
        ⟨⟨(some 40), .faddr false 0 1 (.t 39), (some (37, false))⟩, 0, [0]⟩,
        ⟨⟨(some 41), .load false 1 (.t 40), (some (37, false))⟩, 0, [0]⟩,
        ⟨⟨(some 42), .mov (.t 0), (some (37, false))⟩, 0, [0]⟩,
        ⟨⟨(some 43), .nilchk .ptr (.t 42), (some (37, false))⟩, 0, [0]⟩,
        ⟨⟨(some 44), .faddr false 1 1 (.t 43), (some (37, false))⟩, 0, [0]⟩,
        ⟨⟨(some 45), .load false 1 (.t 44), (some (37, false))⟩, 0, [0]⟩,
        ⟨⟨(some 46), .iaddr 1 (.t 41) (.t 45), (some (37, false))⟩, 0, [0]⟩,
        ⟨⟨(some 47), .load false 1 (.t 46), (some (37, false))⟩, 0, [0]⟩,
        ⟨⟨(some 48), .bin .eql (.t 47) (.c (.p (.int .u8 10))), (some (37, false))⟩, 0, []⟩,
        ⟨⟨(some 49), .pick (.t 37) (.c (.p (.bool true))) (.t 48), (some (12, true))⟩, 0, []⟩,
        ⟨⟨(some 50), .mov (.t 49), (some (12, true))⟩, 0, []⟩,
        ⟨⟨(some 51), .mov (.t 0), (some (50, false))⟩, 0, [0]⟩,
        ⟨⟨(some 52), .nilchk .ptr (.t 51), (some (50, false))⟩, 0, [0]⟩,
        ⟨⟨(some 53), .faddr false 0 1 (.t 52), (some (50, false))⟩, 0, [0]⟩,
        ⟨⟨(some 54), .load false 1 (.t 53), (some (50, false))⟩, 0, [0]⟩,
        ⟨⟨(some 55), .mov (.t 0), (some (50, false))⟩, 0, [0]⟩,
        ⟨⟨(some 56), .nilchk .ptr (.t 55), (some (50, false))⟩, 0, [0]⟩,
        ⟨⟨(some 57), .faddr false 1 1 (.t 56), (some (50, false))⟩, 0, [0]⟩,
        ⟨⟨(some 58), .load false 1 (.t 57), (some (50, false))⟩, 0, [0]⟩,
        ⟨⟨(some 59), .iaddr 1 (.t 54) (.t 58), (some (50, false))⟩, 0, [0]⟩,
        ⟨⟨(some 60), .load false 1 (.t 59), (some (50, false))⟩, 0, [0]⟩,
        ⟨⟨(some 61), .bin .eql (.t 60) (.c (.p (.int .u8 13))), (some (50, false))⟩, 0, []⟩,
        ⟨⟨(some 62), .pick (.t 50) (.c (.p (.bool true))) (.t 61), (some (12, true))⟩, 0, []⟩,
        ⟨⟨(some 63), .pick (.t 12) (.t 62) (.c (.p (.bool false))), none⟩, 0, []⟩])
      (.cond (.t 63) .skip
        (.exit 0)))
      (.block 1 (.rg [⟨(some 64), .mov (.t 0), none⟩,
         ⟨(some 65), .nilchk .ptr (.t 64), none⟩,
         ⟨(some 66), .faddr false 1 1 (.t 65), none⟩,
         ⟨(some 67), .load false 1 (.t 66), none⟩,
         ⟨(some 68), .bin .add (.t 67) (.c (.p (.int .i64 1))), none⟩,
         ⟨(some 69), .nilchk .ptr (.t 64), none⟩,
         ⟨(some 70), .faddr false 1 1 (.t 69), none⟩,
         ⟨none, .store 1 (.t 70) (.t 68), none⟩])))))
def r28 : List DR := []
theorem c28_ok : Tryd.f28.body.bind (cCode Tryd.prog) = some c28 := by kernel_rfl
theorem r28_ok : cRes Tryd.prog Tryd.f28.results.toList = some r28 := by kernel_rfl

/-- (given.example/pub-assaymark/pub/miniogo/pkg/set.Set[int]).Add -/
def c29 : DC :=
  (.rg [⟨(some 4), .mov (.t 0), none⟩,
      ⟨(some 5), .mov (.t 1), none⟩,
      ⟨(some 6), .bld [] [], none⟩,
      ⟨none, .mupd .int (.t 4) (.t 5) (.t 6), none⟩])
def r29 : List DR := []
theorem c29_ok : Tryd.f29.body.bind (cCode Tryd.prog) = some c29 := by kernel_rfl
theorem r29_ok : cRes Tryd.prog Tryd.f29.results.toList = some r29 := by kernel_rfl

/-- given.example/pub-assaymark/pub/zzmsgp.number -/
def c30 : DC :=
  (.seq (.rg [⟨(some 4), .mov (.c (.p (.int .u64 0))), none⟩,
      ⟨(some 5), .mov (.c (.p (.slice none 0 0))), none⟩,
      ⟨(some 6), .mov (.c (.p .nilIface)), none⟩])
    (.seq (.seq (.rg [⟨(some 9), .mov (.t 0), none⟩,
      ⟨(some 10), .lenl (.t 9), none⟩,
      ⟨(some 11), .mov (.t 1), none⟩,
      ⟨(some 12), .bin .add (.c (.p (.int .i64 1))) (.t 11), none⟩,
      ⟨(some 13), .bin .lss (.t 10) (.t 12), none⟩])
    (.cond (.t 13) (.seq (.rg [⟨(some 14), .mov (.t 0), none⟩,
        ⟨(some 15), .ifc 71 (.c (.p (.string ⟨#[116, 111, 111, 32, 102, 101, 119, 32, 98, 121, 116, 101, 115, 32, 108, 101, 102, 116, 32, 116, 111, 32, 114, 101, 97, 100, 32, 111, 98, 106, 101, 99, 116]⟩))), none⟩,
        ⟨(some 4), .mov (.c (.p (.int .u64 0))), none⟩,
        ⟨(some 5), .mov (.t 14), none⟩,
        ⟨(some 6), .mov (.t 15), none⟩])
      .ret)
      .skip))
    (.seq (.seq (.rg [⟨(some 16), .mov (.t 0), none⟩,
      ⟨(some 17), .mov (.t 1), none⟩,
      ⟨(some 18), .bin .add (.c (.p (.int .i64 1))) (.t 17), none⟩,
      ⟨(some 19), .slcl 1 (.t 16) (some (.c (.p (.int .i64 1)))) (some (.t 18)), none⟩,
      ⟨(some 20), .lenl (.t 19), none⟩,
      ⟨(some 21), .mov (.c (.p (.int .i64 0))), none⟩])
    (.block 0 (.loop (.seq (.rg [⟨(some 22), .bin .lss (.t 21) (.t 20), none⟩])
      (.seq (.cond (.t 22) .skip
        (.exit 0))
      (.seq (.block 1 (.seq (.rg [⟨(some 23), .iaddr 1 (.t 19) (.t 21), none⟩,
         ⟨(some 24), .load false 1 (.t 23), none⟩,
         ⟨(some 8), .mov (.t 24), none⟩])
       (.rg [⟨(some 25), .mov (.t 4), none⟩,
         ⟨(some 26), .bin .shl (.t 25) (.c (.p (.int .u64 8))), none⟩,
         ⟨(some 27), .mov (.t 8), none⟩,
         ⟨(some 28), .cint .u64 (.t 27), none⟩,
         ⟨(some 29), .bin .or (.t 26) (.t 28), none⟩,
         ⟨(some 4), .mov (.t 29), none⟩])))
      (.rg [⟨(some 30), .bin .add (.t 21) (.c (.p (.int .i64 1))), none⟩,
        ⟨(some 21), .mov (.t 30), none⟩])))))))
    (.seq (.rgd [⟨⟨(some 31), .mov (.t 4), none⟩, 0, [0]⟩,
      ⟨⟨(some 32), .mov (.t 0), none⟩, 0, []⟩,
      ⟨⟨(some 33), .mov (.t 1), none⟩, 0, []⟩,
      ⟨⟨(some 34), .bin .add (.c (.p (.int .i64 1))) (.t 33), none⟩, 0, []⟩,
      ⟨⟨(some 35), .slcl 1 (.t 32) (some (.t 34)) none, none⟩, 0, [0]⟩,
      ⟨⟨(some 4), .mov (.t 31), none⟩, 0, [0]⟩,
      ⟨⟨(some 5), .mov (.t 35), none⟩, 0, []⟩,
      ⟨⟨(some 6), .mov (.c (.p .nilIface)), none⟩, 0, []⟩])
    .ret))))
def r30 : List DR := [.tmp 4, .tmp 5, .tmp 6]
theorem c30_ok : Tryd.f30.body.bind (cCode Tryd.prog) = some c30 := by kernel_rfl
theorem r30_ok : cRes Tryd.prog Tryd.f30.results.toList = some r30 := by kernel_rfl

/-- (*given.example/pub-assaymark/pub/zzjson.reader).elements -/
def c38 : DC :=
  (.seq (.rg [⟨(some 2), .alloc 5 (.agg [.p (.int .u8 0), .p (.bool false), .p (.string ⟨#[]⟩), .p (.slice none 0 0), .p (.slice none 0 0)]), none⟩,
      ⟨(some 3), .mov (.c (.p (.bool false))), none⟩])
    (.seq (.rg [⟨(some 6), .faddr false 0 1 (.t 2), none⟩,
      ⟨none, .store 1 (.t 6) (.c (.p (.int .u8 91))), none⟩])
    (.seq (.rg [⟨(some 7), .mov (.t 0), none⟩,
      ⟨(some 8), .nilchk .ptr (.t 7), none⟩,
      ⟨(some 9), .faddr false 1 1 (.t 8), none⟩,
      ⟨(some 10), .load false 1 (.t 9), none⟩,
      ⟨(some 11), .bin .add (.t 10) (.c (.p (.int .i64 1))), none⟩,
      ⟨(some 12), .nilchk .ptr (.t 7), none⟩,
      ⟨(some 13), .faddr false 1 1 (.t 12), none⟩,
      ⟨none, .store 1 (.t 13) (.t 11), none⟩])
    (.seq (.seq (.rg [⟨(some 14), .mov (.t 0), none⟩,
      ⟨(some 15), .nilchk .ptr (.t 14), none⟩,
      ⟨(some 16), .faddr false 2 1 (.t 15), none⟩,
      ⟨(some 17), .load false 1 (.t 16), none⟩,
      ⟨(some 18), .bin .add (.t 17) (.c (.p (.int .i64 1))), none⟩,
      ⟨(some 19), .nilchk .ptr (.t 14), none⟩,
      ⟨(some 20), .faddr false 2 1 (.t 19), none⟩,
      ⟨none, .store 1 (.t 20) (.t 18), none⟩])
    (.seq (.rg [⟨(some 21), .mov (.t 0), none⟩,
      ⟨(some 22), .nilchk .ptr (.t 21), none⟩,
      ⟨(some 23), .faddr false 2 1 (.t 22), none⟩,
      ⟨(some 24), .load false 1 (.t 23), none⟩,
      ⟨(some 25), .bin .gtr (.t 24) (.c (.p (.int .i64 10000))), none⟩])
    (.cond (.t 25) (.seq (.rg [⟨(some 26), .load true 5 (.t 2), none⟩,
        ⟨none, .store 5 (.t 2) (.t 26), none⟩,
        ⟨(some 3), .mov (.c (.p (.bool false))), none⟩])
      .ret)
      .skip)))
    (.seq (.rg [⟨(some 27), .mov (.t 0), none⟩,
      ⟨(some 28), .callr 28 [(.t 27)], none⟩])
    (.seq (.seq (.rg [⟨(some 29), .mov (.t 0), none⟩,
      ⟨(some 30), .callr 40 [(.t 29), (.c (.p (.string ⟨#[93]⟩)))], none⟩])
    (.cond (.t 30) (.seq (.rg [⟨(some 31), .mov (.t 0), none⟩,
        ⟨(some 32), .nilchk .ptr (.t 31), none⟩,
        ⟨(some 33), .faddr false 2 1 (.t 32), none⟩,
        ⟨(some 34), .load false 1 (.t 33), none⟩,
        ⟨(some 35), .bin .sub (.t 34) (.c (.p (.int .i64 1))), none⟩,
        ⟨(some 36), .nilchk .ptr (.t 31), none⟩,
        ⟨(some 37), .faddr false 2 1 (.t 36), none⟩,
        ⟨none, .store 1 (.t 37) (.t 35), none⟩])
      (.seq (.rg [⟨(some 38), .load true 5 (.t 2), none⟩,
        ⟨none, .store 5 (.t 2) (.t 38), none⟩,
        ⟨(some 3), .mov (.c (.p (.bool true))), none⟩])
      .ret))
      .skip))
    (.block 0 (.loop (.block 1 (.seq (.rg [⟨(some 40), .mov (.t 0), none⟩,
         ⟨(some 41), .callr 27 [(.t 40)], none⟩,
         ⟨(some 39), .mov (.t 41), none⟩,
         ⟨(some 42), .ext (.t 39) 0, none⟩,
         ⟨(some 43), .ext (.t 39) 1, none⟩,
         ⟨(some 4), .alloc 5 (.agg [.p (.int .u8 0), .p (.bool false), .p (.string ⟨#[]⟩), .p (.slice none 0 0), .p (.slice none 0 0)]), none⟩,
         ⟨none, .store 5 (.t 4) (.t 42), none⟩,
         ⟨(some 5), .mov (.t 43), none⟩])
       (.seq (.seq (.rg [⟨(some 44), .mov (.t 5), none⟩,
         ⟨(some 45), .un .not (.t 44), none⟩])
       (.cond (.t 45) (.seq (.rg [⟨(some 46), .load true 5 (.t 2), none⟩,
           ⟨none, .store 5 (.t 2) (.t 46), none⟩,
           ⟨(some 3), .mov (.c (.p (.bool false))), none⟩])
         .ret)
         .skip))
       (.seq (.rg [⟨(some 47), .faddr false 3 1 (.t 2), none⟩,
         ⟨(some 48), .load false 1 (.t 47), none⟩,
         ⟨(some 49), .load true 5 (.t 4), none⟩,
         ⟨(some 50), .lit 5 [(.t 49)], none⟩,
         ⟨(some 51), .app 5 72 (.t 48) (.t 50), none⟩,
         ⟨(some 52), .faddr false 3 1 (.t 2), none⟩,
         ⟨none, .store 1 (.t 52) (.t 51), none⟩])
       (.seq (.rg [⟨(some 53), .mov (.t 0), none⟩,
         ⟨(some 54), .callr 28 [(.t 53)], none⟩])
       (.seq (.seq (.rg [⟨(some 55), .mov (.t 0), none⟩,
         ⟨(some 56), .callr 40 [(.t 55), (.c (.p (.string ⟨#[93]⟩)))], none⟩])
       (.cond (.t 56) (.seq (.rg [⟨(some 57), .mov (.t 0), none⟩,
           ⟨(some 58), .nilchk .ptr (.t 57), none⟩,
           ⟨(some 59), .faddr false 2 1 (.t 58), none⟩,
           ⟨(some 60), .load false 1 (.t 59), none⟩,
           ⟨(some 61), .bin .sub (.t 60) (.c (.p (.int .i64 1))), none⟩,
           ⟨(some 62), .nilchk .ptr (.t 57), none⟩,
           ⟨(some 63), .faddr false 2 1 (.t 62), none⟩,
           ⟨none, .store 1 (.t 63) (.t 61), none⟩])
         (.seq (.rg [⟨(some 64), .load true 5 (.t 2), none⟩,
           ⟨none, .store 5 (.t 2) (.t 64), none⟩,
           ⟨(some 3), .mov (.c (.p (.bool true))), none⟩])
         .ret))
         .skip))
       (.seq (.rg [⟨(some 65), .mov (.t 0), none⟩,
         ⟨(some 66), .callr 40 [(.t 65), (.c (.p (.string ⟨#[44]⟩)))], none⟩,
         ⟨(some 67), .un .not (.t 66), none⟩])
       (.cond (.t 67) (.seq (.rg [⟨(some 68), .load true 5 (.t 2), none⟩,
           ⟨none, .store 5 (.t 2) (.t 68), none⟩,
           ⟨(some 3), .mov (.c (.p (.bool false))), none⟩])
         .ret)
         .skip))))))))))))))))
def r38 : List DR := [.cell 2 true 5, .tmp 3]
theorem c38_ok : Tryd.f38.body.bind (cCode Tryd.prog) = some c38 := by kernel_rfl
theorem r38_ok : cRes Tryd.prog Tryd.f38.results.toList = some r38 := by kernel_rfl

/-- (*given.example/pub-assaymark/pub/zzjson.reader).word -/
def c40 : DC :=
  (.seq (.rg [⟨(some 4), .mov (.c (.p (.bool false))), none⟩])
    (.seq (.seq (.rgd [⟨⟨(some 5), .mov (.t 0), none⟩, 0, [0]⟩,
      ⟨⟨(some 6), .nilchk .ptr (.t 5), none⟩, 0, [0]⟩,
      ⟨⟨(some 7), .faddr false 1 1 (.t 6), none⟩, 0, [0]⟩,
      ⟨⟨(some 8), .load false 1 (.t 7), none⟩, 0, [0]⟩,
      ⟨⟨(some 9), .mov (.t 1), none⟩, 0, [0]⟩,
      ⟨⟨(some 10), .lens (.t 9), none⟩, 0, [0]⟩,
      ⟨⟨(some 11), .bin .add (.t 8) (.t 10), none⟩, 0, [0]⟩,
      ⟨⟨(some 12), .mov (.t 0), none⟩, 0, [0]⟩,
      ⟨⟨(some 13), .nilchk .ptr (.t 12), none⟩, 0, [0]⟩,
      ⟨⟨(some 14), .faddr false 0 1 (.t 13), none⟩, 0, [0]⟩,
      ⟨⟨(some 15), .load false 1 (.t 14), none⟩, 0, [0]⟩,
      ⟨⟨(some 16), .lenl (.t 15), none⟩, 0, [0]⟩,
      ⟨⟨(some 17), .bin .gtr (.t 11) (.t 16), none⟩, 0, []⟩,
      ⟨⟨(some 18), .mov (.t 17), none⟩, 0, []⟩,
      ⟨⟨(some 19), .mov (.t 0), (some (18, false))⟩, 0, [0]⟩,
      ⟨⟨(some 20), .nilchk .ptr (.t 19), (some (18, false))⟩, 0, [0]⟩,
      ⟨⟨(some 21), .faddr false 0 1 (.t 20), (some (18, false))⟩, 0, [0]⟩,
      ⟨⟨(some 22), .load false 1 (.t 21), (some (18, false))⟩, 0, [0]⟩,
      ⟨⟨(some 23), .mov (.t 0), (some (18, false))⟩, 0, [0]⟩,
      ⟨⟨(some 24), .nilchk .ptr (.t 23), (some (18, false))⟩, 0, [0]⟩,
      ⟨⟨(some 25), .faddr false 1 1 (.t 24), (some (18, false))⟩, 0, [0]⟩,
      ⟨⟨(some 26), .load false 1 (.t 25), (some (18, false))⟩, 0, [0]⟩,
      ⟨⟨(some 27), .mov (.t 0), (some (18, false))⟩, 0, [0]⟩,
      ⟨⟨(some 28), .nilchk .ptr (.t 27), (some (18, false))⟩, 0, [0]⟩,
      ⟨⟨(some 29), .faddr false 1 1 (.t 28), (some (18, false))⟩, 0, [0]⟩,
      ⟨⟨(some 30), .load false 1 (.t 29), (some (18, false))⟩, 0, [0]⟩,
      ⟨⟨(some 31), .mov (.t 1), (some (18, false))⟩, 0, [0]⟩,
      ⟨⟨(some 32), .lens (.t 31), (some (18, false))⟩, 0, [0]⟩,
      ⟨⟨(some 33), .bin .add (.t 30) (.t 32), (some (18, false))⟩, 0, [0]⟩,
      ⟨⟨(some 34), .slcl 1 (.t 22) (some (.t 26)) (some (.t 33)), (some (18, false))⟩, 0, [0]⟩,
      ⟨⟨(some 35), .b2s (.t 34), (some (18, false))⟩, 0, [0]⟩,
      ⟨⟨(some 36), .mov (.t 1), (some (18, false))⟩, 0, [0]⟩,
      ⟨⟨(some 37), .bin .neq (.t 35) (.t 36), (some (18, false))⟩, 0, []⟩,
      ⟨⟨(some 38), .pick (.t 18) (.c (.p (.bool true))) (.t 37), none⟩, 0, []⟩])
    (.cond (.t 38) (.seq (.rg [⟨(some 4), .mov (.c (.p (.bool false))), none⟩])
      .ret)
      .skip))
    (.seq (.rg [⟨(some 39), .mov (.t 0), none⟩,
      ⟨(some 40), .nilchk .ptr (.t 39), none⟩,
      ⟨(some 41), .faddr false 1 1 (.t 40), none⟩,
      ⟨(some 42), .load false 1 (.t 41), none⟩,
      ⟨(some 43), .mov (.t 1), none⟩,
      ⟨(some 44), .lens (.t 43), none⟩,
      ⟨(some 45), .bin .add (.t 42) (.t 44), none⟩,
      ⟨(some 46), .nilchk .ptr (.t 39), none⟩,
      ⟨(some 47), .faddr false 1 1 (.t 46), none⟩,
      ⟨none, .store 1 (.t 47) (.t 45), none⟩])
    (.seq (.rg [⟨(some 4), .mov (.c (.p (.bool true))), none⟩])
    .ret))))
def r40 : List DR := [.tmp 4]
theorem c40_ok : Tryd.f40.body.bind (cCode Tryd.prog) = some c40 := by kernel_rfl
theorem r40_ok : cRes Tryd.prog Tryd.f40.results.toList = some r40 := by kernel_rfl

/-- (*given.example/pub-assaymark/pub/zzjson.reader).number -/
def c41 : DC :=
  (.seq (.rg [⟨(some 2), .mov (.c (.p (.string ⟨#[]⟩))), none⟩,
      ⟨(some 3), .mov (.c (.p (.bool false))), none⟩])
    (.seq (.rg [⟨(some 5), .mov (.t 0), none⟩,
      ⟨(some 6), .nilchk .ptr (.t 5), none⟩,
      ⟨(some 7), .faddr false 1 1 (.t 6), none⟩,
      ⟨(some 8), .load false 1 (.t 7), none⟩,
      ⟨(some 4), .mov (.t 8), none⟩])
    (.seq (.rg [⟨(some 9), .mov (.t 0), none⟩,
      ⟨(some 10), .callr 40 [(.t 9), (.c (.p (.string ⟨#[45]⟩)))], none⟩])
    (.seq (.seq (.rg [⟨(some 11), .mov (.t 0), none⟩,
      ⟨(some 12), .callr 40 [(.t 11), (.c (.p (.string ⟨#[48]⟩)))], none⟩,
      ⟨(some 13), .un .not (.t 12), none⟩,
      ⟨(some 14), .mov (.t 13), none⟩,
      ⟨(some 15), .mov (.t 0), (some (14, true))⟩,
      ⟨(some 16), .callr 49 [(.t 15)], (some (14, true))⟩,
      ⟨(some 17), .un .not (.t 16), (some (14, true))⟩,
      ⟨(some 18), .pick (.t 14) (.t 17) (.c (.p (.bool false))), none⟩])
    (.cond (.t 18) (.seq (.rg [⟨(some 2), .mov (.c (.p (.string ⟨#[]⟩))), none⟩,
        ⟨(some 3), .mov (.c (.p (.bool false))), none⟩])
      .ret)
      .skip))
    (.seq (.seq (.rg [⟨(some 19), .mov (.t 0), none⟩,
      ⟨(some 20), .callr 40 [(.t 19), (.c (.p (.string ⟨#[46]⟩)))], none⟩,
      ⟨(some 21), .mov (.t 20), none⟩,
      ⟨(some 22), .mov (.t 0), (some (21, true))⟩,
      ⟨(some 23), .callr 49 [(.t 22)], (some (21, true))⟩,
      ⟨(some 24), .un .not (.t 23), (some (21, true))⟩,
      ⟨(some 25), .pick (.t 21) (.t 24) (.c (.p (.bool false))), none⟩])
    (.cond (.t 25) (.seq (.rg [⟨(some 2), .mov (.c (.p (.string ⟨#[]⟩))), none⟩,
        ⟨(some 3), .mov (.c (.p (.bool false))), none⟩])
      .ret)
      .skip))
    (.seq (.seq (.rg [⟨(some 26), .mov (.t 0), none⟩,
      ⟨(some 27), .callr 40 [(.t 26), (.c (.p (.string ⟨#[101]⟩)))], none⟩,
      ⟨(some 28), .mov (.t 27), none⟩,
      ⟨(some 29), .mov (.t 0), (some (28, false))⟩,
      ⟨(some 30), .callr 40 [(.t 29), (.c (.p (.string ⟨#[69]⟩)))], (some (28, false))⟩,
      ⟨(some 31), .pick (.t 28) (.c (.p (.bool true))) (.t 30), none⟩])
    (.cond (.t 31) (.seq (.seq (.rg [⟨(some 32), .mov (.t 0), none⟩,
        ⟨(some 33), .callr 40 [(.t 32), (.c (.p (.string ⟨#[43]⟩)))], none⟩,
        ⟨(some 34), .un .not (.t 33), none⟩])
      (.cond (.t 34) (.rg [⟨(some 35), .mov (.t 0), none⟩,
          ⟨(some 36), .callr 40 [(.t 35), (.c (.p (.string ⟨#[45]⟩)))], none⟩])
        .skip))
      (.seq (.rg [⟨(some 37), .mov (.t 0), none⟩,
        ⟨(some 38), .callr 49 [(.t 37)], none⟩,
        ⟨(some 39), .un .not (.t 38), none⟩])
      (.cond (.t 39) (.seq (.rg [⟨(some 2), .mov (.c (.p (.string ⟨#[]⟩))), none⟩,
          ⟨(some 3), .mov (.c (.p (.bool false))), none⟩])
        .ret)
        .skip)))
      .skip))
    (.seq (.rgd [⟨⟨(some 40), .mov (.t 0), none⟩, 0, [0]⟩,
      ⟨⟨(some 41), .nilchk .ptr (.t 40), none⟩, 0, [0]⟩,
      ⟨⟨(some 42), .faddr false 0 1 (.t 41), none⟩, 0, [0]⟩,
      ⟨⟨(some 43), .load false 1 (.t 42), none⟩, 0, [0]⟩,
      ⟨⟨(some 44), .mov (.t 4), none⟩, 0, [0]⟩,
      ⟨⟨(some 45), .mov (.t 0), none⟩, 0, [0]⟩,
      ⟨⟨(some 46), .nilchk .ptr (.t 45), none⟩, 0, [0]⟩,
      ⟨⟨(some 47), .faddr false 1 1 (.t 46), none⟩, 0, [0]⟩,
      ⟨⟨(some 48), .load false 1 (.t 47), none⟩, 0, [0]⟩,
      ⟨⟨(some 49), .slcl 1 (.t 43) (some (.t 44)) (some (.t 48)), none⟩, 0, [0]⟩,
      ⟨⟨(some 50), .b2s (.t 49), none⟩, 0, [0]⟩,
      ⟨⟨(some 2), .mov (.t 50), none⟩, 0, []⟩,
      ⟨⟨(some 3), .mov (.c (.p (.bool true))), none⟩, 0, []⟩])
    .ret)))))))
def r41 : List DR := [.tmp 2, .tmp 3]
theorem c41_ok : Tryd.f41.body.bind (cCode Tryd.prog) = some c41 := by kernel_rfl
theorem r41_ok : cRes Tryd.prog Tryd.f41.results.toList = some r41 := by kernel_rfl

/-- (*given.example/pub-assaymark/pub/zzjson.reader).digits -/
def c49 : DC :=
  (.seq (.rg [⟨(some 2), .mov (.c (.p (.bool false))), none⟩])
    (.seq (.rg [⟨(some 4), .mov (.t 0), none⟩,
      ⟨(some 5), .nilchk .ptr (.t 4), none⟩,
      ⟨(some 6), .faddr false 1 1 (.t 5), none⟩,
      ⟨(some 7), .load false 1 (.t 6), none⟩,
      ⟨(some 3), .mov (.t 7), none⟩])
    (.seq (.block 0 (.loop (.seq (.seq (.rgd [⟨⟨(some 8), .mov (.t 0), none⟩, 0, [0]⟩,
        ⟨⟨(some 9), .nilchk .ptr (.t 8), none⟩, 0, [0]⟩,
        ⟨⟨(some 10), .faddr false 1 1 (.t 9), none⟩, 0, [0]⟩,
        ⟨⟨(some 11), .load false 1 (.t 10), none⟩, 0, [0]⟩,
        ⟨⟨(some 12), .mov (.t 0), none⟩, 0, [0]⟩,
        ⟨⟨(some 13), .nilchk .ptr (.t 12), none⟩, 0, [0]⟩,
        ⟨⟨(some 14), .faddr false 0 1 (.t 13), none⟩, 0, [0]⟩,
        ⟨⟨(some 15), .load false 1 (.t 14), none⟩, 0, [0]⟩,
        ⟨⟨(some 16), .lenl (.t 15), none⟩, 0, [0]⟩,
        ⟨⟨(some 17), .bin .lss (.t 11) (.t 16), none⟩, 0, []⟩,
        ⟨⟨(some 18), .mov (.t 17), none⟩, 0, []⟩,
        ⟨⟨(some 19), .mov (.t 0), (some (18, true))⟩, 0, [0]⟩,
        ⟨⟨(some 20), .nilchk .ptr (.t 19), (some (18, true))⟩, 0, [0]⟩,
        ⟨⟨(some 21), .faddr false 0 1 (.t 20), (some (18, true))⟩, 0, [0]⟩,
        ⟨⟨(some 22), .load false 1 (.t 21), (some (18, true))⟩, 0, [0]⟩,
        ⟨⟨(some 23), .mov (.t 0), (some (18, true))⟩, 0, [0]⟩,
        ⟨⟨(some 24), .nilchk .ptr (.t 23), (some (18, true))⟩, 0, [0]⟩,
        ⟨⟨(some 25), .faddr false 1 1 (.t 24), (some (18, true))⟩, 0, [0]⟩,
        ⟨⟨(some 26), .load false 1 (.t 25), (some (18, true))⟩, 0, [0]⟩,
        ⟨⟨(some 27), .iaddr 1 (.t 22) (.t 26), (some (18, true))⟩, 0, [0]⟩,
        ⟨⟨(some 28), .load false 1 (.t 27), (some (18, true))⟩, 0, [0]⟩,
        ⟨⟨(some 29), .bin .geq (.t 28) (.c (.p (.int .u8 48))), (some (18, true))⟩, 0, []⟩,
        ⟨⟨(some 30), .pick (.t 18) (.t 29) (.c (.p (.bool false))), none⟩, 0, []⟩,
        ⟨⟨(some 31), .mov (.t 30), none⟩, 0, []⟩,
        ⟨⟨(some 32), .mov (.t 0), (some (31, true))⟩, 0, [0]⟩,
        ⟨⟨(some 33), .nilchk .ptr (.t 32), (some (31, true))⟩, 0, [0]⟩,
        ⟨⟨(some 34), .faddr false 0 1 (.t 33), (some (31, true))⟩, 0, [0]⟩,
        ⟨⟨(some 35), .load false 1 (.t 34), (some (31, true))⟩, 0, [0]⟩,
        ⟨⟨(some 36), .mov (.t 0), (some (31, true))⟩, 0, [0]⟩,
        ⟨⟨(some 37), .nilchk .ptr (.t 36), (some (31, true))⟩, 0, [0]⟩,
        ⟨⟨(some 38), .faddr false 1 1 (.t 37), (some (31, true))⟩, 0, [0]⟩,
        ⟨⟨(some 39), .load false 1 (.t 38), (some (31, true))⟩, 0, [0]⟩,
        ⟨⟨(some 40), .iaddr 1 (.t 35) (.t 39), (some (31, true))⟩, 0, [0]⟩,
        ⟨⟨(some 41), .load false 1 (.t 40), (some (31, true))⟩, 0, [0]⟩,
        ⟨⟨(some 42), .bin .leq (.t 41) (.c (.p (.int .u8 57))), (some (31, true))⟩, 0, []⟩,
        ⟨⟨(some 43), .pick (.t 31) (.t 42) (.c (.p (.bool false))), none⟩, 0, []⟩])
      (.cond (.t 43) .skip
        (.exit 0)))
      (.block 1 (.rg [⟨(some 44), .mov (.t 0), none⟩,
         ⟨(some 45), .nilchk .ptr (.t 44), none⟩,
         ⟨(some 46), .faddr false 1 1 (.t 45), none⟩,
         ⟨(some 47), .load false 1 (.t 46), none⟩,
         ⟨(some 48), .bin .add (.t 47) (.c (.p (.int .i64 1))), none⟩,
         ⟨(some 49), .nilchk .ptr (.t 44), none⟩,
         ⟨(some 50), .faddr false 1 1 (.t 49), none⟩,
         ⟨none, .store 1 (.t 50) (.t 48), none⟩])))))
    (.seq (.rg [⟨(some 51), .mov (.t 0), none⟩,
      ⟨(some 52), .nilchk .ptr (.t 51), none⟩,
      ⟨(some 53), .faddr false 1 1 (.t 52), none⟩,
      ⟨(some 54), .load false 1 (.t 53), none⟩,
      ⟨(some 55), .mov (.t 3), none⟩,
      ⟨(some 56), .bin .gtr (.t 54) (.t 55), none⟩,
      ⟨(some 2), .mov (.t 56), none⟩])
    .ret))))
def r49 : List DR := [.tmp 2]
theorem c49_ok : Tryd.f49.body.bind (cCode Tryd.prog) = some c49 := by kernel_rfl
theorem r49_ok : cRes Tryd.prog Tryd.f49.results.toList = some r49 := by kernel_rfl

/-- (*given.example/pub-assaymark/pub/miniogo/pkg/set.zzInts).ZzTake -/
def c86 : DC :=
  (.seq (.rg [⟨(some 2), .box (.t 0), none⟩,
      ⟨(some 3), .box (.t 1), none⟩,
      ⟨(some 4), .mov (.c (.p (.bool false))), none⟩])
    (.seq (.rg [⟨(some 5), .load true 5 (.t 3), none⟩,
      ⟨(some 6), .mkf (.func 88) [] [(.t 2)], none⟩,
      ⟨(some 7), .mkf (.func 90) [] [(.t 2)], none⟩,
      ⟨(some 8), .callr 87 [(.t 5), (.t 6), (.t 7)], none⟩,
      ⟨(some 4), .mov (.t 8), none⟩])
    .ret))
def r86 : List DR := [.tmp 4]
theorem c86_ok : Tryd.f86.body.bind (cCode Tryd.prog) = some c86 := by kernel_rfl
theorem r86_ok : cRes Tryd.prog Tryd.f86.results.toList = some r86 := by kernel_rfl

/-- (given.example/pub-assaymark/pub/zzjson.Value).List -/
def c87 : DC :=
  (.seq (.rg [⟨(some 3), .box (.t 0), none⟩,
      ⟨(some 6), .mov (.c (.p (.bool false))), none⟩])
    (.seq (.seq (.rg [⟨(some 10), .faddr false 0 1 (.t 3), none⟩,
      ⟨(some 11), .load false 1 (.t 10), none⟩])
    (.block 0 (.seq (.rg [⟨(some 13), .bin .eql (.t 11) (.c (.p (.int .u8 110))), none⟩,
       ⟨(some 12), .mov (.t 13), none⟩])
     (.cond (.t 12) (.seq (.rg [⟨(some 14), .mov (.t 1), none⟩,
         ⟨(some 15), .callv true (.t 14) [(.c (.p (.int .i64 (-1))))], none⟩])
       (.seq (.rg [⟨(some 6), .mov (.c (.p (.bool true))), none⟩])
       .ret))
       (.seq (.rg [⟨(some 17), .bin .eql (.t 11) (.c (.p (.int .u8 91))), none⟩,
         ⟨(some 16), .mov (.t 17), none⟩])
       (.cond (.t 16) (.seq (.rg [⟨(some 18), .mov (.t 1), none⟩,
           ⟨(some 19), .faddr false 3 1 (.t 3), none⟩,
           ⟨(some 20), .load false 1 (.t 19), none⟩,
           ⟨(some 21), .lenl (.t 20), none⟩,
           ⟨(some 22), .callv true (.t 18) [(.t 21)], none⟩])
         (.seq (.rg [⟨(some 7), .mov (.c (.p (.bool true))), none⟩])
         (.seq (.seq (.rg [⟨(some 23), .faddr false 3 1 (.t 3), none⟩,
           ⟨(some 24), .load false 1 (.t 23), none⟩,
           ⟨(some 25), .lenl (.t 24), none⟩,
           ⟨(some 26), .mov (.c (.p (.int .i64 0))), none⟩])
         (.block 1 (.loop (.seq (.rg [⟨(some 27), .bin .lss (.t 26) (.t 25), none⟩])
           (.seq (.cond (.t 27) .skip
             (.exit 1))
           (.seq (.block 2 (.seq (.rg [⟨(some 28), .mov (.t 26), none⟩,
              ⟨(some 29), .iaddr 5 (.t 24) (.t 26), none⟩,
              ⟨(some 30), .load true 5 (.t 29), none⟩,
              ⟨(some 9), .alloc 5 (.agg [.p (.int .u8 0), .p (.bool false), .p (.string ⟨#[]⟩), .p (.slice none 0 0), .p (.slice none 0 0)]), none⟩,
              ⟨(some 8), .mov (.t 28), none⟩,
              ⟨none, .store 5 (.t 9) (.t 30), none⟩])
            (.rg [⟨(some 31), .mov (.t 2), none⟩,
              ⟨(some 32), .mov (.t 8), none⟩,
              ⟨(some 33), .load true 5 (.t 9), none⟩,
              ⟨(some 34), .callv true (.t 31) [(.t 32), (.t 33)], none⟩,
              ⟨(some 35), .mov (.t 34), none⟩,
              ⟨(some 36), .mov (.t 7), (some (35, true))⟩,
              ⟨(some 37), .pick (.t 35) (.t 36) (.c (.p (.bool false))), none⟩,
              ⟨(some 7), .mov (.t 37), none⟩])))
           (.rg [⟨(some 38), .bin .add (.t 26) (.c (.p (.int .i64 1))), none⟩,
             ⟨(some 26), .mov (.t 38), none⟩])))))))
         (.seq (.rg [⟨(some 39), .mov (.t 7), none⟩,
           ⟨(some 6), .mov (.t 39), none⟩])
         .ret))))
         .skip))))))
    (.seq (.rg [⟨(some 6), .mov (.c (.p (.bool false))), none⟩])
    .ret)))
def r87 : List DR := [.tmp 6]
theorem c87_ok : Tryd.f87.body.bind (cCode Tryd.prog) = some c87 := by kernel_rfl
theorem r87_ok : cRes Tryd.prog Tryd.f87.results.toList = some r87 := by kernel_rfl

/-- (*given.example/pub-assaymark/pub/miniogo/pkg/set.zzInts).ZzTake$1 -/
def c88 : DC :=
  (.rgd [⟨⟨(some 3), .load false 1 (.t 1), none⟩, 0, [0]⟩,
      ⟨⟨(some 4), .load false 1 (.t 1), none⟩, 0, [0]⟩,
      ⟨⟨(some 5), .nilchk .ptr (.t 4), none⟩, 0, [0]⟩,
      ⟨⟨(some 6), .load false 1 (.t 5), none⟩, 0, [0]⟩,
      ⟨⟨(some 7), .mov (.t 0), none⟩, 0, [0]⟩,
      ⟨⟨(some 8), .call 89 [(.t 6), (.t 7)], none⟩, 0, [0]⟩,
      ⟨⟨(some 9), .nilchk .ptr (.t 3), none⟩, 1, [1]⟩,
      ⟨⟨none, .store 1 (.t 9) (.t 8), none⟩, 1, []⟩])
def r88 : List DR := []
theorem c88_ok : Tryd.f88.body.bind (cCode Tryd.prog) = some c88 := by kernel_rfl
theorem r88_ok : cRes Tryd.prog Tryd.f88.results.toList = some r88 := by kernel_rfl

/-- given.example/pub-assaymark/pub/zzjson.Sized[int] -/
def c89 : DC :=
  (.seq (.rg [⟨(some 4), .mov (.c (.p (.slice none 0 0))), none⟩])
    (.seq (.seq (.rg [⟨(some 6), .mov (.t 1), none⟩,
      ⟨(some 7), .bin .lss (.t 6) (.c (.p (.int .i64 0))), none⟩])
    (.cond (.t 7) (.seq (.rg [⟨(some 4), .mov (.c (.p (.slice none 0 0))), none⟩])
      .ret)
      .skip))
    (.seq (.rg [⟨(some 8), .mov (.t 1), none⟩,
      ⟨(some 9), .mks false 1 8 (.p (.int .i64 0)) (.t 8) (.t 8), none⟩,
      ⟨(some 5), .mov (.t 9), none⟩])
    (.seq (.rg [⟨(some 10), .mov (.t 5), none⟩,
      ⟨(some 11), .mov (.t 0), none⟩,
      ⟨(some 12), .cpy 1 (.t 10) (.t 11), none⟩])
    (.seq (.rg [⟨(some 13), .mov (.t 5), none⟩,
      ⟨(some 4), .mov (.t 13), none⟩])
    .ret)))))
def r89 : List DR := [.tmp 4]
theorem c89_ok : Tryd.f89.body.bind (cCode Tryd.prog) = some c89 := by kernel_rfl
theorem r89_ok : cRes Tryd.prog Tryd.f89.results.toList = some r89 := by kernel_rfl

/-- (*given.example/pub-assaymark/pub/miniogo/pkg/set.zzInts).ZzTake$2 -/
def c90 : DC :=
  (.seq (.rg [⟨(some 4), .box (.t 1), none⟩,
      ⟨(some 5), .mov (.c (.p (.bool false))), none⟩])
    (.seq (.rg [⟨(some 8), .load false 1 (.t 2), none⟩,
      ⟨(some 9), .nilchk .ptr (.t 8), none⟩,
      ⟨(some 10), .load false 1 (.t 9), none⟩,
      ⟨(some 11), .mov (.t 0), none⟩,
      ⟨(some 12), .iaddr 1 (.t 10) (.t 11), none⟩,
      ⟨(some 13), .load false 1 (.t 12), none⟩,
      ⟨(some 6), .alloc 1 (.p (.int .i64 0)), none⟩,
      ⟨none, .store 1 (.t 6) (.t 13), none⟩])
    (.seq (.rg [⟨(some 14), .load true 5 (.t 4), none⟩,
      ⟨(some 15), .callr 91 [(.t 14), (.t 6)], none⟩,
      ⟨(some 7), .mov (.t 15), none⟩])
    (.seq (.rgd [⟨⟨(some 16), .load false 1 (.t 2), none⟩, 0, [0]⟩,
      ⟨⟨(some 17), .nilchk .ptr (.t 16), none⟩, 0, [0]⟩,
      ⟨⟨(some 18), .load false 1 (.t 17), none⟩, 0, [0]⟩,
      ⟨⟨(some 19), .mov (.t 0), none⟩, 0, [0]⟩,
      ⟨⟨(some 20), .load false 1 (.t 6), none⟩, 0, [0]⟩,
      ⟨⟨(some 21), .iaddr 1 (.t 18) (.t 19), none⟩, 0, [0]⟩,
      ⟨⟨none, .store 1 (.t 21) (.t 20), none⟩, 0, []⟩])
    (.seq (.rg [⟨(some 22), .mov (.t 7), none⟩,
      ⟨(some 5), .mov (.t 22), none⟩])
    .ret)))))
def r90 : List DR := [.tmp 5]
theorem c90_ok : Tryd.f90.body.bind (cCode Tryd.prog) = some c90 := by kernel_rfl
theorem r90_ok : cRes Tryd.prog Tryd.f90.results.toList = some r90 := by kernel_rfl

/-- (given.example/pub-assaymark/pub/zzjson.Value).Int -/
def c91 : DC :=
  (.seq (.rg [⟨(some 2), .box (.t 0), none⟩,
      ⟨(some 4), .mov (.c (.p (.bool false))), none⟩])
    (.seq (.seq (.rg [⟨(some 7), .faddr false 0 1 (.t 2), none⟩,
      ⟨(some 8), .load false 1 (.t 7), none⟩,
      ⟨(some 9), .bin .neq (.t 8) (.c (.p (.int .u8 48))), none⟩])
    (.cond (.t 9) (.seq (.rg [⟨(some 10), .faddr false 0 1 (.t 2), none⟩,
        ⟨(some 11), .load false 1 (.t 10), none⟩,
        ⟨(some 12), .bin .eql (.t 11) (.c (.p (.int .u8 110))), none⟩,
        ⟨(some 4), .mov (.t 12), none⟩])
      .ret)
      .skip))
    (.seq (.rg [⟨(some 14), .faddr false 2 1 (.t 2), none⟩,
      ⟨(some 15), .load false 1 (.t 14), none⟩,
      ⟨(some 16), .callr 92 [(.t 15), (.c (.p (.int .i64 10))), (.c (.p (.int .i64 64)))], none⟩,
      ⟨(some 13), .mov (.t 16), none⟩,
      ⟨(some 17), .ext (.t 13) 0, none⟩,
      ⟨(some 18), .ext (.t 13) 1, none⟩,
      ⟨(some 5), .mov (.t 17), none⟩,
      ⟨(some 6), .mov (.t 18), none⟩])
    (.seq (.seq (.rg [⟨(some 19), .mov (.t 6), none⟩,
      ⟨(some 20), .eqn false .iface (.t 19), none⟩])
    (.cond (.t 20) (.rg [⟨(some 21), .mov (.t 1), none⟩,
        ⟨(some 22), .mov (.t 5), none⟩,
        ⟨(some 23), .nilchk .ptr (.t 21), none⟩,
        ⟨none, .store 1 (.t 23) (.t 22), none⟩])
      .skip))
    (.seq (.rg [⟨(some 24), .mov (.t 6), none⟩,
      ⟨(some 25), .eqn false .iface (.t 24), none⟩,
      ⟨(some 4), .mov (.t 25), none⟩])
    .ret)))))
def r91 : List DR := [.tmp 4]
theorem c91_ok : Tryd.f91.body.bind (cCode Tryd.prog) = some c91 := by kernel_rfl
theorem r91_ok : cRes Tryd.prog Tryd.f91.results.toList = some r91 := by kernel_rfl

/-- given.example/pub-assaymark/pub/lightstrconv.ParseInt -/
def c92 : DC :=
  (.seq (.rg [⟨(some 6), .mov (.c (.p (.int .i64 0))), none⟩,
      ⟨(some 7), .mov (.c (.p .nilIface)), none⟩])
    (.seq (.rg [⟨(some 11), .mov (.t 0), none⟩,
      ⟨(some 12), .mov (.t 1), none⟩,
      ⟨(some 13), .mov (.t 2), none⟩,
      ⟨(some 14), .callr 93 [(.t 11), (.t 12), (.t 13)], none⟩,
      ⟨(some 10), .mov (.t 14), none⟩,
      ⟨(some 15), .ext (.t 10) 0, none⟩,
      ⟨(some 16), .ext (.t 10) 1, none⟩,
      ⟨(some 8), .mov (.t 15), none⟩,
      ⟨(some 9), .mov (.t 16), none⟩])
    (.seq (.seq (.rg [⟨(some 17), .mov (.t 9), none⟩,
      ⟨(some 18), .eqn true .iface (.t 17), none⟩])
    (.cond (.t 18) (.seq (.rg [⟨(some 19), .mov (.t 8), none⟩,
        ⟨(some 20), .mov (.t 0), none⟩,
        ⟨(some 21), .mov (.t 9), none⟩,
        ⟨(some 22), .bld [.p (.string ⟨#[]⟩), .p (.string ⟨#[]⟩), .p .nilIface] [(0, 1, (.c (.p (.string ⟨#[80, 97, 114, 115, 101, 73, 110, 116]⟩)))), (1, 1, (.t 20)), (2, 1, (.t 21))], none⟩,
        ⟨(some 23), .box (.t 22), none⟩,
        ⟨(some 24), .ifc 144 (.t 23), none⟩,
        ⟨(some 6), .mov (.t 19), none⟩,
        ⟨(some 7), .mov (.t 24), none⟩])
      .ret)
      .skip))
    (.seq (.rg [⟨(some 25), .mov (.t 8), none⟩,
      ⟨(some 6), .mov (.t 25), none⟩,
      ⟨(some 7), .mov (.c (.p .nilIface)), none⟩])
    .ret))))
def r92 : List DR := [.tmp 6, .tmp 7]
theorem c92_ok : Tryd.f92.body.bind (cCode Tryd.prog) = some c92 := by kernel_rfl
theorem r92_ok : cRes Tryd.prog Tryd.f92.results.toList = some r92 := by kernel_rfl

/-- given.example/pub-assaymark/pub/lightstrconv.parseInt -/
def c93 : DC :=
  (.seq (.rg [⟨(some 6), .mov (.c (.p (.int .i64 0))), none⟩,
      ⟨(some 7), .mov (.c (.p .nilIface)), none⟩])
    (.seq (.seq (.rg [⟨(some 12), .mov (.t 0), none⟩,
      ⟨(some 13), .bin .eql (.t 12) (.c (.p (.string ⟨#[]⟩))), none⟩])
    (.cond (.t 13) (.seq (.rg [⟨(some 14), .ifc 147 (.c (.p (.string ⟨#[105, 110, 118, 97, 108, 105, 100, 32, 115, 121, 110, 116, 97, 120]⟩))), none⟩,
        ⟨(some 6), .mov (.c (.p (.int .i64 0))), none⟩,
        ⟨(some 7), .mov (.t 14), none⟩])
      .ret)
      .skip))
    (.seq (.rg [⟨(some 15), .mov (.t 0), none⟩,
      ⟨(some 16), .idxs (.t 15) (.c (.p (.int .i64 0))), none⟩,
      ⟨(some 17), .bin .eql (.t 16) (.c (.p (.int .u8 45))), none⟩,
      ⟨(some 8), .mov (.t 17), none⟩])
    (.seq (.seq (.rg [⟨(some 18), .mov (.t 8), none⟩,
      ⟨(some 19), .mov (.t 18), none⟩,
      ⟨(some 20), .mov (.t 0), (some (19, false))⟩,
      ⟨(some 21), .idxs (.t 20) (.c (.p (.int .i64 0))), (some (19, false))⟩,
      ⟨(some 22), .bin .eql (.t 21) (.c (.p (.int .u8 43))), (some (19, false))⟩,
      ⟨(some 23), .pick (.t 19) (.c (.p (.bool true))) (.t 22), none⟩])
    (.cond (.t 23) (.rg [⟨(some 24), .mov (.t 0), none⟩,
        ⟨(some 25), .slcs (.t 24) (some (.c (.p (.int .i64 1)))) none, none⟩,
        ⟨(some 0), .mov (.t 25), none⟩])
      .skip))
    (.seq (.rg [⟨(some 27), .mov (.t 0), none⟩,
      ⟨(some 28), .mov (.t 1), none⟩,
      ⟨(some 29), .mov (.t 2), none⟩,
      ⟨(some 30), .callr 94 [(.t 27), (.t 28), (.t 29)], none⟩,
      ⟨(some 26), .mov (.t 30), none⟩,
      ⟨(some 31), .ext (.t 26) 0, none⟩,
      ⟨(some 32), .ext (.t 26) 1, none⟩,
      ⟨(some 9), .mov (.t 31), none⟩,
      ⟨(some 10), .mov (.t 32), none⟩])
    (.seq (.seq (.rg [⟨(some 33), .mov (.t 10), none⟩,
      ⟨(some 34), .eqn true .iface (.t 33), none⟩,
      ⟨(some 35), .mov (.t 34), none⟩,
      ⟨(some 36), .mov (.t 10), (some (35, true))⟩,
      ⟨(some 37), .ifc 147 (.c (.p (.string ⟨#[118, 97, 108, 117, 101, 32, 111, 117, 116, 32, 111, 102, 32, 114, 97, 110, 103, 101]⟩))), (some (35, true))⟩,
      ⟨(some 38), .eqi true (.t 36) (.t 37), (some (35, true))⟩,
      ⟨(some 39), .pick (.t 35) (.t 38) (.c (.p (.bool false))), none⟩])
    (.cond (.t 39) (.seq (.rg [⟨(some 40), .mov (.t 10), none⟩,
        ⟨(some 6), .mov (.c (.p (.int .i64 0))), none⟩,
        ⟨(some 7), .mov (.t 40), none⟩])
      .ret)
      .skip))
    (.seq (.seq (.rg [⟨(some 41), .mov (.t 2), none⟩,
      ⟨(some 42), .bin .eql (.t 41) (.c (.p (.int .i64 0))), none⟩])
    (.cond (.t 42) (.rg [⟨(some 2), .mov (.c (.p (.int .i64 64))), none⟩])
      .skip))
    (.seq (.rg [⟨(some 43), .mov (.t 2), none⟩,
      ⟨(some 44), .bin .sub (.t 43) (.c (.p (.int .i64 1))), none⟩,
      ⟨(some 45), .bin .shl (.c (.p (.int .u64 1))) (.t 44), none⟩,
      ⟨(some 11), .mov (.t 45), none⟩])
    (.seq (.block 0 (.seq (.rg [⟨(some 47), .mov (.t 8), none⟩,
       ⟨(some 48), .un .not (.t 47), none⟩,
       ⟨(some 49), .mov (.t 48), none⟩,
       ⟨(some 50), .mov (.t 9), (some (49, true))⟩,
       ⟨(some 51), .mov (.t 11), (some (49, true))⟩,
       ⟨(some 52), .bin .geq (.t 50) (.t 51), (some (49, true))⟩,
       ⟨(some 53), .pick (.t 49) (.t 52) (.c (.p (.bool false))), none⟩,
       ⟨(some 46), .mov (.t 53), none⟩])
     (.cond (.t 46) (.seq (.rg [⟨(some 54), .mov (.t 11), none⟩,
         ⟨(some 55), .bin .sub (.t 54) (.c (.p (.int .u64 1))), none⟩,
         ⟨(some 56), .cint .i64 (.t 55), none⟩,
         ⟨(some 57), .ifc 147 (.c (.p (.string ⟨#[118, 97, 108, 117, 101, 32, 111, 117, 116, 32, 111, 102, 32, 114, 97, 110, 103, 101]⟩))), none⟩,
         ⟨(some 6), .mov (.t 56), none⟩,
         ⟨(some 7), .mov (.t 57), none⟩])
       .ret)
       (.seq (.rg [⟨(some 59), .mov (.t 8), none⟩,
         ⟨(some 60), .mov (.t 59), none⟩,
         ⟨(some 61), .mov (.t 9), (some (60, true))⟩,
         ⟨(some 62), .mov (.t 11), (some (60, true))⟩,
         ⟨(some 63), .bin .gtr (.t 61) (.t 62), (some (60, true))⟩,
         ⟨(some 64), .pick (.t 60) (.t 63) (.c (.p (.bool false))), none⟩,
         ⟨(some 58), .mov (.t 64), none⟩])
       (.cond (.t 58) (.seq (.rg [⟨(some 65), .mov (.t 11), none⟩,
           ⟨(some 66), .cint .i64 (.t 65), none⟩,
           ⟨(some 67), .un .neg (.t 66), none⟩,
           ⟨(some 68), .ifc 147 (.c (.p (.string ⟨#[118, 97, 108, 117, 101, 32, 111, 117, 116, 32, 111, 102, 32, 114, 97, 110, 103, 101]⟩))), none⟩,
           ⟨(some 6), .mov (.t 67), none⟩,
           ⟨(some 7), .mov (.t 68), none⟩])
         .ret)
         (.seq (.rg [⟨(some 70), .mov (.t 8), none⟩,
           ⟨(some 69), .mov (.t 70), none⟩])
         (.cond (.t 69) (.seq (.rg [⟨(some 71), .mov (.t 9), none⟩,
             ⟨(some 72), .cint .i64 (.t 71), none⟩,
             ⟨(some 73), .un .neg (.t 72), none⟩,
             ⟨(some 6), .mov (.t 73), none⟩,
             ⟨(some 7), .mov (.c (.p .nilIface)), none⟩])
           .ret)
           .skip)))))))
    (.seq (.rg [⟨(some 74), .mov (.t 9), none⟩,
      ⟨(some 75), .cint .i64 (.t 74), none⟩,
      ⟨(some 6), .mov (.t 75), none⟩,
      ⟨(some 7), .mov (.c (.p .nilIface)), none⟩])
    .ret))))))))))
def r93 : List DR := [.tmp 6, .tmp 7]
theorem c93_ok : Tryd.f93.body.bind (cCode Tryd.prog) = some c93 := by kernel_rfl
theorem r93_ok : cRes Tryd.prog Tryd.f93.results.toList = some r93 := by kernel_rfl

/-- given.example/pub-assaymark/pub/lightstrconv.parseUint -/
def c94 : DC :=
  (.seq (.rg [⟨(some 6), .mov (.c (.p (.int .u64 0))), none⟩,
      ⟨(some 7), .mov (.c (.p .nilIface)), none⟩])
    (.seq (.seq (.rg [⟨(some 16), .mov (.t 0), none⟩,
      ⟨(some 17), .bin .eql (.t 16) (.c (.p (.string ⟨#[]⟩))), none⟩])
    (.cond (.t 17) (.seq (.rg [⟨(some 18), .ifc 147 (.c (.p (.string ⟨#[105, 110, 118, 97, 108, 105, 100, 32, 115, 121, 110, 116, 97, 120]⟩))), none⟩,
        ⟨(some 6), .mov (.c (.p (.int .u64 0))), none⟩,
        ⟨(some 7), .mov (.t 18), none⟩])
      .ret)
      .skip))
    (.seq (.rg [⟨(some 19), .mov (.t 1), none⟩,
      ⟨(some 20), .bin .eql (.t 19) (.c (.p (.int .i64 0))), none⟩,
      ⟨(some 21), .mov (.t 0), none⟩,
      ⟨(some 8), .mov (.t 20), none⟩,
      ⟨(some 9), .mov (.t 21), none⟩])
    (.seq (.block 0 (.seq (.rg [⟨(some 24), .mov (.t 1), none⟩,
       ⟨(some 25), .bin .leq (.c (.p (.int .i64 2))) (.t 24), none⟩,
       ⟨(some 26), .mov (.t 25), none⟩,
       ⟨(some 27), .mov (.t 1), (some (26, true))⟩,
       ⟨(some 28), .bin .leq (.t 27) (.c (.p (.int .i64 36))), (some (26, true))⟩,
       ⟨(some 29), .pick (.t 26) (.t 28) (.c (.p (.bool false))), none⟩,
       ⟨(some 23), .mov (.t 29), none⟩])
     (.cond (.t 23) .skip
       (.seq (.rg [⟨(some 31), .mov (.t 8), none⟩,
         ⟨(some 30), .mov (.t 31), none⟩])
       (.cond (.t 30) (.seq (.rg [⟨(some 1), .mov (.c (.p (.int .i64 10))), none⟩])
         (.seq (.rg [⟨(some 32), .mov (.t 0), none⟩,
           ⟨(some 33), .idxs (.t 32) (.c (.p (.int .i64 0))), none⟩,
           ⟨(some 34), .bin .eql (.t 33) (.c (.p (.int .u8 48))), none⟩])
         (.cond (.t 34) (.block 1 (.seq (.rg [⟨(some 38), .mov (.t 0), none⟩,
              ⟨(some 39), .lens (.t 38), none⟩,
              ⟨(some 40), .bin .geq (.t 39) (.c (.p (.int .i64 3))), none⟩,
              ⟨(some 41), .mov (.t 40), none⟩,
              ⟨(some 42), .mov (.t 0), (some (41, true))⟩,
              ⟨(some 43), .idxs (.t 42) (.c (.p (.int .i64 1))), (some (41, true))⟩,
              ⟨(some 44), .callr 95 [(.t 43)], (some (41, true))⟩,
              ⟨(some 45), .bin .eql (.t 44) (.c (.p (.int .u8 98))), (some (41, true))⟩,
              ⟨(some 46), .pick (.t 41) (.t 45) (.c (.p (.bool false))), none⟩,
              ⟨(some 37), .mov (.t 46), none⟩])
            (.cond (.t 37) (.rgd [⟨⟨(some 47), .mov (.t 0), none⟩, 0, []⟩,
                ⟨⟨(some 48), .slcs (.t 47) (some (.c (.p (.int .i64 2)))) none, none⟩, 0, []⟩,
                ⟨⟨(some 1), .mov (.c (.p (.int .i64 2))), none⟩, 0, []⟩,
                ⟨⟨(some 0), .mov (.t 48), none⟩, 0, []⟩])
              (.seq (.rg [⟨(some 50), .mov (.t 0), none⟩,
                ⟨(some 51), .lens (.t 50), none⟩,
                ⟨(some 52), .bin .geq (.t 51) (.c (.p (.int .i64 3))), none⟩,
                ⟨(some 53), .mov (.t 52), none⟩,
                ⟨(some 54), .mov (.t 0), (some (53, true))⟩,
                ⟨(some 55), .idxs (.t 54) (.c (.p (.int .i64 1))), (some (53, true))⟩,
                ⟨(some 56), .callr 95 [(.t 55)], (some (53, true))⟩,
                ⟨(some 57), .bin .eql (.t 56) (.c (.p (.int .u8 111))), (some (53, true))⟩,
                ⟨(some 58), .pick (.t 53) (.t 57) (.c (.p (.bool false))), none⟩,
                ⟨(some 49), .mov (.t 58), none⟩])
              (.cond (.t 49) (.rgd [⟨⟨(some 59), .mov (.t 0), none⟩, 0, []⟩,
                  ⟨⟨(some 60), .slcs (.t 59) (some (.c (.p (.int .i64 2)))) none, none⟩, 0, []⟩,
                  ⟨⟨(some 1), .mov (.c (.p (.int .i64 8))), none⟩, 0, []⟩,
                  ⟨⟨(some 0), .mov (.t 60), none⟩, 0, []⟩])
                (.seq (.rg [⟨(some 62), .mov (.t 0), none⟩,
                  ⟨(some 63), .lens (.t 62), none⟩,
                  ⟨(some 64), .bin .geq (.t 63) (.c (.p (.int .i64 3))), none⟩,
                  ⟨(some 65), .mov (.t 64), none⟩,
                  ⟨(some 66), .mov (.t 0), (some (65, true))⟩,
                  ⟨(some 67), .idxs (.t 66) (.c (.p (.int .i64 1))), (some (65, true))⟩,
                  ⟨(some 68), .callr 95 [(.t 67)], (some (65, true))⟩,
                  ⟨(some 69), .bin .eql (.t 68) (.c (.p (.int .u8 120))), (some (65, true))⟩,
                  ⟨(some 70), .pick (.t 65) (.t 69) (.c (.p (.bool false))), none⟩,
                  ⟨(some 61), .mov (.t 70), none⟩])
                (.cond (.t 61) (.rgd [⟨⟨(some 71), .mov (.t 0), none⟩, 0, []⟩,
                    ⟨⟨(some 72), .slcs (.t 71) (some (.c (.p (.int .i64 2)))) none, none⟩, 0, []⟩,
                    ⟨⟨(some 1), .mov (.c (.p (.int .i64 16))), none⟩, 0, []⟩,
                    ⟨⟨(some 0), .mov (.t 72), none⟩, 0, []⟩])
                  (.rgd [⟨⟨(some 35), .mov (.t 0), none⟩, 0, []⟩,
                    ⟨⟨(some 36), .slcs (.t 35) (some (.c (.p (.int .i64 1)))) none, none⟩, 0, []⟩,
                    ⟨⟨(some 1), .mov (.c (.p (.int .i64 8))), none⟩, 0, []⟩,
                    ⟨⟨(some 0), .mov (.t 36), none⟩, 0, []⟩]))))))))
           .skip)))
         (.seq (.rg [⟨(some 22), .ifc 147 (.c (.p (.string ⟨#[105, 110, 118, 97, 108, 105, 100, 32, 98, 97, 115, 101]⟩))), none⟩,
           ⟨(some 6), .mov (.c (.p (.int .u64 0))), none⟩,
           ⟨(some 7), .mov (.t 22), none⟩])
         .ret))))))
    (.seq (.seq (.rg [⟨(some 73), .mov (.t 2), none⟩,
      ⟨(some 74), .bin .eql (.t 73) (.c (.p (.int .i64 0))), none⟩])
    (.cond (.t 74) (.rg [⟨(some 2), .mov (.c (.p (.int .i64 64))), none⟩])
      (.seq (.rg [⟨(some 75), .mov (.t 2), none⟩,
        ⟨(some 76), .bin .lss (.t 75) (.c (.p (.int .i64 0))), none⟩,
        ⟨(some 77), .mov (.t 76), none⟩,
        ⟨(some 78), .mov (.t 2), (some (77, false))⟩,
        ⟨(some 79), .bin .gtr (.t 78) (.c (.p (.int .i64 64))), (some (77, false))⟩,
        ⟨(some 80), .pick (.t 77) (.c (.p (.bool true))) (.t 79), none⟩])
      (.cond (.t 80) (.seq (.rg [⟨(some 81), .ifc 147 (.c (.p (.string ⟨#[105, 110, 118, 97, 108, 105, 100, 32, 98, 105, 116, 32, 115, 105, 122, 101]⟩))), none⟩,
          ⟨(some 6), .mov (.c (.p (.int .u64 0))), none⟩,
          ⟨(some 7), .mov (.t 81), none⟩])
        .ret)
        .skip))))
    (.seq (.rg [⟨(some 82), .mov (.t 2), none⟩,
      ⟨(some 83), .bin .shl (.c (.p (.int .u64 1))) (.t 82), none⟩,
      ⟨(some 84), .bin .sub (.t 83) (.c (.p (.int .u64 1))), none⟩,
      ⟨(some 10), .mov (.t 84), none⟩])
    (.seq (.rg [⟨(some 11), .mov (.c (.p (.int .u64 0))), none⟩])
    (.seq (.rg [⟨(some 12), .mov (.c (.p (.bool false))), none⟩])
    (.seq (.seq (.rg [⟨(some 85), .mov (.t 0), none⟩,
      ⟨(some 86), .s2b (.t 85), none⟩,
      ⟨(some 87), .lenl (.t 86), none⟩,
      ⟨(some 88), .mov (.c (.p (.int .i64 0))), none⟩])
    (.block 2 (.loop (.seq (.rg [⟨(some 89), .bin .lss (.t 88) (.t 87), none⟩])
      (.seq (.cond (.t 89) .skip
        (.exit 2))
      (.seq (.block 3 (.seq (.rg [⟨(some 90), .iaddr 1 (.t 86) (.t 88), none⟩,
         ⟨(some 91), .load false 1 (.t 90), none⟩,
         ⟨(some 14), .mov (.t 91), none⟩])
       (.seq (.rg [⟨(some 15), .mov (.c (.p (.int .u64 0))), none⟩])
       (.seq (.block 4 (.seq (.rg [⟨(some 94), .mov (.t 14), none⟩,
          ⟨(some 95), .bin .eql (.t 94) (.c (.p (.int .u8 95))), none⟩,
          ⟨(some 96), .mov (.t 95), none⟩,
          ⟨(some 97), .mov (.t 8), (some (96, true))⟩,
          ⟨(some 98), .pick (.t 96) (.t 97) (.c (.p (.bool false))), none⟩,
          ⟨(some 93), .mov (.t 98), none⟩])
        (.cond (.t 93) (.seq (.rg [⟨(some 12), .mov (.c (.p (.bool true))), none⟩])
          (.exit 3))
          (.seq (.rg [⟨(some 100), .mov (.t 14), none⟩,
            ⟨(some 101), .bin .leq (.c (.p (.int .u8 48))) (.t 100), none⟩,
            ⟨(some 102), .mov (.t 101), none⟩,
            ⟨(some 103), .mov (.t 14), (some (102, true))⟩,
            ⟨(some 104), .bin .leq (.t 103) (.c (.p (.int .u8 57))), (some (102, true))⟩,
            ⟨(some 105), .pick (.t 102) (.t 104) (.c (.p (.bool false))), none⟩,
            ⟨(some 99), .mov (.t 105), none⟩])
          (.cond (.t 99) (.rg [⟨(some 106), .mov (.t 14), none⟩,
              ⟨(some 107), .bin .sub (.t 106) (.c (.p (.int .u8 48))), none⟩,
              ⟨(some 108), .cint .u64 (.t 107), none⟩,
              ⟨(some 15), .mov (.t 108), none⟩])
            (.seq (.rg [⟨(some 110), .mov (.t 14), none⟩,
              ⟨(some 111), .callr 95 [(.t 110)], none⟩,
              ⟨(some 112), .bin .leq (.c (.p (.int .u8 97))) (.t 111), none⟩,
              ⟨(some 113), .mov (.t 112), none⟩,
              ⟨(some 114), .mov (.t 14), (some (113, true))⟩,
              ⟨(some 115), .callr 95 [(.t 114)], (some (113, true))⟩,
              ⟨(some 116), .bin .leq (.t 115) (.c (.p (.int .u8 122))), (some (113, true))⟩,
              ⟨(some 117), .pick (.t 113) (.t 116) (.c (.p (.bool false))), none⟩,
              ⟨(some 109), .mov (.t 117), none⟩])
            (.cond (.t 109) (.rg [⟨(some 118), .mov (.t 14), none⟩,
                ⟨(some 119), .callr 95 [(.t 118)], none⟩,
                ⟨(some 120), .bin .sub (.t 119) (.c (.p (.int .u8 97))), none⟩,
                ⟨(some 121), .cint .u64 (.t 120), none⟩,
                ⟨(some 122), .bin .add (.t 121) (.c (.p (.int .u64 10))), none⟩,
                ⟨(some 15), .mov (.t 122), none⟩])
              (.seq (.rg [⟨(some 92), .ifc 147 (.c (.p (.string ⟨#[105, 110, 118, 97, 108, 105, 100, 32, 115, 121, 110, 116, 97, 120]⟩))), none⟩,
                ⟨(some 6), .mov (.c (.p (.int .u64 0))), none⟩,
                ⟨(some 7), .mov (.t 92), none⟩])
              .ret))))))))
       (.seq (.seq (.rg [⟨(some 123), .mov (.t 15), none⟩,
         ⟨(some 124), .mov (.t 1), none⟩,
         ⟨(some 125), .cint .u64 (.t 124), none⟩,
         ⟨(some 126), .bin .geq (.t 123) (.t 125), none⟩])
       (.cond (.t 126) (.seq (.rg [⟨(some 127), .ifc 147 (.c (.p (.string ⟨#[105, 110, 118, 97, 108, 105, 100, 32, 115, 121, 110, 116, 97, 120]⟩))), none⟩,
           ⟨(some 6), .mov (.c (.p (.int .u64 0))), none⟩,
           ⟨(some 7), .mov (.t 127), none⟩])
         .ret)
         .skip))
       (.seq (.seq (.rg [⟨(some 128), .mov (.t 15), none⟩,
         ⟨(some 129), .mov (.t 10), none⟩,
         ⟨(some 130), .bin .gtr (.t 128) (.t 129), none⟩,
         ⟨(some 131), .mov (.t 130), none⟩,
         ⟨(some 132), .mov (.t 11), (some (131, false))⟩,
         ⟨(some 133), .mov (.t 10), (some (131, false))⟩,
         ⟨(some 134), .mov (.t 15), (some (131, false))⟩,
         ⟨(some 135), .bin .sub (.t 133) (.t 134), (some (131, false))⟩,
         ⟨(some 136), .mov (.t 1), (some (131, false))⟩,
         ⟨(some 137), .cint .u64 (.t 136), (some (131, false))⟩,
         ⟨(some 138), .bin .quo (.t 135) (.t 137), (some (131, false))⟩,
         ⟨(some 139), .bin .gtr (.t 132) (.t 138), (some (131, false))⟩,
         ⟨(some 140), .pick (.t 131) (.c (.p (.bool true))) (.t 139), none⟩])
       (.cond (.t 140) (.seq (.rg [⟨(some 141), .mov (.t 10), none⟩,
           ⟨(some 142), .ifc 147 (.c (.p (.string ⟨#[118, 97, 108, 117, 101, 32, 111, 117, 116, 32, 111, 102, 32, 114, 97, 110, 103, 101]⟩))), none⟩,
           ⟨(some 6), .mov (.t 141), none⟩,
           ⟨(some 7), .mov (.t 142), none⟩])
         .ret)
         .skip))
       (.rg [⟨(some 143), .mov (.t 11), none⟩,
         ⟨(some 144), .mov (.t 1), none⟩,
         ⟨(some 145), .cint .u64 (.t 144), none⟩,
         ⟨(some 146), .bin .mul (.t 143) (.t 145), none⟩,
         ⟨(some 147), .mov (.t 15), none⟩,
         ⟨(some 148), .bin .add (.t 146) (.t 147), none⟩,
         ⟨(some 11), .mov (.t 148), none⟩])))))))
      (.rg [⟨(some 149), .bin .add (.t 88) (.c (.p (.int .i64 1))), none⟩,
        ⟨(some 88), .mov (.t 149), none⟩])))))))
    (.seq (.seq (.rg [⟨(some 150), .mov (.t 12), none⟩,
      ⟨(some 151), .mov (.t 150), none⟩,
      ⟨(some 152), .mov (.t 9), (some (151, true))⟩,
      ⟨(some 153), .callr 96 [(.t 152)], (some (151, true))⟩,
      ⟨(some 154), .un .not (.t 153), (some (151, true))⟩,
      ⟨(some 155), .pick (.t 151) (.t 154) (.c (.p (.bool false))), none⟩])
    (.cond (.t 155) (.seq (.rg [⟨(some 156), .ifc 147 (.c (.p (.string ⟨#[105, 110, 118, 97, 108, 105, 100, 32, 115, 121, 110, 116, 97, 120]⟩))), none⟩,
        ⟨(some 6), .mov (.c (.p (.int .u64 0))), none⟩,
        ⟨(some 7), .mov (.t 156), none⟩])
      .ret)
      .skip))
    (.seq (.rg [⟨(some 157), .mov (.t 11), none⟩,
      ⟨(some 6), .mov (.t 157), none⟩,
      ⟨(some 7), .mov (.c (.p .nilIface)), none⟩])
    .ret)))))))))))
def r94 : List DR := [.tmp 6, .tmp 7]
theorem c94_ok : Tryd.f94.body.bind (cCode Tryd.prog) = some c94 := by kernel_rfl
theorem r94_ok : cRes Tryd.prog Tryd.f94.results.toList = some r94 := by kernel_rfl

/-- given.example/pub-assaymark/pub/lightstrconv.lower -/
def c95 : DC :=
  (.seq (.rg [⟨(some 2), .mov (.c (.p (.int .u8 0))), none⟩])
    (.seq (.rg [⟨(some 3), .mov (.t 0), none⟩,
      ⟨(some 4), .bin .or (.t 3) (.c (.p (.int .u8 32))), none⟩,
      ⟨(some 2), .mov (.t 4), none⟩])
    .ret))
def r95 : List DR := [.tmp 2]
theorem c95_ok : Tryd.f95.body.bind (cCode Tryd.prog) = some c95 := by kernel_rfl
theorem r95_ok : cRes Tryd.prog Tryd.f95.results.toList = some r95 := by kernel_rfl

end Go.Proofs.YtppjcnaffphakaaDoor
