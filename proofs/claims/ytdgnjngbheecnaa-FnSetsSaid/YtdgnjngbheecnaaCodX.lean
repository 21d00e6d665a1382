/- The codes of the functions, in the small language of Den. -/
import Derived.Test.YtdgnjngbheecnaaLibE
import Derived.Test.YtdgnjngbheecnaaProg
set_option linter.unusedVariables false
set_option linter.unusedSimpArgs false
set_option maxRecDepth 100000
namespace Go.Proofs.Ytdgnjngbheecnaa
open Go Go.Den Go.Proofs

/-- given.example/pub-assaymark/laws.FnSets -/
def c7 : DC :=
  (.seq (.rg [⟨(some 8), .mov (.c (.p (.bool false))), none⟩])
    (.seq (.seq (.rg [⟨(some 17), .mov (.t 1), none⟩,
      ⟨(some 18), .callr 9 [(.t 17)], none⟩,
      ⟨(some 19), .un .not (.t 18), none⟩,
      ⟨(some 20), .mov (.t 19), none⟩,
      ⟨(some 21), .mov (.t 2), (some (20, false))⟩,
      ⟨(some 22), .callr 9 [(.t 21)], (some (20, false))⟩,
      ⟨(some 23), .un .not (.t 22), (some (20, false))⟩,
      ⟨(some 24), .pick (.t 20) (.c (.p (.bool true))) (.t 23), none⟩,
      ⟨(some 25), .mov (.t 24), none⟩,
      ⟨(some 26), .mov (.t 3), (some (25, false))⟩,
      ⟨(some 27), .lens (.t 26), (some (25, false))⟩,
      ⟨(some 28), .bin .gtr (.t 27) (.c (.p (.int .i64 2147483647))), (some (25, false))⟩,
      ⟨(some 29), .pick (.t 25) (.c (.p (.bool true))) (.t 28), none⟩])
    (.cond (.t 29) (.seq (.rg [⟨(some 8), .mov (.c (.p (.bool true))), none⟩])
      .ret)
      .skip))
    (.seq (.rgd [⟨⟨(some 30), .mov (.t 1), none⟩, 0, []⟩,
      ⟨⟨(some 31), .call 26 [(.t 30)], none⟩, 0, []⟩,
      ⟨⟨(some 32), .mov (.t 2), none⟩, 0, []⟩,
      ⟨⟨(some 33), .call 26 [(.t 32)], none⟩, 1, []⟩,
      ⟨⟨(some 34), .mov (.t 3), none⟩, 0, []⟩,
      ⟨⟨(some 35), .mov (.t 3), none⟩, 0, []⟩,
      ⟨⟨(some 36), .lens (.t 35), none⟩, 0, []⟩,
      ⟨⟨(some 37), .mm false (.t 36) (.c (.p (.int .i64 20))), none⟩, 0, []⟩,
      ⟨⟨(some 38), .slcs (.t 34) none (some (.t 37)), none⟩, 0, []⟩,
      ⟨⟨(some 1), .mov (.t 31), none⟩, 2, []⟩,
      ⟨⟨(some 2), .mov (.t 33), none⟩, 2, []⟩,
      ⟨⟨(some 3), .mov (.t 38), none⟩, 2, []⟩])
    (.seq (.rg [⟨(some 40), .mov (.t 0), none⟩,
      ⟨(some 41), .bin .rem (.t 40) (.c (.p (.int .u8 2))), none⟩,
      ⟨(some 42), .cint .i64 (.t 41), none⟩,
      ⟨(some 43), .mov (.t 1), none⟩,
      ⟨(some 44), .mov (.t 2), none⟩,
      ⟨(some 45), .mov (.t 3), none⟩,
      ⟨(some 46), .callr 27 [(.t 42), (.t 43), (.t 44), (.t 45)], none⟩,
      ⟨(some 39), .mov (.t 46), none⟩,
      ⟨(some 47), .ext (.t 39) 0, none⟩,
      ⟨(some 48), .ext (.t 39) 1, none⟩,
      ⟨(some 9), .alloc 12 (.agg [.p (.slice none 0 0), .p (.slice none 0 0), .p (.slice none 0 0), .p (.slice none 0 0), .p (.slice none 0 0), .p (.bool false), .p (.bool false), .p (.bool false), .p (.slice none 0 0), .p (.slice none 0 0), .p (.slice none 0 0), .p (.slice none 0 0)]), none⟩,
      ⟨none, .store 12 (.t 9) (.t 47), none⟩,
      ⟨(some 10), .mov (.t 48), none⟩])
    (.seq (.rg [⟨(some 49), .mov (.t 1), none⟩,
      ⟨(some 50), .callr 28 [(.t 49)], none⟩,
      ⟨(some 51), .mov (.t 2), none⟩,
      ⟨(some 52), .callr 28 [(.t 51)], none⟩,
      ⟨(some 11), .mov (.t 50), none⟩,
      ⟨(some 12), .mov (.t 52), none⟩])
    (.seq (.rg [⟨(some 13), .mov (.c (.p (.slice none 0 0))), none⟩,
      ⟨(some 14), .mov (.c (.p (.slice none 0 0))), none⟩])
    (.seq (.seq (.rg [⟨(some 53), .mov (.t 11), none⟩,
      ⟨(some 54), .lenl (.t 53), none⟩,
      ⟨(some 55), .mov (.c (.p (.int .i64 0))), none⟩])
    (.block 0 (.loop (.seq (.rg [⟨(some 56), .bin .lss (.t 55) (.t 54), none⟩])
      (.seq (.cond (.t 56) .skip
        (.exit 0))
      (.seq (.block 1 (.seq (.rg [⟨(some 57), .iaddr 1 (.t 53) (.t 55), none⟩,
         ⟨(some 58), .load false 1 (.t 57), none⟩,
         ⟨(some 16), .mov (.t 58), none⟩])
       (.seq (.rg [⟨(some 59), .mov (.t 13), none⟩,
         ⟨(some 60), .mov (.t 16), none⟩,
         ⟨(some 61), .bin .add (.t 60) (.c (.p (.string ⟨#[33]⟩))), none⟩,
         ⟨(some 62), .lit 1 [(.t 61)], none⟩,
         ⟨(some 63), .app 1 16 (.t 59) (.t 62), none⟩,
         ⟨(some 13), .mov (.t 63), none⟩])
       (.seq (.rg [⟨(some 64), .mov (.t 16), none⟩,
         ⟨(some 65), .lens (.t 64), none⟩,
         ⟨(some 66), .mov (.t 3), none⟩,
         ⟨(some 67), .lens (.t 66), none⟩,
         ⟨(some 68), .bin .geq (.t 65) (.t 67), none⟩,
         ⟨(some 69), .mov (.t 68), none⟩,
         ⟨(some 70), .mov (.t 16), (some (69, true))⟩,
         ⟨(some 71), .mov (.t 3), (some (69, true))⟩,
         ⟨(some 72), .lens (.t 71), (some (69, true))⟩,
         ⟨(some 73), .slcs (.t 70) none (some (.t 72)), (some (69, true))⟩,
         ⟨(some 74), .mov (.t 3), (some (69, true))⟩,
         ⟨(some 75), .bin .eql (.t 73) (.t 74), (some (69, true))⟩,
         ⟨(some 76), .pick (.t 69) (.t 75) (.c (.p (.bool false))), none⟩])
       (.cond (.t 76) (.rg [⟨(some 77), .mov (.t 14), none⟩,
           ⟨(some 78), .mov (.t 16), none⟩,
           ⟨(some 79), .lit 1 [(.t 78)], none⟩,
           ⟨(some 80), .app 1 16 (.t 77) (.t 79), none⟩,
           ⟨(some 14), .mov (.t 80), none⟩])
         .skip)))))
      (.rg [⟨(some 81), .bin .add (.t 55) (.c (.p (.int .i64 1))), none⟩,
        ⟨(some 55), .mov (.t 81), none⟩])))))))
    (.seq (.rgd [⟨⟨(some 82), .mov (.t 10), none⟩, 0, []⟩,
      ⟨⟨(some 83), .mov (.t 82), none⟩, 0, []⟩,
      ⟨⟨(some 84), .faddr false 3 1 (.t 9), (some (83, true))⟩, 0, [0]⟩,
      ⟨⟨(some 85), .load false 1 (.t 84), (some (83, true))⟩, 0, [0]⟩,
      ⟨⟨(some 86), .mov (.t 11), (some (83, true))⟩, 0, [0]⟩,
      ⟨⟨(some 87), .call 29 [(.t 85), (.t 86)], (some (83, true))⟩, 0, []⟩,
      ⟨⟨(some 88), .pick (.t 83) (.t 87) (.c (.p (.bool false))), none⟩, 1, []⟩,
      ⟨⟨(some 89), .mov (.t 88), none⟩, 1, []⟩,
      ⟨⟨(some 90), .faddr false 4 1 (.t 9), (some (89, true))⟩, 1, [1]⟩,
      ⟨⟨(some 91), .load false 1 (.t 90), (some (89, true))⟩, 1, [1]⟩,
      ⟨⟨(some 92), .mov (.t 11), (some (89, true))⟩, 1, [1]⟩,
      ⟨⟨(some 93), .call 29 [(.t 91), (.t 92)], (some (89, true))⟩, 1, []⟩,
      ⟨⟨(some 94), .pick (.t 89) (.t 93) (.c (.p (.bool false))), none⟩, 2, []⟩,
      ⟨⟨(some 95), .mov (.t 94), none⟩, 2, []⟩,
      ⟨⟨(some 96), .faddr false 0 1 (.t 9), (some (95, true))⟩, 2, [2]⟩,
      ⟨⟨(some 97), .load false 1 (.t 96), (some (95, true))⟩, 2, [2]⟩,
      ⟨⟨(some 98), .lit 1 [], (some (95, true))⟩, 2, [2]⟩,
      ⟨⟨(some 99), .mov (.t 1), (some (95, true))⟩, 2, [2]⟩,
      ⟨⟨(some 100), .app 1 16 (.t 98) (.t 99), (some (95, true))⟩, 3, [2]⟩,
      ⟨⟨(some 101), .mov (.t 2), (some (95, true))⟩, 2, [2]⟩,
      ⟨⟨(some 102), .app 1 16 (.t 100) (.t 101), (some (95, true))⟩, 4, [2]⟩,
      ⟨⟨(some 103), .call 28 [(.t 102)], (some (95, true))⟩, 5, [2]⟩,
      ⟨⟨(some 104), .call 29 [(.t 97), (.t 103)], (some (95, true))⟩, 6, []⟩,
      ⟨⟨(some 105), .pick (.t 95) (.t 104) (.c (.p (.bool false))), none⟩, 7, []⟩,
      ⟨⟨(some 106), .mov (.t 105), none⟩, 7, []⟩,
      ⟨⟨(some 107), .faddr false 1 1 (.t 9), (some (106, true))⟩, 7, [7]⟩,
      ⟨⟨(some 108), .load false 1 (.t 107), (some (106, true))⟩, 7, [7]⟩,
      ⟨⟨(some 109), .mov (.t 11), (some (106, true))⟩, 7, [7]⟩,
      ⟨⟨(some 110), .mov (.t 12), (some (106, true))⟩, 7, [7]⟩,
      ⟨⟨(some 111), .call 30 [(.t 109), (.t 110), (.c (.p (.bool true)))], (some (106, true))⟩, 7, [7]⟩,
      ⟨⟨(some 112), .call 29 [(.t 108), (.t 111)], (some (106, true))⟩, 8, []⟩,
      ⟨⟨(some 113), .pick (.t 106) (.t 112) (.c (.p (.bool false))), none⟩, 9, []⟩,
      ⟨⟨(some 114), .mov (.t 113), none⟩, 9, []⟩,
      ⟨⟨(some 115), .faddr false 2 1 (.t 9), (some (114, true))⟩, 9, [9]⟩,
      ⟨⟨(some 116), .load false 1 (.t 115), (some (114, true))⟩, 9, [9]⟩,
      ⟨⟨(some 117), .mov (.t 11), (some (114, true))⟩, 9, [9]⟩,
      ⟨⟨(some 118), .mov (.t 12), (some (114, true))⟩, 9, [9]⟩,
      ⟨⟨(some 119), .call 30 [(.t 117), (.t 118), (.c (.p (.bool false)))], (some (114, true))⟩, 9, [9]⟩,
      ⟨⟨(some 120), .call 29 [(.t 116), (.t 119)], (some (114, true))⟩, 10, []⟩,
      ⟨⟨(some 121), .pick (.t 114) (.t 120) (.c (.p (.bool false))), none⟩, 11, []⟩,
      ⟨⟨(some 122), .mov (.t 121), none⟩, 11, []⟩,
      ⟨⟨(some 123), .faddr false 5 1 (.t 9), (some (122, true))⟩, 11, [11]⟩,
      ⟨⟨(some 124), .load false 1 (.t 123), (some (122, true))⟩, 11, [11]⟩,
      ⟨⟨(some 125), .mov (.t 11), (some (122, true))⟩, 11, [11]⟩,
      ⟨⟨(some 126), .mov (.t 12), (some (122, true))⟩, 11, [11]⟩,
      ⟨⟨(some 127), .call 29 [(.t 125), (.t 126)], (some (122, true))⟩, 11, [11]⟩,
      ⟨⟨(some 128), .eqb false (.t 124) (.t 127), (some (122, true))⟩, 12, []⟩,
      ⟨⟨(some 129), .pick (.t 122) (.t 128) (.c (.p (.bool false))), none⟩, 12, []⟩,
      ⟨⟨(some 130), .mov (.t 129), none⟩, 12, []⟩,
      ⟨⟨(some 131), .faddr false 6 1 (.t 9), (some (130, true))⟩, 12, [12]⟩,
      ⟨⟨(some 132), .load false 1 (.t 131), (some (130, true))⟩, 12, [12]⟩,
      ⟨⟨(some 133), .mov (.t 1), (some (130, true))⟩, 12, [12]⟩,
      ⟨⟨(some 134), .mov (.t 3), (some (130, true))⟩, 12, [12]⟩,
      ⟨⟨(some 135), .call 31 [(.t 133), (.t 134)], (some (130, true))⟩, 12, [12]⟩,
      ⟨⟨(some 136), .eqb false (.t 132) (.t 135), (some (130, true))⟩, 13, []⟩,
      ⟨⟨(some 137), .pick (.t 130) (.t 136) (.c (.p (.bool false))), none⟩, 13, []⟩,
      ⟨⟨(some 138), .mov (.t 137), none⟩, 13, []⟩,
      ⟨⟨(some 139), .faddr false 7 1 (.t 9), (some (138, true))⟩, 13, [13]⟩,
      ⟨⟨(some 140), .load false 1 (.t 139), (some (138, true))⟩, 13, [13]⟩,
      ⟨⟨(some 141), .mov (.t 1), (some (138, true))⟩, 13, [13]⟩,
      ⟨⟨(some 142), .lenl (.t 141), (some (138, true))⟩, 13, [13]⟩,
      ⟨⟨(some 143), .bin .eql (.t 142) (.c (.p (.int .i64 0))), (some (138, true))⟩, 13, [13]⟩,
      ⟨⟨(some 144), .eqb false (.t 140) (.t 143), (some (138, true))⟩, 13, []⟩,
      ⟨⟨(some 145), .pick (.t 138) (.t 144) (.c (.p (.bool false))), none⟩, 13, []⟩,
      ⟨⟨(some 146), .mov (.t 145), none⟩, 13, []⟩,
      ⟨⟨(some 147), .faddr false 8 1 (.t 9), (some (146, true))⟩, 13, [13]⟩,
      ⟨⟨(some 148), .load false 1 (.t 147), (some (146, true))⟩, 13, [13]⟩,
      ⟨⟨(some 149), .mov (.t 3), (some (146, true))⟩, 13, [13]⟩,
      ⟨⟨(some 150), .lit 1 [(.t 149)], (some (146, true))⟩, 13, [13]⟩,
      ⟨⟨(some 151), .mov (.t 1), (some (146, true))⟩, 13, [13]⟩,
      ⟨⟨(some 152), .app 1 16 (.t 150) (.t 151), (some (146, true))⟩, 14, [13]⟩,
      ⟨⟨(some 153), .call 28 [(.t 152)], (some (146, true))⟩, 15, [13]⟩,
      ⟨⟨(some 154), .call 29 [(.t 148), (.t 153)], (some (146, true))⟩, 16, []⟩,
      ⟨⟨(some 155), .pick (.t 146) (.t 154) (.c (.p (.bool false))), none⟩, 17, []⟩,
      ⟨⟨(some 156), .mov (.t 155), none⟩, 17, []⟩,
      ⟨⟨(some 157), .faddr false 9 1 (.t 9), (some (156, true))⟩, 17, [17]⟩,
      ⟨⟨(some 158), .load false 1 (.t 157), (some (156, true))⟩, 17, [17]⟩,
      ⟨⟨(some 159), .mov (.t 11), (some (156, true))⟩, 17, [17]⟩,
      ⟨⟨(some 160), .mov (.t 3), (some (156, true))⟩, 17, [17]⟩,
      ⟨⟨(some 161), .lit 1 [(.t 160)], (some (156, true))⟩, 17, [17]⟩,
      ⟨⟨(some 162), .call 30 [(.t 159), (.t 161), (.c (.p (.bool false)))], (some (156, true))⟩, 18, [17]⟩,
      ⟨⟨(some 163), .call 29 [(.t 158), (.t 162)], (some (156, true))⟩, 19, []⟩,
      ⟨⟨(some 164), .pick (.t 156) (.t 163) (.c (.p (.bool false))), none⟩, 20, []⟩,
      ⟨⟨(some 165), .mov (.t 164), none⟩, 20, []⟩,
      ⟨⟨(some 166), .faddr false 10 1 (.t 9), (some (165, true))⟩, 20, [20]⟩,
      ⟨⟨(some 167), .load false 1 (.t 166), (some (165, true))⟩, 20, [20]⟩,
      ⟨⟨(some 168), .mov (.t 13), (some (165, true))⟩, 20, [20]⟩,
      ⟨⟨(some 169), .call 28 [(.t 168)], (some (165, true))⟩, 20, [20]⟩,
      ⟨⟨(some 170), .call 29 [(.t 167), (.t 169)], (some (165, true))⟩, 21, []⟩,
      ⟨⟨(some 171), .pick (.t 165) (.t 170) (.c (.p (.bool false))), none⟩, 22, []⟩,
      ⟨⟨(some 172), .mov (.t 171), none⟩, 22, []⟩,
      ⟨⟨(some 173), .faddr false 11 1 (.t 9), (some (172, true))⟩, 22, [22]⟩,
      ⟨⟨(some 174), .load false 1 (.t 173), (some (172, true))⟩, 22, [22]⟩,
      ⟨⟨(some 175), .mov (.t 14), (some (172, true))⟩, 22, [22]⟩,
      ⟨⟨(some 176), .call 29 [(.t 174), (.t 175)], (some (172, true))⟩, 22, []⟩,
      ⟨⟨(some 177), .pick (.t 172) (.t 176) (.c (.p (.bool false))), none⟩, 23, []⟩,
      ⟨⟨(some 8), .mov (.t 177), none⟩, 23, []⟩])
    .ret))))))))
def r7 : List DR := [.tmp 8]
theorem c7_ok : Try.f7.body.bind (cCode Try.prog) = some c7 := by kernel_rfl
theorem r7_ok : cRes Try.prog Try.f7.results.toList = some r7 := by kernel_rfl

/-- given.example/pub-assaymark/impl.Sets -/
def c27 : DC :=
  (.seq (.rg [⟨(some 8), .alloc 12 (.agg [.p (.slice none 0 0), .p (.slice none 0 0), .p (.slice none 0 0), .p (.slice none 0 0), .p (.slice none 0 0), .p (.bool false), .p (.bool false), .p (.bool false), .p (.slice none 0 0), .p (.slice none 0 0), .p (.slice none 0 0), .p (.slice none 0 0)]), none⟩,
      ⟨(some 9), .mov (.c (.p (.bool false))), none⟩])
    (.seq (.seq (.rg [⟨(some 19), .mov (.t 0), none⟩])
    (.block 0 (.seq (.rg [⟨(some 21), .bin .eql (.t 19) (.c (.p (.int .i64 0))), none⟩,
       ⟨(some 20), .mov (.t 21), none⟩])
     (.cond (.t 20) (.seq (.rg [⟨(some 22), .mov (.t 1), none⟩,
         ⟨(some 23), .callr 65 [(.t 22)], none⟩,
         ⟨(some 24), .mov (.t 2), none⟩,
         ⟨(some 25), .callr 65 [(.t 24)], none⟩,
         ⟨(some 10), .mov (.t 23), none⟩,
         ⟨(some 11), .mov (.t 25), none⟩])
       (.seq (.rg [⟨(some 26), .mov (.t 10), none⟩,
         ⟨(some 27), .callr 66 [(.t 26)], none⟩,
         ⟨(some 28), .mov (.t 10), none⟩,
         ⟨(some 29), .callr 66 [(.t 28)], none⟩,
         ⟨(some 12), .mov (.t 27), none⟩,
         ⟨(some 13), .mov (.t 29), none⟩])
       (.seq (.rg [⟨(some 30), .mov (.t 12), none⟩,
         ⟨(some 31), .mov (.t 3), none⟩,
         ⟨(some 32), .callr 67 [(.t 30), (.t 31)], none⟩])
       (.seq (.rg [⟨(some 33), .mov (.t 13), none⟩,
         ⟨(some 34), .mov (.t 3), none⟩,
         ⟨(some 35), .callr 68 [(.t 33), (.t 34)], none⟩])
       (.seq (.rg [⟨(some 14), .mov (.c (.fn (.func 69) [] [])), none⟩])
       (.seq (.rg [⟨(some 36), .mov (.t 14), none⟩,
         ⟨(some 37), .mov (.t 10), none⟩,
         ⟨(some 38), .mov (.t 11), none⟩,
         ⟨(some 39), .callr 70 [(.t 37), (.t 38)], none⟩,
         ⟨(some 40), .callv true (.t 36) [(.t 39)], none⟩,
         ⟨(some 41), .mov (.t 14), none⟩,
         ⟨(some 42), .mov (.t 10), none⟩,
         ⟨(some 43), .mov (.t 11), none⟩,
         ⟨(some 44), .callr 71 [(.t 42), (.t 43)], none⟩,
         ⟨(some 45), .callv true (.t 41) [(.t 44)], none⟩,
         ⟨(some 46), .mov (.t 14), none⟩,
         ⟨(some 47), .mov (.t 10), none⟩,
         ⟨(some 48), .mov (.t 11), none⟩,
         ⟨(some 49), .callr 72 [(.t 47), (.t 48)], none⟩,
         ⟨(some 50), .callv true (.t 46) [(.t 49)], none⟩,
         ⟨(some 51), .mov (.t 14), none⟩,
         ⟨(some 52), .mov (.t 10), none⟩,
         ⟨(some 53), .callv true (.t 51) [(.t 52)], none⟩,
         ⟨(some 54), .mov (.t 14), none⟩,
         ⟨(some 55), .mov (.t 10), none⟩,
         ⟨(some 56), .callr 66 [(.t 55)], none⟩,
         ⟨(some 57), .callv true (.t 54) [(.t 56)], none⟩,
         ⟨(some 58), .mov (.t 10), none⟩,
         ⟨(some 59), .mov (.t 11), none⟩,
         ⟨(some 60), .callr 73 [(.t 58), (.t 59)], none⟩,
         ⟨(some 61), .mov (.t 10), none⟩,
         ⟨(some 62), .mov (.t 3), none⟩,
         ⟨(some 63), .callr 74 [(.t 61), (.t 62)], none⟩,
         ⟨(some 64), .mov (.t 10), none⟩,
         ⟨(some 65), .callr 75 [(.t 64)], none⟩,
         ⟨(some 66), .mov (.t 14), none⟩,
         ⟨(some 67), .mov (.t 12), none⟩,
         ⟨(some 68), .callv true (.t 66) [(.t 67)], none⟩,
         ⟨(some 69), .mov (.t 14), none⟩,
         ⟨(some 70), .mov (.t 13), none⟩,
         ⟨(some 71), .callv true (.t 69) [(.t 70)], none⟩,
         ⟨(some 72), .mov (.t 14), none⟩,
         ⟨(some 73), .mov (.t 10), none⟩,
         ⟨(some 74), .callr 76 [(.t 73), (.c (.fn (.func 77) [] []))], none⟩,
         ⟨(some 75), .callv true (.t 72) [(.t 74)], none⟩,
         ⟨(some 76), .mov (.t 14), none⟩,
         ⟨(some 77), .mov (.t 10), none⟩,
         ⟨(some 78), .mov (.t 3), none⟩,
         ⟨(some 79), .callr 78 [(.t 77), (.c (.fn (.func 79) [] [])), (.t 78)], none⟩,
         ⟨(some 80), .callv true (.t 76) [(.t 79)], none⟩,
         ⟨(some 81), .bld [.p (.slice none 0 0), .p (.slice none 0 0), .p (.slice none 0 0), .p (.slice none 0 0), .p (.slice none 0 0), .p (.bool false), .p (.bool false), .p (.bool false), .p (.slice none 0 0), .p (.slice none 0 0), .p (.slice none 0 0), .p (.slice none 0 0)] [(0, 1, (.t 40)), (1, 1, (.t 45)), (2, 1, (.t 50)), (3, 1, (.t 53)), (4, 1, (.t 57)), (5, 1, (.t 60)), (6, 1, (.t 63)), (7, 1, (.t 65)), (8, 1, (.t 68)), (9, 1, (.t 71)), (10, 1, (.t 75)), (11, 1, (.t 80))], none⟩,
         ⟨none, .store 12 (.t 8) (.t 81), none⟩,
         ⟨(some 9), .mov (.c (.p (.bool true))), none⟩])
       .ret))))))
       (.seq (.rg [⟨(some 83), .bin .eql (.t 19) (.c (.p (.int .i64 1))), none⟩,
         ⟨(some 82), .mov (.t 83), none⟩])
       (.cond (.t 82) (.seq (.rg [⟨(some 84), .mov (.t 1), none⟩,
           ⟨(some 85), .callr 80 [(.t 84)], none⟩,
           ⟨(some 86), .mov (.t 2), none⟩,
           ⟨(some 87), .callr 80 [(.t 86)], none⟩,
           ⟨(some 15), .mov (.t 85), none⟩,
           ⟨(some 16), .mov (.t 87), none⟩])
         (.seq (.rg [⟨(some 88), .mov (.t 15), none⟩,
           ⟨(some 89), .callr 81 [(.t 88)], none⟩,
           ⟨(some 90), .mov (.t 15), none⟩,
           ⟨(some 91), .callr 81 [(.t 90)], none⟩,
           ⟨(some 17), .mov (.t 89), none⟩,
           ⟨(some 18), .mov (.t 91), none⟩])
         (.seq (.rg [⟨(some 92), .mov (.t 17), none⟩,
           ⟨(some 93), .mov (.t 3), none⟩,
           ⟨(some 94), .callr 82 [(.t 92), (.t 93)], none⟩])
         (.seq (.rg [⟨(some 95), .mov (.t 18), none⟩,
           ⟨(some 96), .mov (.t 3), none⟩,
           ⟨(some 97), .callr 83 [(.t 95), (.t 96)], none⟩])
         (.seq (.rg [⟨(some 98), .mov (.t 15), none⟩,
           ⟨(some 99), .mov (.t 16), none⟩,
           ⟨(some 100), .callr 84 [(.t 98), (.t 99)], none⟩,
           ⟨(some 101), .callr 85 [(.t 100)], none⟩,
           ⟨(some 102), .mov (.t 15), none⟩,
           ⟨(some 103), .mov (.t 16), none⟩,
           ⟨(some 104), .callr 86 [(.t 102), (.t 103)], none⟩,
           ⟨(some 105), .callr 85 [(.t 104)], none⟩,
           ⟨(some 106), .mov (.t 15), none⟩,
           ⟨(some 107), .mov (.t 16), none⟩,
           ⟨(some 108), .callr 87 [(.t 106), (.t 107)], none⟩,
           ⟨(some 109), .callr 85 [(.t 108)], none⟩,
           ⟨(some 110), .mov (.t 15), none⟩,
           ⟨(some 111), .callr 85 [(.t 110)], none⟩,
           ⟨(some 112), .mov (.t 15), none⟩,
           ⟨(some 113), .callr 81 [(.t 112)], none⟩,
           ⟨(some 114), .callr 85 [(.t 113)], none⟩,
           ⟨(some 115), .mov (.t 15), none⟩,
           ⟨(some 116), .mov (.t 16), none⟩,
           ⟨(some 117), .callr 88 [(.t 115), (.t 116)], none⟩,
           ⟨(some 118), .mov (.t 15), none⟩,
           ⟨(some 119), .mov (.t 3), none⟩,
           ⟨(some 120), .callr 89 [(.t 118), (.t 119)], none⟩,
           ⟨(some 121), .mov (.t 15), none⟩,
           ⟨(some 122), .callr 90 [(.t 121)], none⟩,
           ⟨(some 123), .mov (.t 17), none⟩,
           ⟨(some 124), .callr 85 [(.t 123)], none⟩,
           ⟨(some 125), .mov (.t 18), none⟩,
           ⟨(some 126), .callr 85 [(.t 125)], none⟩,
           ⟨(some 127), .mov (.t 15), none⟩,
           ⟨(some 128), .callr 91 [(.t 127), (.c (.fn (.func 77) [] []))], none⟩,
           ⟨(some 129), .callr 85 [(.t 128)], none⟩,
           ⟨(some 130), .mov (.t 15), none⟩,
           ⟨(some 131), .mov (.t 3), none⟩,
           ⟨(some 132), .callr 92 [(.t 130), (.c (.fn (.func 79) [] [])), (.t 131)], none⟩,
           ⟨(some 133), .callr 85 [(.t 132)], none⟩,
           ⟨(some 134), .bld [.p (.slice none 0 0), .p (.slice none 0 0), .p (.slice none 0 0), .p (.slice none 0 0), .p (.slice none 0 0), .p (.bool false), .p (.bool false), .p (.bool false), .p (.slice none 0 0), .p (.slice none 0 0), .p (.slice none 0 0), .p (.slice none 0 0)] [(0, 1, (.t 101)), (1, 1, (.t 105)), (2, 1, (.t 109)), (3, 1, (.t 111)), (4, 1, (.t 114)), (5, 1, (.t 117)), (6, 1, (.t 120)), (7, 1, (.t 122)), (8, 1, (.t 124)), (9, 1, (.t 126)), (10, 1, (.t 129)), (11, 1, (.t 133))], none⟩,
           ⟨none, .store 12 (.t 8) (.t 134), none⟩,
           ⟨(some 9), .mov (.c (.p (.bool true))), none⟩])
         .ret)))))
         .skip))))))
    (.seq (.rg [⟨(some 135), .load true 12 (.t 8), none⟩,
      ⟨none, .store 12 (.t 8) (.t 135), none⟩,
      ⟨(some 9), .mov (.c (.p (.bool false))), none⟩])
    .ret)))
def r27 : List DR := [.cell 8 true 12, .tmp 9]
theorem c27_ok : Try.f27.body.bind (cCode Try.prog) = some c27 := by kernel_rfl
theorem r27_ok : cRes Try.prog Try.f27.results.toList = some r27 := by kernel_rfl

/-- given.example/pub-assaymark/spec.SetKeep -/
def c30 : DC :=
  (.seq (.rg [⟨(some 6), .mov (.c (.p (.slice none 0 0))), none⟩])
    (.seq (.rg [⟨(some 7), .mov (.c (.p (.slice none 0 0))), none⟩])
    (.seq (.seq (.rg [⟨(some 10), .mov (.t 0), none⟩,
      ⟨(some 11), .lenl (.t 10), none⟩,
      ⟨(some 12), .mov (.c (.p (.int .i64 0))), none⟩])
    (.block 0 (.loop (.seq (.rg [⟨(some 13), .bin .lss (.t 12) (.t 11), none⟩])
      (.seq (.cond (.t 13) .skip
        (.exit 0))
      (.seq (.block 1 (.seq (.rg [⟨(some 14), .iaddr 1 (.t 10) (.t 12), none⟩,
         ⟨(some 15), .load false 1 (.t 14), none⟩,
         ⟨(some 9), .mov (.t 15), none⟩])
       (.seq (.rg [⟨(some 16), .mov (.t 1), none⟩,
         ⟨(some 17), .mov (.t 9), none⟩,
         ⟨(some 18), .callr 31 [(.t 16), (.t 17)], none⟩,
         ⟨(some 19), .mov (.t 2), none⟩,
         ⟨(some 20), .eqb false (.t 18) (.t 19), none⟩])
       (.cond (.t 20) (.rg [⟨(some 21), .mov (.t 7), none⟩,
           ⟨(some 22), .mov (.t 9), none⟩,
           ⟨(some 23), .lit 1 [(.t 22)], none⟩,
           ⟨(some 24), .app 1 16 (.t 21) (.t 23), none⟩,
           ⟨(some 7), .mov (.t 24), none⟩])
         .skip))))
      (.rg [⟨(some 25), .bin .add (.t 12) (.c (.p (.int .i64 1))), none⟩,
        ⟨(some 12), .mov (.t 25), none⟩])))))))
    (.seq (.rg [⟨(some 26), .mov (.t 7), none⟩,
      ⟨(some 27), .callr 28 [(.t 26)], none⟩,
      ⟨(some 6), .mov (.t 27), none⟩])
    .ret))))
def r30 : List DR := [.tmp 6]
theorem c30_ok : Try.f30.body.bind (cCode Try.prog) = some c30 := by kernel_rfl
theorem r30_ok : cRes Try.prog Try.f30.results.toList = some r30 := by kernel_rfl

/-- given.example/pub-assaymark/pub/miniogo/pkg/set.Create[string] -/
def c65 : DC :=
  (.seq (.rg [⟨(some 2), .mov (.c (.p (.map none))), none⟩])
    (.seq (.rg [⟨(some 6), .mov (.t 0), none⟩,
      ⟨(some 7), .lenl (.t 6), none⟩,
      ⟨(some 8), .mkmapr (.t 7), none⟩,
      ⟨(some 3), .mov (.t 8), none⟩])
    (.seq (.seq (.rg [⟨(some 9), .mov (.t 0), none⟩,
      ⟨(some 10), .lenl (.t 9), none⟩,
      ⟨(some 11), .mov (.c (.p (.int .i64 0))), none⟩])
    (.block 0 (.loop (.seq (.rg [⟨(some 12), .bin .lss (.t 11) (.t 10), none⟩])
      (.seq (.cond (.t 12) .skip
        (.exit 0))
      (.seq (.block 1 (.seq (.rg [⟨(some 13), .iaddr 1 (.t 9) (.t 11), none⟩,
         ⟨(some 14), .load false 1 (.t 13), none⟩,
         ⟨(some 5), .mov (.t 14), none⟩])
       (.rg [⟨(some 15), .mov (.t 3), none⟩,
         ⟨(some 16), .mov (.t 5), none⟩,
         ⟨(some 17), .callr 67 [(.t 15), (.t 16)], none⟩])))
      (.rg [⟨(some 18), .bin .add (.t 11) (.c (.p (.int .i64 1))), none⟩,
        ⟨(some 11), .mov (.t 18), none⟩])))))))
    (.seq (.rg [⟨(some 19), .mov (.t 3), none⟩,
      ⟨(some 2), .mov (.t 19), none⟩])
    .ret))))
def r65 : List DR := [.tmp 2]
theorem c65_ok : Try.f65.body.bind (cCode Try.prog) = some c65 := by kernel_rfl
theorem r65_ok : cRes Try.prog Try.f65.results.toList = some r65 := by kernel_rfl

/-- given.example/pub-assaymark/pub/miniogo/pkg/set.Copy[string] -/
def c66 : DC :=
  (.seq (.rg [⟨(some 2), .mov (.c (.p (.map none))), none⟩])
    (.seq (.rg [⟨(some 6), .mov (.t 0), none⟩,
      ⟨(some 7), .lenm (.t 6), none⟩,
      ⟨(some 8), .mkmapr (.t 7), none⟩,
      ⟨(some 3), .mov (.t 8), none⟩])
    (.seq (.seq (.rg [⟨(some 9), .mov (.t 0), none⟩,
      ⟨(some 10), .rngm (.t 9), none⟩])
    (.block 0 (.loop (.seq (.rg [⟨(some 11), .nxtm (.t 10), none⟩,
        ⟨(some 12), .ext (.t 11) 0, none⟩])
      (.seq (.cond (.t 12) .skip
        (.exit 0))
      (.block 1 (.seq (.rg [⟨(some 13), .ent (.t 10), none⟩,
         ⟨(some 14), .ext (.t 13) 0, none⟩,
         ⟨(some 15), .ext (.t 13) 1, none⟩,
         ⟨(some 5), .alloc 0 (.agg []), none⟩,
         ⟨(some 4), .mov (.t 14), none⟩,
         ⟨none, .store 0 (.t 5) (.t 15), none⟩])
       (.rg [⟨(some 16), .mov (.t 3), none⟩,
         ⟨(some 17), .mov (.t 4), none⟩,
         ⟨(some 18), .load true 0 (.t 5), none⟩,
         ⟨none, .mupd .str (.t 16) (.t 17) (.t 18), none⟩]))))))))
    (.seq (.rg [⟨(some 19), .mov (.t 3), none⟩,
      ⟨(some 2), .mov (.t 19), none⟩])
    .ret))))
def r66 : List DR := [.tmp 2]
theorem c66_ok : Try.f66.body.bind (cCode Try.prog) = some c66 := by kernel_rfl
theorem r66_ok : cRes Try.prog Try.f66.results.toList = some r66 := by kernel_rfl

/-- (given.example/pub-assaymark/pub/miniogo/pkg/set.Set[string]).Remove -/
def c68 : DC :=
  (.rg [⟨(some 4), .mov (.t 0), none⟩,
      ⟨(some 5), .mov (.t 1), none⟩,
      ⟨none, .mdel .str (.t 4) (.t 5), none⟩])
def r68 : List DR := []
theorem c68_ok : Try.f68.body.bind (cCode Try.prog) = some c68 := by kernel_rfl
theorem r68_ok : cRes Try.prog Try.f68.results.toList = some r68 := by kernel_rfl

/-- given.example/pub-assaymark/pub/miniogo/pkg/set.ToSliceOrdered[string] -/
def c69 : DC :=
  (.seq (.rg [⟨(some 2), .mov (.c (.p (.slice none 0 0))), none⟩])
    (.seq (.rg [⟨(some 5), .mov (.t 0), none⟩,
      ⟨(some 6), .lenm (.t 5), none⟩,
      ⟨(some 7), .mks false 1 16 (.p (.string ⟨#[]⟩)) (.c (.p (.int .i64 0))) (.t 6), none⟩,
      ⟨(some 3), .mov (.t 7), none⟩])
    (.seq (.seq (.rg [⟨(some 8), .mov (.t 0), none⟩,
      ⟨(some 9), .rngm (.t 8), none⟩])
    (.block 0 (.loop (.seq (.rg [⟨(some 10), .nxtm (.t 9), none⟩,
        ⟨(some 11), .ext (.t 10) 0, none⟩])
      (.seq (.cond (.t 11) .skip
        (.exit 0))
      (.block 1 (.seq (.rg [⟨(some 12), .ent (.t 9), none⟩,
         ⟨(some 13), .ext (.t 12) 0, none⟩,
         ⟨(some 4), .mov (.t 13), none⟩])
       (.rg [⟨(some 14), .mov (.t 3), none⟩,
         ⟨(some 15), .mov (.t 4), none⟩,
         ⟨(some 16), .lit 1 [(.t 15)], none⟩,
         ⟨(some 17), .app 1 16 (.t 14) (.t 16), none⟩,
         ⟨(some 3), .mov (.t 17), none⟩]))))))))
    (.seq (.rg [⟨(some 18), .mov (.t 3), none⟩,
      ⟨(some 19), .callr 124 [(.t 18)], none⟩])
    (.seq (.rg [⟨(some 20), .mov (.t 3), none⟩,
      ⟨(some 2), .mov (.t 20), none⟩])
    .ret)))))
def r69 : List DR := [.tmp 2]
theorem c69_ok : Try.f69.body.bind (cCode Try.prog) = some c69 := by kernel_rfl
theorem r69_ok : cRes Try.prog Try.f69.results.toList = some r69 := by kernel_rfl

/-- (given.example/pub-assaymark/pub/miniogo/pkg/set.Set[string]).Union -/
def c70 : DC :=
  (.seq (.rg [⟨(some 4), .mov (.c (.p (.map none))), none⟩])
    (.seq (.rg [⟨(some 8), .callr 125 [], none⟩,
      ⟨(some 5), .mov (.t 8), none⟩])
    (.seq (.seq (.rg [⟨(some 9), .mov (.t 0), none⟩,
      ⟨(some 10), .rngm (.t 9), none⟩])
    (.block 0 (.loop (.seq (.rg [⟨(some 11), .nxtm (.t 10), none⟩,
        ⟨(some 12), .ext (.t 11) 0, none⟩])
      (.seq (.cond (.t 12) .skip
        (.exit 0))
      (.block 1 (.seq (.rg [⟨(some 13), .ent (.t 10), none⟩,
         ⟨(some 14), .ext (.t 13) 0, none⟩,
         ⟨(some 6), .mov (.t 14), none⟩])
       (.rg [⟨(some 15), .mov (.t 5), none⟩,
         ⟨(some 16), .mov (.t 6), none⟩,
         ⟨(some 17), .callr 67 [(.t 15), (.t 16)], none⟩]))))))))
    (.seq (.seq (.rg [⟨(some 18), .mov (.t 1), none⟩,
      ⟨(some 19), .rngm (.t 18), none⟩])
    (.block 2 (.loop (.seq (.rg [⟨(some 20), .nxtm (.t 19), none⟩,
        ⟨(some 21), .ext (.t 20) 0, none⟩])
      (.seq (.cond (.t 21) .skip
        (.exit 2))
      (.block 3 (.seq (.rg [⟨(some 22), .ent (.t 19), none⟩,
         ⟨(some 23), .ext (.t 22) 0, none⟩,
         ⟨(some 7), .mov (.t 23), none⟩])
       (.rg [⟨(some 24), .mov (.t 5), none⟩,
         ⟨(some 25), .mov (.t 7), none⟩,
         ⟨(some 26), .callr 67 [(.t 24), (.t 25)], none⟩]))))))))
    (.seq (.rg [⟨(some 27), .mov (.t 5), none⟩,
      ⟨(some 4), .mov (.t 27), none⟩])
    .ret)))))
def r70 : List DR := [.tmp 4]
theorem c70_ok : Try.f70.body.bind (cCode Try.prog) = some c70 := by kernel_rfl
theorem r70_ok : cRes Try.prog Try.f70.results.toList = some r70 := by kernel_rfl

/-- (given.example/pub-assaymark/pub/miniogo/pkg/set.Set[string]).Intersection -/
def c71 : DC :=
  (.seq (.rg [⟨(some 4), .mov (.c (.p (.map none))), none⟩])
    (.seq (.rg [⟨(some 9), .callr 125 [], none⟩,
      ⟨(some 5), .mov (.t 9), none⟩])
    (.seq (.seq (.rg [⟨(some 10), .mov (.t 0), none⟩,
      ⟨(some 11), .rngm (.t 10), none⟩])
    (.block 0 (.loop (.seq (.rg [⟨(some 12), .nxtm (.t 11), none⟩,
        ⟨(some 13), .ext (.t 12) 0, none⟩])
      (.seq (.cond (.t 13) .skip
        (.exit 0))
      (.block 1 (.seq (.rg [⟨(some 14), .ent (.t 11), none⟩,
         ⟨(some 15), .ext (.t 14) 0, none⟩,
         ⟨(some 6), .mov (.t 15), none⟩])
       (.seq (.rg [⟨(some 17), .mov (.t 1), none⟩,
         ⟨(some 18), .mov (.t 6), none⟩,
         ⟨(some 19), .look .str (.agg []) true (.t 17) (.t 18), none⟩,
         ⟨(some 16), .mov (.t 19), none⟩,
         ⟨(some 20), .ext (.t 16) 0, none⟩,
         ⟨(some 21), .ext (.t 16) 1, none⟩,
         ⟨(some 7), .alloc 0 (.agg []), none⟩,
         ⟨none, .store 0 (.t 7) (.t 20), none⟩,
         ⟨(some 8), .mov (.t 21), none⟩])
       (.seq (.rg [⟨(some 22), .mov (.t 8), none⟩])
       (.cond (.t 22) (.rg [⟨(some 23), .mov (.t 5), none⟩,
           ⟨(some 24), .mov (.t 6), none⟩,
           ⟨(some 25), .callr 67 [(.t 23), (.t 24)], none⟩])
         .skip))))))))))
    (.seq (.rg [⟨(some 26), .mov (.t 5), none⟩,
      ⟨(some 4), .mov (.t 26), none⟩])
    .ret))))
def r71 : List DR := [.tmp 4]
theorem c71_ok : Try.f71.body.bind (cCode Try.prog) = some c71 := by kernel_rfl
theorem r71_ok : cRes Try.prog Try.f71.results.toList = some r71 := by kernel_rfl

/-- (given.example/pub-assaymark/pub/miniogo/pkg/set.Set[string]).Equals -/
def c73 : DC :=
  (.seq (.rg [⟨(some 4), .mov (.c (.p (.bool false))), none⟩])
    (.seq (.seq (.rg [⟨(some 8), .mov (.t 0), none⟩,
      ⟨(some 9), .lenm (.t 8), none⟩,
      ⟨(some 10), .mov (.t 1), none⟩,
      ⟨(some 11), .lenm (.t 10), none⟩,
      ⟨(some 12), .bin .neq (.t 9) (.t 11), none⟩])
    (.cond (.t 12) (.seq (.rg [⟨(some 4), .mov (.c (.p (.bool false))), none⟩])
      .ret)
      .skip))
    (.seq (.seq (.rg [⟨(some 13), .mov (.t 0), none⟩,
      ⟨(some 14), .rngm (.t 13), none⟩])
    (.block 0 (.loop (.seq (.rg [⟨(some 15), .nxtm (.t 14), none⟩,
        ⟨(some 16), .ext (.t 15) 0, none⟩])
      (.seq (.cond (.t 16) .skip
        (.exit 0))
      (.block 1 (.seq (.rg [⟨(some 17), .ent (.t 14), none⟩,
         ⟨(some 18), .ext (.t 17) 0, none⟩,
         ⟨(some 5), .mov (.t 18), none⟩])
       (.seq (.rg [⟨(some 20), .mov (.t 1), none⟩,
         ⟨(some 21), .mov (.t 5), none⟩,
         ⟨(some 22), .look .str (.agg []) true (.t 20) (.t 21), none⟩,
         ⟨(some 19), .mov (.t 22), none⟩,
         ⟨(some 23), .ext (.t 19) 0, none⟩,
         ⟨(some 24), .ext (.t 19) 1, none⟩,
         ⟨(some 6), .alloc 0 (.agg []), none⟩,
         ⟨none, .store 0 (.t 6) (.t 23), none⟩,
         ⟨(some 7), .mov (.t 24), none⟩])
       (.seq (.rg [⟨(some 25), .mov (.t 7), none⟩,
         ⟨(some 26), .un .not (.t 25), none⟩])
       (.cond (.t 26) (.seq (.rg [⟨(some 4), .mov (.c (.p (.bool false))), none⟩])
         .ret)
         .skip))))))))))
    (.seq (.rg [⟨(some 4), .mov (.c (.p (.bool true))), none⟩])
    .ret))))
def r73 : List DR := [.tmp 4]
theorem c73_ok : Try.f73.body.bind (cCode Try.prog) = some c73 := by kernel_rfl
theorem r73_ok : cRes Try.prog Try.f73.results.toList = some r73 := by kernel_rfl

/-- (given.example/pub-assaymark/pub/miniogo/pkg/set.Set[string]).Contains -/
def c74 : DC :=
  (.seq (.rg [⟨(some 4), .mov (.c (.p (.bool false))), none⟩])
    (.seq (.rg [⟨(some 8), .mov (.t 0), none⟩,
      ⟨(some 9), .mov (.t 1), none⟩,
      ⟨(some 10), .look .str (.agg []) true (.t 8) (.t 9), none⟩,
      ⟨(some 7), .mov (.t 10), none⟩,
      ⟨(some 11), .ext (.t 7) 0, none⟩,
      ⟨(some 12), .ext (.t 7) 1, none⟩,
      ⟨(some 5), .alloc 0 (.agg []), none⟩,
      ⟨none, .store 0 (.t 5) (.t 11), none⟩,
      ⟨(some 6), .mov (.t 12), none⟩])
    (.seq (.rg [⟨(some 13), .mov (.t 6), none⟩,
      ⟨(some 4), .mov (.t 13), none⟩])
    .ret)))
def r74 : List DR := [.tmp 4]
theorem c74_ok : Try.f74.body.bind (cCode Try.prog) = some c74 := by kernel_rfl
theorem r74_ok : cRes Try.prog Try.f74.results.toList = some r74 := by kernel_rfl

/-- (given.example/pub-assaymark/pub/miniogo/pkg/set.Set[string]).ApplyFunc -/
def c76 : DC :=
  (.seq (.rg [⟨(some 4), .mov (.c (.p (.map none))), none⟩])
    (.seq (.rg [⟨(some 7), .callr 125 [], none⟩,
      ⟨(some 5), .mov (.t 7), none⟩])
    (.seq (.seq (.rg [⟨(some 8), .mov (.t 0), none⟩,
      ⟨(some 9), .rngm (.t 8), none⟩])
    (.block 0 (.loop (.seq (.rg [⟨(some 10), .nxtm (.t 9), none⟩,
        ⟨(some 11), .ext (.t 10) 0, none⟩])
      (.seq (.cond (.t 11) .skip
        (.exit 0))
      (.block 1 (.seq (.rg [⟨(some 12), .ent (.t 9), none⟩,
         ⟨(some 13), .ext (.t 12) 0, none⟩,
         ⟨(some 6), .mov (.t 13), none⟩])
       (.rg [⟨(some 14), .mov (.t 5), none⟩,
         ⟨(some 15), .mov (.t 1), none⟩,
         ⟨(some 16), .mov (.t 6), none⟩,
         ⟨(some 17), .callv true (.t 15) [(.t 16)], none⟩,
         ⟨(some 18), .callr 67 [(.t 14), (.t 17)], none⟩]))))))))
    (.seq (.rg [⟨(some 19), .mov (.t 5), none⟩,
      ⟨(some 4), .mov (.t 19), none⟩])
    .ret))))
def r76 : List DR := [.tmp 4]
theorem c76_ok : Try.f76.body.bind (cCode Try.prog) = some c76 := by kernel_rfl
theorem r76_ok : cRes Try.prog Try.f76.results.toList = some r76 := by kernel_rfl

/-- given.example/pub-assaymark/impl.longer -/
def c77 : DC :=
  (.seq (.rg [⟨(some 2), .mov (.c (.p (.string ⟨#[]⟩))), none⟩])
    (.seq (.rg [⟨(some 3), .mov (.t 0), none⟩,
      ⟨(some 4), .bin .add (.t 3) (.c (.p (.string ⟨#[33]⟩))), none⟩,
      ⟨(some 2), .mov (.t 4), none⟩])
    .ret))
def r77 : List DR := [.tmp 2]
theorem c77_ok : Try.f77.body.bind (cCode Try.prog) = some c77 := by kernel_rfl
theorem r77_ok : cRes Try.prog Try.f77.results.toList = some r77 := by kernel_rfl

/-- (given.example/pub-assaymark/pub/miniogo/pkg/set.Set[string]).FuncMatch -/
def c78 : DC :=
  (.seq (.rg [⟨(some 6), .mov (.c (.p (.map none))), none⟩])
    (.seq (.rg [⟨(some 9), .callr 125 [], none⟩,
      ⟨(some 7), .mov (.t 9), none⟩])
    (.seq (.seq (.rg [⟨(some 10), .mov (.t 0), none⟩,
      ⟨(some 11), .rngm (.t 10), none⟩])
    (.block 0 (.loop (.seq (.rg [⟨(some 12), .nxtm (.t 11), none⟩,
        ⟨(some 13), .ext (.t 12) 0, none⟩])
      (.seq (.cond (.t 13) .skip
        (.exit 0))
      (.block 1 (.seq (.rg [⟨(some 14), .ent (.t 11), none⟩,
         ⟨(some 15), .ext (.t 14) 0, none⟩,
         ⟨(some 8), .mov (.t 15), none⟩])
       (.seq (.rg [⟨(some 16), .mov (.t 1), none⟩,
         ⟨(some 17), .mov (.t 8), none⟩,
         ⟨(some 18), .mov (.t 2), none⟩,
         ⟨(some 19), .callv true (.t 16) [(.t 17), (.t 18)], none⟩])
       (.cond (.t 19) (.rg [⟨(some 20), .mov (.t 7), none⟩,
           ⟨(some 21), .mov (.t 8), none⟩,
           ⟨(some 22), .callr 67 [(.t 20), (.t 21)], none⟩])
         .skip)))))))))
    (.seq (.rg [⟨(some 23), .mov (.t 7), none⟩,
      ⟨(some 6), .mov (.t 23), none⟩])
    .ret))))
def r78 : List DR := [.tmp 6]
theorem c78_ok : Try.f78.body.bind (cCode Try.prog) = some c78 := by kernel_rfl
theorem r78_ok : cRes Try.prog Try.f78.results.toList = some r78 := by kernel_rfl

/-- given.example/pub-assaymark/impl.begins -/
def c79 : DC :=
  (.seq (.rg [⟨(some 4), .mov (.c (.p (.bool false))), none⟩])
    (.seq (.rg [⟨(some 5), .mov (.t 0), none⟩,
      ⟨(some 6), .mov (.t 1), none⟩,
      ⟨(some 7), .callr 126 [(.t 5), (.t 6)], none⟩,
      ⟨(some 4), .mov (.t 7), none⟩])
    .ret))
def r79 : List DR := [.tmp 4]
theorem c79_ok : Try.f79.body.bind (cCode Try.prog) = some c79 := by kernel_rfl
theorem r79_ok : cRes Try.prog Try.f79.results.toList = some r79 := by kernel_rfl

/-- given.example/pub-assaymark/pub/miniogo/pkg/set.CreateStringSet -/
def c80 : DC :=
  (.seq (.rg [⟨(some 2), .mov (.c (.p (.map none))), none⟩])
    (.seq (.rg [⟨(some 3), .mov (.t 0), none⟩,
      ⟨(some 4), .callr 65 [(.t 3)], none⟩,
      ⟨(some 2), .mov (.t 4), none⟩])
    .ret))
def r80 : List DR := [.tmp 2]
theorem c80_ok : Try.f80.body.bind (cCode Try.prog) = some c80 := by kernel_rfl
theorem r80_ok : cRes Try.prog Try.f80.results.toList = some r80 := by kernel_rfl

/-- given.example/pub-assaymark/pub/miniogo/pkg/set.CopyStringSet -/
def c81 : DC :=
  (.seq (.rg [⟨(some 2), .mov (.c (.p (.map none))), none⟩])
    (.seq (.rg [⟨(some 3), .mov (.t 0), none⟩,
      ⟨(some 4), .callr 66 [(.t 3)], none⟩,
      ⟨(some 2), .mov (.t 4), none⟩])
    .ret))
def r81 : List DR := [.tmp 2]
theorem c81_ok : Try.f81.body.bind (cCode Try.prog) = some c81 := by kernel_rfl
theorem r81_ok : cRes Try.prog Try.f81.results.toList = some r81 := by kernel_rfl

/-- (given.example/pub-assaymark/pub/miniogo/pkg/set.StringSet).Remove -/
def c83 : DC :=
  (.rg [⟨(some 4), .mov (.t 0), none⟩,
      ⟨(some 5), .mov (.t 1), none⟩,
      ⟨(some 6), .callr 68 [(.t 4), (.t 5)], none⟩])
def r83 : List DR := []
theorem c83_ok : Try.f83.body.bind (cCode Try.prog) = some c83 := by kernel_rfl
theorem r83_ok : cRes Try.prog Try.f83.results.toList = some r83 := by kernel_rfl

/-- (given.example/pub-assaymark/pub/miniogo/pkg/set.StringSet).Union -/
def c84 : DC :=
  (.seq (.rg [⟨(some 4), .mov (.c (.p (.map none))), none⟩])
    (.seq (.rg [⟨(some 5), .mov (.t 0), none⟩,
      ⟨(some 6), .mov (.t 1), none⟩,
      ⟨(some 7), .callr 70 [(.t 5), (.t 6)], none⟩,
      ⟨(some 4), .mov (.t 7), none⟩])
    .ret))
def r84 : List DR := [.tmp 4]
theorem c84_ok : Try.f84.body.bind (cCode Try.prog) = some c84 := by kernel_rfl
theorem r84_ok : cRes Try.prog Try.f84.results.toList = some r84 := by kernel_rfl

/-- (given.example/pub-assaymark/pub/miniogo/pkg/set.StringSet).ToSlice -/
def c85 : DC :=
  (.seq (.rg [⟨(some 2), .mov (.c (.p (.slice none 0 0))), none⟩])
    (.seq (.rg [⟨(some 3), .mov (.t 0), none⟩,
      ⟨(some 4), .callr 69 [(.t 3)], none⟩,
      ⟨(some 2), .mov (.t 4), none⟩])
    .ret))
def r85 : List DR := [.tmp 2]
theorem c85_ok : Try.f85.body.bind (cCode Try.prog) = some c85 := by kernel_rfl
theorem r85_ok : cRes Try.prog Try.f85.results.toList = some r85 := by kernel_rfl

/-- (given.example/pub-assaymark/pub/miniogo/pkg/set.StringSet).Intersection -/
def c86 : DC :=
  (.seq (.rg [⟨(some 4), .mov (.c (.p (.map none))), none⟩])
    (.seq (.rg [⟨(some 5), .mov (.t 0), none⟩,
      ⟨(some 6), .mov (.t 1), none⟩,
      ⟨(some 7), .callr 71 [(.t 5), (.t 6)], none⟩,
      ⟨(some 4), .mov (.t 7), none⟩])
    .ret))
def r86 : List DR := [.tmp 4]
theorem c86_ok : Try.f86.body.bind (cCode Try.prog) = some c86 := by kernel_rfl
theorem r86_ok : cRes Try.prog Try.f86.results.toList = some r86 := by kernel_rfl

/-- (given.example/pub-assaymark/pub/miniogo/pkg/set.StringSet).Equals -/
def c88 : DC :=
  (.seq (.rg [⟨(some 4), .mov (.c (.p (.bool false))), none⟩])
    (.seq (.rg [⟨(some 5), .mov (.t 0), none⟩,
      ⟨(some 6), .mov (.t 1), none⟩,
      ⟨(some 7), .callr 73 [(.t 5), (.t 6)], none⟩,
      ⟨(some 4), .mov (.t 7), none⟩])
    .ret))
def r88 : List DR := [.tmp 4]
theorem c88_ok : Try.f88.body.bind (cCode Try.prog) = some c88 := by kernel_rfl
theorem r88_ok : cRes Try.prog Try.f88.results.toList = some r88 := by kernel_rfl

/-- (given.example/pub-assaymark/pub/miniogo/pkg/set.StringSet).Contains -/
def c89 : DC :=
  (.seq (.rg [⟨(some 4), .mov (.c (.p (.bool false))), none⟩])
    (.seq (.rg [⟨(some 5), .mov (.t 0), none⟩,
      ⟨(some 6), .mov (.t 1), none⟩,
      ⟨(some 7), .callr 74 [(.t 5), (.t 6)], none⟩,
      ⟨(some 4), .mov (.t 7), none⟩])
    .ret))
def r89 : List DR := [.tmp 4]
theorem c89_ok : Try.f89.body.bind (cCode Try.prog) = some c89 := by kernel_rfl
theorem r89_ok : cRes Try.prog Try.f89.results.toList = some r89 := by kernel_rfl

/-- (given.example/pub-assaymark/pub/miniogo/pkg/set.StringSet).ApplyFunc -/
def c91 : DC :=
  (.seq (.rg [⟨(some 4), .mov (.c (.p (.map none))), none⟩])
    (.seq (.rg [⟨(some 5), .mov (.t 0), none⟩,
      ⟨(some 6), .mov (.t 1), none⟩,
      ⟨(some 7), .callr 76 [(.t 5), (.t 6)], none⟩,
      ⟨(some 4), .mov (.t 7), none⟩])
    .ret))
def r91 : List DR := [.tmp 4]
theorem c91_ok : Try.f91.body.bind (cCode Try.prog) = some c91 := by kernel_rfl
theorem r91_ok : cRes Try.prog Try.f91.results.toList = some r91 := by kernel_rfl

/-- (given.example/pub-assaymark/pub/miniogo/pkg/set.StringSet).FuncMatch -/
def c92 : DC :=
  (.seq (.rg [⟨(some 6), .mov (.c (.p (.map none))), none⟩])
    (.seq (.rg [⟨(some 7), .mov (.t 0), none⟩,
      ⟨(some 8), .mov (.t 1), none⟩,
      ⟨(some 9), .mov (.t 2), none⟩,
      ⟨(some 10), .callr 78 [(.t 7), (.t 8), (.t 9)], none⟩,
      ⟨(some 6), .mov (.t 10), none⟩])
    .ret))
def r92 : List DR := [.tmp 6]
theorem c92_ok : Try.f92.body.bind (cCode Try.prog) = some c92 := by kernel_rfl
theorem r92_ok : cRes Try.prog Try.f92.results.toList = some r92 := by kernel_rfl

/-- strings.HasPrefix -/
def c126 : DC :=
  (.seq (.rg [⟨(some 4), .mov (.c (.p (.bool false))), none⟩])
    (.seq (.rg [⟨(some 5), .mov (.t 0), none⟩,
      ⟨(some 6), .mov (.t 1), none⟩,
      ⟨(some 7), .callr 143 [(.t 5), (.t 6)], none⟩,
      ⟨(some 4), .mov (.t 7), none⟩])
    .ret))
def r126 : List DR := [.tmp 4]
theorem c126_ok : Try.f126.body.bind (cCode Try.prog) = some c126 := by kernel_rfl
theorem r126_ok : cRes Try.prog Try.f126.results.toList = some r126 := by kernel_rfl

/-- internal/stringslite.HasPrefix -/
def c143 : DC :=
  (.seq (.rg [⟨(some 4), .mov (.c (.p (.bool false))), none⟩])
    (.seq (.rg [⟨(some 5), .mov (.t 0), none⟩,
      ⟨(some 6), .lens (.t 5), none⟩,
      ⟨(some 7), .mov (.t 1), none⟩,
      ⟨(some 8), .lens (.t 7), none⟩,
      ⟨(some 9), .bin .geq (.t 6) (.t 8), none⟩,
      ⟨(some 10), .mov (.t 9), none⟩,
      ⟨(some 11), .mov (.t 0), (some (10, true))⟩,
      ⟨(some 12), .mov (.t 1), (some (10, true))⟩,
      ⟨(some 13), .lens (.t 12), (some (10, true))⟩,
      ⟨(some 14), .slcs (.t 11) none (some (.t 13)), (some (10, true))⟩,
      ⟨(some 15), .mov (.t 1), (some (10, true))⟩,
      ⟨(some 16), .bin .eql (.t 14) (.t 15), (some (10, true))⟩,
      ⟨(some 17), .pick (.t 10) (.t 16) (.c (.p (.bool false))), none⟩,
      ⟨(some 4), .mov (.t 17), none⟩])
    .ret))
def r143 : List DR := [.tmp 4]
theorem c143_ok : Try.f143.body.bind (cCode Try.prog) = some c143 := by kernel_rfl
theorem r143_ok : cRes Try.prog Try.f143.results.toList = some r143 := by kernel_rfl

end Go.Proofs.Ytdgnjngbheecnaa
