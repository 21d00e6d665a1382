/- The codes of the functions, in the small language of Den. -/
import Derived.Test.YtdgnjngbheecnaaLibE
import Derived.Test.YtdgnjngbheecnaaProg
set_option linter.unusedVariables false
set_option linter.unusedSimpArgs false
set_option maxRecDepth 100000
namespace Go.Proofs.Ytdgnjngbheecnaa
open Go Go.Den Go.Proofs

/-- given.example/pub-assaymark/laws.FnIntSets -/
def c6 : DC :=
  (.seq (.rg [⟨(some 6), .mov (.c (.p (.bool false))), none⟩])
    (.seq (.seq (.rg [⟨(some 15), .mov (.t 0), none⟩,
      ⟨(some 16), .lenl (.t 15), none⟩,
      ⟨(some 17), .bin .gtr (.t 16) (.c (.p (.int .i64 2147483647))), none⟩,
      ⟨(some 18), .mov (.t 17), none⟩,
      ⟨(some 19), .mov (.t 1), (some (18, false))⟩,
      ⟨(some 20), .lenl (.t 19), (some (18, false))⟩,
      ⟨(some 21), .bin .gtr (.t 20) (.c (.p (.int .i64 2147483647))), (some (18, false))⟩,
      ⟨(some 22), .pick (.t 18) (.c (.p (.bool true))) (.t 21), none⟩])
    (.cond (.t 22) (.seq (.rg [⟨(some 6), .mov (.c (.p (.bool true))), none⟩])
      .ret)
      .skip))
    (.seq (.rgd [⟨⟨(some 23), .mov (.t 0), none⟩, 0, [0]⟩,
      ⟨⟨(some 24), .mov (.t 0), none⟩, 0, [0]⟩,
      ⟨⟨(some 25), .lenl (.t 24), none⟩, 0, [0]⟩,
      ⟨⟨(some 26), .mm false (.t 25) (.c (.p (.int .i64 10))), none⟩, 0, [0]⟩,
      ⟨⟨(some 27), .slcl 1 (.t 23) none (some (.t 26)), none⟩, 0, [0]⟩,
      ⟨⟨(some 28), .mov (.t 1), none⟩, 0, [0]⟩,
      ⟨⟨(some 29), .mov (.t 1), none⟩, 0, [0]⟩,
      ⟨⟨(some 30), .lenl (.t 29), none⟩, 0, [0]⟩,
      ⟨⟨(some 31), .mm false (.t 30) (.c (.p (.int .i64 10))), none⟩, 0, [0]⟩,
      ⟨⟨(some 32), .slcl 1 (.t 28) none (some (.t 31)), none⟩, 0, [0]⟩,
      ⟨⟨(some 0), .mov (.t 27), none⟩, 0, [0]⟩,
      ⟨⟨(some 1), .mov (.t 32), none⟩, 0, []⟩])
    (.seq (.rg [⟨(some 33), .mov (.t 0), none⟩,
      ⟨(some 34), .mov (.t 1), none⟩,
      ⟨(some 35), .mov (.t 2), none⟩,
      ⟨(some 36), .callr 21 [(.t 33), (.t 34), (.t 35)], none⟩,
      ⟨(some 7), .alloc 12 (.agg [.p (.slice none 0 0), .p (.slice none 0 0), .p (.slice none 0 0), .p (.slice none 0 0), .p (.slice none 0 0), .p (.slice none 0 0), .p (.slice none 0 0), .p (.slice none 0 0), .p (.slice none 0 0), .p (.bool false), .p (.bool false), .p (.bool false)]), none⟩,
      ⟨none, .store 12 (.t 7) (.t 36), none⟩])
    (.seq (.rg [⟨(some 37), .mov (.t 0), none⟩,
      ⟨(some 38), .callr 22 [(.t 37)], none⟩,
      ⟨(some 39), .mov (.t 1), none⟩,
      ⟨(some 40), .callr 22 [(.t 39)], none⟩,
      ⟨(some 8), .mov (.t 38), none⟩,
      ⟨(some 9), .mov (.t 40), none⟩])
    (.seq (.rg [⟨(some 10), .mov (.c (.p (.slice none 0 0))), none⟩,
      ⟨(some 11), .mov (.c (.p (.slice none 0 0))), none⟩])
    (.seq (.seq (.rg [⟨(some 41), .mov (.t 8), none⟩,
      ⟨(some 42), .lenl (.t 41), none⟩,
      ⟨(some 43), .mov (.c (.p (.int .i64 0))), none⟩])
    (.block 0 (.loop (.seq (.rg [⟨(some 44), .bin .lss (.t 43) (.t 42), none⟩])
      (.seq (.cond (.t 44) .skip
        (.exit 0))
      (.seq (.block 1 (.seq (.rg [⟨(some 45), .iaddr 1 (.t 41) (.t 43), none⟩,
         ⟨(some 46), .load false 1 (.t 45), none⟩,
         ⟨(some 13), .mov (.t 46), none⟩])
       (.seq (.rg [⟨(some 47), .mov (.t 10), none⟩,
         ⟨(some 48), .mov (.t 13), none⟩,
         ⟨(some 49), .bin .quo (.t 48) (.c (.p (.int .i64 2))), none⟩,
         ⟨(some 50), .lit 1 [(.t 49)], none⟩,
         ⟨(some 51), .app 1 8 (.t 47) (.t 50), none⟩,
         ⟨(some 10), .mov (.t 51), none⟩])
       (.seq (.rg [⟨(some 52), .mov (.t 13), none⟩,
         ⟨(some 53), .mov (.t 2), none⟩,
         ⟨(some 54), .bin .lss (.t 52) (.t 53), none⟩])
       (.cond (.t 54) (.rg [⟨(some 55), .mov (.t 11), none⟩,
           ⟨(some 56), .mov (.t 13), none⟩,
           ⟨(some 57), .lit 1 [(.t 56)], none⟩,
           ⟨(some 58), .app 1 8 (.t 55) (.t 57), none⟩,
           ⟨(some 11), .mov (.t 58), none⟩])
         .skip)))))
      (.rg [⟨(some 59), .bin .add (.t 43) (.c (.p (.int .i64 1))), none⟩,
        ⟨(some 43), .mov (.t 59), none⟩])))))))
    (.seq (.rg [⟨(some 60), .lit 1 [(.c (.p (.int .i64 2)))], none⟩,
      ⟨(some 61), .callr 21 [(.t 60), (.c (.p (.slice none 0 0))), (.c (.p (.int .i64 0)))], none⟩,
      ⟨(some 14), .alloc 12 (.agg [.p (.slice none 0 0), .p (.slice none 0 0), .p (.slice none 0 0), .p (.slice none 0 0), .p (.slice none 0 0), .p (.slice none 0 0), .p (.slice none 0 0), .p (.slice none 0 0), .p (.slice none 0 0), .p (.bool false), .p (.bool false), .p (.bool false)]), none⟩,
      ⟨none, .store 12 (.t 14) (.t 61), none⟩])
    (.seq (.rgd [⟨⟨(some 62), .faddr false 3 1 (.t 7), none⟩, 0, [0]⟩,
      ⟨⟨(some 63), .load false 1 (.t 62), none⟩, 0, [0]⟩,
      ⟨⟨(some 64), .mov (.t 8), none⟩, 0, [0]⟩,
      ⟨⟨(some 65), .call 23 [(.t 63), (.t 64)], none⟩, 0, []⟩,
      ⟨⟨(some 66), .mov (.t 65), none⟩, 1, []⟩,
      ⟨⟨(some 67), .faddr false 4 1 (.t 7), (some (66, true))⟩, 1, [1]⟩,
      ⟨⟨(some 68), .load false 1 (.t 67), (some (66, true))⟩, 1, [1]⟩,
      ⟨⟨(some 69), .mov (.t 8), (some (66, true))⟩, 1, [1]⟩,
      ⟨⟨(some 70), .call 23 [(.t 68), (.t 69)], (some (66, true))⟩, 1, []⟩,
      ⟨⟨(some 71), .pick (.t 66) (.t 70) (.c (.p (.bool false))), none⟩, 2, []⟩,
      ⟨⟨(some 72), .mov (.t 71), none⟩, 2, []⟩,
      ⟨⟨(some 73), .faddr false 0 1 (.t 7), (some (72, true))⟩, 2, [2]⟩,
      ⟨⟨(some 74), .load false 1 (.t 73), (some (72, true))⟩, 2, [2]⟩,
      ⟨⟨(some 75), .lit 1 [], (some (72, true))⟩, 2, [2]⟩,
      ⟨⟨(some 76), .mov (.t 0), (some (72, true))⟩, 2, [2]⟩,
      ⟨⟨(some 77), .app 1 8 (.t 75) (.t 76), (some (72, true))⟩, 3, [2]⟩,
      ⟨⟨(some 78), .mov (.t 1), (some (72, true))⟩, 2, [2]⟩,
      ⟨⟨(some 79), .app 1 8 (.t 77) (.t 78), (some (72, true))⟩, 4, [2]⟩,
      ⟨⟨(some 80), .call 22 [(.t 79)], (some (72, true))⟩, 5, [2]⟩,
      ⟨⟨(some 81), .call 23 [(.t 74), (.t 80)], (some (72, true))⟩, 6, []⟩,
      ⟨⟨(some 82), .pick (.t 72) (.t 81) (.c (.p (.bool false))), none⟩, 7, []⟩,
      ⟨⟨(some 83), .mov (.t 82), none⟩, 7, []⟩,
      ⟨⟨(some 84), .faddr false 1 1 (.t 7), (some (83, true))⟩, 7, [7]⟩,
      ⟨⟨(some 85), .load false 1 (.t 84), (some (83, true))⟩, 7, [7]⟩,
      ⟨⟨(some 86), .mov (.t 8), (some (83, true))⟩, 7, [7]⟩,
      ⟨⟨(some 87), .mov (.t 9), (some (83, true))⟩, 7, [7]⟩,
      ⟨⟨(some 88), .call 24 [(.t 86), (.t 87), (.c (.p (.bool true)))], (some (83, true))⟩, 7, [7]⟩,
      ⟨⟨(some 89), .call 23 [(.t 85), (.t 88)], (some (83, true))⟩, 8, []⟩,
      ⟨⟨(some 90), .pick (.t 83) (.t 89) (.c (.p (.bool false))), none⟩, 9, []⟩,
      ⟨⟨(some 91), .mov (.t 90), none⟩, 9, []⟩,
      ⟨⟨(some 92), .faddr false 2 1 (.t 7), (some (91, true))⟩, 9, [9]⟩,
      ⟨⟨(some 93), .load false 1 (.t 92), (some (91, true))⟩, 9, [9]⟩,
      ⟨⟨(some 94), .mov (.t 8), (some (91, true))⟩, 9, [9]⟩,
      ⟨⟨(some 95), .mov (.t 9), (some (91, true))⟩, 9, [9]⟩,
      ⟨⟨(some 96), .call 24 [(.t 94), (.t 95), (.c (.p (.bool false)))], (some (91, true))⟩, 9, [9]⟩,
      ⟨⟨(some 97), .call 23 [(.t 93), (.t 96)], (some (91, true))⟩, 10, []⟩,
      ⟨⟨(some 98), .pick (.t 91) (.t 97) (.c (.p (.bool false))), none⟩, 11, []⟩,
      ⟨⟨(some 99), .mov (.t 98), none⟩, 11, []⟩,
      ⟨⟨(some 100), .faddr false 9 1 (.t 7), (some (99, true))⟩, 11, [11]⟩,
      ⟨⟨(some 101), .load false 1 (.t 100), (some (99, true))⟩, 11, [11]⟩,
      ⟨⟨(some 102), .mov (.t 8), (some (99, true))⟩, 11, [11]⟩,
      ⟨⟨(some 103), .mov (.t 9), (some (99, true))⟩, 11, [11]⟩,
      ⟨⟨(some 104), .call 23 [(.t 102), (.t 103)], (some (99, true))⟩, 11, [11]⟩,
      ⟨⟨(some 105), .eqb false (.t 101) (.t 104), (some (99, true))⟩, 12, []⟩,
      ⟨⟨(some 106), .pick (.t 99) (.t 105) (.c (.p (.bool false))), none⟩, 12, []⟩,
      ⟨⟨(some 107), .mov (.t 106), none⟩, 12, []⟩,
      ⟨⟨(some 108), .faddr false 10 1 (.t 7), (some (107, true))⟩, 12, [12]⟩,
      ⟨⟨(some 109), .load false 1 (.t 108), (some (107, true))⟩, 12, [12]⟩,
      ⟨⟨(some 110), .mov (.t 0), (some (107, true))⟩, 12, [12]⟩,
      ⟨⟨(some 111), .mov (.t 2), (some (107, true))⟩, 12, [12]⟩,
      ⟨⟨(some 112), .call 25 [(.t 110), (.t 111)], (some (107, true))⟩, 12, [12]⟩,
      ⟨⟨(some 113), .eqb false (.t 109) (.t 112), (some (107, true))⟩, 13, []⟩,
      ⟨⟨(some 114), .pick (.t 107) (.t 113) (.c (.p (.bool false))), none⟩, 13, []⟩,
      ⟨⟨(some 115), .mov (.t 114), none⟩, 13, []⟩,
      ⟨⟨(some 116), .faddr false 11 1 (.t 7), (some (115, true))⟩, 13, [13]⟩,
      ⟨⟨(some 117), .load false 1 (.t 116), (some (115, true))⟩, 13, [13]⟩,
      ⟨⟨(some 118), .mov (.t 0), (some (115, true))⟩, 13, [13]⟩,
      ⟨⟨(some 119), .lenl (.t 118), (some (115, true))⟩, 13, [13]⟩,
      ⟨⟨(some 120), .bin .eql (.t 119) (.c (.p (.int .i64 0))), (some (115, true))⟩, 13, [13]⟩,
      ⟨⟨(some 121), .eqb false (.t 117) (.t 120), (some (115, true))⟩, 13, []⟩,
      ⟨⟨(some 122), .pick (.t 115) (.t 121) (.c (.p (.bool false))), none⟩, 13, []⟩,
      ⟨⟨(some 123), .mov (.t 122), none⟩, 13, []⟩,
      ⟨⟨(some 124), .faddr false 5 1 (.t 7), (some (123, true))⟩, 13, [13]⟩,
      ⟨⟨(some 125), .load false 1 (.t 124), (some (123, true))⟩, 13, [13]⟩,
      ⟨⟨(some 126), .mov (.t 2), (some (123, true))⟩, 13, [13]⟩,
      ⟨⟨(some 127), .lit 1 [(.t 126)], (some (123, true))⟩, 13, [13]⟩,
      ⟨⟨(some 128), .mov (.t 0), (some (123, true))⟩, 13, [13]⟩,
      ⟨⟨(some 129), .app 1 8 (.t 127) (.t 128), (some (123, true))⟩, 14, [13]⟩,
      ⟨⟨(some 130), .call 22 [(.t 129)], (some (123, true))⟩, 15, [13]⟩,
      ⟨⟨(some 131), .call 23 [(.t 125), (.t 130)], (some (123, true))⟩, 16, []⟩,
      ⟨⟨(some 132), .pick (.t 123) (.t 131) (.c (.p (.bool false))), none⟩, 17, []⟩,
      ⟨⟨(some 133), .mov (.t 132), none⟩, 17, []⟩,
      ⟨⟨(some 134), .faddr false 6 1 (.t 7), (some (133, true))⟩, 17, [17]⟩,
      ⟨⟨(some 135), .load false 1 (.t 134), (some (133, true))⟩, 17, [17]⟩,
      ⟨⟨(some 136), .mov (.t 8), (some (133, true))⟩, 17, [17]⟩,
      ⟨⟨(some 137), .mov (.t 2), (some (133, true))⟩, 17, [17]⟩,
      ⟨⟨(some 138), .lit 1 [(.t 137)], (some (133, true))⟩, 17, [17]⟩,
      ⟨⟨(some 139), .call 24 [(.t 136), (.t 138), (.c (.p (.bool false)))], (some (133, true))⟩, 18, [17]⟩,
      ⟨⟨(some 140), .call 23 [(.t 135), (.t 139)], (some (133, true))⟩, 19, []⟩,
      ⟨⟨(some 141), .pick (.t 133) (.t 140) (.c (.p (.bool false))), none⟩, 20, []⟩,
      ⟨⟨(some 142), .mov (.t 141), none⟩, 20, []⟩,
      ⟨⟨(some 143), .faddr false 7 1 (.t 7), (some (142, true))⟩, 20, [20]⟩,
      ⟨⟨(some 144), .load false 1 (.t 143), (some (142, true))⟩, 20, [20]⟩,
      ⟨⟨(some 145), .mov (.t 10), (some (142, true))⟩, 20, [20]⟩,
      ⟨⟨(some 146), .call 22 [(.t 145)], (some (142, true))⟩, 20, [20]⟩,
      ⟨⟨(some 147), .call 23 [(.t 144), (.t 146)], (some (142, true))⟩, 21, []⟩,
      ⟨⟨(some 148), .pick (.t 142) (.t 147) (.c (.p (.bool false))), none⟩, 22, []⟩,
      ⟨⟨(some 149), .mov (.t 148), none⟩, 22, []⟩,
      ⟨⟨(some 150), .faddr false 8 1 (.t 7), (some (149, true))⟩, 22, [22]⟩,
      ⟨⟨(some 151), .load false 1 (.t 150), (some (149, true))⟩, 22, [22]⟩,
      ⟨⟨(some 152), .mov (.t 11), (some (149, true))⟩, 22, [22]⟩,
      ⟨⟨(some 153), .call 23 [(.t 151), (.t 152)], (some (149, true))⟩, 22, []⟩,
      ⟨⟨(some 154), .pick (.t 149) (.t 153) (.c (.p (.bool false))), none⟩, 23, []⟩,
      ⟨⟨(some 155), .mov (.t 154), none⟩, 23, []⟩,
      ⟨⟨(some 156), .faddr false 3 1 (.t 14), (some (155, true))⟩, 23, [23]⟩,
      ⟨⟨(some 157), .load false 1 (.t 156), (some (155, true))⟩, 23, [23]⟩,
      ⟨⟨(some 158), .lenl (.t 157), (some (155, true))⟩, 23, []⟩,
      ⟨⟨(some 159), .bin .eql (.t 158) (.c (.p (.int .i64 1))), (some (155, true))⟩, 23, []⟩,
      ⟨⟨(some 160), .pick (.t 155) (.t 159) (.c (.p (.bool false))), none⟩, 23, []⟩,
      ⟨⟨(some 6), .mov (.t 160), none⟩, 23, []⟩])
    .ret)))))))))
def r6 : List DR := [.tmp 6]
theorem c6_ok : Try.f6.body.bind (cCode Try.prog) = some c6 := by kernel_rfl
theorem r6_ok : cRes Try.prog Try.f6.results.toList = some r6 := by kernel_rfl

/-- given.example/pub-assaymark/impl.IntSets -/
def c21 : DC :=
  (.seq (.rg [⟨(some 6), .alloc 12 (.agg [.p (.slice none 0 0), .p (.slice none 0 0), .p (.slice none 0 0), .p (.slice none 0 0), .p (.slice none 0 0), .p (.slice none 0 0), .p (.slice none 0 0), .p (.slice none 0 0), .p (.slice none 0 0), .p (.bool false), .p (.bool false), .p (.bool false)]), none⟩])
    (.seq (.rg [⟨(some 13), .mov (.t 0), none⟩,
      ⟨(some 14), .callr 50 [(.t 13)], none⟩,
      ⟨(some 15), .mov (.t 1), none⟩,
      ⟨(some 16), .callr 50 [(.t 15)], none⟩,
      ⟨(some 7), .mov (.t 14), none⟩,
      ⟨(some 8), .mov (.t 16), none⟩])
    (.seq (.rg [⟨(some 17), .mov (.t 7), none⟩,
      ⟨(some 18), .callr 51 [(.t 17)], none⟩,
      ⟨(some 19), .mov (.t 7), none⟩,
      ⟨(some 20), .callr 51 [(.t 19)], none⟩,
      ⟨(some 9), .mov (.t 18), none⟩,
      ⟨(some 10), .mov (.t 20), none⟩])
    (.seq (.rg [⟨(some 21), .mov (.t 9), none⟩,
      ⟨(some 22), .mov (.t 2), none⟩,
      ⟨(some 23), .callr 52 [(.t 21), (.t 22)], none⟩])
    (.seq (.rg [⟨(some 24), .mov (.t 10), none⟩,
      ⟨(some 25), .mov (.t 2), none⟩,
      ⟨(some 26), .callr 53 [(.t 24), (.t 25)], none⟩])
    (.seq (.rg [⟨(some 27), .mov (.t 7), none⟩,
      ⟨(some 28), .callr 54 [(.t 27), (.c (.fn (.func 55) [] []))], none⟩,
      ⟨(some 11), .mov (.t 28), none⟩])
    (.seq (.rg [⟨(some 29), .mov (.t 7), none⟩,
      ⟨(some 30), .mov (.t 2), none⟩,
      ⟨(some 31), .callr 56 [(.t 29), (.c (.fn (.func 57) [] [])), (.t 30)], none⟩,
      ⟨(some 12), .mov (.t 31), none⟩])
    (.seq (.rg [⟨(some 32), .mov (.t 7), none⟩,
      ⟨(some 33), .mov (.t 8), none⟩,
      ⟨(some 34), .callr 58 [(.t 32), (.t 33)], none⟩,
      ⟨(some 35), .callr 59 [(.t 34)], none⟩,
      ⟨(some 36), .mov (.t 7), none⟩,
      ⟨(some 37), .mov (.t 8), none⟩,
      ⟨(some 38), .callr 60 [(.t 36), (.t 37)], none⟩,
      ⟨(some 39), .callr 59 [(.t 38)], none⟩,
      ⟨(some 40), .mov (.t 7), none⟩,
      ⟨(some 41), .mov (.t 8), none⟩,
      ⟨(some 42), .callr 61 [(.t 40), (.t 41)], none⟩,
      ⟨(some 43), .callr 59 [(.t 42)], none⟩,
      ⟨(some 44), .mov (.t 7), none⟩,
      ⟨(some 45), .callr 59 [(.t 44)], none⟩,
      ⟨(some 46), .mov (.t 7), none⟩,
      ⟨(some 47), .callr 51 [(.t 46)], none⟩,
      ⟨(some 48), .callr 59 [(.t 47)], none⟩,
      ⟨(some 49), .mov (.t 9), none⟩,
      ⟨(some 50), .callr 59 [(.t 49)], none⟩,
      ⟨(some 51), .mov (.t 10), none⟩,
      ⟨(some 52), .callr 59 [(.t 51)], none⟩,
      ⟨(some 53), .mov (.t 11), none⟩,
      ⟨(some 54), .callr 59 [(.t 53)], none⟩,
      ⟨(some 55), .mov (.t 12), none⟩,
      ⟨(some 56), .callr 59 [(.t 55)], none⟩,
      ⟨(some 57), .mov (.t 7), none⟩,
      ⟨(some 58), .mov (.t 8), none⟩,
      ⟨(some 59), .callr 62 [(.t 57), (.t 58)], none⟩,
      ⟨(some 60), .mov (.t 7), none⟩,
      ⟨(some 61), .mov (.t 2), none⟩,
      ⟨(some 62), .callr 63 [(.t 60), (.t 61)], none⟩,
      ⟨(some 63), .mov (.t 7), none⟩,
      ⟨(some 64), .callr 64 [(.t 63)], none⟩,
      ⟨(some 65), .bld [.p (.slice none 0 0), .p (.slice none 0 0), .p (.slice none 0 0), .p (.slice none 0 0), .p (.slice none 0 0), .p (.slice none 0 0), .p (.slice none 0 0), .p (.slice none 0 0), .p (.slice none 0 0), .p (.bool false), .p (.bool false), .p (.bool false)] [(0, 1, (.t 35)), (1, 1, (.t 39)), (2, 1, (.t 43)), (3, 1, (.t 45)), (4, 1, (.t 48)), (5, 1, (.t 50)), (6, 1, (.t 52)), (7, 1, (.t 54)), (8, 1, (.t 56)), (9, 1, (.t 59)), (10, 1, (.t 62)), (11, 1, (.t 64))], none⟩,
      ⟨none, .store 12 (.t 6) (.t 65), none⟩])
    .ret))))))))
def r21 : List DR := [.cell 6 true 12]
theorem c21_ok : Try.f21.body.bind (cCode Try.prog) = some c21 := by kernel_rfl
theorem r21_ok : cRes Try.prog Try.f21.results.toList = some r21 := by kernel_rfl

/-- given.example/pub-assaymark/spec.IntsOf -/
def c22 : DC :=
  (.seq (.rg [⟨(some 2), .mov (.c (.p (.slice none 0 0))), none⟩])
    (.seq (.rg [⟨(some 3), .mov (.c (.p (.slice none 0 0))), none⟩])
    (.seq (.seq (.rg [⟨(some 7), .mov (.t 0), none⟩,
      ⟨(some 8), .lenl (.t 7), none⟩,
      ⟨(some 9), .mov (.c (.p (.int .i64 0))), none⟩])
    (.block 0 (.loop (.seq (.rg [⟨(some 10), .bin .lss (.t 9) (.t 8), none⟩])
      (.seq (.cond (.t 10) .skip
        (.exit 0))
      (.seq (.block 1 (.seq (.rg [⟨(some 11), .iaddr 1 (.t 7) (.t 9), none⟩,
         ⟨(some 12), .load false 1 (.t 11), none⟩,
         ⟨(some 5), .mov (.t 12), none⟩])
       (.seq (.rg [⟨(some 6), .mov (.c (.p (.int .i64 0))), none⟩])
       (.seq (.block 2 (.loop (.seq (.seq (.rg [⟨(some 13), .mov (.t 6), none⟩,
           ⟨(some 14), .mov (.t 3), none⟩,
           ⟨(some 15), .lenl (.t 14), none⟩,
           ⟨(some 16), .bin .lss (.t 13) (.t 15), none⟩,
           ⟨(some 17), .mov (.t 16), none⟩,
           ⟨(some 18), .mov (.t 3), (some (17, true))⟩,
           ⟨(some 19), .mov (.t 6), (some (17, true))⟩,
           ⟨(some 20), .iaddr 1 (.t 18) (.t 19), (some (17, true))⟩,
           ⟨(some 21), .load false 1 (.t 20), (some (17, true))⟩,
           ⟨(some 22), .mov (.t 5), (some (17, true))⟩,
           ⟨(some 23), .bin .lss (.t 21) (.t 22), (some (17, true))⟩,
           ⟨(some 24), .pick (.t 17) (.t 23) (.c (.p (.bool false))), none⟩])
         (.cond (.t 24) .skip
           (.exit 2)))
         (.block 3 (.rg [⟨(some 25), .mov (.t 6), none⟩,
            ⟨(some 26), .bin .add (.t 25) (.c (.p (.int .i64 1))), none⟩,
            ⟨(some 6), .mov (.t 26), none⟩])))))
       (.seq (.rg [⟨(some 27), .mov (.t 6), none⟩,
         ⟨(some 28), .mov (.t 3), none⟩,
         ⟨(some 29), .lenl (.t 28), none⟩,
         ⟨(some 30), .bin .eql (.t 27) (.t 29), none⟩,
         ⟨(some 31), .mov (.t 30), none⟩,
         ⟨(some 32), .mov (.t 3), (some (31, false))⟩,
         ⟨(some 33), .mov (.t 6), (some (31, false))⟩,
         ⟨(some 34), .iaddr 1 (.t 32) (.t 33), (some (31, false))⟩,
         ⟨(some 35), .load false 1 (.t 34), (some (31, false))⟩,
         ⟨(some 36), .mov (.t 5), (some (31, false))⟩,
         ⟨(some 37), .bin .neq (.t 35) (.t 36), (some (31, false))⟩,
         ⟨(some 38), .pick (.t 31) (.c (.p (.bool true))) (.t 37), none⟩])
       (.cond (.t 38) (.rgd [⟨⟨(some 39), .mov (.t 3), none⟩, 0, [0]⟩,
           ⟨⟨(some 40), .mov (.t 6), none⟩, 0, [0]⟩,
           ⟨⟨(some 41), .slcl 1 (.t 39) none (some (.t 40)), none⟩, 0, [0]⟩,
           ⟨⟨(some 42), .mov (.t 5), none⟩, 0, [0]⟩,
           ⟨⟨(some 43), .lit 1 [(.t 42)], none⟩, 0, [0]⟩,
           ⟨⟨(some 44), .mov (.t 3), none⟩, 0, [0]⟩,
           ⟨⟨(some 45), .mov (.t 6), none⟩, 0, [0]⟩,
           ⟨⟨(some 46), .slcl 1 (.t 44) (some (.t 45)) none, none⟩, 0, [0]⟩,
           ⟨⟨(some 47), .app 1 8 (.t 43) (.t 46), none⟩, 1, [0]⟩,
           ⟨⟨(some 48), .app 1 8 (.t 41) (.t 47), none⟩, 2, []⟩,
           ⟨⟨(some 3), .mov (.t 48), none⟩, 3, []⟩])
         .skip))))))
      (.rg [⟨(some 49), .bin .add (.t 9) (.c (.p (.int .i64 1))), none⟩,
        ⟨(some 9), .mov (.t 49), none⟩])))))))
    (.seq (.rg [⟨(some 50), .mov (.t 3), none⟩,
      ⟨(some 2), .mov (.t 50), none⟩])
    .ret))))
def r22 : List DR := [.tmp 2]
theorem c22_ok : Try.f22.body.bind (cCode Try.prog) = some c22 := by kernel_rfl
theorem r22_ok : cRes Try.prog Try.f22.results.toList = some r22 := by kernel_rfl

/-- given.example/pub-assaymark/spec.IntsSame -/
def c23 : DC :=
  (.seq (.rg [⟨(some 4), .mov (.c (.p (.bool false))), none⟩])
    (.seq (.seq (.rg [⟨(some 7), .mov (.t 0), none⟩,
      ⟨(some 8), .lenl (.t 7), none⟩,
      ⟨(some 9), .mov (.t 1), none⟩,
      ⟨(some 10), .lenl (.t 9), none⟩,
      ⟨(some 11), .bin .neq (.t 8) (.t 10), none⟩])
    (.cond (.t 11) (.seq (.rg [⟨(some 4), .mov (.c (.p (.bool false))), none⟩])
      .ret)
      .skip))
    (.seq (.seq (.rg [⟨(some 12), .mov (.t 0), none⟩,
      ⟨(some 13), .lenl (.t 12), none⟩,
      ⟨(some 14), .mov (.c (.p (.int .i64 0))), none⟩])
    (.block 0 (.loop (.seq (.rg [⟨(some 15), .bin .lss (.t 14) (.t 13), none⟩])
      (.seq (.cond (.t 15) .skip
        (.exit 0))
      (.seq (.block 1 (.seq (.rg [⟨(some 16), .mov (.t 14), none⟩,
         ⟨(some 17), .iaddr 1 (.t 12) (.t 14), none⟩,
         ⟨(some 18), .load false 1 (.t 17), none⟩,
         ⟨(some 5), .mov (.t 16), none⟩,
         ⟨(some 6), .mov (.t 18), none⟩])
       (.seq (.rg [⟨(some 19), .mov (.t 6), none⟩,
         ⟨(some 20), .mov (.t 1), none⟩,
         ⟨(some 21), .mov (.t 5), none⟩,
         ⟨(some 22), .iaddr 1 (.t 20) (.t 21), none⟩,
         ⟨(some 23), .load false 1 (.t 22), none⟩,
         ⟨(some 24), .bin .neq (.t 19) (.t 23), none⟩])
       (.cond (.t 24) (.seq (.rg [⟨(some 4), .mov (.c (.p (.bool false))), none⟩])
         .ret)
         .skip))))
      (.rg [⟨(some 25), .bin .add (.t 14) (.c (.p (.int .i64 1))), none⟩,
        ⟨(some 14), .mov (.t 25), none⟩])))))))
    (.seq (.rg [⟨(some 4), .mov (.c (.p (.bool true))), none⟩])
    .ret))))
def r23 : List DR := [.tmp 4]
theorem c23_ok : Try.f23.body.bind (cCode Try.prog) = some c23 := by kernel_rfl
theorem r23_ok : cRes Try.prog Try.f23.results.toList = some r23 := by kernel_rfl

/-- given.example/pub-assaymark/spec.IntsKeep -/
def c24 : DC :=
  (.seq (.rg [⟨(some 6), .mov (.c (.p (.slice none 0 0))), none⟩])
    (.seq (.rg [⟨(some 7), .mov (.c (.p (.slice none 0 0))), none⟩])
    (.seq (.seq (.rg [⟨(some 10), .mov (.t 0), none⟩,
      ⟨(some 11), .lenl (.t 10), none⟩,
      ⟨(some 12), .mov (.c (.p (.int .i64 0))), none⟩])
    (.block 0 (.loop (.seq (.rg [⟨(some 13), .bin .lss (.t 12) (.t 11), none⟩])
      (.seq (.cond (.t 13) .skip
        (.exit 0))
      (.seq (.block 1 (.seq (.rg [⟨(some 14), .iaddr 1 (.t 10) (.t 12), none⟩,
         ⟨(some 15), .load false 1 (.t 14), none⟩,
         ⟨(some 9), .mov (.t 15), none⟩])
       (.seq (.rg [⟨(some 16), .mov (.t 1), none⟩,
         ⟨(some 17), .mov (.t 9), none⟩,
         ⟨(some 18), .callr 25 [(.t 16), (.t 17)], none⟩,
         ⟨(some 19), .mov (.t 2), none⟩,
         ⟨(some 20), .eqb false (.t 18) (.t 19), none⟩])
       (.cond (.t 20) (.rg [⟨(some 21), .mov (.t 7), none⟩,
           ⟨(some 22), .mov (.t 9), none⟩,
           ⟨(some 23), .lit 1 [(.t 22)], none⟩,
           ⟨(some 24), .app 1 8 (.t 21) (.t 23), none⟩,
           ⟨(some 7), .mov (.t 24), none⟩])
         .skip))))
      (.rg [⟨(some 25), .bin .add (.t 12) (.c (.p (.int .i64 1))), none⟩,
        ⟨(some 12), .mov (.t 25), none⟩])))))))
    (.seq (.rg [⟨(some 26), .mov (.t 7), none⟩,
      ⟨(some 27), .callr 22 [(.t 26)], none⟩,
      ⟨(some 6), .mov (.t 27), none⟩])
    .ret))))
def r24 : List DR := [.tmp 6]
theorem c24_ok : Try.f24.body.bind (cCode Try.prog) = some c24 := by kernel_rfl
theorem r24_ok : cRes Try.prog Try.f24.results.toList = some r24 := by kernel_rfl

/-- given.example/pub-assaymark/spec.IntsHave -/
def c25 : DC :=
  (.seq (.rg [⟨(some 4), .mov (.c (.p (.bool false))), none⟩])
    (.seq (.seq (.rg [⟨(some 7), .mov (.t 0), none⟩,
      ⟨(some 8), .lenl (.t 7), none⟩,
      ⟨(some 9), .mov (.c (.p (.int .i64 0))), none⟩])
    (.block 0 (.loop (.seq (.rg [⟨(some 10), .bin .lss (.t 9) (.t 8), none⟩])
      (.seq (.cond (.t 10) .skip
        (.exit 0))
      (.seq (.block 1 (.seq (.rg [⟨(some 11), .iaddr 1 (.t 7) (.t 9), none⟩,
         ⟨(some 12), .load false 1 (.t 11), none⟩,
         ⟨(some 6), .mov (.t 12), none⟩])
       (.seq (.rg [⟨(some 13), .mov (.t 6), none⟩,
         ⟨(some 14), .mov (.t 1), none⟩,
         ⟨(some 15), .bin .eql (.t 13) (.t 14), none⟩])
       (.cond (.t 15) (.seq (.rg [⟨(some 4), .mov (.c (.p (.bool true))), none⟩])
         .ret)
         .skip))))
      (.rg [⟨(some 16), .bin .add (.t 9) (.c (.p (.int .i64 1))), none⟩,
        ⟨(some 9), .mov (.t 16), none⟩])))))))
    (.seq (.rg [⟨(some 4), .mov (.c (.p (.bool false))), none⟩])
    .ret)))
def r25 : List DR := [.tmp 4]
theorem c25_ok : Try.f25.body.bind (cCode Try.prog) = some c25 := by kernel_rfl
theorem r25_ok : cRes Try.prog Try.f25.results.toList = some r25 := by kernel_rfl

/-- given.example/pub-assaymark/pub/miniogo/pkg/set.CreateIntSet -/
def c50 : DC :=
  (.seq (.rg [⟨(some 2), .mov (.c (.p (.map none))), none⟩])
    (.seq (.rg [⟨(some 3), .mov (.t 0), none⟩,
      ⟨(some 4), .callr 111 [(.t 3)], none⟩,
      ⟨(some 2), .mov (.t 4), none⟩])
    .ret))
def r50 : List DR := [.tmp 2]
theorem c50_ok : Try.f50.body.bind (cCode Try.prog) = some c50 := by kernel_rfl
theorem r50_ok : cRes Try.prog Try.f50.results.toList = some r50 := by kernel_rfl

/-- given.example/pub-assaymark/pub/miniogo/pkg/set.CopyIntSet -/
def c51 : DC :=
  (.seq (.rg [⟨(some 2), .mov (.c (.p (.map none))), none⟩])
    (.seq (.rg [⟨(some 3), .mov (.t 0), none⟩,
      ⟨(some 4), .callr 112 [(.t 3)], none⟩,
      ⟨(some 2), .mov (.t 4), none⟩])
    .ret))
def r51 : List DR := [.tmp 2]
theorem c51_ok : Try.f51.body.bind (cCode Try.prog) = some c51 := by kernel_rfl
theorem r51_ok : cRes Try.prog Try.f51.results.toList = some r51 := by kernel_rfl

/-- (given.example/pub-assaymark/pub/miniogo/pkg/set.IntSet).Add -/
def c52 : DC :=
  (.rg [⟨(some 4), .mov (.t 0), none⟩,
      ⟨(some 5), .mov (.t 1), none⟩,
      ⟨(some 6), .callr 113 [(.t 4), (.t 5)], none⟩])
def r52 : List DR := []
theorem c52_ok : Try.f52.body.bind (cCode Try.prog) = some c52 := by kernel_rfl
theorem r52_ok : cRes Try.prog Try.f52.results.toList = some r52 := by kernel_rfl

/-- (given.example/pub-assaymark/pub/miniogo/pkg/set.IntSet).Remove -/
def c53 : DC :=
  (.rg [⟨(some 4), .mov (.t 0), none⟩,
      ⟨(some 5), .mov (.t 1), none⟩,
      ⟨(some 6), .callr 114 [(.t 4), (.t 5)], none⟩])
def r53 : List DR := []
theorem c53_ok : Try.f53.body.bind (cCode Try.prog) = some c53 := by kernel_rfl
theorem r53_ok : cRes Try.prog Try.f53.results.toList = some r53 := by kernel_rfl

/-- (given.example/pub-assaymark/pub/miniogo/pkg/set.IntSet).ApplyFunc -/
def c54 : DC :=
  (.seq (.rg [⟨(some 4), .mov (.c (.p (.map none))), none⟩])
    (.seq (.rg [⟨(some 5), .mov (.t 0), none⟩,
      ⟨(some 6), .mov (.t 1), none⟩,
      ⟨(some 7), .callr 115 [(.t 5), (.t 6)], none⟩,
      ⟨(some 4), .mov (.t 7), none⟩])
    .ret))
def r54 : List DR := [.tmp 4]
theorem c54_ok : Try.f54.body.bind (cCode Try.prog) = some c54 := by kernel_rfl
theorem r54_ok : cRes Try.prog Try.f54.results.toList = some r54 := by kernel_rfl

/-- given.example/pub-assaymark/impl.IntSets$1 -/
def c55 : DC :=
  (.seq (.rg [⟨(some 2), .mov (.c (.p (.int .i64 0))), none⟩])
    (.seq (.rg [⟨(some 3), .mov (.t 0), none⟩,
      ⟨(some 4), .bin .quo (.t 3) (.c (.p (.int .i64 2))), none⟩,
      ⟨(some 2), .mov (.t 4), none⟩])
    .ret))
def r55 : List DR := [.tmp 2]
theorem c55_ok : Try.f55.body.bind (cCode Try.prog) = some c55 := by kernel_rfl
theorem r55_ok : cRes Try.prog Try.f55.results.toList = some r55 := by kernel_rfl

/-- (given.example/pub-assaymark/pub/miniogo/pkg/set.IntSet).FuncMatch -/
def c56 : DC :=
  (.seq (.rg [⟨(some 6), .mov (.c (.p (.map none))), none⟩])
    (.seq (.rg [⟨(some 7), .mov (.t 0), none⟩,
      ⟨(some 8), .mov (.t 1), none⟩,
      ⟨(some 9), .mov (.t 2), none⟩,
      ⟨(some 10), .callr 116 [(.t 7), (.t 8), (.t 9)], none⟩,
      ⟨(some 6), .mov (.t 10), none⟩])
    .ret))
def r56 : List DR := [.tmp 6]
theorem c56_ok : Try.f56.body.bind (cCode Try.prog) = some c56 := by kernel_rfl
theorem r56_ok : cRes Try.prog Try.f56.results.toList = some r56 := by kernel_rfl

/-- given.example/pub-assaymark/impl.IntSets$2 -/
def c57 : DC :=
  (.seq (.rg [⟨(some 4), .mov (.c (.p (.bool false))), none⟩])
    (.seq (.rg [⟨(some 5), .mov (.t 0), none⟩,
      ⟨(some 6), .mov (.t 1), none⟩,
      ⟨(some 7), .bin .lss (.t 5) (.t 6), none⟩,
      ⟨(some 4), .mov (.t 7), none⟩])
    .ret))
def r57 : List DR := [.tmp 4]
theorem c57_ok : Try.f57.body.bind (cCode Try.prog) = some c57 := by kernel_rfl
theorem r57_ok : cRes Try.prog Try.f57.results.toList = some r57 := by kernel_rfl

/-- (given.example/pub-assaymark/pub/miniogo/pkg/set.IntSet).Union -/
def c58 : DC :=
  (.seq (.rg [⟨(some 4), .mov (.c (.p (.map none))), none⟩])
    (.seq (.rg [⟨(some 5), .mov (.t 0), none⟩,
      ⟨(some 6), .mov (.t 1), none⟩,
      ⟨(some 7), .callr 117 [(.t 5), (.t 6)], none⟩,
      ⟨(some 4), .mov (.t 7), none⟩])
    .ret))
def r58 : List DR := [.tmp 4]
theorem c58_ok : Try.f58.body.bind (cCode Try.prog) = some c58 := by kernel_rfl
theorem r58_ok : cRes Try.prog Try.f58.results.toList = some r58 := by kernel_rfl

/-- (given.example/pub-assaymark/pub/miniogo/pkg/set.IntSet).ToSlice -/
def c59 : DC :=
  (.seq (.rg [⟨(some 2), .mov (.c (.p (.slice none 0 0))), none⟩])
    (.seq (.rg [⟨(some 3), .mov (.t 0), none⟩,
      ⟨(some 4), .callr 118 [(.t 3)], none⟩,
      ⟨(some 2), .mov (.t 4), none⟩])
    .ret))
def r59 : List DR := [.tmp 2]
theorem c59_ok : Try.f59.body.bind (cCode Try.prog) = some c59 := by kernel_rfl
theorem r59_ok : cRes Try.prog Try.f59.results.toList = some r59 := by kernel_rfl

/-- (given.example/pub-assaymark/pub/miniogo/pkg/set.IntSet).Intersection -/
def c60 : DC :=
  (.seq (.rg [⟨(some 4), .mov (.c (.p (.map none))), none⟩])
    (.seq (.rg [⟨(some 5), .mov (.t 0), none⟩,
      ⟨(some 6), .mov (.t 1), none⟩,
      ⟨(some 7), .callr 119 [(.t 5), (.t 6)], none⟩,
      ⟨(some 4), .mov (.t 7), none⟩])
    .ret))
def r60 : List DR := [.tmp 4]
theorem c60_ok : Try.f60.body.bind (cCode Try.prog) = some c60 := by kernel_rfl
theorem r60_ok : cRes Try.prog Try.f60.results.toList = some r60 := by kernel_rfl

/-- (given.example/pub-assaymark/pub/miniogo/pkg/set.IntSet).Difference -/
def c61 : DC :=
  (.seq (.rg [⟨(some 4), .mov (.c (.p (.map none))), none⟩])
    (.seq (.rg [⟨(some 5), .mov (.t 0), none⟩,
      ⟨(some 6), .mov (.t 1), none⟩,
      ⟨(some 7), .callr 120 [(.t 5), (.t 6)], none⟩,
      ⟨(some 4), .mov (.t 7), none⟩])
    .ret))
def r61 : List DR := [.tmp 4]
theorem c61_ok : Try.f61.body.bind (cCode Try.prog) = some c61 := by kernel_rfl
theorem r61_ok : cRes Try.prog Try.f61.results.toList = some r61 := by kernel_rfl

/-- (given.example/pub-assaymark/pub/miniogo/pkg/set.IntSet).Equals -/
def c62 : DC :=
  (.seq (.rg [⟨(some 4), .mov (.c (.p (.bool false))), none⟩])
    (.seq (.rg [⟨(some 5), .mov (.t 0), none⟩,
      ⟨(some 6), .mov (.t 1), none⟩,
      ⟨(some 7), .callr 121 [(.t 5), (.t 6)], none⟩,
      ⟨(some 4), .mov (.t 7), none⟩])
    .ret))
def r62 : List DR := [.tmp 4]
theorem c62_ok : Try.f62.body.bind (cCode Try.prog) = some c62 := by kernel_rfl
theorem r62_ok : cRes Try.prog Try.f62.results.toList = some r62 := by kernel_rfl

/-- (given.example/pub-assaymark/pub/miniogo/pkg/set.IntSet).Contains -/
def c63 : DC :=
  (.seq (.rg [⟨(some 4), .mov (.c (.p (.bool false))), none⟩])
    (.seq (.rg [⟨(some 5), .mov (.t 0), none⟩,
      ⟨(some 6), .mov (.t 1), none⟩,
      ⟨(some 7), .callr 122 [(.t 5), (.t 6)], none⟩,
      ⟨(some 4), .mov (.t 7), none⟩])
    .ret))
def r63 : List DR := [.tmp 4]
theorem c63_ok : Try.f63.body.bind (cCode Try.prog) = some c63 := by kernel_rfl
theorem r63_ok : cRes Try.prog Try.f63.results.toList = some r63 := by kernel_rfl

/-- (given.example/pub-assaymark/pub/miniogo/pkg/set.IntSet).IsEmpty -/
def c64 : DC :=
  (.seq (.rg [⟨(some 2), .mov (.c (.p (.bool false))), none⟩])
    (.seq (.rg [⟨(some 3), .mov (.t 0), none⟩,
      ⟨(some 4), .callr 123 [(.t 3)], none⟩,
      ⟨(some 2), .mov (.t 4), none⟩])
    .ret))
def r64 : List DR := [.tmp 2]
theorem c64_ok : Try.f64.body.bind (cCode Try.prog) = some c64 := by kernel_rfl
theorem r64_ok : cRes Try.prog Try.f64.results.toList = some r64 := by kernel_rfl

/-- given.example/pub-assaymark/pub/miniogo/pkg/set.Create[int] -/
def c111 : DC :=
  (.seq (.rg [⟨(some 2), .mov (.c (.p (.map none))), none⟩])
    (.seq (.rg [⟨(some 6), .mov (.t 0), none⟩,
      ⟨(some 7), .lenl (.t 6), none⟩,
      ⟨(some 8), .mkmapr (.t 7), none⟩,
      ⟨(some 3), .mov (.t 8), none⟩])
    (.seq (.seq (.rg [⟨(some 9), .mov (.t 0), none⟩,
      ⟨(some 10), .lenl (.t 9), none⟩,
      ⟨(some 11), .mov (.c (.p (.int .i64 0))), none⟩])
    (.block 0 (.loop (.seq (.rg [⟨(some 12), .bin .lss (.t 11) (.t 10), none⟩])
      (.seq (.cond (.t 12) .skip
        (.exit 0))
      (.seq (.block 1 (.seq (.rg [⟨(some 13), .iaddr 1 (.t 9) (.t 11), none⟩,
         ⟨(some 14), .load false 1 (.t 13), none⟩,
         ⟨(some 5), .mov (.t 14), none⟩])
       (.rg [⟨(some 15), .mov (.t 3), none⟩,
         ⟨(some 16), .mov (.t 5), none⟩,
         ⟨(some 17), .callr 113 [(.t 15), (.t 16)], none⟩])))
      (.rg [⟨(some 18), .bin .add (.t 11) (.c (.p (.int .i64 1))), none⟩,
        ⟨(some 11), .mov (.t 18), none⟩])))))))
    (.seq (.rg [⟨(some 19), .mov (.t 3), none⟩,
      ⟨(some 2), .mov (.t 19), none⟩])
    .ret))))
def r111 : List DR := [.tmp 2]
theorem c111_ok : Try.f111.body.bind (cCode Try.prog) = some c111 := by kernel_rfl
theorem r111_ok : cRes Try.prog Try.f111.results.toList = some r111 := by kernel_rfl

/-- given.example/pub-assaymark/pub/miniogo/pkg/set.Copy[int] -/
def c112 : DC :=
  (.seq (.rg [⟨(some 2), .mov (.c (.p (.map none))), none⟩])
    (.seq (.rg [⟨(some 6), .mov (.t 0), none⟩,
      ⟨(some 7), .lenm (.t 6), none⟩,
      ⟨(some 8), .mkmapr (.t 7), none⟩,
      ⟨(some 3), .mov (.t 8), none⟩])
    (.seq (.seq (.rg [⟨(some 9), .mov (.t 0), none⟩,
      ⟨(some 10), .rngm (.t 9), none⟩])
    (.block 0 (.loop (.seq (.rg [⟨(some 11), .nxtm (.t 10), none⟩,
        ⟨(some 12), .ext (.t 11) 0, none⟩])
      (.seq (.cond (.t 12) .skip
        (.exit 0))
      (.block 1 (.seq (.rg [⟨(some 13), .ent (.t 10), none⟩,
         ⟨(some 14), .ext (.t 13) 0, none⟩,
         ⟨(some 15), .ext (.t 13) 1, none⟩,
         ⟨(some 5), .alloc 0 (.agg []), none⟩,
         ⟨(some 4), .mov (.t 14), none⟩,
         ⟨none, .store 0 (.t 5) (.t 15), none⟩])
       (.rg [⟨(some 16), .mov (.t 3), none⟩,
         ⟨(some 17), .mov (.t 4), none⟩,
         ⟨(some 18), .load true 0 (.t 5), none⟩,
         ⟨none, .mupd .int (.t 16) (.t 17) (.t 18), none⟩]))))))))
    (.seq (.rg [⟨(some 19), .mov (.t 3), none⟩,
      ⟨(some 2), .mov (.t 19), none⟩])
    .ret))))
def r112 : List DR := [.tmp 2]
theorem c112_ok : Try.f112.body.bind (cCode Try.prog) = some c112 := by kernel_rfl
theorem r112_ok : cRes Try.prog Try.f112.results.toList = some r112 := by kernel_rfl

/-- (given.example/pub-assaymark/pub/miniogo/pkg/set.Set[int]).Add -/
def c113 : DC :=
  (.rg [⟨(some 4), .mov (.t 0), none⟩,
      ⟨(some 5), .mov (.t 1), none⟩,
      ⟨(some 6), .bld [] [], none⟩,
      ⟨none, .mupd .int (.t 4) (.t 5) (.t 6), none⟩])
def r113 : List DR := []
theorem c113_ok : Try.f113.body.bind (cCode Try.prog) = some c113 := by kernel_rfl
theorem r113_ok : cRes Try.prog Try.f113.results.toList = some r113 := by kernel_rfl

/-- (given.example/pub-assaymark/pub/miniogo/pkg/set.Set[int]).Remove -/
def c114 : DC :=
  (.rg [⟨(some 4), .mov (.t 0), none⟩,
      ⟨(some 5), .mov (.t 1), none⟩,
      ⟨none, .mdel .int (.t 4) (.t 5), none⟩])
def r114 : List DR := []
theorem c114_ok : Try.f114.body.bind (cCode Try.prog) = some c114 := by kernel_rfl
theorem r114_ok : cRes Try.prog Try.f114.results.toList = some r114 := by kernel_rfl

/-- (given.example/pub-assaymark/pub/miniogo/pkg/set.Set[int]).ApplyFunc -/
def c115 : DC :=
  (.seq (.rg [⟨(some 4), .mov (.c (.p (.map none))), none⟩])
    (.seq (.rg [⟨(some 7), .callr 139 [], none⟩,
      ⟨(some 5), .mov (.t 7), none⟩])
    (.seq (.seq (.rg [⟨(some 8), .mov (.t 0), none⟩,
      ⟨(some 9), .rngm (.t 8), none⟩])
    (.block 0 (.loop (.seq (.rg [⟨(some 10), .nxtm (.t 9), none⟩,
        ⟨(some 11), .ext (.t 10) 0, none⟩])
      (.seq (.cond (.t 11) .skip
        (.exit 0))
      (.block 1 (.seq (.rg [⟨(some 12), .ent (.t 9), none⟩,
         ⟨(some 13), .ext (.t 12) 0, none⟩,
         ⟨(some 6), .mov (.t 13), none⟩])
       (.rg [⟨(some 14), .mov (.t 5), none⟩,
         ⟨(some 15), .mov (.t 1), none⟩,
         ⟨(some 16), .mov (.t 6), none⟩,
         ⟨(some 17), .callv true (.t 15) [(.t 16)], none⟩,
         ⟨(some 18), .callr 113 [(.t 14), (.t 17)], none⟩]))))))))
    (.seq (.rg [⟨(some 19), .mov (.t 5), none⟩,
      ⟨(some 4), .mov (.t 19), none⟩])
    .ret))))
def r115 : List DR := [.tmp 4]
theorem c115_ok : Try.f115.body.bind (cCode Try.prog) = some c115 := by kernel_rfl
theorem r115_ok : cRes Try.prog Try.f115.results.toList = some r115 := by kernel_rfl

/-- (given.example/pub-assaymark/pub/miniogo/pkg/set.Set[int]).FuncMatch -/
def c116 : DC :=
  (.seq (.rg [⟨(some 6), .mov (.c (.p (.map none))), none⟩])
    (.seq (.rg [⟨(some 9), .callr 139 [], none⟩,
      ⟨(some 7), .mov (.t 9), none⟩])
    (.seq (.seq (.rg [⟨(some 10), .mov (.t 0), none⟩,
      ⟨(some 11), .rngm (.t 10), none⟩])
    (.block 0 (.loop (.seq (.rg [⟨(some 12), .nxtm (.t 11), none⟩,
        ⟨(some 13), .ext (.t 12) 0, none⟩])
      (.seq (.cond (.t 13) .skip
        (.exit 0))
      (.block 1 (.seq (.rg [⟨(some 14), .ent (.t 11), none⟩,
         ⟨(some 15), .ext (.t 14) 0, none⟩,
         ⟨(some 8), .mov (.t 15), none⟩])
       (.seq (.rg [⟨(some 16), .mov (.t 1), none⟩,
         ⟨(some 17), .mov (.t 8), none⟩,
         ⟨(some 18), .mov (.t 2), none⟩,
         ⟨(some 19), .callv true (.t 16) [(.t 17), (.t 18)], none⟩])
       (.cond (.t 19) (.rg [⟨(some 20), .mov (.t 7), none⟩,
           ⟨(some 21), .mov (.t 8), none⟩,
           ⟨(some 22), .callr 113 [(.t 20), (.t 21)], none⟩])
         .skip)))))))))
    (.seq (.rg [⟨(some 23), .mov (.t 7), none⟩,
      ⟨(some 6), .mov (.t 23), none⟩])
    .ret))))
def r116 : List DR := [.tmp 6]
theorem c116_ok : Try.f116.body.bind (cCode Try.prog) = some c116 := by kernel_rfl
theorem r116_ok : cRes Try.prog Try.f116.results.toList = some r116 := by kernel_rfl

/-- (given.example/pub-assaymark/pub/miniogo/pkg/set.Set[int]).Union -/
def c117 : DC :=
  (.seq (.rg [⟨(some 4), .mov (.c (.p (.map none))), none⟩])
    (.seq (.rg [⟨(some 8), .callr 139 [], none⟩,
      ⟨(some 5), .mov (.t 8), none⟩])
    (.seq (.seq (.rg [⟨(some 9), .mov (.t 0), none⟩,
      ⟨(some 10), .rngm (.t 9), none⟩])
    (.block 0 (.loop (.seq (.rg [⟨(some 11), .nxtm (.t 10), none⟩,
        ⟨(some 12), .ext (.t 11) 0, none⟩])
      (.seq (.cond (.t 12) .skip
        (.exit 0))
      (.block 1 (.seq (.rg [⟨(some 13), .ent (.t 10), none⟩,
         ⟨(some 14), .ext (.t 13) 0, none⟩,
         ⟨(some 6), .mov (.t 14), none⟩])
       (.rg [⟨(some 15), .mov (.t 5), none⟩,
         ⟨(some 16), .mov (.t 6), none⟩,
         ⟨(some 17), .callr 113 [(.t 15), (.t 16)], none⟩]))))))))
    (.seq (.seq (.rg [⟨(some 18), .mov (.t 1), none⟩,
      ⟨(some 19), .rngm (.t 18), none⟩])
    (.block 2 (.loop (.seq (.rg [⟨(some 20), .nxtm (.t 19), none⟩,
        ⟨(some 21), .ext (.t 20) 0, none⟩])
      (.seq (.cond (.t 21) .skip
        (.exit 2))
      (.block 3 (.seq (.rg [⟨(some 22), .ent (.t 19), none⟩,
         ⟨(some 23), .ext (.t 22) 0, none⟩,
         ⟨(some 7), .mov (.t 23), none⟩])
       (.rg [⟨(some 24), .mov (.t 5), none⟩,
         ⟨(some 25), .mov (.t 7), none⟩,
         ⟨(some 26), .callr 113 [(.t 24), (.t 25)], none⟩]))))))))
    (.seq (.rg [⟨(some 27), .mov (.t 5), none⟩,
      ⟨(some 4), .mov (.t 27), none⟩])
    .ret)))))
def r117 : List DR := [.tmp 4]
theorem c117_ok : Try.f117.body.bind (cCode Try.prog) = some c117 := by kernel_rfl
theorem r117_ok : cRes Try.prog Try.f117.results.toList = some r117 := by kernel_rfl

/-- given.example/pub-assaymark/pub/miniogo/pkg/set.ToSliceOrdered[int] -/
def c118 : DC :=
  (.seq (.rg [⟨(some 2), .mov (.c (.p (.slice none 0 0))), none⟩])
    (.seq (.rg [⟨(some 5), .mov (.t 0), none⟩,
      ⟨(some 6), .lenm (.t 5), none⟩,
      ⟨(some 7), .mks false 1 8 (.p (.int .i64 0)) (.c (.p (.int .i64 0))) (.t 6), none⟩,
      ⟨(some 3), .mov (.t 7), none⟩])
    (.seq (.seq (.rg [⟨(some 8), .mov (.t 0), none⟩,
      ⟨(some 9), .rngm (.t 8), none⟩])
    (.block 0 (.loop (.seq (.rg [⟨(some 10), .nxtm (.t 9), none⟩,
        ⟨(some 11), .ext (.t 10) 0, none⟩])
      (.seq (.cond (.t 11) .skip
        (.exit 0))
      (.block 1 (.seq (.rg [⟨(some 12), .ent (.t 9), none⟩,
         ⟨(some 13), .ext (.t 12) 0, none⟩,
         ⟨(some 4), .mov (.t 13), none⟩])
       (.rg [⟨(some 14), .mov (.t 3), none⟩,
         ⟨(some 15), .mov (.t 4), none⟩,
         ⟨(some 16), .lit 1 [(.t 15)], none⟩,
         ⟨(some 17), .app 1 8 (.t 14) (.t 16), none⟩,
         ⟨(some 3), .mov (.t 17), none⟩]))))))))
    (.seq (.rg [⟨(some 18), .mov (.t 3), none⟩,
      ⟨(some 19), .callr 140 [(.t 18)], none⟩])
    (.seq (.rg [⟨(some 20), .mov (.t 3), none⟩,
      ⟨(some 2), .mov (.t 20), none⟩])
    .ret)))))
def r118 : List DR := [.tmp 2]
theorem c118_ok : Try.f118.body.bind (cCode Try.prog) = some c118 := by kernel_rfl
theorem r118_ok : cRes Try.prog Try.f118.results.toList = some r118 := by kernel_rfl

/-- (given.example/pub-assaymark/pub/miniogo/pkg/set.Set[int]).Intersection -/
def c119 : DC :=
  (.seq (.rg [⟨(some 4), .mov (.c (.p (.map none))), none⟩])
    (.seq (.rg [⟨(some 9), .callr 139 [], none⟩,
      ⟨(some 5), .mov (.t 9), none⟩])
    (.seq (.seq (.rg [⟨(some 10), .mov (.t 0), none⟩,
      ⟨(some 11), .rngm (.t 10), none⟩])
    (.block 0 (.loop (.seq (.rg [⟨(some 12), .nxtm (.t 11), none⟩,
        ⟨(some 13), .ext (.t 12) 0, none⟩])
      (.seq (.cond (.t 13) .skip
        (.exit 0))
      (.block 1 (.seq (.rg [⟨(some 14), .ent (.t 11), none⟩,
         ⟨(some 15), .ext (.t 14) 0, none⟩,
         ⟨(some 6), .mov (.t 15), none⟩])
       (.seq (.rg [⟨(some 17), .mov (.t 1), none⟩,
         ⟨(some 18), .mov (.t 6), none⟩,
         ⟨(some 19), .look .int (.agg []) true (.t 17) (.t 18), none⟩,
         ⟨(some 16), .mov (.t 19), none⟩,
         ⟨(some 20), .ext (.t 16) 0, none⟩,
         ⟨(some 21), .ext (.t 16) 1, none⟩,
         ⟨(some 7), .alloc 0 (.agg []), none⟩,
         ⟨none, .store 0 (.t 7) (.t 20), none⟩,
         ⟨(some 8), .mov (.t 21), none⟩])
       (.seq (.rg [⟨(some 22), .mov (.t 8), none⟩])
       (.cond (.t 22) (.rg [⟨(some 23), .mov (.t 5), none⟩,
           ⟨(some 24), .mov (.t 6), none⟩,
           ⟨(some 25), .callr 113 [(.t 23), (.t 24)], none⟩])
         .skip))))))))))
    (.seq (.rg [⟨(some 26), .mov (.t 5), none⟩,
      ⟨(some 4), .mov (.t 26), none⟩])
    .ret))))
def r119 : List DR := [.tmp 4]
theorem c119_ok : Try.f119.body.bind (cCode Try.prog) = some c119 := by kernel_rfl
theorem r119_ok : cRes Try.prog Try.f119.results.toList = some r119 := by kernel_rfl

/-- (given.example/pub-assaymark/pub/miniogo/pkg/set.Set[int]).Difference -/
def c120 : DC :=
  (.seq (.rg [⟨(some 4), .mov (.c (.p (.map none))), none⟩])
    (.seq (.rg [⟨(some 9), .callr 139 [], none⟩,
      ⟨(some 5), .mov (.t 9), none⟩])
    (.seq (.seq (.rg [⟨(some 10), .mov (.t 0), none⟩,
      ⟨(some 11), .rngm (.t 10), none⟩])
    (.block 0 (.loop (.seq (.rg [⟨(some 12), .nxtm (.t 11), none⟩,
        ⟨(some 13), .ext (.t 12) 0, none⟩])
      (.seq (.cond (.t 13) .skip
        (.exit 0))
      (.block 1 (.seq (.rg [⟨(some 14), .ent (.t 11), none⟩,
         ⟨(some 15), .ext (.t 14) 0, none⟩,
         ⟨(some 6), .mov (.t 15), none⟩])
       (.seq (.rg [⟨(some 17), .mov (.t 1), none⟩,
         ⟨(some 18), .mov (.t 6), none⟩,
         ⟨(some 19), .look .int (.agg []) true (.t 17) (.t 18), none⟩,
         ⟨(some 16), .mov (.t 19), none⟩,
         ⟨(some 20), .ext (.t 16) 0, none⟩,
         ⟨(some 21), .ext (.t 16) 1, none⟩,
         ⟨(some 7), .alloc 0 (.agg []), none⟩,
         ⟨none, .store 0 (.t 7) (.t 20), none⟩,
         ⟨(some 8), .mov (.t 21), none⟩])
       (.seq (.rg [⟨(some 22), .mov (.t 8), none⟩,
         ⟨(some 23), .un .not (.t 22), none⟩])
       (.cond (.t 23) (.rg [⟨(some 24), .mov (.t 5), none⟩,
           ⟨(some 25), .mov (.t 6), none⟩,
           ⟨(some 26), .callr 113 [(.t 24), (.t 25)], none⟩])
         .skip))))))))))
    (.seq (.rg [⟨(some 27), .mov (.t 5), none⟩,
      ⟨(some 4), .mov (.t 27), none⟩])
    .ret))))
def r120 : List DR := [.tmp 4]
theorem c120_ok : Try.f120.body.bind (cCode Try.prog) = some c120 := by kernel_rfl
theorem r120_ok : cRes Try.prog Try.f120.results.toList = some r120 := by kernel_rfl

/-- (given.example/pub-assaymark/pub/miniogo/pkg/set.Set[int]).Equals -/
def c121 : DC :=
  (.seq (.rg [⟨(some 4), .mov (.c (.p (.bool false))), none⟩])
    (.seq (.seq (.rg [⟨(some 8), .mov (.t 0), none⟩,
      ⟨(some 9), .lenm (.t 8), none⟩,
      ⟨(some 10), .mov (.t 1), none⟩,
      ⟨(some 11), .lenm (.t 10), none⟩,
      ⟨(some 12), .bin .neq (.t 9) (.t 11), none⟩])
    (.cond (.t 12) (.seq (.rg [⟨(some 4), .mov (.c (.p (.bool false))), none⟩])
      .ret)
      .skip))
    (.seq (.seq (.rg [⟨(some 13), .mov (.t 0), none⟩,
      ⟨(some 14), .rngm (.t 13), none⟩])
    (.block 0 (.loop (.seq (.rg [⟨(some 15), .nxtm (.t 14), none⟩,
        ⟨(some 16), .ext (.t 15) 0, none⟩])
      (.seq (.cond (.t 16) .skip
        (.exit 0))
      (.block 1 (.seq (.rg [⟨(some 17), .ent (.t 14), none⟩,
         ⟨(some 18), .ext (.t 17) 0, none⟩,
         ⟨(some 5), .mov (.t 18), none⟩])
       (.seq (.rg [⟨(some 20), .mov (.t 1), none⟩,
         ⟨(some 21), .mov (.t 5), none⟩,
         ⟨(some 22), .look .int (.agg []) true (.t 20) (.t 21), none⟩,
         ⟨(some 19), .mov (.t 22), none⟩,
         ⟨(some 23), .ext (.t 19) 0, none⟩,
         ⟨(some 24), .ext (.t 19) 1, none⟩,
         ⟨(some 6), .alloc 0 (.agg []), none⟩,
         ⟨none, .store 0 (.t 6) (.t 23), none⟩,
         ⟨(some 7), .mov (.t 24), none⟩])
       (.seq (.rg [⟨(some 25), .mov (.t 7), none⟩,
         ⟨(some 26), .un .not (.t 25), none⟩])
       (.cond (.t 26) (.seq (.rg [⟨(some 4), .mov (.c (.p (.bool false))), none⟩])
         .ret)
         .skip))))))))))
    (.seq (.rg [⟨(some 4), .mov (.c (.p (.bool true))), none⟩])
    .ret))))
def r121 : List DR := [.tmp 4]
theorem c121_ok : Try.f121.body.bind (cCode Try.prog) = some c121 := by kernel_rfl
theorem r121_ok : cRes Try.prog Try.f121.results.toList = some r121 := by kernel_rfl

/-- (given.example/pub-assaymark/pub/miniogo/pkg/set.Set[int]).Contains -/
def c122 : DC :=
  (.seq (.rg [⟨(some 4), .mov (.c (.p (.bool false))), none⟩])
    (.seq (.rg [⟨(some 8), .mov (.t 0), none⟩,
      ⟨(some 9), .mov (.t 1), none⟩,
      ⟨(some 10), .look .int (.agg []) true (.t 8) (.t 9), none⟩,
      ⟨(some 7), .mov (.t 10), none⟩,
      ⟨(some 11), .ext (.t 7) 0, none⟩,
      ⟨(some 12), .ext (.t 7) 1, none⟩,
      ⟨(some 5), .alloc 0 (.agg []), none⟩,
      ⟨none, .store 0 (.t 5) (.t 11), none⟩,
      ⟨(some 6), .mov (.t 12), none⟩])
    (.seq (.rg [⟨(some 13), .mov (.t 6), none⟩,
      ⟨(some 4), .mov (.t 13), none⟩])
    .ret)))
def r122 : List DR := [.tmp 4]
theorem c122_ok : Try.f122.body.bind (cCode Try.prog) = some c122 := by kernel_rfl
theorem r122_ok : cRes Try.prog Try.f122.results.toList = some r122 := by kernel_rfl

/-- (given.example/pub-assaymark/pub/miniogo/pkg/set.Set[int]).IsEmpty -/
def c123 : DC :=
  (.seq (.rg [⟨(some 2), .mov (.c (.p (.bool false))), none⟩])
    (.seq (.rg [⟨(some 3), .mov (.t 0), none⟩,
      ⟨(some 4), .lenm (.t 3), none⟩,
      ⟨(some 5), .bin .eql (.t 4) (.c (.p (.int .i64 0))), none⟩,
      ⟨(some 2), .mov (.t 5), none⟩])
    .ret))
def r123 : List DR := [.tmp 2]
theorem c123_ok : Try.f123.body.bind (cCode Try.prog) = some c123 := by kernel_rfl
theorem r123_ok : cRes Try.prog Try.f123.results.toList = some r123 := by kernel_rfl

/-- given.example/pub-assaymark/pub/miniogo/pkg/set.New[int] -/
def c139 : DC :=
  (.seq (.rg [⟨(some 0), .mov (.c (.p (.map none))), none⟩])
    (.seq (.rg [⟨(some 1), .mkmap, none⟩,
      ⟨(some 0), .mov (.t 1), none⟩])
    .ret))
def r139 : List DR := [.tmp 0]
theorem c139_ok : Try.f139.body.bind (cCode Try.prog) = some c139 := by kernel_rfl
theorem r139_ok : cRes Try.prog Try.f139.results.toList = some r139 := by kernel_rfl

end Go.Proofs.Ytdgnjngbheecnaa
