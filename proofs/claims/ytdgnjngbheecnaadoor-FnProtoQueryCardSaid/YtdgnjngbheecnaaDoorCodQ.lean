/- The codes of the functions, in the small language of Den. -/
import Derived.Test.YtdgnjngbheecnaaDoorLibE
import Derived.Test.YtdgnjngbheecnaaDoorProg
set_option linter.unusedVariables false
set_option linter.unusedSimpArgs false
set_option maxRecDepth 100000
namespace Go.Proofs.YtdgnjngbheecnaaDoor
open Go Go.Den Go.Proofs

/-- given.example/pub-assaymark/laws.FnProtoQuery -/
def c4 : DC :=
  (.seq (.rg [⟨(some 2), .box (.t 0), none⟩,
      ⟨(some 4), .mov (.c (.p (.bool false))), none⟩])
    (.seq (.seq (.rg [⟨(some 13), .load true 17 (.t 2), none⟩,
      ⟨(some 14), .callr 11 [(.t 13)], none⟩,
      ⟨(some 15), .un .not (.t 14), none⟩])
    (.cond (.t 15) (.seq (.rg [⟨(some 4), .mov (.c (.p (.bool true))), none⟩])
      .ret)
      .skip))
    (.seq (.rg [⟨(some 16), .mov (.t 1), none⟩,
      ⟨(some 17), .bin .rem (.t 16) (.c (.p (.int .u64 60))), none⟩,
      ⟨(some 18), .bin .add (.c (.p (.int .u64 54430))) (.t 17), none⟩,
      ⟨(some 1), .mov (.t 18), none⟩])
    (.seq (.rg [⟨(some 19), .faddr false 10 1 (.t 2), none⟩,
      ⟨(some 20), .load false 1 (.t 19), none⟩,
      ⟨(some 21), .callr 12 [(.t 20)], none⟩,
      ⟨(some 22), .faddr false 10 1 (.t 2), none⟩,
      ⟨none, .store 1 (.t 22) (.t 21), none⟩])
    (.seq (.seq (.rg [⟨(some 23), .faddr false 10 1 (.t 2), none⟩,
      ⟨(some 24), .load false 1 (.t 23), none⟩,
      ⟨(some 25), .callr 13 [(.t 24)], none⟩,
      ⟨(some 26), .un .not (.t 25), none⟩,
      ⟨(some 27), .mov (.t 26), none⟩,
      ⟨(some 28), .faddr false 11 1 (.t 2), (some (27, false))⟩,
      ⟨(some 29), .load false 1 (.t 28), (some (27, false))⟩,
      ⟨(some 30), .lenl (.t 29), (some (27, false))⟩,
      ⟨(some 31), .bin .gtr (.t 30) (.c (.p (.int .i64 10))), (some (27, false))⟩,
      ⟨(some 32), .pick (.t 27) (.c (.p (.bool true))) (.t 31), none⟩,
      ⟨(some 33), .mov (.t 32), none⟩,
      ⟨(some 34), .faddr false 0 1 (.t 2), (some (33, false))⟩,
      ⟨(some 35), .load false 1 (.t 34), (some (33, false))⟩,
      ⟨(some 36), .faddr false 1 1 (.t 2), (some (33, false))⟩,
      ⟨(some 37), .load false 1 (.t 36), (some (33, false))⟩,
      ⟨(some 38), .faddr false 2 1 (.t 2), (some (33, false))⟩,
      ⟨(some 39), .load false 1 (.t 38), (some (33, false))⟩,
      ⟨(some 40), .faddr false 3 1 (.t 2), (some (33, false))⟩,
      ⟨(some 41), .load false 1 (.t 40), (some (33, false))⟩,
      ⟨(some 42), .faddr false 4 1 (.t 2), (some (33, false))⟩,
      ⟨(some 43), .load false 1 (.t 42), (some (33, false))⟩,
      ⟨(some 44), .faddr false 5 1 (.t 2), (some (33, false))⟩,
      ⟨(some 45), .load false 1 (.t 44), (some (33, false))⟩,
      ⟨(some 46), .faddr false 15 1 (.t 2), (some (33, false))⟩,
      ⟨(some 47), .load false 1 (.t 46), (some (33, false))⟩,
      ⟨(some 48), .lit 1 [(.t 35), (.t 37), (.t 39), (.t 41), (.t 43), (.t 45), (.t 47)], (some (33, false))⟩,
      ⟨(some 49), .callr 6 [(.t 48)], (some (33, false))⟩,
      ⟨(some 50), .un .not (.t 49), (some (33, false))⟩,
      ⟨(some 51), .pick (.t 33) (.c (.p (.bool true))) (.t 50), none⟩])
    (.cond (.t 51) (.seq (.rg [⟨(some 52), .callr 5 [], none⟩,
        ⟨(some 4), .mov (.t 52), none⟩])
      .ret)
      .skip))
    (.seq (.seq (.rg [⟨(some 53), .faddr false 11 1 (.t 2), none⟩,
      ⟨(some 54), .load false 1 (.t 53), none⟩,
      ⟨(some 55), .lenl (.t 54), none⟩,
      ⟨(some 56), .mov (.c (.p (.int .i64 0))), none⟩])
    (.block 0 (.loop (.seq (.rg [⟨(some 57), .bin .lss (.t 56) (.t 55), none⟩])
      (.seq (.cond (.t 57) .skip
        (.exit 0))
      (.seq (.block 1 (.seq (.rg [⟨(some 58), .iaddr 2 (.t 54) (.t 56), none⟩,
         ⟨(some 59), .load true 2 (.t 58), none⟩,
         ⟨(some 6), .alloc 2 (.agg [.p (.string ⟨#[]⟩), .p (.string ⟨#[]⟩)]), none⟩,
         ⟨none, .store 2 (.t 6) (.t 59), none⟩])
       (.seq (.rg [⟨(some 60), .load true 2 (.t 6), none⟩,
         ⟨(some 61), .callr 14 [(.t 60)], none⟩,
         ⟨(some 62), .un .not (.t 61), none⟩])
       (.cond (.t 62) (.seq (.rg [⟨(some 63), .callr 5 [], none⟩,
           ⟨(some 4), .mov (.t 63), none⟩])
         .ret)
         .skip))))
      (.rg [⟨(some 64), .bin .add (.t 56) (.c (.p (.int .i64 1))), none⟩,
        ⟨(some 56), .mov (.t 64), none⟩])))))))
    (.seq (.rg [⟨(some 65), .faddr false 13 1 (.t 2), none⟩,
      ⟨none, .store 1 (.t 65) (.c (.p (.string ⟨#[]⟩))), none⟩,
      ⟨(some 66), .faddr false 14 1 (.t 2), none⟩,
      ⟨none, .store 1 (.t 66) (.c (.p (.string ⟨#[]⟩))), none⟩,
      ⟨(some 67), .faddr false 15 1 (.t 2), none⟩,
      ⟨none, .store 1 (.t 67) (.c (.p (.string ⟨#[]⟩))), none⟩,
      ⟨(some 68), .faddr false 16 1 (.t 2), none⟩,
      ⟨none, .store 1 (.t 68) (.c (.p (.int .u8 0))), none⟩])
    (.seq (.rg [⟨(some 70), .load true 17 (.t 2), none⟩,
      ⟨(some 71), .mov (.t 1), none⟩,
      ⟨(some 72), .callr 15 [(.t 70), (.t 71)], none⟩,
      ⟨(some 69), .mov (.t 72), none⟩,
      ⟨(some 73), .ext (.t 69) 0, none⟩,
      ⟨(some 74), .ext (.t 69) 1, none⟩,
      ⟨(some 7), .mov (.t 73), none⟩,
      ⟨(some 8), .mov (.t 74), none⟩])
    (.seq (.rg [⟨(some 76), .mov (.t 7), none⟩,
      ⟨(some 77), .mov (.t 1), none⟩,
      ⟨(some 78), .callr 16 [(.t 76), (.t 77)], none⟩,
      ⟨(some 75), .mov (.t 78), none⟩,
      ⟨(some 79), .ext (.t 75) 0, none⟩,
      ⟨(some 80), .ext (.t 75) 1, none⟩,
      ⟨(some 81), .ext (.t 75) 2, none⟩,
      ⟨(some 82), .ext (.t 75) 3, none⟩,
      ⟨(some 9), .alloc 17 (.agg [.p (.string ⟨#[]⟩), .p (.string ⟨#[]⟩), .p (.string ⟨#[]⟩), .p (.string ⟨#[]⟩), .p (.string ⟨#[]⟩), .p (.string ⟨#[]⟩), .p (.int .u64 0), .p (.int .u64 0), .p (.int .u64 0), .p (.int .u64 0), .p (.slice none 0 0), .p (.slice none 0 0), .p (.bool false), .p (.string ⟨#[]⟩), .p (.string ⟨#[]⟩), .p (.string ⟨#[]⟩), .p (.int .u8 0)]), none⟩,
      ⟨none, .store 17 (.t 9) (.t 79), none⟩,
      ⟨(some 10), .mov (.t 80), none⟩,
      ⟨(some 11), .mov (.t 81), none⟩,
      ⟨(some 12), .mov (.t 82), none⟩])
    (.seq (.seq (.rg [⟨(some 83), .mov (.t 8), none⟩,
      ⟨(some 84), .un .not (.t 83), none⟩,
      ⟨(some 85), .mov (.t 84), none⟩,
      ⟨(some 86), .mov (.t 12), (some (85, false))⟩,
      ⟨(some 87), .un .not (.t 86), (some (85, false))⟩,
      ⟨(some 88), .pick (.t 85) (.c (.p (.bool true))) (.t 87), none⟩,
      ⟨(some 89), .mov (.t 88), none⟩,
      ⟨(some 90), .mov (.t 10), (some (89, false))⟩,
      ⟨(some 91), .faddr false 10 1 (.t 2), (some (89, false))⟩,
      ⟨(some 92), .load false 1 (.t 91), (some (89, false))⟩,
      ⟨(some 93), .callr 17 [(.t 92)], (some (89, false))⟩,
      ⟨(some 94), .bin .neq (.t 90) (.t 93), (some (89, false))⟩,
      ⟨(some 95), .pick (.t 89) (.c (.p (.bool true))) (.t 94), none⟩,
      ⟨(some 96), .mov (.t 95), none⟩,
      ⟨(some 97), .mov (.t 1), (some (96, false))⟩,
      ⟨(some 98), .bin .geq (.t 97) (.c (.p (.int .u64 54459))), (some (96, false))⟩,
      ⟨(some 99), .mov (.t 98), (some (96, false))⟩,
      ⟨(some 100), .mov (.t 11), (some (99, true))⟩,
      ⟨(some 101), .faddr false 11 1 (.t 2), (some (99, true))⟩,
      ⟨(some 102), .load false 1 (.t 101), (some (99, true))⟩,
      ⟨(some 103), .callr 18 [(.t 102)], (some (99, true))⟩,
      ⟨(some 104), .bin .neq (.t 100) (.t 103), (some (99, true))⟩,
      ⟨(some 105), .pick (.t 99) (.t 104) (.c (.p (.bool false))), (some (96, false))⟩,
      ⟨(some 106), .pick (.t 96) (.c (.p (.bool true))) (.t 105), none⟩])
    (.cond (.t 106) (.seq (.rg [⟨(some 4), .mov (.c (.p (.bool false))), none⟩])
      .ret)
      .skip))
    (.seq (.rg [⟨(some 107), .faddr true 6 3 (.t 2), none⟩,
      ⟨(some 108), .faddr false 2 1 (.t 107), none⟩,
      ⟨(some 109), .load false 1 (.t 108), none⟩,
      ⟨(some 110), .faddr true 6 3 (.t 9), none⟩,
      ⟨(some 111), .faddr false 2 1 (.t 110), none⟩,
      ⟨none, .store 1 (.t 111) (.t 109), none⟩])
    (.seq (.rg [⟨(some 112), .faddr false 0 1 (.t 9), none⟩,
      ⟨(some 113), .load false 1 (.t 112), none⟩,
      ⟨(some 114), .faddr false 0 1 (.t 2), none⟩,
      ⟨(some 115), .load false 1 (.t 114), none⟩,
      ⟨(some 116), .bin .eql (.t 113) (.t 115), none⟩,
      ⟨(some 117), .mov (.t 116), none⟩,
      ⟨(some 118), .faddr false 4 1 (.t 9), (some (117, true))⟩,
      ⟨(some 119), .load false 1 (.t 118), (some (117, true))⟩,
      ⟨(some 120), .faddr false 4 1 (.t 2), (some (117, true))⟩,
      ⟨(some 121), .load false 1 (.t 120), (some (117, true))⟩,
      ⟨(some 122), .bin .eql (.t 119) (.t 121), (some (117, true))⟩,
      ⟨(some 123), .pick (.t 117) (.t 122) (.c (.p (.bool false))), none⟩,
      ⟨(some 124), .mov (.t 123), none⟩,
      ⟨(some 125), .faddr false 5 1 (.t 9), (some (124, true))⟩,
      ⟨(some 126), .load false 1 (.t 125), (some (124, true))⟩,
      ⟨(some 127), .faddr false 5 1 (.t 2), (some (124, true))⟩,
      ⟨(some 128), .load false 1 (.t 127), (some (124, true))⟩,
      ⟨(some 129), .bin .eql (.t 126) (.t 128), (some (124, true))⟩,
      ⟨(some 130), .pick (.t 124) (.t 129) (.c (.p (.bool false))), none⟩,
      ⟨(some 131), .mov (.t 130), none⟩,
      ⟨(some 132), .faddr false 1 1 (.t 9), (some (131, true))⟩,
      ⟨(some 133), .load false 1 (.t 132), (some (131, true))⟩,
      ⟨(some 134), .faddr false 1 1 (.t 2), (some (131, true))⟩,
      ⟨(some 135), .load false 1 (.t 134), (some (131, true))⟩,
      ⟨(some 136), .bin .eql (.t 133) (.t 135), (some (131, true))⟩,
      ⟨(some 137), .pick (.t 131) (.t 136) (.c (.p (.bool false))), none⟩,
      ⟨(some 138), .mov (.t 137), none⟩,
      ⟨(some 139), .faddr true 6 3 (.t 9), (some (138, true))⟩,
      ⟨(some 140), .load true 3 (.t 139), (some (138, true))⟩,
      ⟨(some 141), .faddr true 6 3 (.t 2), (some (138, true))⟩,
      ⟨(some 142), .load true 3 (.t 141), (some (138, true))⟩,
      ⟨(some 143), .eqs false [.int, .int, .int] (.t 140) (.t 142), (some (138, true))⟩,
      ⟨(some 144), .pick (.t 138) (.t 143) (.c (.p (.bool false))), none⟩,
      ⟨(some 145), .mov (.t 144), none⟩,
      ⟨(some 146), .faddr false 9 1 (.t 9), (some (145, true))⟩,
      ⟨(some 147), .load false 1 (.t 146), (some (145, true))⟩,
      ⟨(some 148), .faddr false 9 1 (.t 2), (some (145, true))⟩,
      ⟨(some 149), .load false 1 (.t 148), (some (145, true))⟩,
      ⟨(some 150), .bin .eql (.t 147) (.t 149), (some (145, true))⟩,
      ⟨(some 151), .pick (.t 145) (.t 150) (.c (.p (.bool false))), none⟩,
      ⟨(some 152), .mov (.t 151), none⟩,
      ⟨(some 153), .faddr false 3 1 (.t 9), (some (152, true))⟩,
      ⟨(some 154), .load false 1 (.t 153), (some (152, true))⟩,
      ⟨(some 155), .faddr false 3 1 (.t 2), (some (152, true))⟩,
      ⟨(some 156), .load false 1 (.t 155), (some (152, true))⟩,
      ⟨(some 157), .bin .eql (.t 154) (.t 156), (some (152, true))⟩,
      ⟨(some 158), .pick (.t 152) (.t 157) (.c (.p (.bool false))), none⟩,
      ⟨(some 159), .mov (.t 158), none⟩,
      ⟨(some 160), .faddr false 12 1 (.t 9), (some (159, true))⟩,
      ⟨(some 161), .load false 1 (.t 160), (some (159, true))⟩,
      ⟨(some 162), .faddr false 12 1 (.t 2), (some (159, true))⟩,
      ⟨(some 163), .load false 1 (.t 162), (some (159, true))⟩,
      ⟨(some 164), .eqb false (.t 161) (.t 163), (some (159, true))⟩,
      ⟨(some 165), .pick (.t 159) (.t 164) (.c (.p (.bool false))), none⟩,
      ⟨(some 166), .mov (.t 165), none⟩,
      ⟨(some 167), .faddr false 2 1 (.t 9), (some (166, true))⟩,
      ⟨(some 168), .load false 1 (.t 167), (some (166, true))⟩,
      ⟨(some 169), .faddr false 2 1 (.t 2), (some (166, true))⟩,
      ⟨(some 170), .load false 1 (.t 169), (some (166, true))⟩,
      ⟨(some 171), .bin .eql (.t 168) (.t 170), (some (166, true))⟩,
      ⟨(some 172), .pick (.t 166) (.t 171) (.c (.p (.bool false))), none⟩,
      ⟨(some 173), .mov (.t 172), none⟩,
      ⟨(some 174), .faddr false 13 1 (.t 9), (some (173, true))⟩,
      ⟨(some 175), .load false 1 (.t 174), (some (173, true))⟩,
      ⟨(some 176), .bin .eql (.t 175) (.c (.p (.string ⟨#[]⟩))), (some (173, true))⟩,
      ⟨(some 177), .pick (.t 173) (.t 176) (.c (.p (.bool false))), none⟩,
      ⟨(some 178), .mov (.t 177), none⟩,
      ⟨(some 179), .callr 5 [], (some (178, true))⟩,
      ⟨(some 180), .pick (.t 178) (.t 179) (.c (.p (.bool false))), none⟩,
      ⟨(some 4), .mov (.t 180), none⟩])
    .ret))))))))))))
def r4 : List DR := [.tmp 4]
theorem c4_ok : Tryd.f4.body.bind (cCode Tryd.prog) = some c4 := by kernel_rfl
theorem r4_ok : cRes Tryd.prog Tryd.f4.results.toList = some r4 := by kernel_rfl

/-- given.example/pub-assaymark/laws.protoAwake -/
def c5 : DC :=
  (.seq (.rg [⟨(some 0), .mov (.c (.p (.bool false))), none⟩])
    (.seq (.rg [⟨(some 1), .bld [.p (.int .u64 0), .p (.int .u64 0), .p (.int .u64 0)] [(0, 1, (.c (.p (.int .u64 1)))), (1, 1, (.c (.p (.int .u64 2)))), (2, 1, (.c (.p (.int .u64 3))))], none⟩,
      ⟨(some 2), .callr 19 [(.t 1)], none⟩,
      ⟨(some 3), .bin .eql (.t 2) (.c (.p (.string ⟨#[49, 46, 50, 46, 51]⟩))), none⟩,
      ⟨(some 0), .mov (.t 3), none⟩])
    .ret))
def r5 : List DR := [.tmp 0]
theorem c5_ok : Tryd.f5.body.bind (cCode Tryd.prog) = some c5 := by kernel_rfl
theorem r5_ok : cRes Tryd.prog Tryd.f5.results.toList = some r5 := by kernel_rfl

/-- given.example/pub-assaymark/laws.protoShort -/
def c6 : DC :=
  (.seq (.rg [⟨(some 2), .mov (.c (.p (.bool false))), none⟩])
    (.seq (.rg [⟨(some 3), .mov (.c (.p (.int .i64 0))), none⟩])
    (.seq (.seq (.rg [⟨(some 6), .mov (.t 0), none⟩,
      ⟨(some 7), .lenl (.t 6), none⟩,
      ⟨(some 8), .mov (.c (.p (.int .i64 0))), none⟩])
    (.block 0 (.loop (.seq (.rg [⟨(some 9), .bin .lss (.t 8) (.t 7), none⟩])
      (.seq (.cond (.t 9) .skip
        (.exit 0))
      (.seq (.block 1 (.seq (.rg [⟨(some 10), .iaddr 1 (.t 6) (.t 8), none⟩,
         ⟨(some 11), .load false 1 (.t 10), none⟩,
         ⟨(some 5), .mov (.t 11), none⟩])
       (.rg [⟨(some 12), .mov (.t 3), none⟩,
         ⟨(some 13), .mov (.t 5), none⟩,
         ⟨(some 14), .lens (.t 13), none⟩,
         ⟨(some 15), .bin .add (.t 12) (.t 14), none⟩,
         ⟨(some 3), .mov (.t 15), none⟩])))
      (.rg [⟨(some 16), .bin .add (.t 8) (.c (.p (.int .i64 1))), none⟩,
        ⟨(some 8), .mov (.t 16), none⟩])))))))
    (.seq (.rg [⟨(some 17), .mov (.t 3), none⟩,
      ⟨(some 18), .bin .leq (.t 17) (.c (.p (.int .i64 5000))), none⟩,
      ⟨(some 2), .mov (.t 18), none⟩])
    .ret))))
def r6 : List DR := [.tmp 2]
theorem c6_ok : Tryd.f6.body.bind (cCode Tryd.prog) = some c6 := by kernel_rfl
theorem r6_ok : cRes Tryd.prog Tryd.f6.results.toList = some r6 := by kernel_rfl

/-- given.example/pub-assaymark/laws.zzFits28 -/
def c11 : DC :=
  (.seq (.rg [⟨(some 1), .box (.t 0), none⟩,
      ⟨(some 2), .mov (.c (.p (.bool false))), none⟩])
    (.seq (.seq (.rg [⟨(some 3), .faddr false 0 1 (.t 1), none⟩,
      ⟨(some 4), .load false 1 (.t 3), none⟩,
      ⟨(some 5), .lens (.t 4), none⟩,
      ⟨(some 6), .bin .gtr (.t 5) (.c (.p (.int .i64 2147483647))), none⟩])
    (.cond (.t 6) (.seq (.rg [⟨(some 2), .mov (.c (.p (.bool false))), none⟩])
      .ret)
      .skip))
    (.seq (.seq (.rg [⟨(some 7), .faddr false 1 1 (.t 1), none⟩,
      ⟨(some 8), .load false 1 (.t 7), none⟩,
      ⟨(some 9), .lens (.t 8), none⟩,
      ⟨(some 10), .bin .gtr (.t 9) (.c (.p (.int .i64 2147483647))), none⟩])
    (.cond (.t 10) (.seq (.rg [⟨(some 2), .mov (.c (.p (.bool false))), none⟩])
      .ret)
      .skip))
    (.seq (.seq (.rg [⟨(some 11), .faddr false 2 1 (.t 1), none⟩,
      ⟨(some 12), .load false 1 (.t 11), none⟩,
      ⟨(some 13), .lens (.t 12), none⟩,
      ⟨(some 14), .bin .gtr (.t 13) (.c (.p (.int .i64 2147483647))), none⟩])
    (.cond (.t 14) (.seq (.rg [⟨(some 2), .mov (.c (.p (.bool false))), none⟩])
      .ret)
      .skip))
    (.seq (.seq (.rg [⟨(some 15), .faddr false 3 1 (.t 1), none⟩,
      ⟨(some 16), .load false 1 (.t 15), none⟩,
      ⟨(some 17), .lens (.t 16), none⟩,
      ⟨(some 18), .bin .gtr (.t 17) (.c (.p (.int .i64 2147483647))), none⟩])
    (.cond (.t 18) (.seq (.rg [⟨(some 2), .mov (.c (.p (.bool false))), none⟩])
      .ret)
      .skip))
    (.seq (.seq (.rg [⟨(some 19), .faddr false 4 1 (.t 1), none⟩,
      ⟨(some 20), .load false 1 (.t 19), none⟩,
      ⟨(some 21), .lens (.t 20), none⟩,
      ⟨(some 22), .bin .gtr (.t 21) (.c (.p (.int .i64 2147483647))), none⟩])
    (.cond (.t 22) (.seq (.rg [⟨(some 2), .mov (.c (.p (.bool false))), none⟩])
      .ret)
      .skip))
    (.seq (.seq (.rg [⟨(some 23), .faddr false 5 1 (.t 1), none⟩,
      ⟨(some 24), .load false 1 (.t 23), none⟩,
      ⟨(some 25), .lens (.t 24), none⟩,
      ⟨(some 26), .bin .gtr (.t 25) (.c (.p (.int .i64 2147483647))), none⟩])
    (.cond (.t 26) (.seq (.rg [⟨(some 2), .mov (.c (.p (.bool false))), none⟩])
      .ret)
      .skip))
    (.seq (.seq (.rg [⟨(some 27), .faddr false 10 1 (.t 1), none⟩,
      ⟨(some 28), .load false 1 (.t 27), none⟩,
      ⟨(some 29), .callr 28 [(.t 28)], none⟩,
      ⟨(some 30), .un .not (.t 29), none⟩])
    (.cond (.t 30) (.seq (.rg [⟨(some 2), .mov (.c (.p (.bool false))), none⟩])
      .ret)
      .skip))
    (.seq (.seq (.rg [⟨(some 31), .faddr false 11 1 (.t 1), none⟩,
      ⟨(some 32), .load false 1 (.t 31), none⟩,
      ⟨(some 33), .callr 29 [(.t 32)], none⟩,
      ⟨(some 34), .un .not (.t 33), none⟩])
    (.cond (.t 34) (.seq (.rg [⟨(some 2), .mov (.c (.p (.bool false))), none⟩])
      .ret)
      .skip))
    (.seq (.seq (.rg [⟨(some 35), .faddr false 13 1 (.t 1), none⟩,
      ⟨(some 36), .load false 1 (.t 35), none⟩,
      ⟨(some 37), .lens (.t 36), none⟩,
      ⟨(some 38), .bin .gtr (.t 37) (.c (.p (.int .i64 2147483647))), none⟩])
    (.cond (.t 38) (.seq (.rg [⟨(some 2), .mov (.c (.p (.bool false))), none⟩])
      .ret)
      .skip))
    (.seq (.seq (.rg [⟨(some 39), .faddr false 14 1 (.t 1), none⟩,
      ⟨(some 40), .load false 1 (.t 39), none⟩,
      ⟨(some 41), .lens (.t 40), none⟩,
      ⟨(some 42), .bin .gtr (.t 41) (.c (.p (.int .i64 2147483647))), none⟩])
    (.cond (.t 42) (.seq (.rg [⟨(some 2), .mov (.c (.p (.bool false))), none⟩])
      .ret)
      .skip))
    (.seq (.seq (.rg [⟨(some 43), .faddr false 15 1 (.t 1), none⟩,
      ⟨(some 44), .load false 1 (.t 43), none⟩,
      ⟨(some 45), .lens (.t 44), none⟩,
      ⟨(some 46), .bin .gtr (.t 45) (.c (.p (.int .i64 2147483647))), none⟩])
    (.cond (.t 46) (.seq (.rg [⟨(some 2), .mov (.c (.p (.bool false))), none⟩])
      .ret)
      .skip))
    (.seq (.rg [⟨(some 2), .mov (.c (.p (.bool true))), none⟩])
    .ret)))))))))))))
def r11 : List DR := [.tmp 2]
theorem c11_ok : Tryd.f11.body.bind (cCode Tryd.prog) = some c11 := by kernel_rfl
theorem r11_ok : cRes Tryd.prog Tryd.f11.results.toList = some r11 := by kernel_rfl

/-- given.example/pub-assaymark/laws.plainSettings -/
def c12 : DC :=
  (.seq (.rg [⟨(some 2), .mov (.c (.p (.slice none 0 0))), none⟩])
    (.seq (.rg [⟨(some 3), .mov (.c (.p (.slice none 0 0))), none⟩])
    (.seq (.seq (.rg [⟨(some 6), .mov (.t 0), none⟩,
      ⟨(some 7), .lenl (.t 6), none⟩,
      ⟨(some 8), .mov (.c (.p (.int .i64 0))), none⟩])
    (.block 0 (.loop (.seq (.rg [⟨(some 9), .bin .lss (.t 8) (.t 7), none⟩])
      (.seq (.cond (.t 9) .skip
        (.exit 0))
      (.seq (.block 1 (.seq (.rg [⟨(some 10), .iaddr 6 (.t 6) (.t 8), none⟩,
         ⟨(some 11), .load true 6 (.t 10), none⟩,
         ⟨(some 5), .alloc 6 (.agg [.p (.string ⟨#[]⟩), .p (.int .i64 0), .p (.string ⟨#[]⟩), .p (.int .i64 0), .p (.bool false), .p (.bool false)]), none⟩,
         ⟨none, .store 6 (.t 5) (.t 11), none⟩])
       (.seq (.rg [⟨(some 12), .faddr false 5 1 (.t 5), none⟩,
         ⟨none, .store 1 (.t 12) (.c (.p (.bool false))), none⟩])
       (.rg [⟨(some 13), .mov (.t 3), none⟩,
         ⟨(some 14), .load true 6 (.t 5), none⟩,
         ⟨(some 15), .lit 6 [(.t 14)], none⟩,
         ⟨(some 16), .app 6 56 (.t 13) (.t 15), none⟩,
         ⟨(some 3), .mov (.t 16), none⟩]))))
      (.rg [⟨(some 17), .bin .add (.t 8) (.c (.p (.int .i64 1))), none⟩,
        ⟨(some 8), .mov (.t 17), none⟩])))))))
    (.seq (.rg [⟨(some 18), .mov (.t 3), none⟩,
      ⟨(some 2), .mov (.t 18), none⟩])
    .ret))))
def r12 : List DR := [.tmp 2]
theorem c12_ok : Tryd.f12.body.bind (cCode Tryd.prog) = some c12 := by kernel_rfl
theorem r12_ok : cRes Tryd.prog Tryd.f12.results.toList = some r12 := by kernel_rfl

/-- given.example/pub-assaymark/laws.settingsGood -/
def c13 : DC :=
  (.seq (.rg [⟨(some 2), .mov (.c (.p (.bool false))), none⟩])
    (.seq (.seq (.rg [⟨(some 5), .mov (.t 0), none⟩,
      ⟨(some 6), .lenl (.t 5), none⟩,
      ⟨(some 7), .mov (.c (.p (.int .i64 0))), none⟩])
    (.block 0 (.loop (.seq (.rg [⟨(some 8), .bin .lss (.t 7) (.t 6), none⟩])
      (.seq (.cond (.t 8) .skip
        (.exit 0))
      (.seq (.block 1 (.seq (.rg [⟨(some 9), .iaddr 6 (.t 5) (.t 7), none⟩,
         ⟨(some 10), .load true 6 (.t 9), none⟩,
         ⟨(some 4), .alloc 6 (.agg [.p (.string ⟨#[]⟩), .p (.int .i64 0), .p (.string ⟨#[]⟩), .p (.int .i64 0), .p (.bool false), .p (.bool false)]), none⟩,
         ⟨none, .store 6 (.t 4) (.t 10), none⟩])
       (.seq (.rg [⟨(some 11), .faddr false 0 1 (.t 4), none⟩,
         ⟨(some 12), .load false 1 (.t 11), none⟩,
         ⟨(some 13), .bin .eql (.t 12) (.c (.p (.string ⟨#[]⟩))), none⟩,
         ⟨(some 14), .mov (.t 13), none⟩,
         ⟨(some 15), .faddr false 1 1 (.t 4), (some (14, false))⟩,
         ⟨(some 16), .load false 1 (.t 15), (some (14, false))⟩,
         ⟨(some 17), .bin .lss (.t 16) (.c (.p (.int .i64 0))), (some (14, false))⟩,
         ⟨(some 18), .pick (.t 14) (.c (.p (.bool true))) (.t 17), none⟩,
         ⟨(some 19), .mov (.t 18), none⟩,
         ⟨(some 20), .faddr false 1 1 (.t 4), (some (19, false))⟩,
         ⟨(some 21), .load false 1 (.t 20), (some (19, false))⟩,
         ⟨(some 22), .bin .gtr (.t 21) (.c (.p (.int .i64 2))), (some (19, false))⟩,
         ⟨(some 23), .pick (.t 19) (.c (.p (.bool true))) (.t 22), none⟩,
         ⟨(some 24), .mov (.t 23), none⟩,
         ⟨(some 25), .faddr false 0 1 (.t 4), (some (24, false))⟩,
         ⟨(some 26), .load false 1 (.t 25), (some (24, false))⟩,
         ⟨(some 27), .faddr false 2 1 (.t 4), (some (24, false))⟩,
         ⟨(some 28), .load false 1 (.t 27), (some (24, false))⟩,
         ⟨(some 29), .lit 1 [(.t 26), (.t 28)], (some (24, false))⟩,
         ⟨(some 30), .callr 6 [(.t 29)], (some (24, false))⟩,
         ⟨(some 31), .un .not (.t 30), (some (24, false))⟩,
         ⟨(some 32), .pick (.t 24) (.c (.p (.bool true))) (.t 31), none⟩,
         ⟨(some 33), .mov (.t 32), none⟩,
         ⟨(some 34), .faddr false 5 1 (.t 4), (some (33, false))⟩,
         ⟨(some 35), .load false 1 (.t 34), (some (33, false))⟩,
         ⟨(some 36), .mov (.t 35), (some (33, false))⟩,
         ⟨(some 37), .faddr false 1 1 (.t 4), (some (36, true))⟩,
         ⟨(some 38), .load false 1 (.t 37), (some (36, true))⟩,
         ⟨(some 39), .bin .neq (.t 38) (.c (.p (.int .i64 0))), (some (36, true))⟩,
         ⟨(some 40), .pick (.t 36) (.t 39) (.c (.p (.bool false))), (some (33, false))⟩,
         ⟨(some 41), .pick (.t 33) (.c (.p (.bool true))) (.t 40), none⟩])
       (.cond (.t 41) (.seq (.rg [⟨(some 2), .mov (.c (.p (.bool false))), none⟩])
         .ret)
         .skip))))
      (.rg [⟨(some 42), .bin .add (.t 7) (.c (.p (.int .i64 1))), none⟩,
        ⟨(some 7), .mov (.t 42), none⟩])))))))
    (.seq (.rg [⟨(some 43), .mov (.t 0), none⟩,
      ⟨(some 44), .lenl (.t 43), none⟩,
      ⟨(some 45), .bin .leq (.t 44) (.c (.p (.int .i64 10))), none⟩,
      ⟨(some 2), .mov (.t 45), none⟩])
    .ret)))
def r13 : List DR := [.tmp 2]
theorem c13_ok : Tryd.f13.body.bind (cCode Tryd.prog) = some c13 := by kernel_rfl
theorem r13_ok : cRes Tryd.prog Tryd.f13.results.toList = some r13 := by kernel_rfl

/-- given.example/pub-assaymark/laws.paramGood -/
def c14 : DC :=
  (.seq (.rg [⟨(some 1), .box (.t 0), none⟩,
      ⟨(some 2), .mov (.c (.p (.bool false))), none⟩])
    (.seq (.seq (.rg [⟨(some 4), .iaddra 2 1 false (.t 1) (.c (.p (.int .i64 1))), none⟩,
      ⟨(some 5), .load false 1 (.t 4), none⟩,
      ⟨(some 6), .lens (.t 5), none⟩,
      ⟨(some 7), .mov (.c (.p (.int .i64 0))), none⟩])
    (.block 0 (.loop (.seq (.rg [⟨(some 8), .bin .lss (.t 7) (.t 6), none⟩])
      (.seq (.cond (.t 8) .skip
        (.exit 0))
      (.seq (.block 1 (.seq (.rg [⟨(some 9), .mov (.t 7), none⟩,
         ⟨(some 3), .mov (.t 9), none⟩])
       (.seq (.rg [⟨(some 10), .iaddra 2 1 false (.t 1) (.c (.p (.int .i64 1))), none⟩,
         ⟨(some 11), .load false 1 (.t 10), none⟩,
         ⟨(some 12), .mov (.t 3), none⟩,
         ⟨(some 13), .idxs (.t 11) (.t 12), none⟩,
         ⟨(some 14), .bin .lss (.t 13) (.c (.p (.int .u8 32))), none⟩,
         ⟨(some 15), .mov (.t 14), none⟩,
         ⟨(some 16), .iaddra 2 1 false (.t 1) (.c (.p (.int .i64 1))), (some (15, false))⟩,
         ⟨(some 17), .load false 1 (.t 16), (some (15, false))⟩,
         ⟨(some 18), .mov (.t 3), (some (15, false))⟩,
         ⟨(some 19), .idxs (.t 17) (.t 18), (some (15, false))⟩,
         ⟨(some 20), .bin .geq (.t 19) (.c (.p (.int .u8 127))), (some (15, false))⟩,
         ⟨(some 21), .pick (.t 15) (.c (.p (.bool true))) (.t 20), none⟩])
       (.cond (.t 21) (.seq (.rg [⟨(some 2), .mov (.c (.p (.bool false))), none⟩])
         .ret)
         .skip))))
      (.rg [⟨(some 22), .bin .add (.t 7) (.c (.p (.int .i64 1))), none⟩,
        ⟨(some 7), .mov (.t 22), none⟩])))))))
    (.seq (.rg [⟨(some 23), .iaddra 2 1 false (.t 1) (.c (.p (.int .i64 0))), none⟩,
      ⟨(some 24), .load false 1 (.t 23), none⟩,
      ⟨(some 25), .bin .neq (.t 24) (.c (.p (.string ⟨#[]⟩))), none⟩,
      ⟨(some 26), .mov (.t 25), none⟩,
      ⟨(some 27), .iaddra 2 1 false (.t 1) (.c (.p (.int .i64 0))), (some (26, true))⟩,
      ⟨(some 28), .load false 1 (.t 27), (some (26, true))⟩,
      ⟨(some 29), .iaddra 2 1 false (.t 1) (.c (.p (.int .i64 1))), (some (26, true))⟩,
      ⟨(some 30), .load false 1 (.t 29), (some (26, true))⟩,
      ⟨(some 31), .lit 1 [(.t 28), (.t 30)], (some (26, true))⟩,
      ⟨(some 32), .callr 6 [(.t 31)], (some (26, true))⟩,
      ⟨(some 33), .pick (.t 26) (.t 32) (.c (.p (.bool false))), none⟩,
      ⟨(some 2), .mov (.t 33), none⟩])
    .ret)))
def r14 : List DR := [.tmp 2]
theorem c14_ok : Tryd.f14.body.bind (cCode Tryd.prog) = some c14 := by kernel_rfl
theorem r14_ok : cRes Tryd.prog Tryd.f14.results.toList = some r14 := by kernel_rfl

/-- given.example/pub-assaymark/impl.ProtoQueryWrite -/
def c15 : DC :=
  (.seq (.rg [⟨(some 2), .box (.t 0), none⟩,
      ⟨(some 4), .mov (.c (.p (.string ⟨#[]⟩))), none⟩,
      ⟨(some 5), .mov (.c (.p (.bool false))), none⟩])
    (.seq (.rgd [⟨⟨(some 9), .faddr false 0 1 (.t 2), none⟩, 0, [0]⟩,
      ⟨⟨(some 10), .load false 1 (.t 9), none⟩, 0, [0]⟩,
      ⟨⟨(some 11), .faddr false 1 1 (.t 2), none⟩, 0, [0]⟩,
      ⟨⟨(some 12), .load false 1 (.t 11), none⟩, 0, [0]⟩,
      ⟨⟨(some 13), .faddr true 6 3 (.t 2), none⟩, 0, [0]⟩,
      ⟨⟨(some 14), .load true 3 (.t 13), none⟩, 0, [0]⟩,
      ⟨⟨(some 15), .pcall 30 [(.t 14)], none⟩, 0, [0]⟩,
      ⟨⟨(some 16), .faddr false 9 1 (.t 2), none⟩, 0, [0]⟩,
      ⟨⟨(some 17), .load false 1 (.t 16), none⟩, 0, [0]⟩,
      ⟨⟨(some 18), .faddr false 2 1 (.t 2), none⟩, 0, [0]⟩,
      ⟨⟨(some 19), .load false 1 (.t 18), none⟩, 0, [0]⟩,
      ⟨⟨(some 20), .faddr false 3 1 (.t 2), none⟩, 0, [0]⟩,
      ⟨⟨(some 21), .load false 1 (.t 20), none⟩, 0, [0]⟩,
      ⟨⟨(some 22), .faddr false 10 1 (.t 2), none⟩, 0, [0]⟩,
      ⟨⟨(some 23), .load false 1 (.t 22), none⟩, 0, [0]⟩,
      ⟨⟨(some 24), .pcall 31 [(.t 23)], none⟩, 0, [0]⟩,
      ⟨⟨(some 25), .faddr false 11 1 (.t 2), none⟩, 0, [0]⟩,
      ⟨⟨(some 26), .load false 1 (.t 25), none⟩, 0, [0]⟩,
      ⟨⟨(some 27), .pcall 32 [(.t 26)], none⟩, 0, [0]⟩,
      ⟨⟨(some 28), .faddr false 12 1 (.t 2), none⟩, 0, [0]⟩,
      ⟨⟨(some 29), .load false 1 (.t 28), none⟩, 0, [0]⟩,
      ⟨⟨(some 30), .faddr false 4 1 (.t 2), none⟩, 0, [0]⟩,
      ⟨⟨(some 31), .load false 1 (.t 30), none⟩, 0, [0]⟩,
      ⟨⟨(some 32), .faddr false 5 1 (.t 2), none⟩, 0, [0]⟩,
      ⟨⟨(some 33), .load false 1 (.t 32), none⟩, 0, [0]⟩,
      ⟨⟨(some 34), .bld [.p (.string ⟨#[]⟩), .p (.string ⟨#[]⟩), .p (.int .u64 0), .p (.int .u64 0), .p (.int .u64 0), .p (.int .u64 0), .p (.int .u8 0), .p (.int .u8 0), .p (.int .u8 0), .p (.int .u8 0), .p (.int .u8 0), .p (.int .u8 0), .p (.int .u8 0), .p (.int .u8 0), .p (.int .u8 0), .p (.int .u8 0), .p (.int .u8 0), .p (.int .u8 0), .p (.int .u8 0), .p (.int .u8 0), .p (.int .u8 0), .p (.int .u8 0), .p (.int .u8 0), .p (.int .u8 0), .p (.int .u8 0), .p (.int .u8 0), .p (.int .u8 0), .p (.int .u8 0), .p (.int .u8 0), .p (.int .u8 0), .p (.int .u8 0), .p (.string ⟨#[]⟩), .p (.string ⟨#[]⟩), .p (.string ⟨#[]⟩), .p (.slice none 0 0), .p (.slice none 0 0), .p (.bool false), .p (.string ⟨#[]⟩), .p (.string ⟨#[]⟩), .p (.string ⟨#[]⟩), .p (.string ⟨#[]⟩)] [(0, 1, (.t 10)), (1, 1, (.t 12)), (2, 3, (.t 15)), (5, 1, (.t 17)), (32, 1, (.t 19)), (33, 1, (.t 21)), (34, 1, (.t 24)), (35, 1, (.t 27)), (36, 1, (.t 29)), (37, 1, (.t 31)), (38, 1, (.t 33))], none⟩, 0, []⟩,
      ⟨⟨(some 6), .alloc 41 (.agg [.p (.string ⟨#[]⟩), .p (.string ⟨#[]⟩), .p (.int .u64 0), .p (.int .u64 0), .p (.int .u64 0), .p (.int .u64 0), .p (.int .u8 0), .p (.int .u8 0), .p (.int .u8 0), .p (.int .u8 0), .p (.int .u8 0), .p (.int .u8 0), .p (.int .u8 0), .p (.int .u8 0), .p (.int .u8 0), .p (.int .u8 0), .p (.int .u8 0), .p (.int .u8 0), .p (.int .u8 0), .p (.int .u8 0), .p (.int .u8 0), .p (.int .u8 0), .p (.int .u8 0), .p (.int .u8 0), .p (.int .u8 0), .p (.int .u8 0), .p (.int .u8 0), .p (.int .u8 0), .p (.int .u8 0), .p (.int .u8 0), .p (.int .u8 0), .p (.string ⟨#[]⟩), .p (.string ⟨#[]⟩), .p (.string ⟨#[]⟩), .p (.slice none 0 0), .p (.slice none 0 0), .p (.bool false), .p (.string ⟨#[]⟩), .p (.string ⟨#[]⟩), .p (.string ⟨#[]⟩), .p (.string ⟨#[]⟩)]), none⟩, 0, [0]⟩,
      ⟨⟨none, .store 41 (.t 6) (.t 34), none⟩, 1, []⟩])
    (.seq (.rg [⟨(some 35), .faddr false 16 1 (.t 2), none⟩,
      ⟨(some 36), .load false 1 (.t 35), none⟩,
      ⟨(some 37), .faddr false 15 1 (.t 2), none⟩,
      ⟨(some 38), .load false 1 (.t 37), none⟩,
      ⟨(some 39), .bld [.p (.int .u8 0), .p (.int .u8 0), .p (.int .u8 0), .p (.int .u8 0), .p (.int .u8 0), .p (.int .u8 0), .p (.int .u8 0), .p (.int .u8 0), .p (.int .u8 0), .p (.int .u8 0), .p (.int .u8 0), .p (.int .u8 0), .p (.int .u8 0), .p (.int .u8 0), .p (.int .u8 0), .p (.int .u8 0), .p (.int .u8 0), .p (.int .u8 0), .p (.int .u8 0), .p (.int .u8 0), .p (.int .u8 0), .p (.int .u8 0), .p (.int .u8 0), .p (.int .u8 0), .p (.int .u8 0), .p (.string ⟨#[]⟩)] [(24, 1, (.t 36)), (25, 1, (.t 38))], none⟩,
      ⟨(some 40), .faddr true 6 26 (.t 6), none⟩,
      ⟨none, .store 26 (.t 40) (.t 39), none⟩])
    (.seq (.rgd [⟨⟨(some 41), .faddr true 6 26 (.t 6), none⟩, 0, [0]⟩,
      ⟨⟨(some 42), .faddr true 0 16 (.t 41), none⟩, 0, [0]⟩,
      ⟨⟨(some 43), .slca 16 1 false (.t 42) none none, none⟩, 0, [0]⟩,
      ⟨⟨(some 44), .faddr false 13 1 (.t 2), none⟩, 0, [0]⟩,
      ⟨⟨(some 45), .load false 1 (.t 44), none⟩, 0, [0]⟩,
      ⟨⟨(some 46), .cpy 1 (.t 43) (.t 45), none⟩, 0, []⟩])
    (.seq (.rgd [⟨⟨(some 47), .faddr true 6 26 (.t 6), none⟩, 0, [0]⟩,
      ⟨⟨(some 48), .faddr true 16 8 (.t 47), none⟩, 0, [0]⟩,
      ⟨⟨(some 49), .slca 8 1 false (.t 48) none none, none⟩, 0, [0]⟩,
      ⟨⟨(some 50), .faddr false 14 1 (.t 2), none⟩, 0, [0]⟩,
      ⟨⟨(some 51), .load false 1 (.t 50), none⟩, 0, [0]⟩,
      ⟨⟨(some 52), .cpy 1 (.t 49) (.t 51), none⟩, 0, []⟩])
    (.seq (.rg [⟨(some 53), .alloc 1 (.agg [.p (.slice none 0 0)]), none⟩,
      ⟨(some 7), .mov (.t 53), none⟩])
    (.seq (.rg [⟨(some 54), .mov (.t 7), none⟩,
      ⟨(some 55), .mov (.t 1), none⟩,
      ⟨(some 56), .callr 33 [(.t 6), (.t 54), (.t 55)], none⟩,
      ⟨(some 8), .mov (.t 56), none⟩])
    (.seq (.rgd [⟨⟨(some 57), .mov (.t 7), none⟩, 0, []⟩,
      ⟨⟨(some 58), .nilchk .ptr (.t 57), none⟩, 0, [0]⟩,
      ⟨⟨(some 59), .faddr false 0 1 (.t 58), none⟩, 0, [0]⟩,
      ⟨⟨(some 60), .load false 1 (.t 59), none⟩, 0, [0]⟩,
      ⟨⟨(some 61), .b2s (.t 60), none⟩, 0, [0]⟩,
      ⟨⟨(some 62), .mov (.t 8), none⟩, 0, [0]⟩,
      ⟨⟨(some 63), .eqn false .iface (.t 62), none⟩, 0, [0]⟩,
      ⟨⟨(some 4), .mov (.t 61), none⟩, 0, []⟩,
      ⟨⟨(some 5), .mov (.t 63), none⟩, 0, []⟩])
    .ret))))))))
def r15 : List DR := [.tmp 4, .tmp 5]
theorem c15_ok : Tryd.f15.body.bind (cCode Tryd.prog) = some c15 := by kernel_rfl
theorem r15_ok : cRes Tryd.prog Tryd.f15.results.toList = some r15 := by kernel_rfl

/-- given.example/pub-assaymark/spec.ProtoQueryRead -/
def c16 : DC :=
  (.seq (.rg [⟨(some 4), .alloc 17 (.agg [.p (.string ⟨#[]⟩), .p (.string ⟨#[]⟩), .p (.string ⟨#[]⟩), .p (.string ⟨#[]⟩), .p (.string ⟨#[]⟩), .p (.string ⟨#[]⟩), .p (.int .u64 0), .p (.int .u64 0), .p (.int .u64 0), .p (.int .u64 0), .p (.slice none 0 0), .p (.slice none 0 0), .p (.bool false), .p (.string ⟨#[]⟩), .p (.string ⟨#[]⟩), .p (.string ⟨#[]⟩), .p (.int .u8 0)]), none⟩,
      ⟨(some 5), .mov (.c (.p (.string ⟨#[]⟩))), none⟩,
      ⟨(some 6), .mov (.c (.p (.string ⟨#[]⟩))), none⟩,
      ⟨(some 7), .mov (.c (.p (.bool false))), none⟩])
    (.seq (.rg [⟨(some 15), .mov (.t 0), none⟩,
      ⟨(some 16), .bld [.p (.string ⟨#[]⟩), .p (.bool false)] [(0, 1, (.t 15))], none⟩,
      ⟨(some 17), .box (.t 16), none⟩,
      ⟨(some 8), .mov (.t 17), none⟩])
    (.seq (.rg [⟨(some 18), .mov (.t 8), none⟩,
      ⟨(some 19), .callr 34 [(.t 18)], none⟩,
      ⟨(some 20), .faddr false 0 1 (.t 4), none⟩,
      ⟨none, .store 1 (.t 20) (.t 19), none⟩])
    (.seq (.rg [⟨(some 21), .mov (.t 8), none⟩,
      ⟨(some 22), .callr 35 [(.t 21), (.c (.p (.int .u64 1)))], none⟩,
      ⟨(some 9), .mov (.t 22), none⟩])
    (.seq (.rg [⟨(some 23), .mov (.t 8), none⟩,
      ⟨(some 24), .callr 34 [(.t 23)], none⟩,
      ⟨(some 25), .faddr false 4 1 (.t 4), none⟩,
      ⟨none, .store 1 (.t 25) (.t 24), none⟩])
    (.seq (.rg [⟨(some 26), .mov (.t 8), none⟩,
      ⟨(some 27), .callr 34 [(.t 26)], none⟩,
      ⟨(some 10), .mov (.t 27), none⟩])
    (.seq (.rg [⟨(some 28), .mov (.t 8), none⟩,
      ⟨(some 29), .callr 34 [(.t 28)], none⟩,
      ⟨(some 30), .faddr false 5 1 (.t 4), none⟩,
      ⟨none, .store 1 (.t 30) (.t 29), none⟩])
    (.seq (.seq (.rg [⟨(some 31), .mov (.t 1), none⟩,
      ⟨(some 32), .bin .geq (.t 31) (.c (.p (.int .u64 54449))), none⟩])
    (.cond (.t 32) (.rg [⟨(some 33), .mov (.t 8), none⟩,
        ⟨(some 34), .callr 35 [(.t 33), (.c (.p (.int .u64 8)))], none⟩])
      .skip))
    (.seq (.rg [⟨(some 35), .mov (.t 8), none⟩,
      ⟨(some 36), .callr 35 [(.t 35), (.c (.p (.int .u64 1)))], none⟩,
      ⟨(some 11), .mov (.t 36), none⟩])
    (.seq (.rg [⟨(some 37), .mov (.t 8), none⟩,
      ⟨(some 38), .callr 34 [(.t 37)], none⟩])
    (.seq (.rg [⟨(some 39), .mov (.t 8), none⟩,
      ⟨(some 40), .callr 34 [(.t 39)], none⟩])
    (.seq (.rg [⟨(some 41), .mov (.t 8), none⟩,
      ⟨(some 42), .callr 34 [(.t 41)], none⟩,
      ⟨(some 43), .faddr false 1 1 (.t 4), none⟩,
      ⟨none, .store 1 (.t 43) (.t 42), none⟩])
    (.seq (.rg [⟨(some 44), .mov (.t 8), none⟩,
      ⟨(some 45), .callr 36 [(.t 44)], none⟩,
      ⟨(some 46), .mov (.t 8), none⟩,
      ⟨(some 47), .callr 36 [(.t 46)], none⟩,
      ⟨(some 48), .bld [.p (.int .u64 0), .p (.int .u64 0), .p (.int .u64 0)] [(0, 1, (.t 45)), (1, 1, (.t 47))], none⟩,
      ⟨(some 49), .faddr true 6 3 (.t 4), none⟩,
      ⟨none, .store 3 (.t 49) (.t 48), none⟩])
    (.seq (.rg [⟨(some 50), .mov (.t 8), none⟩,
      ⟨(some 51), .callr 36 [(.t 50)], none⟩,
      ⟨(some 52), .faddr false 9 1 (.t 4), none⟩,
      ⟨none, .store 1 (.t 52) (.t 51), none⟩])
    (.seq (.seq (.rg [⟨(some 53), .mov (.t 1), none⟩,
      ⟨(some 54), .bin .geq (.t 53) (.c (.p (.int .u64 54060))), none⟩])
    (.cond (.t 54) (.rg [⟨(some 55), .mov (.t 8), none⟩,
        ⟨(some 56), .callr 34 [(.t 55)], none⟩,
        ⟨(some 57), .faddr false 3 1 (.t 4), none⟩,
        ⟨none, .store 1 (.t 57) (.t 56), none⟩])
      .skip))
    (.seq (.seq (.rg [⟨(some 58), .mov (.t 1), none⟩,
      ⟨(some 59), .bin .geq (.t 58) (.c (.p (.int .u64 54448))), none⟩])
    (.cond (.t 59) (.rg [⟨(some 60), .mov (.t 8), none⟩,
        ⟨(some 61), .callr 36 [(.t 60)], none⟩])
      .skip))
    (.seq (.seq (.rg [⟨(some 62), .mov (.t 1), none⟩,
      ⟨(some 63), .bin .geq (.t 62) (.c (.p (.int .u64 54401))), none⟩])
    (.cond (.t 63) (.rg [⟨(some 64), .mov (.t 8), none⟩,
        ⟨(some 65), .callr 36 [(.t 64)], none⟩,
        ⟨(some 66), .faddr true 6 3 (.t 4), none⟩,
        ⟨(some 67), .faddr false 2 1 (.t 66), none⟩,
        ⟨none, .store 1 (.t 67) (.t 65), none⟩])
      .skip))
    (.seq (.seq (.rg [⟨(some 68), .mov (.t 1), none⟩,
      ⟨(some 69), .bin .geq (.t 68) (.c (.p (.int .u64 54442))), none⟩,
      ⟨(some 70), .mov (.t 69), none⟩,
      ⟨(some 71), .mov (.t 8), (some (70, true))⟩,
      ⟨(some 72), .callr 35 [(.t 71), (.c (.p (.int .u64 1)))], (some (70, true))⟩,
      ⟨(some 73), .bin .eql (.t 72) (.c (.p (.int .u64 1))), (some (70, true))⟩,
      ⟨(some 74), .pick (.t 70) (.t 73) (.c (.p (.bool false))), none⟩])
    (.cond (.t 74) (.seq (.rg [⟨(some 75), .mov (.t 8), none⟩,
        ⟨(some 76), .callr 37 [(.t 75), (.c (.p (.int .u64 8)))], none⟩,
        ⟨(some 77), .mov (.t 8), none⟩,
        ⟨(some 78), .callr 37 [(.t 77), (.c (.p (.int .u64 8)))], none⟩,
        ⟨(some 12), .mov (.t 76), none⟩,
        ⟨(some 13), .mov (.t 78), none⟩])
      (.seq (.rg [⟨(some 79), .mov (.t 12), none⟩,
        ⟨(some 80), .callr 38 [(.t 79)], none⟩,
        ⟨(some 81), .mov (.t 13), none⟩,
        ⟨(some 82), .callr 38 [(.t 81)], none⟩,
        ⟨(some 83), .bin .add (.t 80) (.t 82), none⟩,
        ⟨(some 84), .faddr false 13 1 (.t 4), none⟩,
        ⟨none, .store 1 (.t 84) (.t 83), none⟩])
      (.seq (.rg [⟨(some 85), .mov (.t 8), none⟩,
        ⟨(some 86), .callr 37 [(.t 85), (.c (.p (.int .u64 8)))], none⟩,
        ⟨(some 87), .callr 38 [(.t 86)], none⟩,
        ⟨(some 88), .faddr false 14 1 (.t 4), none⟩,
        ⟨none, .store 1 (.t 88) (.t 87), none⟩])
      (.seq (.rg [⟨(some 89), .mov (.t 8), none⟩,
        ⟨(some 90), .callr 34 [(.t 89)], none⟩,
        ⟨(some 91), .faddr false 15 1 (.t 4), none⟩,
        ⟨none, .store 1 (.t 91) (.t 90), none⟩])
      (.rg [⟨(some 92), .mov (.t 8), none⟩,
        ⟨(some 93), .callr 35 [(.t 92), (.c (.p (.int .u64 1)))], none⟩,
        ⟨(some 94), .cint .u8 (.t 93), none⟩,
        ⟨(some 95), .faddr false 16 1 (.t 4), none⟩,
        ⟨none, .store 1 (.t 95) (.t 94), none⟩])))))
      .skip))
    (.seq (.seq (.rg [⟨(some 96), .mov (.t 1), none⟩,
      ⟨(some 97), .bin .geq (.t 96) (.c (.p (.int .u64 54453))), none⟩])
    (.cond (.t 97) (.seq (.rg [⟨(some 98), .mov (.t 8), none⟩,
        ⟨(some 99), .callr 36 [(.t 98)], none⟩])
      (.seq (.rg [⟨(some 100), .mov (.t 8), none⟩,
        ⟨(some 101), .callr 36 [(.t 100)], none⟩])
      (.rg [⟨(some 102), .mov (.t 8), none⟩,
        ⟨(some 103), .callr 36 [(.t 102)], none⟩])))
      .skip))
    (.seq (.rg [⟨(some 104), .mov (.t 8), none⟩,
      ⟨(some 105), .callr 39 [(.t 104), (.c (.p (.bool true)))], none⟩,
      ⟨(some 5), .mov (.t 105), none⟩])
    (.seq (.seq (.rg [⟨(some 106), .mov (.t 1), none⟩,
      ⟨(some 107), .bin .geq (.t 106) (.c (.p (.int .u64 54441))), none⟩])
    (.cond (.t 107) (.rg [⟨(some 108), .mov (.t 8), none⟩,
        ⟨(some 109), .callr 34 [(.t 108)], none⟩])
      .skip))
    (.seq (.rg [⟨(some 110), .mov (.t 8), none⟩,
      ⟨(some 111), .callr 35 [(.t 110), (.c (.p (.int .u64 1)))], none⟩,
      ⟨(some 14), .mov (.t 111), none⟩])
    (.seq (.rg [⟨(some 112), .mov (.t 8), none⟩,
      ⟨(some 113), .callr 35 [(.t 112), (.c (.p (.int .u64 1)))], none⟩,
      ⟨(some 114), .bin .eql (.t 113) (.c (.p (.int .u64 1))), none⟩,
      ⟨(some 115), .faddr false 12 1 (.t 4), none⟩,
      ⟨none, .store 1 (.t 115) (.t 114), none⟩])
    (.seq (.rg [⟨(some 116), .mov (.t 8), none⟩,
      ⟨(some 117), .callr 34 [(.t 116)], none⟩,
      ⟨(some 118), .faddr false 2 1 (.t 4), none⟩,
      ⟨none, .store 1 (.t 118) (.t 117), none⟩])
    (.seq (.seq (.rg [⟨(some 119), .mov (.t 1), none⟩,
      ⟨(some 120), .bin .geq (.t 119) (.c (.p (.int .u64 54459))), none⟩])
    (.cond (.t 120) (.rg [⟨(some 121), .mov (.t 8), none⟩,
        ⟨(some 122), .callr 39 [(.t 121), (.c (.p (.bool true)))], none⟩,
        ⟨(some 6), .mov (.t 122), none⟩])
      .skip))
    (.seq (.rgd [⟨⟨(some 123), .load true 17 (.t 4), none⟩, 0, [0]⟩,
      ⟨⟨(some 124), .mov (.t 5), none⟩, 0, [0]⟩,
      ⟨⟨(some 125), .mov (.t 6), none⟩, 0, [0]⟩,
      ⟨⟨(some 126), .mov (.t 8), none⟩, 0, [0]⟩,
      ⟨⟨(some 127), .nilchk .ptr (.t 126), none⟩, 0, [0]⟩,
      ⟨⟨(some 128), .faddr false 1 1 (.t 127), none⟩, 0, [0]⟩,
      ⟨⟨(some 129), .load false 1 (.t 128), none⟩, 0, [0]⟩,
      ⟨⟨(some 130), .un .not (.t 129), none⟩, 0, [0]⟩,
      ⟨⟨(some 131), .mov (.t 130), none⟩, 0, [0]⟩,
      ⟨⟨(some 132), .mov (.t 8), (some (131, true))⟩, 0, [0]⟩,
      ⟨⟨(some 133), .nilchk .ptr (.t 132), (some (131, true))⟩, 0, [0]⟩,
      ⟨⟨(some 134), .faddr false 0 1 (.t 133), (some (131, true))⟩, 0, [0]⟩,
      ⟨⟨(some 135), .load false 1 (.t 134), (some (131, true))⟩, 0, [0]⟩,
      ⟨⟨(some 136), .bin .eql (.t 135) (.c (.p (.string ⟨#[]⟩))), (some (131, true))⟩, 0, [0]⟩,
      ⟨⟨(some 137), .pick (.t 131) (.t 136) (.c (.p (.bool false))), none⟩, 0, [0]⟩,
      ⟨⟨(some 138), .mov (.t 137), none⟩, 0, [0]⟩,
      ⟨⟨(some 139), .mov (.t 9), (some (138, true))⟩, 0, [0]⟩,
      ⟨⟨(some 140), .bin .eql (.t 139) (.c (.p (.int .u64 1))), (some (138, true))⟩, 0, [0]⟩,
      ⟨⟨(some 141), .pick (.t 138) (.t 140) (.c (.p (.bool false))), none⟩, 0, [0]⟩,
      ⟨⟨(some 142), .mov (.t 141), none⟩, 0, [0]⟩,
      ⟨⟨(some 143), .mov (.t 10), (some (142, true))⟩, 0, [0]⟩,
      ⟨⟨(some 144), .bin .eql (.t 143) (.c (.p (.string ⟨#[]⟩))), (some (142, true))⟩, 0, [0]⟩,
      ⟨⟨(some 145), .pick (.t 142) (.t 144) (.c (.p (.bool false))), none⟩, 0, [0]⟩,
      ⟨⟨(some 146), .mov (.t 145), none⟩, 0, [0]⟩,
      ⟨⟨(some 147), .mov (.t 11), (some (146, true))⟩, 0, [0]⟩,
      ⟨⟨(some 148), .bin .eql (.t 147) (.c (.p (.int .u64 1))), (some (146, true))⟩, 0, [0]⟩,
      ⟨⟨(some 149), .pick (.t 146) (.t 148) (.c (.p (.bool false))), none⟩, 0, [0]⟩,
      ⟨⟨(some 150), .mov (.t 149), none⟩, 0, [0]⟩,
      ⟨⟨(some 151), .mov (.t 14), (some (150, true))⟩, 0, [0]⟩,
      ⟨⟨(some 152), .bin .eql (.t 151) (.c (.p (.int .u64 2))), (some (150, true))⟩, 0, [0]⟩,
      ⟨⟨(some 153), .pick (.t 150) (.t 152) (.c (.p (.bool false))), none⟩, 0, [0]⟩,
      ⟨⟨none, .store 17 (.t 4) (.t 123), none⟩, 0, []⟩,
      ⟨⟨(some 5), .mov (.t 124), none⟩, 1, []⟩,
      ⟨⟨(some 6), .mov (.t 125), none⟩, 1, []⟩,
      ⟨⟨(some 7), .mov (.t 153), none⟩, 1, []⟩])
    .ret))))))))))))))))))))))))))
def r16 : List DR := [.cell 4 true 17, .tmp 5, .tmp 6, .tmp 7]
theorem c16_ok : Tryd.f16.body.bind (cCode Tryd.prog) = some c16 := by kernel_rfl
theorem r16_ok : cRes Tryd.prog Tryd.f16.results.toList = some r16 := by kernel_rfl

/-- given.example/pub-assaymark/spec.ProtoSettingsTell -/
def c17 : DC :=
  (.seq (.rg [⟨(some 2), .mov (.c (.p (.string ⟨#[]⟩))), none⟩])
    (.seq (.rg [⟨(some 3), .mov (.c (.p (.string ⟨#[]⟩))), none⟩])
    (.seq (.seq (.rg [⟨(some 7), .mov (.t 0), none⟩,
      ⟨(some 8), .lenl (.t 7), none⟩,
      ⟨(some 9), .mov (.c (.p (.int .i64 0))), none⟩])
    (.block 0 (.loop (.seq (.rg [⟨(some 10), .bin .lss (.t 9) (.t 8), none⟩])
      (.seq (.cond (.t 10) .skip
        (.exit 0))
      (.seq (.block 1 (.seq (.rg [⟨(some 11), .iaddr 6 (.t 7) (.t 9), none⟩,
         ⟨(some 12), .load true 6 (.t 11), none⟩,
         ⟨(some 5), .alloc 6 (.agg [.p (.string ⟨#[]⟩), .p (.int .i64 0), .p (.string ⟨#[]⟩), .p (.int .i64 0), .p (.bool false), .p (.bool false)]), none⟩,
         ⟨none, .store 6 (.t 5) (.t 12), none⟩])
       (.seq (.rg [⟨(some 6), .mov (.c (.p (.int .u64 0))), none⟩])
       (.seq (.seq (.rg [⟨(some 13), .faddr false 4 1 (.t 5), none⟩,
         ⟨(some 14), .load false 1 (.t 13), none⟩])
       (.cond (.t 14) (.rg [⟨(some 15), .mov (.t 6), none⟩,
           ⟨(some 16), .bin .or (.t 15) (.c (.p (.int .u64 1))), none⟩,
           ⟨(some 6), .mov (.t 16), none⟩])
         .skip))
       (.seq (.seq (.rg [⟨(some 17), .faddr false 5 1 (.t 5), none⟩,
         ⟨(some 18), .load false 1 (.t 17), none⟩])
       (.cond (.t 18) (.rg [⟨(some 19), .mov (.t 6), none⟩,
           ⟨(some 20), .bin .or (.t 19) (.c (.p (.int .u64 2))), none⟩,
           ⟨(some 6), .mov (.t 20), none⟩])
         .skip))
       (.rgd [⟨⟨(some 21), .mov (.t 3), none⟩, 0, [0]⟩,
         ⟨⟨(some 22), .faddr false 0 1 (.t 5), none⟩, 0, [0]⟩,
         ⟨⟨(some 23), .load false 1 (.t 22), none⟩, 0, [0]⟩,
         ⟨⟨(some 24), .call 22 [(.t 23)], none⟩, 0, [0]⟩,
         ⟨⟨(some 25), .mov (.t 6), none⟩, 0, [0]⟩,
         ⟨⟨(some 26), .call 40 [(.t 25)], none⟩, 1, [0]⟩,
         ⟨⟨(some 27), .bin .add (.t 24) (.t 26), none⟩, 2, [0]⟩,
         ⟨⟨(some 28), .load true 6 (.t 5), none⟩, 0, [0]⟩,
         ⟨⟨(some 29), .call 41 [(.t 28)], none⟩, 2, []⟩,
         ⟨⟨(some 30), .call 22 [(.t 29)], none⟩, 3, []⟩,
         ⟨⟨(some 31), .bin .add (.t 27) (.t 30), none⟩, 4, []⟩,
         ⟨⟨(some 32), .bin .add (.t 21) (.t 31), none⟩, 4, []⟩,
         ⟨⟨(some 3), .mov (.t 32), none⟩, 4, []⟩]))))))
      (.rg [⟨(some 33), .bin .add (.t 9) (.c (.p (.int .i64 1))), none⟩,
        ⟨(some 9), .mov (.t 33), none⟩])))))))
    (.seq (.rg [⟨(some 34), .mov (.t 3), none⟩,
      ⟨(some 2), .mov (.t 34), none⟩])
    .ret))))
def r17 : List DR := [.tmp 2]
theorem c17_ok : Tryd.f17.body.bind (cCode Tryd.prog) = some c17 := by kernel_rfl
theorem r17_ok : cRes Tryd.prog Tryd.f17.results.toList = some r17 := by kernel_rfl

/-- given.example/pub-assaymark/spec.ProtoParamsTell -/
def c18 : DC :=
  (.seq (.rg [⟨(some 2), .mov (.c (.p (.string ⟨#[]⟩))), none⟩])
    (.seq (.rg [⟨(some 3), .mov (.c (.p (.string ⟨#[]⟩))), none⟩])
    (.seq (.seq (.rg [⟨(some 6), .mov (.t 0), none⟩,
      ⟨(some 7), .lenl (.t 6), none⟩,
      ⟨(some 8), .mov (.c (.p (.int .i64 0))), none⟩])
    (.block 0 (.loop (.seq (.rg [⟨(some 9), .bin .lss (.t 8) (.t 7), none⟩])
      (.seq (.cond (.t 9) .skip
        (.exit 0))
      (.seq (.block 1 (.seq (.rg [⟨(some 10), .iaddr 2 (.t 6) (.t 8), none⟩,
         ⟨(some 11), .load true 2 (.t 10), none⟩,
         ⟨(some 5), .alloc 2 (.agg [.p (.string ⟨#[]⟩), .p (.string ⟨#[]⟩)]), none⟩,
         ⟨none, .store 2 (.t 5) (.t 11), none⟩])
       (.rgd [⟨⟨(some 12), .mov (.t 3), none⟩, 0, [0]⟩,
         ⟨⟨(some 13), .iaddra 2 1 false (.t 5) (.c (.p (.int .i64 0))), none⟩, 0, [0]⟩,
         ⟨⟨(some 14), .load false 1 (.t 13), none⟩, 0, [0]⟩,
         ⟨⟨(some 15), .call 22 [(.t 14)], none⟩, 0, [0]⟩,
         ⟨⟨(some 16), .call 40 [(.c (.p (.int .u64 2)))], none⟩, 1, [0]⟩,
         ⟨⟨(some 17), .bin .add (.t 15) (.t 16), none⟩, 2, [0]⟩,
         ⟨⟨(some 18), .iaddra 2 1 false (.t 5) (.c (.p (.int .i64 1))), none⟩, 0, [0]⟩,
         ⟨⟨(some 19), .load false 1 (.t 18), none⟩, 0, [0]⟩,
         ⟨⟨(some 20), .call 42 [(.t 19)], none⟩, 2, []⟩,
         ⟨⟨(some 21), .call 22 [(.t 20)], none⟩, 3, []⟩,
         ⟨⟨(some 22), .bin .add (.t 17) (.t 21), none⟩, 4, []⟩,
         ⟨⟨(some 23), .bin .add (.t 12) (.t 22), none⟩, 4, []⟩,
         ⟨⟨(some 3), .mov (.t 23), none⟩, 4, []⟩])))
      (.rg [⟨(some 24), .bin .add (.t 8) (.c (.p (.int .i64 1))), none⟩,
        ⟨(some 8), .mov (.t 24), none⟩])))))))
    (.seq (.rg [⟨(some 25), .mov (.t 3), none⟩,
      ⟨(some 2), .mov (.t 25), none⟩])
    .ret))))
def r18 : List DR := [.tmp 2]
theorem c18_ok : Tryd.f18.body.bind (cCode Tryd.prog) = some c18 := by kernel_rfl
theorem r18_ok : cRes Tryd.prog Tryd.f18.results.toList = some r18 := by kernel_rfl

/-- given.example/pub-assaymark/impl.ProtoVersionText -/
def c19 : DC :=
  (.seq (.rg [⟨(some 1), .box (.t 0), none⟩,
      ⟨(some 2), .mov (.c (.p (.string ⟨#[]⟩))), none⟩])
    (.seq (.rg [⟨(some 3), .load true 3 (.t 1), none⟩,
      ⟨(some 4), .callr 30 [(.t 3)], none⟩,
      ⟨(some 5), .callr 43 [(.t 4)], none⟩,
      ⟨(some 2), .mov (.t 5), none⟩])
    .ret))
def r19 : List DR := [.tmp 2]
theorem c19_ok : Tryd.f19.body.bind (cCode Tryd.prog) = some c19 := by kernel_rfl
theorem r19_ok : cRes Tryd.prog Tryd.f19.results.toList = some r19 := by kernel_rfl

/-- given.example/pub-assaymark/spec.Long -/
def c22 : DC :=
  (.seq (.rg [⟨(some 2), .mov (.c (.p (.string ⟨#[]⟩))), none⟩])
    (.seq (.rg [⟨(some 3), .mov (.t 0), none⟩,
      ⟨(some 4), .lens (.t 3), none⟩,
      ⟨(some 5), .cint .u64 (.t 4), none⟩,
      ⟨(some 6), .callr 40 [(.t 5)], none⟩,
      ⟨(some 7), .mov (.t 0), none⟩,
      ⟨(some 8), .bin .add (.t 6) (.t 7), none⟩,
      ⟨(some 2), .mov (.t 8), none⟩])
    .ret))
def r22 : List DR := [.tmp 2]
theorem c22_ok : Tryd.f22.body.bind (cCode Tryd.prog) = some c22 := by kernel_rfl
theorem r22_ok : cRes Tryd.prog Tryd.f22.results.toList = some r22 := by kernel_rfl

/-- given.example/pub-assaymark/laws.zzFits24 -/
def c28 : DC :=
  (.seq (.rg [⟨(some 2), .mov (.c (.p (.bool false))), none⟩])
    (.seq (.seq (.rg [⟨(some 5), .mov (.t 0), none⟩,
      ⟨(some 6), .lenl (.t 5), none⟩,
      ⟨(some 7), .bin .gtr (.t 6) (.c (.p (.int .i64 2147483647))), none⟩])
    (.cond (.t 7) (.seq (.rg [⟨(some 2), .mov (.c (.p (.bool false))), none⟩])
      .ret)
      .skip))
    (.seq (.seq (.rg [⟨(some 8), .mov (.t 0), none⟩,
      ⟨(some 9), .lenl (.t 8), none⟩,
      ⟨(some 10), .mov (.c (.p (.int .i64 0))), none⟩])
    (.block 0 (.loop (.seq (.rg [⟨(some 11), .bin .lss (.t 10) (.t 9), none⟩])
      (.seq (.cond (.t 11) .skip
        (.exit 0))
      (.seq (.block 1 (.seq (.rg [⟨(some 12), .iaddr 6 (.t 8) (.t 10), none⟩,
         ⟨(some 13), .load true 6 (.t 12), none⟩,
         ⟨(some 4), .alloc 6 (.agg [.p (.string ⟨#[]⟩), .p (.int .i64 0), .p (.string ⟨#[]⟩), .p (.int .i64 0), .p (.bool false), .p (.bool false)]), none⟩,
         ⟨none, .store 6 (.t 4) (.t 13), none⟩])
       (.seq (.rg [⟨(some 14), .load true 6 (.t 4), none⟩,
         ⟨(some 15), .callr 47 [(.t 14)], none⟩,
         ⟨(some 16), .un .not (.t 15), none⟩])
       (.cond (.t 16) (.seq (.rg [⟨(some 2), .mov (.c (.p (.bool false))), none⟩])
         .ret)
         .skip))))
      (.rg [⟨(some 17), .bin .add (.t 10) (.c (.p (.int .i64 1))), none⟩,
        ⟨(some 10), .mov (.t 17), none⟩])))))))
    (.seq (.rg [⟨(some 2), .mov (.c (.p (.bool true))), none⟩])
    .ret))))
def r28 : List DR := [.tmp 2]
theorem c28_ok : Tryd.f28.body.bind (cCode Tryd.prog) = some c28 := by kernel_rfl
theorem r28_ok : cRes Tryd.prog Tryd.f28.results.toList = some r28 := by kernel_rfl

/-- given.example/pub-assaymark/laws.zzFits26 -/
def c29 : DC :=
  (.seq (.rg [⟨(some 2), .mov (.c (.p (.bool false))), none⟩])
    (.seq (.seq (.rg [⟨(some 5), .mov (.t 0), none⟩,
      ⟨(some 6), .lenl (.t 5), none⟩,
      ⟨(some 7), .bin .gtr (.t 6) (.c (.p (.int .i64 2147483647))), none⟩])
    (.cond (.t 7) (.seq (.rg [⟨(some 2), .mov (.c (.p (.bool false))), none⟩])
      .ret)
      .skip))
    (.seq (.seq (.rg [⟨(some 8), .mov (.t 0), none⟩,
      ⟨(some 9), .lenl (.t 8), none⟩,
      ⟨(some 10), .mov (.c (.p (.int .i64 0))), none⟩])
    (.block 0 (.loop (.seq (.rg [⟨(some 11), .bin .lss (.t 10) (.t 9), none⟩])
      (.seq (.cond (.t 11) .skip
        (.exit 0))
      (.seq (.block 1 (.seq (.rg [⟨(some 12), .iaddr 2 (.t 8) (.t 10), none⟩,
         ⟨(some 13), .load true 2 (.t 12), none⟩,
         ⟨(some 4), .alloc 2 (.agg [.p (.string ⟨#[]⟩), .p (.string ⟨#[]⟩)]), none⟩,
         ⟨none, .store 2 (.t 4) (.t 13), none⟩])
       (.seq (.rg [⟨(some 14), .load true 2 (.t 4), none⟩,
         ⟨(some 15), .callr 48 [(.t 14)], none⟩,
         ⟨(some 16), .un .not (.t 15), none⟩])
       (.cond (.t 16) (.seq (.rg [⟨(some 2), .mov (.c (.p (.bool false))), none⟩])
         .ret)
         .skip))))
      (.rg [⟨(some 17), .bin .add (.t 10) (.c (.p (.int .i64 1))), none⟩,
        ⟨(some 10), .mov (.t 17), none⟩])))))))
    (.seq (.rg [⟨(some 2), .mov (.c (.p (.bool true))), none⟩])
    .ret))))
def r29 : List DR := [.tmp 2]
theorem c29_ok : Tryd.f29.body.bind (cCode Tryd.prog) = some c29 := by kernel_rfl
theorem r29_ok : cRes Tryd.prog Tryd.f29.results.toList = some r29 := by kernel_rfl

/-- given.example/pub-assaymark/impl.protoVersion -/
def c30 : DC :=
  (.seq (.rg [⟨(some 1), .box (.t 0), none⟩,
      ⟨(some 2), .alloc 3 (.agg [.p (.int .u64 0), .p (.int .u64 0), .p (.int .u64 0)]), none⟩])
    (.seq (.rg [⟨(some 3), .faddr false 0 1 (.t 1), none⟩,
      ⟨(some 4), .load false 1 (.t 3), none⟩,
      ⟨(some 5), .faddr false 1 1 (.t 1), none⟩,
      ⟨(some 6), .load false 1 (.t 5), none⟩,
      ⟨(some 7), .faddr false 2 1 (.t 1), none⟩,
      ⟨(some 8), .load false 1 (.t 7), none⟩,
      ⟨(some 9), .bld [.p (.int .u64 0), .p (.int .u64 0), .p (.int .u64 0)] [(0, 1, (.t 4)), (1, 1, (.t 6)), (2, 1, (.t 8))], none⟩,
      ⟨none, .store 3 (.t 2) (.t 9), none⟩])
    .ret))
def r30 : List DR := [.cell 2 true 3]
theorem c30_ok : Tryd.f30.body.bind (cCode Tryd.prog) = some c30 := by kernel_rfl
theorem r30_ok : cRes Tryd.prog Tryd.f30.results.toList = some r30 := by kernel_rfl

/-- given.example/pub-assaymark/impl.protoSettings -/
def c31 : DC :=
  (.seq (.rg [⟨(some 2), .mov (.c (.p (.slice none 0 0))), none⟩])
    (.seq (.seq (.rg [⟨(some 6), .mov (.t 0), none⟩,
      ⟨(some 7), .lenl (.t 6), none⟩,
      ⟨(some 8), .mov (.c (.p (.int .i64 0))), none⟩])
    (.block 0 (.loop (.seq (.rg [⟨(some 9), .bin .lss (.t 8) (.t 7), none⟩])
      (.seq (.cond (.t 9) .skip
        (.exit 0))
      (.seq (.block 1 (.seq (.rg [⟨(some 10), .iaddr 6 (.t 6) (.t 8), none⟩,
         ⟨(some 11), .load true 6 (.t 10), none⟩,
         ⟨(some 4), .alloc 6 (.agg [.p (.string ⟨#[]⟩), .p (.int .i64 0), .p (.string ⟨#[]⟩), .p (.int .i64 0), .p (.bool false), .p (.bool false)]), none⟩,
         ⟨none, .store 6 (.t 4) (.t 11), none⟩])
       (.seq (.rg [⟨(some 12), .faddr false 0 1 (.t 4), none⟩,
         ⟨(some 13), .load false 1 (.t 12), none⟩,
         ⟨(some 14), .faddr false 4 1 (.t 4), none⟩,
         ⟨(some 15), .load false 1 (.t 14), none⟩,
         ⟨(some 16), .faddr false 5 1 (.t 4), none⟩,
         ⟨(some 17), .load false 1 (.t 16), none⟩,
         ⟨(some 18), .bld [.p (.string ⟨#[]⟩), .p .nilIface, .p (.bool false), .p (.bool false)] [(0, 1, (.t 13)), (2, 1, (.t 15)), (3, 1, (.t 17))], none⟩,
         ⟨(some 5), .alloc 4 (.agg [.p (.string ⟨#[]⟩), .p .nilIface, .p (.bool false), .p (.bool false)]), none⟩,
         ⟨none, .store 4 (.t 5) (.t 18), none⟩])
       (.seq (.seq (.rg [⟨(some 19), .faddr false 1 1 (.t 4), none⟩,
         ⟨(some 20), .load false 1 (.t 19), none⟩])
       (.block 2 (.seq (.rg [⟨(some 22), .bin .eql (.t 20) (.c (.p (.int .i64 0))), none⟩,
          ⟨(some 21), .mov (.t 22), none⟩])
        (.cond (.t 21) (.rg [⟨(some 23), .faddr false 2 1 (.t 4), none⟩,
            ⟨(some 24), .load false 1 (.t 23), none⟩,
            ⟨(some 25), .ifc 9 (.t 24), none⟩,
            ⟨(some 26), .faddr false 1 1 (.t 5), none⟩,
            ⟨none, .store 1 (.t 26) (.t 25), none⟩])
          (.seq (.rg [⟨(some 28), .bin .eql (.t 20) (.c (.p (.int .i64 1))), none⟩,
            ⟨(some 27), .mov (.t 28), none⟩])
          (.cond (.t 27) (.rg [⟨(some 29), .faddr false 3 1 (.t 4), none⟩,
              ⟨(some 30), .load false 1 (.t 29), none⟩,
              ⟨(some 31), .ifc 3 (.t 30), none⟩,
              ⟨(some 32), .faddr false 1 1 (.t 5), none⟩,
              ⟨none, .store 1 (.t 32) (.t 31), none⟩])
            (.seq (.rg [⟨(some 34), .bin .eql (.t 20) (.c (.p (.int .i64 2))), none⟩,
              ⟨(some 33), .mov (.t 34), none⟩])
            (.cond (.t 33) (.rg [⟨(some 35), .faddr false 3 1 (.t 4), none⟩,
                ⟨(some 36), .load false 1 (.t 35), none⟩,
                ⟨(some 37), .bin .eql (.t 36) (.c (.p (.int .i64 1))), none⟩,
                ⟨(some 38), .ifc 4 (.t 37), none⟩,
                ⟨(some 39), .faddr false 1 1 (.t 5), none⟩,
                ⟨none, .store 1 (.t 39) (.t 38), none⟩])
              .skip))))))))
       (.rg [⟨(some 40), .mov (.t 2), none⟩,
         ⟨(some 41), .load true 4 (.t 5), none⟩,
         ⟨(some 42), .lit 4 [(.t 41)], none⟩,
         ⟨(some 43), .app 4 40 (.t 40) (.t 42), none⟩,
         ⟨(some 2), .mov (.t 43), none⟩])))))
      (.rg [⟨(some 44), .bin .add (.t 8) (.c (.p (.int .i64 1))), none⟩,
        ⟨(some 8), .mov (.t 44), none⟩])))))))
    (.seq (.rg [⟨(some 45), .mov (.t 2), none⟩,
      ⟨(some 2), .mov (.t 45), none⟩])
    .ret)))
def r31 : List DR := [.tmp 2]
theorem c31_ok : Tryd.f31.body.bind (cCode Tryd.prog) = some c31 := by kernel_rfl
theorem r31_ok : cRes Tryd.prog Tryd.f31.results.toList = some r31 := by kernel_rfl

/-- given.example/pub-assaymark/impl.protoParams -/
def c32 : DC :=
  (.seq (.rg [⟨(some 2), .mov (.c (.p (.slice none 0 0))), none⟩])
    (.seq (.seq (.rg [⟨(some 5), .mov (.t 0), none⟩,
      ⟨(some 6), .lenl (.t 5), none⟩,
      ⟨(some 7), .mov (.c (.p (.int .i64 0))), none⟩])
    (.block 0 (.loop (.seq (.rg [⟨(some 8), .bin .lss (.t 7) (.t 6), none⟩])
      (.seq (.cond (.t 8) .skip
        (.exit 0))
      (.seq (.block 1 (.seq (.rg [⟨(some 9), .iaddr 2 (.t 5) (.t 7), none⟩,
         ⟨(some 10), .load true 2 (.t 9), none⟩,
         ⟨(some 4), .alloc 2 (.agg [.p (.string ⟨#[]⟩), .p (.string ⟨#[]⟩)]), none⟩,
         ⟨none, .store 2 (.t 4) (.t 10), none⟩])
       (.rg [⟨(some 11), .mov (.t 2), none⟩,
         ⟨(some 12), .iaddra 2 1 false (.t 4) (.c (.p (.int .i64 0))), none⟩,
         ⟨(some 13), .load false 1 (.t 12), none⟩,
         ⟨(some 14), .iaddra 2 1 false (.t 4) (.c (.p (.int .i64 1))), none⟩,
         ⟨(some 15), .load false 1 (.t 14), none⟩,
         ⟨(some 16), .bld [.p (.string ⟨#[]⟩), .p (.string ⟨#[]⟩)] [(0, 1, (.t 13)), (1, 1, (.t 15))], none⟩,
         ⟨(some 17), .lit 2 [(.t 16)], none⟩,
         ⟨(some 18), .app 2 32 (.t 11) (.t 17), none⟩,
         ⟨(some 2), .mov (.t 18), none⟩])))
      (.rg [⟨(some 19), .bin .add (.t 7) (.c (.p (.int .i64 1))), none⟩,
        ⟨(some 7), .mov (.t 19), none⟩])))))))
    (.seq (.rg [⟨(some 20), .mov (.t 2), none⟩,
      ⟨(some 2), .mov (.t 20), none⟩])
    .ret)))
def r32 : List DR := [.tmp 2]
theorem c32_ok : Tryd.f32.body.bind (cCode Tryd.prog) = some c32 := by kernel_rfl
theorem r32_ok : cRes Tryd.prog Tryd.f32.results.toList = some r32 := by kernel_rfl

/-- (*given.example/pub-assaymark/pub/clickhousego/lib/proto.Query).Encode -/
def c33 : DC :=
  (.seq (.rg [⟨(some 6), .mov (.c (.p .nilIface)), none⟩])
    (.seq (.rg [⟨(some 10), .mov (.t 1), none⟩,
      ⟨(some 11), .mov (.t 0), none⟩,
      ⟨(some 12), .nilchk .ptr (.t 11), none⟩,
      ⟨(some 13), .faddr false 0 1 (.t 12), none⟩,
      ⟨(some 14), .load false 1 (.t 13), none⟩,
      ⟨(some 15), .callr 49 [(.t 10), (.t 14)], none⟩])
    (.seq (.seq (.rg [⟨(some 16), .mov (.t 0), none⟩,
      ⟨(some 17), .mov (.t 1), none⟩,
      ⟨(some 18), .mov (.t 2), none⟩,
      ⟨(some 19), .callr 50 [(.t 16), (.t 17), (.t 18)], none⟩,
      ⟨(some 7), .mov (.t 19), none⟩])
    (.seq (.rg [⟨(some 20), .mov (.t 7), none⟩,
      ⟨(some 21), .eqn true .iface (.t 20), none⟩])
    (.cond (.t 21) (.seq (.rg [⟨(some 22), .mov (.t 7), none⟩,
        ⟨(some 6), .mov (.t 22), none⟩])
      .ret)
      .skip)))
    (.seq (.seq (.rg [⟨(some 23), .mov (.t 0), none⟩,
      ⟨(some 24), .nilchk .ptr (.t 23), none⟩,
      ⟨(some 25), .faddr false 34 1 (.t 24), none⟩,
      ⟨(some 26), .load false 1 (.t 25), none⟩,
      ⟨(some 27), .mov (.t 1), none⟩,
      ⟨(some 28), .mov (.t 2), none⟩,
      ⟨(some 29), .callr 51 [(.t 26), (.t 27), (.t 28)], none⟩,
      ⟨(some 8), .mov (.t 29), none⟩])
    (.seq (.rg [⟨(some 30), .mov (.t 8), none⟩,
      ⟨(some 31), .eqn true .iface (.t 30), none⟩])
    (.cond (.t 31) (.seq (.rg [⟨(some 32), .mov (.t 8), none⟩,
        ⟨(some 6), .mov (.t 32), none⟩])
      .ret)
      .skip)))
    (.seq (.rg [⟨(some 33), .mov (.t 1), none⟩,
      ⟨(some 34), .callr 49 [(.t 33), (.c (.p (.string ⟨#[]⟩)))], none⟩])
    (.seq (.seq (.rg [⟨(some 35), .mov (.t 2), none⟩,
      ⟨(some 36), .bin .geq (.t 35) (.c (.p (.int .u64 54441))), none⟩])
    (.cond (.t 36) (.rg [⟨(some 37), .mov (.t 1), none⟩,
        ⟨(some 38), .mov (.t 0), none⟩,
        ⟨(some 39), .callr 52 [(.t 38)], none⟩,
        ⟨(some 40), .callr 49 [(.t 37), (.t 39)], none⟩])
      .skip))
    (.seq (.seq (.rg [⟨(some 41), .mov (.t 1), none⟩,
      ⟨(some 42), .callr 53 [(.t 41), (.c (.p (.int .u8 2)))], none⟩])
    (.rg [⟨(some 43), .mov (.t 1), none⟩,
      ⟨(some 44), .mov (.t 0), none⟩,
      ⟨(some 45), .nilchk .ptr (.t 44), none⟩,
      ⟨(some 46), .faddr false 36 1 (.t 45), none⟩,
      ⟨(some 47), .load false 1 (.t 46), none⟩,
      ⟨(some 48), .callr 54 [(.t 43), (.t 47)], none⟩]))
    (.seq (.rg [⟨(some 49), .mov (.t 1), none⟩,
      ⟨(some 50), .mov (.t 0), none⟩,
      ⟨(some 51), .nilchk .ptr (.t 50), none⟩,
      ⟨(some 52), .faddr false 32 1 (.t 51), none⟩,
      ⟨(some 53), .load false 1 (.t 52), none⟩,
      ⟨(some 54), .callr 49 [(.t 49), (.t 53)], none⟩])
    (.seq (.seq (.rg [⟨(some 55), .mov (.t 2), none⟩,
      ⟨(some 56), .bin .geq (.t 55) (.c (.p (.int .u64 54459))), none⟩])
    (.cond (.t 56) (.seq (.seq (.rg [⟨(some 57), .mov (.t 0), none⟩,
        ⟨(some 58), .nilchk .ptr (.t 57), none⟩,
        ⟨(some 59), .faddr false 35 1 (.t 58), none⟩,
        ⟨(some 60), .load false 1 (.t 59), none⟩,
        ⟨(some 61), .mov (.t 1), none⟩,
        ⟨(some 62), .mov (.t 2), none⟩,
        ⟨(some 63), .callr 55 [(.t 60), (.t 61), (.t 62)], none⟩,
        ⟨(some 9), .mov (.t 63), none⟩])
      (.seq (.rg [⟨(some 64), .mov (.t 9), none⟩,
        ⟨(some 65), .eqn true .iface (.t 64), none⟩])
      (.cond (.t 65) (.seq (.rg [⟨(some 66), .mov (.t 9), none⟩,
          ⟨(some 6), .mov (.t 66), none⟩])
        .ret)
        .skip)))
      (.rg [⟨(some 67), .mov (.t 1), none⟩,
        ⟨(some 68), .callr 49 [(.t 67), (.c (.p (.string ⟨#[]⟩)))], none⟩]))
      .skip))
    (.seq (.rg [⟨(some 6), .mov (.c (.p .nilIface)), none⟩])
    .ret))))))))))
def r33 : List DR := [.tmp 6]
theorem c33_ok : Tryd.f33.body.bind (cCode Tryd.prog) = some c33 := by kernel_rfl
theorem r33_ok : cRes Tryd.prog Tryd.f33.results.toList = some r33 := by kernel_rfl

/-- (*given.example/pub-assaymark/spec.ProtoIn).Long -/
def c34 : DC :=
  (.seq (.rg [⟨(some 2), .mov (.c (.p (.string ⟨#[]⟩))), none⟩])
    (.seq (.rg [⟨(some 3), .mov (.t 0), none⟩,
      ⟨(some 4), .mov (.t 0), none⟩,
      ⟨(some 5), .callr 36 [(.t 4)], none⟩,
      ⟨(some 6), .callr 37 [(.t 3), (.t 5)], none⟩,
      ⟨(some 2), .mov (.t 6), none⟩])
    .ret))
def r34 : List DR := [.tmp 2]
theorem c34_ok : Tryd.f34.body.bind (cCode Tryd.prog) = some c34 := by kernel_rfl
theorem r34_ok : cRes Tryd.prog Tryd.f34.results.toList = some r34 := by kernel_rfl

/-- (*given.example/pub-assaymark/spec.ProtoIn).Fixed -/
def c35 : DC :=
  (.seq (.rg [⟨(some 4), .mov (.c (.p (.int .u64 0))), none⟩])
    (.seq (.rg [⟨(some 8), .mov (.t 0), none⟩,
      ⟨(some 9), .mov (.t 1), none⟩,
      ⟨(some 10), .callr 37 [(.t 8), (.t 9)], none⟩,
      ⟨(some 5), .mov (.t 10), none⟩,
      ⟨(some 6), .mov (.c (.p (.int .u64 0))), none⟩])
    (.seq (.seq (.rg [⟨(some 11), .mov (.t 5), none⟩,
      ⟨(some 12), .lens (.t 11), none⟩,
      ⟨(some 13), .bin .sub (.t 12) (.c (.p (.int .i64 1))), none⟩,
      ⟨(some 7), .mov (.t 13), none⟩])
    (.block 0 (.loop (.seq (.seq (.rg [⟨(some 14), .mov (.t 7), none⟩,
        ⟨(some 15), .bin .geq (.t 14) (.c (.p (.int .i64 0))), none⟩])
      (.cond (.t 15) .skip
        (.exit 0)))
      (.seq (.block 1 (.rg [⟨(some 18), .mov (.t 6), none⟩,
         ⟨(some 19), .bin .shl (.t 18) (.c (.p (.int .u64 8))), none⟩,
         ⟨(some 20), .mov (.t 5), none⟩,
         ⟨(some 21), .mov (.t 7), none⟩,
         ⟨(some 22), .idxs (.t 20) (.t 21), none⟩,
         ⟨(some 23), .cint .u64 (.t 22), none⟩,
         ⟨(some 24), .bin .or (.t 19) (.t 23), none⟩,
         ⟨(some 6), .mov (.t 24), none⟩]))
      (.rg [⟨(some 16), .mov (.t 7), none⟩,
        ⟨(some 17), .bin .sub (.t 16) (.c (.p (.int .i64 1))), none⟩,
        ⟨(some 7), .mov (.t 17), none⟩]))))))
    (.seq (.rg [⟨(some 25), .mov (.t 6), none⟩,
      ⟨(some 4), .mov (.t 25), none⟩])
    .ret))))
def r35 : List DR := [.tmp 4]
theorem c35_ok : Tryd.f35.body.bind (cCode Tryd.prog) = some c35 := by kernel_rfl
theorem r35_ok : cRes Tryd.prog Tryd.f35.results.toList = some r35 := by kernel_rfl

/-- (*given.example/pub-assaymark/spec.ProtoIn).Uvar -/
def c36 : DC :=
  (.seq (.rg [⟨(some 2), .mov (.c (.p (.int .u64 0))), none⟩])
    (.seq (.rg [⟨(some 3), .mov (.c (.p (.int .u64 0))), none⟩])
    (.seq (.seq (.rg [⟨(some 6), .mov (.c (.p (.int .i64 0))), none⟩])
    (.block 0 (.loop (.seq (.rg [⟨(some 7), .bin .lss (.t 6) (.c (.p (.int .i64 10))), none⟩])
      (.seq (.cond (.t 7) .skip
        (.exit 0))
      (.seq (.block 1 (.seq (.rg [⟨(some 8), .mov (.t 6), none⟩,
         ⟨(some 4), .mov (.t 8), none⟩])
       (.seq (.seq (.rg [⟨(some 9), .mov (.t 4), none⟩,
         ⟨(some 10), .mov (.t 0), none⟩,
         ⟨(some 11), .nilchk .ptr (.t 10), none⟩,
         ⟨(some 12), .faddr false 0 1 (.t 11), none⟩,
         ⟨(some 13), .load false 1 (.t 12), none⟩,
         ⟨(some 14), .lens (.t 13), none⟩,
         ⟨(some 15), .bin .geq (.t 9) (.t 14), none⟩,
         ⟨(some 16), .mov (.t 15), none⟩,
         ⟨(some 17), .mov (.t 4), (some (16, false))⟩,
         ⟨(some 18), .bin .eql (.t 17) (.c (.p (.int .i64 9))), (some (16, false))⟩,
         ⟨(some 19), .mov (.t 18), (some (16, false))⟩,
         ⟨(some 20), .mov (.t 0), (some (19, true))⟩,
         ⟨(some 21), .nilchk .ptr (.t 20), (some (19, true))⟩,
         ⟨(some 22), .faddr false 0 1 (.t 21), (some (19, true))⟩,
         ⟨(some 23), .load false 1 (.t 22), (some (19, true))⟩,
         ⟨(some 24), .mov (.t 4), (some (19, true))⟩,
         ⟨(some 25), .idxs (.t 23) (.t 24), (some (19, true))⟩,
         ⟨(some 26), .bin .gtr (.t 25) (.c (.p (.int .u8 1))), (some (19, true))⟩,
         ⟨(some 27), .pick (.t 19) (.t 26) (.c (.p (.bool false))), (some (16, false))⟩,
         ⟨(some 28), .pick (.t 16) (.c (.p (.bool true))) (.t 27), none⟩])
       (.cond (.t 28) (.seq (.rg [⟨(some 29), .mov (.t 0), none⟩,
           ⟨(some 30), .nilchk .ptr (.t 29), none⟩,
           ⟨(some 31), .faddr false 1 1 (.t 30), none⟩,
           ⟨none, .store 1 (.t 31) (.c (.p (.bool true))), none⟩])
         (.seq (.rg [⟨(some 2), .mov (.c (.p (.int .u64 0))), none⟩])
         .ret))
         .skip))
       (.seq (.rg [⟨(some 32), .mov (.t 0), none⟩,
         ⟨(some 33), .nilchk .ptr (.t 32), none⟩,
         ⟨(some 34), .faddr false 0 1 (.t 33), none⟩,
         ⟨(some 35), .load false 1 (.t 34), none⟩,
         ⟨(some 36), .mov (.t 4), none⟩,
         ⟨(some 37), .idxs (.t 35) (.t 36), none⟩,
         ⟨(some 5), .mov (.t 37), none⟩])
       (.seq (.rg [⟨(some 38), .mov (.t 3), none⟩,
         ⟨(some 39), .mov (.t 5), none⟩,
         ⟨(some 40), .bin .and (.t 39) (.c (.p (.int .u8 127))), none⟩,
         ⟨(some 41), .cint .u64 (.t 40), none⟩,
         ⟨(some 42), .mov (.t 4), none⟩,
         ⟨(some 43), .bin .mul (.c (.p (.int .i64 7))) (.t 42), none⟩,
         ⟨(some 44), .bin .shl (.t 41) (.t 43), none⟩,
         ⟨(some 45), .bin .or (.t 38) (.t 44), none⟩,
         ⟨(some 3), .mov (.t 45), none⟩])
       (.seq (.rg [⟨(some 46), .mov (.t 5), none⟩,
         ⟨(some 47), .bin .lss (.t 46) (.c (.p (.int .u8 128))), none⟩])
       (.cond (.t 47) (.seq (.rg [⟨(some 48), .mov (.t 0), none⟩,
           ⟨(some 49), .mov (.t 0), none⟩,
           ⟨(some 50), .nilchk .ptr (.t 49), none⟩,
           ⟨(some 51), .faddr false 0 1 (.t 50), none⟩,
           ⟨(some 52), .load false 1 (.t 51), none⟩,
           ⟨(some 53), .mov (.t 4), none⟩,
           ⟨(some 54), .bin .add (.t 53) (.c (.p (.int .i64 1))), none⟩,
           ⟨(some 55), .slcs (.t 52) (some (.t 54)) none, none⟩,
           ⟨(some 56), .nilchk .ptr (.t 48), none⟩,
           ⟨(some 57), .faddr false 0 1 (.t 56), none⟩,
           ⟨none, .store 1 (.t 57) (.t 55), none⟩])
         (.seq (.rg [⟨(some 58), .mov (.t 3), none⟩,
           ⟨(some 2), .mov (.t 58), none⟩])
         .ret))
         .skip)))))))
      (.rg [⟨(some 59), .bin .add (.t 6) (.c (.p (.int .i64 1))), none⟩,
        ⟨(some 6), .mov (.t 59), none⟩])))))))
    (.seq (.rg [⟨(some 60), .mov (.t 0), none⟩,
      ⟨(some 61), .nilchk .ptr (.t 60), none⟩,
      ⟨(some 62), .faddr false 1 1 (.t 61), none⟩,
      ⟨none, .store 1 (.t 62) (.c (.p (.bool true))), none⟩])
    (.seq (.rg [⟨(some 2), .mov (.c (.p (.int .u64 0))), none⟩])
    .ret)))))
def r36 : List DR := [.tmp 2]
theorem c36_ok : Tryd.f36.body.bind (cCode Tryd.prog) = some c36 := by kernel_rfl
theorem r36_ok : cRes Tryd.prog Tryd.f36.results.toList = some r36 := by kernel_rfl

/-- (*given.example/pub-assaymark/spec.ProtoIn).Take -/
def c37 : DC :=
  (.seq (.rg [⟨(some 4), .mov (.c (.p (.string ⟨#[]⟩))), none⟩])
    (.seq (.seq (.rg [⟨(some 6), .mov (.t 1), none⟩,
      ⟨(some 7), .mov (.t 0), none⟩,
      ⟨(some 8), .nilchk .ptr (.t 7), none⟩,
      ⟨(some 9), .faddr false 0 1 (.t 8), none⟩,
      ⟨(some 10), .load false 1 (.t 9), none⟩,
      ⟨(some 11), .lens (.t 10), none⟩,
      ⟨(some 12), .cint .u64 (.t 11), none⟩,
      ⟨(some 13), .bin .gtr (.t 6) (.t 12), none⟩,
      ⟨(some 14), .mov (.t 13), none⟩,
      ⟨(some 15), .mov (.t 0), (some (14, false))⟩,
      ⟨(some 16), .nilchk .ptr (.t 15), (some (14, false))⟩,
      ⟨(some 17), .faddr false 1 1 (.t 16), (some (14, false))⟩,
      ⟨(some 18), .load false 1 (.t 17), (some (14, false))⟩,
      ⟨(some 19), .pick (.t 14) (.c (.p (.bool true))) (.t 18), none⟩])
    (.cond (.t 19) (.seq (.rg [⟨(some 20), .mov (.t 0), none⟩,
        ⟨(some 21), .nilchk .ptr (.t 20), none⟩,
        ⟨(some 22), .faddr false 1 1 (.t 21), none⟩,
        ⟨none, .store 1 (.t 22) (.c (.p (.bool true))), none⟩])
      (.seq (.rg [⟨(some 4), .mov (.c (.p (.string ⟨#[]⟩))), none⟩])
      .ret))
      .skip))
    (.seq (.rg [⟨(some 23), .mov (.t 0), none⟩,
      ⟨(some 24), .nilchk .ptr (.t 23), none⟩,
      ⟨(some 25), .faddr false 0 1 (.t 24), none⟩,
      ⟨(some 26), .load false 1 (.t 25), none⟩,
      ⟨(some 27), .mov (.t 1), none⟩,
      ⟨(some 28), .slcs (.t 26) none (some (.t 27)), none⟩,
      ⟨(some 5), .mov (.t 28), none⟩])
    (.seq (.rg [⟨(some 29), .mov (.t 0), none⟩,
      ⟨(some 30), .mov (.t 0), none⟩,
      ⟨(some 31), .nilchk .ptr (.t 30), none⟩,
      ⟨(some 32), .faddr false 0 1 (.t 31), none⟩,
      ⟨(some 33), .load false 1 (.t 32), none⟩,
      ⟨(some 34), .mov (.t 1), none⟩,
      ⟨(some 35), .slcs (.t 33) (some (.t 34)) none, none⟩,
      ⟨(some 36), .nilchk .ptr (.t 29), none⟩,
      ⟨(some 37), .faddr false 0 1 (.t 36), none⟩,
      ⟨none, .store 1 (.t 37) (.t 35), none⟩])
    (.seq (.rg [⟨(some 38), .mov (.t 5), none⟩,
      ⟨(some 4), .mov (.t 38), none⟩])
    .ret)))))
def r37 : List DR := [.tmp 4]
theorem c37_ok : Tryd.f37.body.bind (cCode Tryd.prog) = some c37 := by kernel_rfl
theorem r37_ok : cRes Tryd.prog Tryd.f37.results.toList = some r37 := by kernel_rfl

/-- (*given.example/pub-assaymark/spec.ProtoIn).pairs -/
def c39 : DC :=
  (.seq (.rg [⟨(some 4), .mov (.c (.p (.string ⟨#[]⟩))), none⟩])
    (.seq (.rg [⟨(some 7), .mov (.t 0), none⟩,
      ⟨(some 8), .nilchk .ptr (.t 7), none⟩,
      ⟨(some 9), .faddr false 0 1 (.t 8), none⟩,
      ⟨(some 10), .load false 1 (.t 9), none⟩,
      ⟨(some 5), .mov (.t 10), none⟩])
    (.seq (.block 0 (.loop (.seq (.seq (.rg [⟨(some 11), .mov (.t 0), none⟩,
        ⟨(some 12), .nilchk .ptr (.t 11), none⟩,
        ⟨(some 13), .faddr false 1 1 (.t 12), none⟩,
        ⟨(some 14), .load false 1 (.t 13), none⟩,
        ⟨(some 15), .un .not (.t 14), none⟩])
      (.cond (.t 15) .skip
        (.exit 0)))
      (.block 1 (.seq (.rg [⟨(some 16), .mov (.t 0), none⟩,
         ⟨(some 17), .nilchk .ptr (.t 16), none⟩,
         ⟨(some 18), .faddr false 0 1 (.t 17), none⟩,
         ⟨(some 19), .load false 1 (.t 18), none⟩,
         ⟨(some 6), .mov (.t 19), none⟩])
       (.seq (.seq (.rg [⟨(some 20), .mov (.t 0), none⟩,
         ⟨(some 21), .callr 34 [(.t 20)], none⟩,
         ⟨(some 22), .bin .eql (.t 21) (.c (.p (.string ⟨#[]⟩))), none⟩])
       (.cond (.t 22) (.seq (.rg [⟨(some 23), .mov (.t 5), none⟩,
           ⟨(some 24), .mov (.t 5), none⟩,
           ⟨(some 25), .lens (.t 24), none⟩,
           ⟨(some 26), .mov (.t 6), none⟩,
           ⟨(some 27), .lens (.t 26), none⟩,
           ⟨(some 28), .bin .sub (.t 25) (.t 27), none⟩,
           ⟨(some 29), .slcs (.t 23) none (some (.t 28)), none⟩,
           ⟨(some 4), .mov (.t 29), none⟩])
         .ret)
         .skip))
       (.seq (.seq (.rg [⟨(some 30), .mov (.t 1), none⟩])
       (.cond (.t 30) (.rg [⟨(some 31), .mov (.t 0), none⟩,
           ⟨(some 32), .callr 36 [(.t 31)], none⟩])
         .skip))
       (.rg [⟨(some 33), .mov (.t 0), none⟩,
         ⟨(some 34), .callr 34 [(.t 33)], none⟩]))))))))
    (.seq (.rg [⟨(some 4), .mov (.c (.p (.string ⟨#[]⟩))), none⟩])
    .ret))))
def r39 : List DR := [.tmp 4]
theorem c39_ok : Tryd.f39.body.bind (cCode Tryd.prog) = some c39 := by kernel_rfl
theorem r39_ok : cRes Tryd.prog Tryd.f39.results.toList = some r39 := by kernel_rfl

/-- given.example/pub-assaymark/spec.Uvar -/
def c40 : DC :=
  (.seq (.rg [⟨(some 2), .mov (.c (.p (.string ⟨#[]⟩))), none⟩])
    (.seq (.rg [⟨(some 3), .mov (.c (.p (.slice none 0 0))), none⟩])
    (.seq (.block 0 (.loop (.seq (.seq (.rg [⟨(some 4), .mov (.t 0), none⟩,
        ⟨(some 5), .bin .geq (.t 4) (.c (.p (.int .u64 128))), none⟩])
      (.cond (.t 5) .skip
        (.exit 0)))
      (.block 1 (.seq (.rg [⟨(some 6), .mov (.t 3), none⟩,
         ⟨(some 7), .mov (.t 0), none⟩,
         ⟨(some 8), .cint .u8 (.t 7), none⟩,
         ⟨(some 9), .bin .or (.t 8) (.c (.p (.int .u8 128))), none⟩,
         ⟨(some 10), .lit 1 [(.t 9)], none⟩,
         ⟨(some 11), .app 1 1 (.t 6) (.t 10), none⟩,
         ⟨(some 3), .mov (.t 11), none⟩])
       (.rg [⟨(some 12), .mov (.t 0), none⟩,
         ⟨(some 13), .bin .shr (.t 12) (.c (.p (.int .u64 7))), none⟩,
         ⟨(some 0), .mov (.t 13), none⟩]))))))
    (.seq (.rg [⟨(some 14), .mov (.t 3), none⟩,
      ⟨(some 15), .mov (.t 0), none⟩,
      ⟨(some 16), .cint .u8 (.t 15), none⟩,
      ⟨(some 17), .lit 1 [(.t 16)], none⟩,
      ⟨(some 18), .app 1 1 (.t 14) (.t 17), none⟩,
      ⟨(some 19), .b2s (.t 18), none⟩,
      ⟨(some 2), .mov (.t 19), none⟩])
    .ret))))
def r40 : List DR := [.tmp 2]
theorem c40_ok : Tryd.f40.body.bind (cCode Tryd.prog) = some c40 := by kernel_rfl
theorem r40_ok : cRes Tryd.prog Tryd.f40.results.toList = some r40 := by kernel_rfl

/-- given.example/pub-assaymark/spec.settingText -/
def c41 : DC :=
  (.seq (.rg [⟨(some 1), .box (.t 0), none⟩,
      ⟨(some 2), .mov (.c (.p (.string ⟨#[]⟩))), none⟩])
    (.seq (.seq (.rg [⟨(some 3), .faddr false 1 1 (.t 1), none⟩,
      ⟨(some 4), .load false 1 (.t 3), none⟩])
    (.block 0 (.seq (.rg [⟨(some 6), .bin .eql (.t 4) (.c (.p (.int .i64 1))), none⟩,
       ⟨(some 5), .mov (.t 6), none⟩])
     (.cond (.t 5) (.seq (.rg [⟨(some 7), .faddr false 3 1 (.t 1), none⟩,
         ⟨(some 8), .load false 1 (.t 7), none⟩,
         ⟨(some 9), .callr 56 [(.t 8)], none⟩,
         ⟨(some 2), .mov (.t 9), none⟩])
       .ret)
       (.seq (.rg [⟨(some 11), .bin .eql (.t 4) (.c (.p (.int .i64 2))), none⟩,
         ⟨(some 10), .mov (.t 11), none⟩])
       (.cond (.t 10) (.seq (.seq (.rg [⟨(some 12), .faddr false 3 1 (.t 1), none⟩,
           ⟨(some 13), .load false 1 (.t 12), none⟩,
           ⟨(some 14), .bin .eql (.t 13) (.c (.p (.int .i64 1))), none⟩])
         (.cond (.t 14) (.seq (.rg [⟨(some 2), .mov (.c (.p (.string ⟨#[116, 114, 117, 101]⟩))), none⟩])
           .ret)
           .skip))
         (.seq (.rg [⟨(some 2), .mov (.c (.p (.string ⟨#[102, 97, 108, 115, 101]⟩))), none⟩])
         .ret))
         .skip))))))
    (.seq (.rg [⟨(some 15), .faddr false 2 1 (.t 1), none⟩,
      ⟨(some 16), .load false 1 (.t 15), none⟩,
      ⟨(some 2), .mov (.t 16), none⟩])
    .ret)))
def r41 : List DR := [.tmp 2]
theorem c41_ok : Tryd.f41.body.bind (cCode Tryd.prog) = some c41 := by kernel_rfl
theorem r41_ok : cRes Tryd.prog Tryd.f41.results.toList = some r41 := by kernel_rfl

/-- given.example/pub-assaymark/spec.protoQuoted -/
def c42 : DC :=
  (.seq (.rg [⟨(some 2), .mov (.c (.p (.string ⟨#[]⟩))), none⟩])
    (.seq (.rg [⟨(some 5), .lit 1 [(.c (.p (.int .u8 39)))], none⟩,
      ⟨(some 3), .mov (.t 5), none⟩])
    (.seq (.seq (.rg [⟨(some 6), .mov (.t 0), none⟩,
      ⟨(some 7), .lens (.t 6), none⟩,
      ⟨(some 8), .mov (.c (.p (.int .i64 0))), none⟩])
    (.block 0 (.loop (.seq (.rg [⟨(some 9), .bin .lss (.t 8) (.t 7), none⟩])
      (.seq (.cond (.t 9) .skip
        (.exit 0))
      (.seq (.block 1 (.seq (.rg [⟨(some 10), .mov (.t 8), none⟩,
         ⟨(some 4), .mov (.t 10), none⟩])
       (.seq (.seq (.rg [⟨(some 11), .mov (.t 0), none⟩,
         ⟨(some 12), .mov (.t 4), none⟩,
         ⟨(some 13), .idxs (.t 11) (.t 12), none⟩,
         ⟨(some 14), .bin .eql (.t 13) (.c (.p (.int .u8 39))), none⟩,
         ⟨(some 15), .mov (.t 14), none⟩,
         ⟨(some 16), .mov (.t 0), (some (15, false))⟩,
         ⟨(some 17), .mov (.t 4), (some (15, false))⟩,
         ⟨(some 18), .idxs (.t 16) (.t 17), (some (15, false))⟩,
         ⟨(some 19), .bin .eql (.t 18) (.c (.p (.int .u8 92))), (some (15, false))⟩,
         ⟨(some 20), .pick (.t 15) (.c (.p (.bool true))) (.t 19), none⟩])
       (.cond (.t 20) (.rg [⟨(some 21), .mov (.t 3), none⟩,
           ⟨(some 22), .lit 1 [(.c (.p (.int .u8 92)))], none⟩,
           ⟨(some 23), .app 1 1 (.t 21) (.t 22), none⟩,
           ⟨(some 3), .mov (.t 23), none⟩])
         .skip))
       (.rg [⟨(some 24), .mov (.t 3), none⟩,
         ⟨(some 25), .mov (.t 0), none⟩,
         ⟨(some 26), .mov (.t 4), none⟩,
         ⟨(some 27), .idxs (.t 25) (.t 26), none⟩,
         ⟨(some 28), .lit 1 [(.t 27)], none⟩,
         ⟨(some 29), .app 1 1 (.t 24) (.t 28), none⟩,
         ⟨(some 3), .mov (.t 29), none⟩]))))
      (.rg [⟨(some 30), .bin .add (.t 8) (.c (.p (.int .i64 1))), none⟩,
        ⟨(some 8), .mov (.t 30), none⟩])))))))
    (.seq (.rg [⟨(some 31), .mov (.t 3), none⟩,
      ⟨(some 32), .lit 1 [(.c (.p (.int .u8 39)))], none⟩,
      ⟨(some 33), .app 1 1 (.t 31) (.t 32), none⟩,
      ⟨(some 34), .b2s (.t 33), none⟩,
      ⟨(some 2), .mov (.t 34), none⟩])
    .ret))))
def r42 : List DR := [.tmp 2]
theorem c42_ok : Tryd.f42.body.bind (cCode Tryd.prog) = some c42 := by kernel_rfl
theorem r42_ok : cRes Tryd.prog Tryd.f42.results.toList = some r42 := by kernel_rfl

/-- (given.example/pub-assaymark/pub/clickhousego/lib/proto.Version).String -/
def c43 : DC :=
  (.seq (.rg [⟨(some 1), .box (.t 0), none⟩,
      ⟨(some 2), .mov (.c (.p (.string ⟨#[]⟩))), none⟩])
    (.seq (.rgd [⟨⟨(some 3), .faddr false 0 1 (.t 1), none⟩, 0, [0]⟩,
      ⟨⟨(some 4), .load false 1 (.t 3), none⟩, 0, [0]⟩,
      ⟨⟨(some 5), .call 57 [(.t 4), (.c (.p (.int .i64 10)))], none⟩, 0, [0]⟩,
      ⟨⟨(some 6), .bin .add (.t 5) (.c (.p (.string ⟨#[46]⟩))), none⟩, 1, [0]⟩,
      ⟨⟨(some 7), .faddr false 1 1 (.t 1), none⟩, 0, [0]⟩,
      ⟨⟨(some 8), .load false 1 (.t 7), none⟩, 0, [0]⟩,
      ⟨⟨(some 9), .call 57 [(.t 8), (.c (.p (.int .i64 10)))], none⟩, 1, [0]⟩,
      ⟨⟨(some 10), .bin .add (.t 6) (.t 9), none⟩, 2, [0]⟩,
      ⟨⟨(some 11), .bin .add (.t 10) (.c (.p (.string ⟨#[46]⟩))), none⟩, 2, [0]⟩,
      ⟨⟨(some 12), .faddr false 2 1 (.t 1), none⟩, 0, [0]⟩,
      ⟨⟨(some 13), .load false 1 (.t 12), none⟩, 0, [0]⟩,
      ⟨⟨(some 14), .call 57 [(.t 13), (.c (.p (.int .i64 10)))], none⟩, 2, []⟩,
      ⟨⟨(some 15), .bin .add (.t 11) (.t 14), none⟩, 3, []⟩,
      ⟨⟨(some 2), .mov (.t 15), none⟩, 3, []⟩])
    .ret))
def r43 : List DR := [.tmp 2]
theorem c43_ok : Tryd.f43.body.bind (cCode Tryd.prog) = some c43 := by kernel_rfl
theorem r43_ok : cRes Tryd.prog Tryd.f43.results.toList = some r43 := by kernel_rfl

/-- given.example/pub-assaymark/laws.zzFits25 -/
def c47 : DC :=
  (.seq (.rg [⟨(some 1), .box (.t 0), none⟩,
      ⟨(some 2), .mov (.c (.p (.bool false))), none⟩])
    (.seq (.seq (.rg [⟨(some 3), .faddr false 0 1 (.t 1), none⟩,
      ⟨(some 4), .load false 1 (.t 3), none⟩,
      ⟨(some 5), .lens (.t 4), none⟩,
      ⟨(some 6), .bin .gtr (.t 5) (.c (.p (.int .i64 2147483647))), none⟩])
    (.cond (.t 6) (.seq (.rg [⟨(some 2), .mov (.c (.p (.bool false))), none⟩])
      .ret)
      .skip))
    (.seq (.seq (.rg [⟨(some 7), .faddr false 2 1 (.t 1), none⟩,
      ⟨(some 8), .load false 1 (.t 7), none⟩,
      ⟨(some 9), .lens (.t 8), none⟩,
      ⟨(some 10), .bin .gtr (.t 9) (.c (.p (.int .i64 2147483647))), none⟩])
    (.cond (.t 10) (.seq (.rg [⟨(some 2), .mov (.c (.p (.bool false))), none⟩])
      .ret)
      .skip))
    (.seq (.rg [⟨(some 2), .mov (.c (.p (.bool true))), none⟩])
    .ret))))
def r47 : List DR := [.tmp 2]
theorem c47_ok : Tryd.f47.body.bind (cCode Tryd.prog) = some c47 := by kernel_rfl
theorem r47_ok : cRes Tryd.prog Tryd.f47.results.toList = some r47 := by kernel_rfl

/-- given.example/pub-assaymark/laws.zzFits27 -/
def c48 : DC :=
  (.seq (.rg [⟨(some 1), .box (.t 0), none⟩,
      ⟨(some 2), .mov (.c (.p (.bool false))), none⟩])
    (.seq (.seq (.rg [⟨(some 5), .load true 2 (.t 1), none⟩,
      ⟨(some 6), .mov (.c (.p (.int .i64 0))), none⟩])
    (.block 0 (.loop (.seq (.rg [⟨(some 7), .bin .lss (.t 6) (.c (.p (.int .i64 2))), none⟩])
      (.seq (.cond (.t 7) .skip
        (.exit 0))
      (.seq (.block 1 (.seq (.rg [⟨(some 8), .idxa 2 1 false (.t 5) (.t 6), none⟩,
         ⟨(some 4), .mov (.t 8), none⟩])
       (.seq (.rg [⟨(some 9), .mov (.t 4), none⟩,
         ⟨(some 10), .lens (.t 9), none⟩,
         ⟨(some 11), .bin .gtr (.t 10) (.c (.p (.int .i64 2147483647))), none⟩])
       (.cond (.t 11) (.seq (.rg [⟨(some 2), .mov (.c (.p (.bool false))), none⟩])
         .ret)
         .skip))))
      (.rg [⟨(some 12), .bin .add (.t 6) (.c (.p (.int .i64 1))), none⟩,
        ⟨(some 6), .mov (.t 12), none⟩])))))))
    (.seq (.rg [⟨(some 2), .mov (.c (.p (.bool true))), none⟩])
    .ret)))
def r48 : List DR := [.tmp 2]
theorem c48_ok : Tryd.f48.body.bind (cCode Tryd.prog) = some c48 := by kernel_rfl
theorem r48_ok : cRes Tryd.prog Tryd.f48.results.toList = some r48 := by kernel_rfl

/-- (*given.example/pub-assaymark/pub/chgo/proto.Buffer).PutString -/
def c49 : DC :=
  (.seq (.rg [⟨(some 4), .mov (.t 0), none⟩,
      ⟨(some 5), .mov (.t 1), none⟩,
      ⟨(some 6), .lens (.t 5), none⟩,
      ⟨(some 7), .callr 64 [(.t 4), (.t 6)], none⟩])
    (.rg [⟨(some 8), .mov (.t 0), none⟩,
      ⟨(some 9), .mov (.t 0), none⟩,
      ⟨(some 10), .nilchk .ptr (.t 9), none⟩,
      ⟨(some 11), .faddr false 0 1 (.t 10), none⟩,
      ⟨(some 12), .load false 1 (.t 11), none⟩,
      ⟨(some 13), .mov (.t 1), none⟩,
      ⟨(some 14), .app 1 1 (.t 12) (.t 13), none⟩,
      ⟨(some 15), .nilchk .ptr (.t 8), none⟩,
      ⟨(some 16), .faddr false 0 1 (.t 15), none⟩,
      ⟨none, .store 1 (.t 16) (.t 14), none⟩]))
def r49 : List DR := []
theorem c49_ok : Tryd.f49.body.bind (cCode Tryd.prog) = some c49 := by kernel_rfl
theorem r49_ok : cRes Tryd.prog Tryd.f49.results.toList = some r49 := by kernel_rfl

/-- (*given.example/pub-assaymark/pub/clickhousego/lib/proto.Query).encodeClientInfo -/
def c50 : DC :=
  (.seq (.rg [⟨(some 6), .mov (.c (.p .nilIface)), none⟩])
    (.seq (.rg [⟨(some 7), .mov (.c (.p (.int .u8 1))), none⟩])
    (.seq (.seq (.rg [⟨(some 10), .mov (.t 0), none⟩,
      ⟨(some 11), .nilchk .ptr (.t 10), none⟩,
      ⟨(some 12), .faddr false 39 1 (.t 11), none⟩,
      ⟨(some 13), .load false 1 (.t 12), none⟩,
      ⟨(some 14), .bin .neq (.t 13) (.c (.p (.string ⟨#[]⟩))), none⟩])
    (.cond (.t 14) (.rg [⟨(some 7), .mov (.c (.p (.int .u8 2))), none⟩])
      .skip))
    (.seq (.rg [⟨(some 15), .mov (.t 1), none⟩,
      ⟨(some 16), .mov (.t 7), none⟩,
      ⟨(some 17), .callr 53 [(.t 15), (.t 16)], none⟩])
    (.seq (.rg [⟨(some 18), .mov (.t 1), none⟩,
      ⟨(some 19), .mov (.t 0), none⟩,
      ⟨(some 20), .nilchk .ptr (.t 19), none⟩,
      ⟨(some 21), .faddr false 37 1 (.t 20), none⟩,
      ⟨(some 22), .load false 1 (.t 21), none⟩,
      ⟨(some 23), .callr 49 [(.t 18), (.t 22)], none⟩])
    (.seq (.rg [⟨(some 24), .mov (.t 1), none⟩,
      ⟨(some 25), .callr 49 [(.t 24), (.c (.p (.string ⟨#[]⟩)))], none⟩])
    (.seq (.rg [⟨(some 26), .mov (.t 1), none⟩,
      ⟨(some 27), .mov (.t 0), none⟩,
      ⟨(some 28), .nilchk .ptr (.t 27), none⟩,
      ⟨(some 29), .faddr false 38 1 (.t 28), none⟩,
      ⟨(some 30), .load false 1 (.t 29), none⟩,
      ⟨(some 31), .callr 49 [(.t 26), (.t 30)], none⟩])
    (.seq (.seq (.rg [⟨(some 32), .mov (.t 2), none⟩,
      ⟨(some 33), .bin .geq (.t 32) (.c (.p (.int .u64 54449))), none⟩])
    (.cond (.t 33) (.rg [⟨(some 34), .mov (.t 1), none⟩,
        ⟨(some 35), .callr 65 [(.t 34), (.c (.p (.int .i64 0)))], none⟩])
      .skip))
    (.seq (.rg [⟨(some 36), .mov (.t 1), none⟩,
      ⟨(some 37), .callr 53 [(.t 36), (.c (.p (.int .u8 1)))], none⟩])
    (.seq (.seq (.rg [⟨(some 38), .mov (.t 1), none⟩,
      ⟨(some 39), .callr 49 [(.t 38), (.c (.p (.string ⟨#[117, 115, 101, 114]⟩)))], none⟩])
    (.seq (.rg [⟨(some 40), .mov (.t 1), none⟩,
      ⟨(some 41), .callr 49 [(.t 40), (.c (.p (.string ⟨#[104, 111, 115, 116]⟩)))], none⟩])
    (.seq (.rg [⟨(some 42), .mov (.t 1), none⟩,
      ⟨(some 43), .mov (.t 0), none⟩,
      ⟨(some 44), .nilchk .ptr (.t 43), none⟩,
      ⟨(some 45), .faddr false 1 1 (.t 44), none⟩,
      ⟨(some 46), .load false 1 (.t 45), none⟩,
      ⟨(some 47), .callr 49 [(.t 42), (.t 46)], none⟩])
    (.seq (.rg [⟨(some 48), .mov (.t 1), none⟩,
      ⟨(some 49), .mov (.t 0), none⟩,
      ⟨(some 50), .nilchk .ptr (.t 49), none⟩,
      ⟨(some 51), .faddr true 2 3 (.t 50), none⟩,
      ⟨(some 52), .faddr false 0 1 (.t 51), none⟩,
      ⟨(some 53), .load false 1 (.t 52), none⟩,
      ⟨(some 54), .callr 66 [(.t 48), (.t 53)], none⟩])
    (.seq (.rg [⟨(some 55), .mov (.t 1), none⟩,
      ⟨(some 56), .mov (.t 0), none⟩,
      ⟨(some 57), .nilchk .ptr (.t 56), none⟩,
      ⟨(some 58), .faddr true 2 3 (.t 57), none⟩,
      ⟨(some 59), .faddr false 1 1 (.t 58), none⟩,
      ⟨(some 60), .load false 1 (.t 59), none⟩,
      ⟨(some 61), .callr 66 [(.t 55), (.t 60)], none⟩])
    (.rg [⟨(some 62), .mov (.t 1), none⟩,
      ⟨(some 63), .mov (.t 0), none⟩,
      ⟨(some 64), .nilchk .ptr (.t 63), none⟩,
      ⟨(some 65), .faddr false 5 1 (.t 64), none⟩,
      ⟨(some 66), .load false 1 (.t 65), none⟩,
      ⟨(some 67), .callr 66 [(.t 62), (.t 66)], none⟩]))))))
    (.seq (.seq (.rg [⟨(some 68), .mov (.t 2), none⟩,
      ⟨(some 69), .bin .geq (.t 68) (.c (.p (.int .u64 54060))), none⟩])
    (.cond (.t 69) (.rg [⟨(some 70), .mov (.t 1), none⟩,
        ⟨(some 71), .mov (.t 0), none⟩,
        ⟨(some 72), .nilchk .ptr (.t 71), none⟩,
        ⟨(some 73), .faddr false 33 1 (.t 72), none⟩,
        ⟨(some 74), .load false 1 (.t 73), none⟩,
        ⟨(some 75), .callr 49 [(.t 70), (.t 74)], none⟩])
      .skip))
    (.seq (.seq (.rg [⟨(some 76), .mov (.t 2), none⟩,
      ⟨(some 77), .bin .geq (.t 76) (.c (.p (.int .u64 54448))), none⟩])
    (.cond (.t 77) (.rg [⟨(some 78), .mov (.t 1), none⟩,
        ⟨(some 79), .callr 66 [(.t 78), (.c (.p (.int .u64 0)))], none⟩])
      .skip))
    (.seq (.seq (.rg [⟨(some 80), .mov (.t 2), none⟩,
      ⟨(some 81), .bin .geq (.t 80) (.c (.p (.int .u64 54401))), none⟩])
    (.cond (.t 81) (.rg [⟨(some 82), .mov (.t 1), none⟩,
        ⟨(some 83), .callr 66 [(.t 82), (.c (.p (.int .u64 0)))], none⟩])
      .skip))
    (.seq (.seq (.rg [⟨(some 84), .mov (.t 2), none⟩,
      ⟨(some 85), .bin .geq (.t 84) (.c (.p (.int .u64 54442))), none⟩])
    (.cond (.t 85) (.block 0 (.seq (.rg [⟨(some 89), .mov (.t 0), none⟩,
         ⟨(some 90), .nilchk .ptr (.t 89), none⟩,
         ⟨(some 91), .faddr true 6 26 (.t 90), none⟩,
         ⟨(some 92), .load true 26 (.t 91), none⟩,
         ⟨(some 93), .callr 67 [(.t 92)], none⟩,
         ⟨(some 88), .mov (.t 93), none⟩])
       (.cond (.t 88) (.seq (.rg [⟨(some 94), .mov (.t 1), none⟩,
           ⟨(some 95), .callr 53 [(.t 94), (.c (.p (.int .u8 1)))], none⟩])
         (.seq (.seq (.rg [⟨(some 96), .mov (.t 0), none⟩,
           ⟨(some 97), .nilchk .ptr (.t 96), none⟩,
           ⟨(some 98), .faddr true 6 26 (.t 97), none⟩,
           ⟨(some 99), .load true 26 (.t 98), none⟩,
           ⟨(some 100), .callr 68 [(.t 99)], none⟩,
           ⟨(some 8), .alloc 16 (.agg [.p (.int .u8 0), .p (.int .u8 0), .p (.int .u8 0), .p (.int .u8 0), .p (.int .u8 0), .p (.int .u8 0), .p (.int .u8 0), .p (.int .u8 0), .p (.int .u8 0), .p (.int .u8 0), .p (.int .u8 0), .p (.int .u8 0), .p (.int .u8 0), .p (.int .u8 0), .p (.int .u8 0), .p (.int .u8 0)]), none⟩,
           ⟨none, .store 16 (.t 8) (.t 100), none⟩])
         (.seq (.rg [⟨(some 101), .slca 16 1 false (.t 8) none none, none⟩,
           ⟨(some 102), .callr 69 [(.t 101)], none⟩])
         (.rg [⟨(some 103), .mov (.t 1), none⟩,
           ⟨(some 104), .slca 16 1 false (.t 8) none none, none⟩,
           ⟨(some 105), .callr 70 [(.t 103), (.t 104)], none⟩])))
         (.seq (.seq (.rg [⟨(some 106), .mov (.t 0), none⟩,
           ⟨(some 107), .nilchk .ptr (.t 106), none⟩,
           ⟨(some 108), .faddr true 6 26 (.t 107), none⟩,
           ⟨(some 109), .load true 26 (.t 108), none⟩,
           ⟨(some 110), .callr 71 [(.t 109)], none⟩,
           ⟨(some 9), .alloc 8 (.agg [.p (.int .u8 0), .p (.int .u8 0), .p (.int .u8 0), .p (.int .u8 0), .p (.int .u8 0), .p (.int .u8 0), .p (.int .u8 0), .p (.int .u8 0)]), none⟩,
           ⟨none, .store 8 (.t 9) (.t 110), none⟩])
         (.seq (.rg [⟨(some 111), .slca 8 1 false (.t 9) none none, none⟩,
           ⟨(some 112), .callr 69 [(.t 111)], none⟩])
         (.rg [⟨(some 113), .mov (.t 1), none⟩,
           ⟨(some 114), .slca 8 1 false (.t 9) none none, none⟩,
           ⟨(some 115), .callr 70 [(.t 113), (.t 114)], none⟩])))
         (.seq (.rg [⟨(some 116), .mov (.t 1), none⟩,
           ⟨(some 117), .mov (.t 0), none⟩,
           ⟨(some 118), .nilchk .ptr (.t 117), none⟩,
           ⟨(some 119), .faddr true 6 26 (.t 118), none⟩,
           ⟨(some 120), .load true 26 (.t 119), none⟩,
           ⟨(some 121), .callr 72 [(.t 120)], none⟩,
           ⟨(some 122), .callr 73 [(.t 121)], none⟩,
           ⟨(some 123), .callr 49 [(.t 116), (.t 122)], none⟩])
         (.rg [⟨(some 124), .mov (.t 1), none⟩,
           ⟨(some 125), .mov (.t 0), none⟩,
           ⟨(some 126), .nilchk .ptr (.t 125), none⟩,
           ⟨(some 127), .faddr true 6 26 (.t 126), none⟩,
           ⟨(some 128), .load true 26 (.t 127), none⟩,
           ⟨(some 129), .callr 74 [(.t 128)], none⟩,
           ⟨(some 130), .callr 53 [(.t 124), (.t 129)], none⟩])))))
         (.rg [⟨(some 86), .mov (.t 1), none⟩,
           ⟨(some 87), .callr 53 [(.t 86), (.c (.p (.int .u8 0)))], none⟩]))))
      .skip))
    (.seq (.seq (.rg [⟨(some 131), .mov (.t 2), none⟩,
      ⟨(some 132), .bin .geq (.t 131) (.c (.p (.int .u64 54453))), none⟩])
    (.cond (.t 132) (.seq (.rg [⟨(some 133), .mov (.t 1), none⟩,
        ⟨(some 134), .callr 66 [(.t 133), (.c (.p (.int .u64 0)))], none⟩])
      (.seq (.rg [⟨(some 135), .mov (.t 1), none⟩,
        ⟨(some 136), .callr 66 [(.t 135), (.c (.p (.int .u64 0)))], none⟩])
      (.rg [⟨(some 137), .mov (.t 1), none⟩,
        ⟨(some 138), .callr 66 [(.t 137), (.c (.p (.int .u64 0)))], none⟩])))
      .skip))
    (.seq (.rg [⟨(some 6), .mov (.c (.p .nilIface)), none⟩])
    .ret))))))))))))))))
def r50 : List DR := [.tmp 6]
theorem c50_ok : Tryd.f50.body.bind (cCode Tryd.prog) = some c50 := by kernel_rfl
theorem r50_ok : cRes Tryd.prog Tryd.f50.results.toList = some r50 := by kernel_rfl

/-- (given.example/pub-assaymark/pub/clickhousego/lib/proto.Settings).Encode -/
def c51 : DC :=
  (.seq (.rg [⟨(some 6), .mov (.c (.p .nilIface)), none⟩])
    (.seq (.seq (.rg [⟨(some 10), .mov (.t 0), none⟩,
      ⟨(some 11), .lenl (.t 10), none⟩,
      ⟨(some 12), .mov (.c (.p (.int .i64 0))), none⟩])
    (.block 0 (.loop (.seq (.rg [⟨(some 13), .bin .lss (.t 12) (.t 11), none⟩])
      (.seq (.cond (.t 13) .skip
        (.exit 0))
      (.seq (.block 1 (.seq (.rg [⟨(some 14), .iaddr 4 (.t 10) (.t 12), none⟩,
         ⟨(some 15), .load true 4 (.t 14), none⟩,
         ⟨(some 8), .alloc 4 (.agg [.p (.string ⟨#[]⟩), .p .nilIface, .p (.bool false), .p (.bool false)]), none⟩,
         ⟨none, .store 4 (.t 8) (.t 15), none⟩])
       (.seq (.rg [⟨(some 16), .mov (.t 1), none⟩,
         ⟨(some 17), .mov (.t 2), none⟩,
         ⟨(some 18), .callr 75 [(.t 8), (.t 16), (.t 17)], none⟩,
         ⟨(some 9), .mov (.t 18), none⟩])
       (.seq (.rg [⟨(some 19), .mov (.t 9), none⟩,
         ⟨(some 20), .eqn true .iface (.t 19), none⟩])
       (.cond (.t 20) (.seq (.rg [⟨(some 21), .mov (.t 9), none⟩,
           ⟨(some 6), .mov (.t 21), none⟩])
         .ret)
         .skip)))))
      (.rg [⟨(some 22), .bin .add (.t 12) (.c (.p (.int .i64 1))), none⟩,
        ⟨(some 12), .mov (.t 22), none⟩])))))))
    (.seq (.rg [⟨(some 6), .mov (.c (.p .nilIface)), none⟩])
    .ret)))
def r51 : List DR := [.tmp 6]
theorem c51_ok : Tryd.f51.body.bind (cCode Tryd.prog) = some c51 := by kernel_rfl
theorem r51_ok : cRes Tryd.prog Tryd.f51.results.toList = some r51 := by kernel_rfl

/-- (*given.example/pub-assaymark/pub/clickhousego/lib/proto.Query).interserverHash -/
def c52 : DC :=
  (.seq (.rg [⟨(some 2), .mov (.c (.p (.string ⟨#[]⟩))), none⟩])
    (.seq (.seq (.rg [⟨(some 4), .mov (.t 0), none⟩,
      ⟨(some 5), .nilchk .ptr (.t 4), none⟩,
      ⟨(some 6), .faddr false 39 1 (.t 5), none⟩,
      ⟨(some 7), .load false 1 (.t 6), none⟩,
      ⟨(some 8), .bin .eql (.t 7) (.c (.p (.string ⟨#[]⟩))), none⟩])
    (.cond (.t 8) (.seq (.rg [⟨(some 2), .mov (.c (.p (.string ⟨#[]⟩))), none⟩])
      .ret)
      .skip))
    (.seq (.rg [⟨(some 9), .callr 76 [], none⟩,
      ⟨(some 3), .mov (.t 9), none⟩])
    (.seq (.rg [⟨(some 10), .mov (.t 3), none⟩,
      ⟨(some 11), .mov (.t 0), none⟩,
      ⟨(some 12), .nilchk .ptr (.t 11), none⟩,
      ⟨(some 13), .faddr false 40 1 (.t 12), none⟩,
      ⟨(some 14), .load false 1 (.t 13), none⟩,
      ⟨(some 15), .s2b (.t 14), none⟩,
      ⟨(some 16), .callr 77 [(.t 10), (.t 15)], none⟩])
    (.seq (.rg [⟨(some 17), .mov (.t 3), none⟩,
      ⟨(some 18), .mov (.t 0), none⟩,
      ⟨(some 19), .nilchk .ptr (.t 18), none⟩,
      ⟨(some 20), .faddr false 39 1 (.t 19), none⟩,
      ⟨(some 21), .load false 1 (.t 20), none⟩,
      ⟨(some 22), .s2b (.t 21), none⟩,
      ⟨(some 23), .callr 77 [(.t 17), (.t 22)], none⟩])
    (.seq (.rg [⟨(some 24), .mov (.t 3), none⟩,
      ⟨(some 25), .mov (.t 0), none⟩,
      ⟨(some 26), .nilchk .ptr (.t 25), none⟩,
      ⟨(some 27), .faddr false 32 1 (.t 26), none⟩,
      ⟨(some 28), .load false 1 (.t 27), none⟩,
      ⟨(some 29), .s2b (.t 28), none⟩,
      ⟨(some 30), .callr 77 [(.t 24), (.t 29)], none⟩])
    (.seq (.rg [⟨(some 31), .mov (.t 3), none⟩,
      ⟨(some 32), .mov (.t 0), none⟩,
      ⟨(some 33), .nilchk .ptr (.t 32), none⟩,
      ⟨(some 34), .faddr false 0 1 (.t 33), none⟩,
      ⟨(some 35), .load false 1 (.t 34), none⟩,
      ⟨(some 36), .s2b (.t 35), none⟩,
      ⟨(some 37), .callr 77 [(.t 31), (.t 36)], none⟩])
    (.seq (.rg [⟨(some 38), .mov (.t 3), none⟩,
      ⟨(some 39), .mov (.t 0), none⟩,
      ⟨(some 40), .nilchk .ptr (.t 39), none⟩,
      ⟨(some 41), .faddr false 37 1 (.t 40), none⟩,
      ⟨(some 42), .load false 1 (.t 41), none⟩,
      ⟨(some 43), .s2b (.t 42), none⟩,
      ⟨(some 44), .callr 77 [(.t 38), (.t 43)], none⟩])
    (.seq (.rg [⟨(some 45), .mov (.t 3), none⟩,
      ⟨(some 46), .callr 78 [(.t 45), (.c (.p (.slice none 0 0)))], none⟩,
      ⟨(some 47), .b2s (.t 46), none⟩,
      ⟨(some 2), .mov (.t 47), none⟩])
    .ret)))))))))
def r52 : List DR := [.tmp 2]
theorem c52_ok : Tryd.f52.body.bind (cCode Tryd.prog) = some c52 := by kernel_rfl
theorem r52_ok : cRes Tryd.prog Tryd.f52.results.toList = some r52 := by kernel_rfl

/-- (*given.example/pub-assaymark/pub/chgo/proto.Buffer).PutByte -/
def c53 : DC :=
  (.rg [⟨(some 4), .mov (.t 0), none⟩,
      ⟨(some 5), .mov (.t 1), none⟩,
      ⟨(some 6), .callr 79 [(.t 4), (.t 5)], none⟩])
def r53 : List DR := []
theorem c53_ok : Tryd.f53.body.bind (cCode Tryd.prog) = some c53 := by kernel_rfl
theorem r53_ok : cRes Tryd.prog Tryd.f53.results.toList = some r53 := by kernel_rfl

/-- (*given.example/pub-assaymark/pub/chgo/proto.Buffer).PutBool -/
def c54 : DC :=
  (.seq (.rg [⟨(some 4), .mov (.t 1), none⟩])
    (.cond (.t 4) (.rg [⟨(some 5), .mov (.t 0), none⟩,
        ⟨(some 6), .callr 79 [(.t 5), (.c (.p (.int .u8 1)))], none⟩])
      (.rg [⟨(some 7), .mov (.t 0), none⟩,
        ⟨(some 8), .callr 79 [(.t 7), (.c (.p (.int .u8 0)))], none⟩])))
def r54 : List DR := []
theorem c54_ok : Tryd.f54.body.bind (cCode Tryd.prog) = some c54 := by kernel_rfl
theorem r54_ok : cRes Tryd.prog Tryd.f54.results.toList = some r54 := by kernel_rfl

/-- (given.example/pub-assaymark/pub/clickhousego/lib/proto.Parameters).Encode -/
def c55 : DC :=
  (.seq (.rg [⟨(some 6), .mov (.c (.p .nilIface)), none⟩])
    (.seq (.seq (.rg [⟨(some 10), .mov (.t 0), none⟩,
      ⟨(some 11), .lenl (.t 10), none⟩,
      ⟨(some 12), .mov (.c (.p (.int .i64 0))), none⟩])
    (.block 0 (.loop (.seq (.rg [⟨(some 13), .bin .lss (.t 12) (.t 11), none⟩])
      (.seq (.cond (.t 13) .skip
        (.exit 0))
      (.seq (.block 1 (.seq (.rg [⟨(some 14), .iaddr 2 (.t 10) (.t 12), none⟩,
         ⟨(some 15), .load true 2 (.t 14), none⟩,
         ⟨(some 8), .alloc 2 (.agg [.p (.string ⟨#[]⟩), .p (.string ⟨#[]⟩)]), none⟩,
         ⟨none, .store 2 (.t 8) (.t 15), none⟩])
       (.seq (.rg [⟨(some 16), .mov (.t 1), none⟩,
         ⟨(some 17), .mov (.t 2), none⟩,
         ⟨(some 18), .callr 80 [(.t 8), (.t 16), (.t 17)], none⟩,
         ⟨(some 9), .mov (.t 18), none⟩])
       (.seq (.rg [⟨(some 19), .mov (.t 9), none⟩,
         ⟨(some 20), .eqn true .iface (.t 19), none⟩])
       (.cond (.t 20) (.seq (.rg [⟨(some 21), .mov (.t 9), none⟩,
           ⟨(some 6), .mov (.t 21), none⟩])
         .ret)
         .skip)))))
      (.rg [⟨(some 22), .bin .add (.t 12) (.c (.p (.int .i64 1))), none⟩,
        ⟨(some 12), .mov (.t 22), none⟩])))))))
    (.seq (.rg [⟨(some 6), .mov (.c (.p .nilIface)), none⟩])
    .ret)))
def r55 : List DR := [.tmp 6]
theorem c55_ok : Tryd.f55.body.bind (cCode Tryd.prog) = some c55 := by kernel_rfl
theorem r55_ok : cRes Tryd.prog Tryd.f55.results.toList = some r55 := by kernel_rfl

/-- given.example/pub-assaymark/spec.protoDecimal -/
def c56 : DC :=
  (.seq (.rg [⟨(some 2), .mov (.c (.p (.string ⟨#[]⟩))), none⟩])
    (.seq (.seq (.rg [⟨(some 5), .mov (.t 0), none⟩,
      ⟨(some 6), .bin .eql (.t 5) (.c (.p (.int .i64 0))), none⟩])
    (.cond (.t 6) (.seq (.rg [⟨(some 2), .mov (.c (.p (.string ⟨#[48]⟩))), none⟩])
      .ret)
      .skip))
    (.seq (.rg [⟨(some 7), .mov (.t 0), none⟩,
      ⟨(some 8), .cint .u64 (.t 7), none⟩,
      ⟨(some 3), .mov (.c (.p (.string ⟨#[]⟩))), none⟩,
      ⟨(some 4), .mov (.t 8), none⟩])
    (.seq (.seq (.rg [⟨(some 9), .mov (.t 0), none⟩,
      ⟨(some 10), .bin .lss (.t 9) (.c (.p (.int .i64 0))), none⟩])
    (.cond (.t 10) (.rg [⟨(some 11), .mov (.t 4), none⟩,
        ⟨(some 12), .un .neg (.t 11), none⟩,
        ⟨(some 4), .mov (.t 12), none⟩])
      .skip))
    (.seq (.block 0 (.loop (.seq (.seq (.rg [⟨(some 13), .mov (.t 4), none⟩,
        ⟨(some 14), .bin .gtr (.t 13) (.c (.p (.int .u64 0))), none⟩])
      (.cond (.t 14) .skip
        (.exit 0)))
      (.block 1 (.seq (.rg [⟨(some 15), .mov (.t 4), none⟩,
         ⟨(some 16), .bin .rem (.t 15) (.c (.p (.int .u64 10))), none⟩,
         ⟨(some 17), .bin .add (.c (.p (.int .u64 48))) (.t 16), none⟩,
         ⟨(some 18), .cint .i32 (.t 17), none⟩,
         ⟨(some 19), .cstr (.t 18), none⟩,
         ⟨(some 20), .mov (.t 3), none⟩,
         ⟨(some 21), .bin .add (.t 19) (.t 20), none⟩,
         ⟨(some 3), .mov (.t 21), none⟩])
       (.rg [⟨(some 22), .mov (.t 4), none⟩,
         ⟨(some 23), .bin .quo (.t 22) (.c (.p (.int .u64 10))), none⟩,
         ⟨(some 4), .mov (.t 23), none⟩]))))))
    (.seq (.seq (.rg [⟨(some 24), .mov (.t 0), none⟩,
      ⟨(some 25), .bin .lss (.t 24) (.c (.p (.int .i64 0))), none⟩])
    (.cond (.t 25) (.rg [⟨(some 26), .mov (.t 3), none⟩,
        ⟨(some 27), .bin .add (.c (.p (.string ⟨#[45]⟩))) (.t 26), none⟩,
        ⟨(some 3), .mov (.t 27), none⟩])
      .skip))
    (.seq (.rg [⟨(some 28), .mov (.t 3), none⟩,
      ⟨(some 2), .mov (.t 28), none⟩])
    .ret)))))))
def r56 : List DR := [.tmp 2]
theorem c56_ok : Tryd.f56.body.bind (cCode Tryd.prog) = some c56 := by kernel_rfl
theorem r56_ok : cRes Tryd.prog Tryd.f56.results.toList = some r56 := by kernel_rfl

/-- given.example/pub-assaymark/pub/lightstrconv.FormatUint -/
def c57 : DC :=
  (.seq (.rg [⟨(some 4), .mov (.c (.p (.string ⟨#[]⟩))), none⟩])
    (.seq (.seq (.rg [⟨(some 7), .mov (.t 1), none⟩,
      ⟨(some 8), .bin .lss (.t 7) (.c (.p (.int .i64 2))), none⟩,
      ⟨(some 9), .mov (.t 8), none⟩,
      ⟨(some 10), .mov (.t 1), (some (9, false))⟩,
      ⟨(some 11), .bin .gtr (.t 10) (.c (.p (.int .i64 36))), (some (9, false))⟩,
      ⟨(some 12), .pick (.t 9) (.c (.p (.bool true))) (.t 11), none⟩])
    (.cond (.t 12) (.rg [⟨(some 13), .ifc 9 (.c (.p (.string ⟨#[115, 116, 114, 99, 111, 110, 118, 58, 32, 105, 108, 108, 101, 103, 97, 108, 32, 65, 112, 112, 101, 110, 100, 73, 110, 116, 47, 70, 111, 114, 109, 97, 116, 73, 110, 116, 32, 98, 97, 115, 101]⟩))), none⟩,
        ⟨none, .stop, none⟩])
      .skip))
    (.seq (.rg [⟨(some 5), .alloc 64 (.agg [.p (.int .u8 0), .p (.int .u8 0), .p (.int .u8 0), .p (.int .u8 0), .p (.int .u8 0), .p (.int .u8 0), .p (.int .u8 0), .p (.int .u8 0), .p (.int .u8 0), .p (.int .u8 0), .p (.int .u8 0), .p (.int .u8 0), .p (.int .u8 0), .p (.int .u8 0), .p (.int .u8 0), .p (.int .u8 0), .p (.int .u8 0), .p (.int .u8 0), .p (.int .u8 0), .p (.int .u8 0), .p (.int .u8 0), .p (.int .u8 0), .p (.int .u8 0), .p (.int .u8 0), .p (.int .u8 0), .p (.int .u8 0), .p (.int .u8 0), .p (.int .u8 0), .p (.int .u8 0), .p (.int .u8 0), .p (.int .u8 0), .p (.int .u8 0), .p (.int .u8 0), .p (.int .u8 0), .p (.int .u8 0), .p (.int .u8 0), .p (.int .u8 0), .p (.int .u8 0), .p (.int .u8 0), .p (.int .u8 0), .p (.int .u8 0), .p (.int .u8 0), .p (.int .u8 0), .p (.int .u8 0), .p (.int .u8 0), .p (.int .u8 0), .p (.int .u8 0), .p (.int .u8 0), .p (.int .u8 0), .p (.int .u8 0), .p (.int .u8 0), .p (.int .u8 0), .p (.int .u8 0), .p (.int .u8 0), .p (.int .u8 0), .p (.int .u8 0), .p (.int .u8 0), .p (.int .u8 0), .p (.int .u8 0), .p (.int .u8 0), .p (.int .u8 0), .p (.int .u8 0), .p (.int .u8 0), .p (.int .u8 0)]), none⟩])
    (.seq (.rg [⟨(some 6), .mov (.c (.p (.int .i64 64))), none⟩])
    (.seq (.block 0 (.loop (.seq (.seq (.rg [⟨(some 14), .mov (.t 6), none⟩,
        ⟨(some 15), .bin .eql (.t 14) (.c (.p (.int .i64 64))), none⟩,
        ⟨(some 16), .mov (.t 15), none⟩,
        ⟨(some 17), .mov (.t 0), (some (16, false))⟩,
        ⟨(some 18), .bin .gtr (.t 17) (.c (.p (.int .u64 0))), (some (16, false))⟩,
        ⟨(some 19), .pick (.t 16) (.c (.p (.bool true))) (.t 18), none⟩])
      (.cond (.t 19) .skip
        (.exit 0)))
      (.block 1 (.seq (.rg [⟨(some 20), .mov (.t 6), none⟩,
         ⟨(some 21), .bin .sub (.t 20) (.c (.p (.int .i64 1))), none⟩,
         ⟨(some 6), .mov (.t 21), none⟩])
       (.seq (.rg [⟨(some 22), .mov (.t 6), none⟩,
         ⟨(some 23), .mov (.t 0), none⟩,
         ⟨(some 24), .mov (.t 1), none⟩,
         ⟨(some 25), .cint .u64 (.t 24), none⟩,
         ⟨(some 26), .bin .rem (.t 23) (.t 25), none⟩,
         ⟨(some 27), .idxs (.c (.p (.string ⟨#[48, 49, 50, 51, 52, 53, 54, 55, 56, 57, 97, 98, 99, 100, 101, 102, 103, 104, 105, 106, 107, 108, 109, 110, 111, 112, 113, 114, 115, 116, 117, 118, 119, 120, 121, 122]⟩))) (.t 26), none⟩,
         ⟨(some 28), .iaddra 64 1 false (.t 5) (.t 22), none⟩,
         ⟨none, .store 1 (.t 28) (.t 27), none⟩])
       (.rg [⟨(some 29), .mov (.t 0), none⟩,
         ⟨(some 30), .mov (.t 1), none⟩,
         ⟨(some 31), .cint .u64 (.t 30), none⟩,
         ⟨(some 32), .bin .quo (.t 29) (.t 31), none⟩,
         ⟨(some 0), .mov (.t 32), none⟩])))))))
    (.seq (.rg [⟨(some 33), .mov (.t 6), none⟩,
      ⟨(some 34), .slca 64 1 false (.t 5) (some (.t 33)) none, none⟩,
      ⟨(some 35), .b2s (.t 34), none⟩,
      ⟨(some 4), .mov (.t 35), none⟩])
    .ret))))))
def r57 : List DR := [.tmp 4]
theorem c57_ok : Tryd.f57.body.bind (cCode Tryd.prog) = some c57 := by kernel_rfl
theorem r57_ok : cRes Tryd.prog Tryd.f57.results.toList = some r57 := by kernel_rfl

/-- given.example/pub-assaymark/pub/lightstrconv.Itoa -/
def c63 : DC :=
  (.seq (.rg [⟨(some 2), .mov (.c (.p (.string ⟨#[]⟩))), none⟩])
    (.seq (.rg [⟨(some 3), .mov (.t 0), none⟩,
      ⟨(some 4), .callr 91 [(.t 3), (.c (.p (.int .i64 10)))], none⟩,
      ⟨(some 2), .mov (.t 4), none⟩])
    .ret))
def r63 : List DR := [.tmp 2]
theorem c63_ok : Tryd.f63.body.bind (cCode Tryd.prog) = some c63 := by kernel_rfl
theorem r63_ok : cRes Tryd.prog Tryd.f63.results.toList = some r63 := by kernel_rfl

/-- (*given.example/pub-assaymark/pub/chgo/proto.Buffer).PutLen -/
def c64 : DC :=
  (.rg [⟨(some 4), .mov (.t 0), none⟩,
      ⟨(some 5), .mov (.t 1), none⟩,
      ⟨(some 6), .cint .u64 (.t 5), none⟩,
      ⟨(some 7), .callr 66 [(.t 4), (.t 6)], none⟩])
def r64 : List DR := []
theorem c64_ok : Tryd.f64.body.bind (cCode Tryd.prog) = some c64 := by kernel_rfl
theorem r64_ok : cRes Tryd.prog Tryd.f64.results.toList = some r64 := by kernel_rfl

/-- (*given.example/pub-assaymark/pub/chgo/proto.Buffer).PutInt64 -/
def c65 : DC :=
  (.rg [⟨(some 4), .mov (.t 0), none⟩,
      ⟨(some 5), .mov (.t 1), none⟩,
      ⟨(some 6), .cint .u64 (.t 5), none⟩,
      ⟨(some 7), .callr 92 [(.t 4), (.t 6)], none⟩])
def r65 : List DR := []
theorem c65_ok : Tryd.f65.body.bind (cCode Tryd.prog) = some c65 := by kernel_rfl
theorem r65_ok : cRes Tryd.prog Tryd.f65.results.toList = some r65 := by kernel_rfl

/-- (*given.example/pub-assaymark/pub/chgo/proto.Buffer).PutUVarInt -/
def c66 : DC :=
  (.seq (.rg [⟨(some 6), .bld [.p (.int .u8 0), .p (.int .u8 0), .p (.int .u8 0), .p (.int .u8 0), .p (.int .u8 0), .p (.int .u8 0), .p (.int .u8 0), .p (.int .u8 0), .p (.int .u8 0), .p (.int .u8 0)] [], none⟩,
      ⟨(some 4), .alloc 10 (.agg [.p (.int .u8 0), .p (.int .u8 0), .p (.int .u8 0), .p (.int .u8 0), .p (.int .u8 0), .p (.int .u8 0), .p (.int .u8 0), .p (.int .u8 0), .p (.int .u8 0), .p (.int .u8 0)]), none⟩,
      ⟨none, .store 10 (.t 4) (.t 6), none⟩])
    (.seq (.rg [⟨(some 7), .slca 10 1 false (.t 4) none none, none⟩,
      ⟨(some 8), .mov (.t 1), none⟩,
      ⟨(some 9), .callr 93 [(.t 7), (.t 8)], none⟩,
      ⟨(some 5), .mov (.t 9), none⟩])
    (.rgd [⟨⟨(some 10), .mov (.t 0), none⟩, 0, [0]⟩,
      ⟨⟨(some 11), .mov (.t 0), none⟩, 0, [0]⟩,
      ⟨⟨(some 12), .nilchk .ptr (.t 11), none⟩, 0, [0]⟩,
      ⟨⟨(some 13), .faddr false 0 1 (.t 12), none⟩, 0, [0]⟩,
      ⟨⟨(some 14), .load false 1 (.t 13), none⟩, 0, [0]⟩,
      ⟨⟨(some 15), .mov (.t 5), none⟩, 0, [0]⟩,
      ⟨⟨(some 16), .slca 10 1 false (.t 4) none (some (.t 15)), none⟩, 0, [0]⟩,
      ⟨⟨(some 17), .app 1 1 (.t 14) (.t 16), none⟩, 0, []⟩,
      ⟨⟨(some 18), .nilchk .ptr (.t 10), none⟩, 1, [1]⟩,
      ⟨⟨(some 19), .faddr false 0 1 (.t 18), none⟩, 1, [1]⟩,
      ⟨⟨none, .store 1 (.t 19) (.t 17), none⟩, 1, []⟩])))
def r66 : List DR := []
theorem c66_ok : Tryd.f66.body.bind (cCode Tryd.prog) = some c66 := by kernel_rfl
theorem r66_ok : cRes Tryd.prog Tryd.f66.results.toList = some r66 := by kernel_rfl

/-- (given.example/pub-assaymark/pub/zztrace.SpanContext).IsValid -/
def c67 : DC :=
  (.seq (.rg [⟨(some 1), .box (.t 0), none⟩,
      ⟨(some 2), .mov (.c (.p (.bool false))), none⟩])
    (.seq (.rg [⟨(some 3), .faddr true 0 16 (.t 1), none⟩,
      ⟨(some 4), .load true 16 (.t 3), none⟩,
      ⟨(some 5), .bld [.p (.int .u8 0), .p (.int .u8 0), .p (.int .u8 0), .p (.int .u8 0), .p (.int .u8 0), .p (.int .u8 0), .p (.int .u8 0), .p (.int .u8 0), .p (.int .u8 0), .p (.int .u8 0), .p (.int .u8 0), .p (.int .u8 0), .p (.int .u8 0), .p (.int .u8 0), .p (.int .u8 0), .p (.int .u8 0)] [], none⟩,
      ⟨(some 6), .eqs true [.int, .int, .int, .int, .int, .int, .int, .int, .int, .int, .int, .int, .int, .int, .int, .int] (.t 4) (.t 5), none⟩,
      ⟨(some 7), .mov (.t 6), none⟩,
      ⟨(some 8), .faddr true 16 8 (.t 1), (some (7, true))⟩,
      ⟨(some 9), .load true 8 (.t 8), (some (7, true))⟩,
      ⟨(some 10), .bld [.p (.int .u8 0), .p (.int .u8 0), .p (.int .u8 0), .p (.int .u8 0), .p (.int .u8 0), .p (.int .u8 0), .p (.int .u8 0), .p (.int .u8 0)] [], (some (7, true))⟩,
      ⟨(some 11), .eqs true [.int, .int, .int, .int, .int, .int, .int, .int] (.t 9) (.t 10), (some (7, true))⟩,
      ⟨(some 12), .pick (.t 7) (.t 11) (.c (.p (.bool false))), none⟩,
      ⟨(some 2), .mov (.t 12), none⟩])
    .ret))
def r67 : List DR := [.tmp 2]
theorem c67_ok : Tryd.f67.body.bind (cCode Tryd.prog) = some c67 := by kernel_rfl
theorem r67_ok : cRes Tryd.prog Tryd.f67.results.toList = some r67 := by kernel_rfl

/-- (*given.example/pub-assaymark/pub/clickhousego/lib/proto.Setting).encode -/
def c75 : DC :=
  (.seq (.rg [⟨(some 6), .mov (.c (.p .nilIface)), none⟩])
    (.seq (.rg [⟨(some 14), .mov (.t 1), none⟩,
      ⟨(some 15), .mov (.t 0), none⟩,
      ⟨(some 16), .nilchk .ptr (.t 15), none⟩,
      ⟨(some 17), .faddr false 0 1 (.t 16), none⟩,
      ⟨(some 18), .load false 1 (.t 17), none⟩,
      ⟨(some 19), .callr 49 [(.t 14), (.t 18)], none⟩])
    (.seq (.seq (.rg [⟨(some 20), .mov (.t 2), none⟩,
      ⟨(some 21), .bin .leq (.t 20) (.c (.p (.int .u64 54429))), none⟩])
    (.cond (.t 21) (.seq (.rg [⟨(some 7), .mov (.c (.p (.int .u64 0))), none⟩])
      (.seq (.seq (.rg [⟨(some 22), .mov (.t 0), none⟩,
        ⟨(some 23), .nilchk .ptr (.t 22), none⟩,
        ⟨(some 24), .faddr false 1 1 (.t 23), none⟩,
        ⟨(some 25), .load false 1 (.t 24), none⟩])
      (.block 0 (.seq (.rg [⟨(some 27), .tas 3 (.p (.int .i64 0)) true (.t 25), none⟩,
         ⟨(some 28), .ext (.t 27) 1, none⟩,
         ⟨(some 29), .ext (.t 27) 0, none⟩])
       (.cond (.t 28) (.seq (.rg [⟨(some 8), .mov (.t 29), none⟩])
         (.rg [⟨(some 30), .mov (.t 8), none⟩,
           ⟨(some 31), .cint .u64 (.t 30), none⟩,
           ⟨(some 7), .mov (.t 31), none⟩]))
         (.seq (.rg [⟨(some 32), .tas 4 (.p (.bool false)) true (.t 25), none⟩,
           ⟨(some 33), .ext (.t 32) 1, none⟩,
           ⟨(some 34), .ext (.t 32) 0, none⟩])
         (.cond (.t 33) (.seq (.rg [⟨(some 9), .mov (.t 34), none⟩])
           (.seq (.rg [⟨(some 7), .mov (.c (.p (.int .u64 0))), none⟩])
           (.seq (.rg [⟨(some 35), .mov (.t 9), none⟩])
           (.cond (.t 35) (.rg [⟨(some 7), .mov (.c (.p (.int .u64 1))), none⟩])
             .skip))))
           (.seq (.rg [⟨(some 10), .mov (.t 25), none⟩])
           (.seq (.rg [⟨(some 26), .callr 96 [(.c (.p (.string ⟨#[113, 117, 101, 114, 121, 32, 115, 101, 116, 116, 105, 110, 103, 32, 37, 115, 32, 104, 97, 115, 32, 117, 110, 115, 117, 112, 112, 111, 114, 116, 101, 100, 32, 100, 97, 116, 97, 32, 116, 121, 112, 101]⟩)))], none⟩,
             ⟨(some 6), .mov (.t 26), none⟩])
           .ret))))))))
      (.seq (.rg [⟨(some 36), .mov (.t 1), none⟩,
        ⟨(some 37), .mov (.t 7), none⟩,
        ⟨(some 38), .callr 66 [(.t 36), (.t 37)], none⟩])
      (.seq (.rg [⟨(some 6), .mov (.c (.p .nilIface)), none⟩])
      .ret))))
      .skip))
    (.seq (.seq (.rg [⟨(some 11), .mov (.c (.p (.int .u64 0))), none⟩])
    (.seq (.seq (.rg [⟨(some 39), .mov (.t 0), none⟩,
      ⟨(some 40), .nilchk .ptr (.t 39), none⟩,
      ⟨(some 41), .faddr false 2 1 (.t 40), none⟩,
      ⟨(some 42), .load false 1 (.t 41), none⟩])
    (.cond (.t 42) (.rg [⟨(some 43), .mov (.t 11), none⟩,
        ⟨(some 44), .bin .or (.t 43) (.c (.p (.int .u64 1))), none⟩,
        ⟨(some 11), .mov (.t 44), none⟩])
      .skip))
    (.seq (.seq (.rg [⟨(some 45), .mov (.t 0), none⟩,
      ⟨(some 46), .nilchk .ptr (.t 45), none⟩,
      ⟨(some 47), .faddr false 3 1 (.t 46), none⟩,
      ⟨(some 48), .load false 1 (.t 47), none⟩])
    (.cond (.t 48) (.rg [⟨(some 49), .mov (.t 11), none⟩,
        ⟨(some 50), .bin .or (.t 49) (.c (.p (.int .u64 2))), none⟩,
        ⟨(some 11), .mov (.t 50), none⟩])
      .skip))
    (.rg [⟨(some 51), .mov (.t 1), none⟩,
      ⟨(some 52), .mov (.t 11), none⟩,
      ⟨(some 53), .callr 66 [(.t 51), (.t 52)], none⟩]))))
    (.seq (.seq (.rg [⟨(some 54), .mov (.t 0), none⟩,
      ⟨(some 55), .nilchk .ptr (.t 54), none⟩,
      ⟨(some 56), .faddr false 3 1 (.t 55), none⟩,
      ⟨(some 57), .load false 1 (.t 56), none⟩])
    (.cond (.t 57) (.seq (.rg [⟨(some 59), .mov (.t 0), none⟩,
        ⟨(some 60), .nilchk .ptr (.t 59), none⟩,
        ⟨(some 61), .faddr false 1 1 (.t 60), none⟩,
        ⟨(some 62), .load false 1 (.t 61), none⟩,
        ⟨(some 63), .callr 97 [(.t 62)], none⟩,
        ⟨(some 58), .mov (.t 63), none⟩,
        ⟨(some 64), .ext (.t 58) 0, none⟩,
        ⟨(some 65), .ext (.t 58) 1, none⟩,
        ⟨(some 12), .mov (.t 64), none⟩,
        ⟨(some 13), .mov (.t 65), none⟩])
      (.seq (.seq (.rg [⟨(some 66), .mov (.t 13), none⟩,
        ⟨(some 67), .eqn true .iface (.t 66), none⟩])
      (.cond (.t 67) (.seq (.rg [⟨(some 68), .mov (.t 13), none⟩,
          ⟨(some 6), .mov (.t 68), none⟩])
        .ret)
        .skip))
      (.rg [⟨(some 69), .mov (.t 1), none⟩,
        ⟨(some 70), .mov (.t 12), none⟩,
        ⟨(some 71), .callr 49 [(.t 69), (.t 70)], none⟩])))
      (.rg [⟨(some 72), .mov (.t 1), none⟩,
        ⟨(some 73), .mov (.t 0), none⟩,
        ⟨(some 74), .nilchk .ptr (.t 73), none⟩,
        ⟨(some 75), .faddr false 1 1 (.t 74), none⟩,
        ⟨(some 76), .load false 1 (.t 75), none⟩,
        ⟨(some 77), .callr 98 [(.t 76)], none⟩,
        ⟨(some 78), .callr 49 [(.t 72), (.t 77)], none⟩])))
    (.seq (.rg [⟨(some 6), .mov (.c (.p .nilIface)), none⟩])
    .ret))))))
def r75 : List DR := [.tmp 6]
theorem c75_ok : Tryd.f75.body.bind (cCode Tryd.prog) = some c75 := by kernel_rfl
theorem r75_ok : cRes Tryd.prog Tryd.f75.results.toList = some r75 := by kernel_rfl

/-- (*given.example/pub-assaymark/pub/chgo/proto.Buffer).PutUInt8 -/
def c79 : DC :=
  (.rg [⟨(some 4), .mov (.t 0), none⟩,
      ⟨(some 5), .mov (.t 0), none⟩,
      ⟨(some 6), .nilchk .ptr (.t 5), none⟩,
      ⟨(some 7), .faddr false 0 1 (.t 6), none⟩,
      ⟨(some 8), .load false 1 (.t 7), none⟩,
      ⟨(some 9), .mov (.t 1), none⟩,
      ⟨(some 10), .lit 1 [(.t 9)], none⟩,
      ⟨(some 11), .app 1 1 (.t 8) (.t 10), none⟩,
      ⟨(some 12), .nilchk .ptr (.t 4), none⟩,
      ⟨(some 13), .faddr false 0 1 (.t 12), none⟩,
      ⟨none, .store 1 (.t 13) (.t 11), none⟩])
def r79 : List DR := []
theorem c79_ok : Tryd.f79.body.bind (cCode Tryd.prog) = some c79 := by kernel_rfl
theorem r79_ok : cRes Tryd.prog Tryd.f79.results.toList = some r79 := by kernel_rfl

/-- (*given.example/pub-assaymark/pub/clickhousego/lib/proto.Parameter).encode -/
def c80 : DC :=
  (.seq (.rg [⟨(some 6), .mov (.c (.p .nilIface)), none⟩])
    (.seq (.rg [⟨(some 9), .mov (.t 1), none⟩,
      ⟨(some 10), .mov (.t 0), none⟩,
      ⟨(some 11), .nilchk .ptr (.t 10), none⟩,
      ⟨(some 12), .faddr false 0 1 (.t 11), none⟩,
      ⟨(some 13), .load false 1 (.t 12), none⟩,
      ⟨(some 14), .callr 49 [(.t 9), (.t 13)], none⟩])
    (.seq (.rg [⟨(some 15), .mov (.t 1), none⟩,
      ⟨(some 16), .callr 66 [(.t 15), (.c (.p (.int .u64 2)))], none⟩])
    (.seq (.rg [⟨(some 18), .mov (.t 0), none⟩,
      ⟨(some 19), .nilchk .ptr (.t 18), none⟩,
      ⟨(some 20), .faddr false 1 1 (.t 19), none⟩,
      ⟨(some 21), .load false 1 (.t 20), none⟩,
      ⟨(some 22), .ifc 9 (.t 21), none⟩,
      ⟨(some 23), .callr 97 [(.t 22)], none⟩,
      ⟨(some 17), .mov (.t 23), none⟩,
      ⟨(some 24), .ext (.t 17) 0, none⟩,
      ⟨(some 25), .ext (.t 17) 1, none⟩,
      ⟨(some 7), .mov (.t 24), none⟩,
      ⟨(some 8), .mov (.t 25), none⟩])
    (.seq (.seq (.rg [⟨(some 26), .mov (.t 8), none⟩,
      ⟨(some 27), .eqn true .iface (.t 26), none⟩])
    (.cond (.t 27) (.seq (.rg [⟨(some 28), .mov (.t 8), none⟩,
        ⟨(some 6), .mov (.t 28), none⟩])
      .ret)
      .skip))
    (.seq (.rg [⟨(some 29), .mov (.t 1), none⟩,
      ⟨(some 30), .mov (.t 7), none⟩,
      ⟨(some 31), .callr 49 [(.t 29), (.t 30)], none⟩])
    (.seq (.rg [⟨(some 6), .mov (.c (.p .nilIface)), none⟩])
    .ret)))))))
def r80 : List DR := [.tmp 6]
theorem c80_ok : Tryd.f80.body.bind (cCode Tryd.prog) = some c80 := by kernel_rfl
theorem r80_ok : cRes Tryd.prog Tryd.f80.results.toList = some r80 := by kernel_rfl

/-- given.example/pub-assaymark/pub/lightstrconv.FormatInt -/
def c91 : DC :=
  (.seq (.rg [⟨(some 4), .mov (.c (.p (.string ⟨#[]⟩))), none⟩])
    (.seq (.seq (.rg [⟨(some 5), .mov (.t 0), none⟩,
      ⟨(some 6), .bin .lss (.t 5) (.c (.p (.int .i64 0))), none⟩])
    (.cond (.t 6) (.seq (.rg [⟨(some 7), .mov (.t 0), none⟩,
        ⟨(some 8), .cint .u64 (.t 7), none⟩,
        ⟨(some 9), .un .neg (.t 8), none⟩,
        ⟨(some 10), .mov (.t 1), none⟩,
        ⟨(some 11), .callr 57 [(.t 9), (.t 10)], none⟩,
        ⟨(some 12), .bin .add (.c (.p (.string ⟨#[45]⟩))) (.t 11), none⟩,
        ⟨(some 4), .mov (.t 12), none⟩])
      .ret)
      .skip))
    (.seq (.rg [⟨(some 13), .mov (.t 0), none⟩,
      ⟨(some 14), .cint .u64 (.t 13), none⟩,
      ⟨(some 15), .mov (.t 1), none⟩,
      ⟨(some 16), .callr 57 [(.t 14), (.t 15)], none⟩,
      ⟨(some 4), .mov (.t 16), none⟩])
    .ret)))
def r91 : List DR := [.tmp 4]
theorem c91_ok : Tryd.f91.body.bind (cCode Tryd.prog) = some c91 := by kernel_rfl
theorem r91_ok : cRes Tryd.prog Tryd.f91.results.toList = some r91 := by kernel_rfl

/-- (*given.example/pub-assaymark/pub/chgo/proto.Buffer).PutUInt64 -/
def c92 : DC :=
  (.seq (.rg [⟨(some 5), .bld [.p (.int .u8 0), .p (.int .u8 0), .p (.int .u8 0), .p (.int .u8 0), .p (.int .u8 0), .p (.int .u8 0), .p (.int .u8 0), .p (.int .u8 0)] [], none⟩,
      ⟨(some 4), .alloc 8 (.agg [.p (.int .u8 0), .p (.int .u8 0), .p (.int .u8 0), .p (.int .u8 0), .p (.int .u8 0), .p (.int .u8 0), .p (.int .u8 0), .p (.int .u8 0)]), none⟩,
      ⟨none, .store 8 (.t 4) (.t 5), none⟩])
    (.seq (.rgd [⟨⟨(some 6), .load true 0 (.g 1), none⟩, 0, [0]⟩,
      ⟨⟨(some 7), .slca 8 1 false (.t 4) none none, none⟩, 0, [0]⟩,
      ⟨⟨(some 8), .mov (.t 1), none⟩, 0, [0]⟩,
      ⟨⟨(some 9), .call 95 [(.t 6), (.t 7), (.t 8)], none⟩, 0, []⟩])
    (.rgd [⟨⟨(some 10), .mov (.t 0), none⟩, 0, [0]⟩,
      ⟨⟨(some 11), .mov (.t 0), none⟩, 0, [0]⟩,
      ⟨⟨(some 12), .nilchk .ptr (.t 11), none⟩, 0, [0]⟩,
      ⟨⟨(some 13), .faddr false 0 1 (.t 12), none⟩, 0, [0]⟩,
      ⟨⟨(some 14), .load false 1 (.t 13), none⟩, 0, [0]⟩,
      ⟨⟨(some 15), .slca 8 1 false (.t 4) none none, none⟩, 0, [0]⟩,
      ⟨⟨(some 16), .app 1 1 (.t 14) (.t 15), none⟩, 0, []⟩,
      ⟨⟨(some 17), .nilchk .ptr (.t 10), none⟩, 1, [1]⟩,
      ⟨⟨(some 18), .faddr false 0 1 (.t 17), none⟩, 1, [1]⟩,
      ⟨⟨none, .store 1 (.t 18) (.t 16), none⟩, 1, []⟩])))
def r92 : List DR := []
theorem c92_ok : Tryd.f92.body.bind (cCode Tryd.prog) = some c92 := by kernel_rfl
theorem r92_ok : cRes Tryd.prog Tryd.f92.results.toList = some r92 := by kernel_rfl

/-- encoding/binary.PutUvarint -/
def c93 : DC :=
  (.seq (.rg [⟨(some 4), .mov (.c (.p (.int .i64 0))), none⟩])
    (.seq (.rg [⟨(some 5), .mov (.c (.p (.int .i64 0))), none⟩])
    (.seq (.block 0 (.loop (.seq (.seq (.rg [⟨(some 6), .mov (.t 1), none⟩,
        ⟨(some 7), .bin .geq (.t 6) (.c (.p (.int .u64 128))), none⟩])
      (.cond (.t 7) .skip
        (.exit 0)))
      (.block 1 (.seq (.rg [⟨(some 8), .mov (.t 0), none⟩,
         ⟨(some 9), .mov (.t 5), none⟩,
         ⟨(some 10), .mov (.t 1), none⟩,
         ⟨(some 11), .cint .u8 (.t 10), none⟩,
         ⟨(some 12), .bin .or (.t 11) (.c (.p (.int .u8 128))), none⟩,
         ⟨(some 13), .iaddr 1 (.t 8) (.t 9), none⟩,
         ⟨none, .store 1 (.t 13) (.t 12), none⟩])
       (.seq (.rg [⟨(some 14), .mov (.t 1), none⟩,
         ⟨(some 15), .bin .shr (.t 14) (.c (.p (.int .u64 7))), none⟩,
         ⟨(some 1), .mov (.t 15), none⟩])
       (.rg [⟨(some 16), .mov (.t 5), none⟩,
         ⟨(some 17), .bin .add (.t 16) (.c (.p (.int .i64 1))), none⟩,
         ⟨(some 5), .mov (.t 17), none⟩])))))))
    (.seq (.rg [⟨(some 18), .mov (.t 0), none⟩,
      ⟨(some 19), .mov (.t 5), none⟩,
      ⟨(some 20), .mov (.t 1), none⟩,
      ⟨(some 21), .cint .u8 (.t 20), none⟩,
      ⟨(some 22), .iaddr 1 (.t 18) (.t 19), none⟩,
      ⟨none, .store 1 (.t 22) (.t 21), none⟩])
    (.seq (.rg [⟨(some 23), .mov (.t 5), none⟩,
      ⟨(some 24), .bin .add (.t 23) (.c (.p (.int .i64 1))), none⟩,
      ⟨(some 4), .mov (.t 24), none⟩])
    .ret)))))
def r93 : List DR := [.tmp 4]
theorem c93_ok : Tryd.f93.body.bind (cCode Tryd.prog) = some c93 := by kernel_rfl
theorem r93_ok : cRes Tryd.prog Tryd.f93.results.toList = some r93 := by kernel_rfl

/-- (encoding/binary.littleEndian).PutUint64 -/
def c95 : DC :=
  (.seq (.rg [⟨(some 3), .box (.t 0), none⟩])
    (.seq (.rg [⟨(some 6), .mov (.t 1), none⟩,
      ⟨(some 7), .iaddr 1 (.t 6) (.c (.p (.int .i64 7))), none⟩,
      ⟨(some 8), .load false 1 (.t 7), none⟩])
    (.seq (.rg [⟨(some 9), .mov (.t 1), none⟩,
      ⟨(some 10), .mov (.t 2), none⟩,
      ⟨(some 11), .cint .u8 (.t 10), none⟩,
      ⟨(some 12), .iaddr 1 (.t 9) (.c (.p (.int .i64 0))), none⟩,
      ⟨none, .store 1 (.t 12) (.t 11), none⟩])
    (.seq (.rg [⟨(some 13), .mov (.t 1), none⟩,
      ⟨(some 14), .mov (.t 2), none⟩,
      ⟨(some 15), .bin .shr (.t 14) (.c (.p (.int .u64 8))), none⟩,
      ⟨(some 16), .cint .u8 (.t 15), none⟩,
      ⟨(some 17), .iaddr 1 (.t 13) (.c (.p (.int .i64 1))), none⟩,
      ⟨none, .store 1 (.t 17) (.t 16), none⟩])
    (.seq (.rg [⟨(some 18), .mov (.t 1), none⟩,
      ⟨(some 19), .mov (.t 2), none⟩,
      ⟨(some 20), .bin .shr (.t 19) (.c (.p (.int .u64 16))), none⟩,
      ⟨(some 21), .cint .u8 (.t 20), none⟩,
      ⟨(some 22), .iaddr 1 (.t 18) (.c (.p (.int .i64 2))), none⟩,
      ⟨none, .store 1 (.t 22) (.t 21), none⟩])
    (.seq (.rg [⟨(some 23), .mov (.t 1), none⟩,
      ⟨(some 24), .mov (.t 2), none⟩,
      ⟨(some 25), .bin .shr (.t 24) (.c (.p (.int .u64 24))), none⟩,
      ⟨(some 26), .cint .u8 (.t 25), none⟩,
      ⟨(some 27), .iaddr 1 (.t 23) (.c (.p (.int .i64 3))), none⟩,
      ⟨none, .store 1 (.t 27) (.t 26), none⟩])
    (.seq (.rg [⟨(some 28), .mov (.t 1), none⟩,
      ⟨(some 29), .mov (.t 2), none⟩,
      ⟨(some 30), .bin .shr (.t 29) (.c (.p (.int .u64 32))), none⟩,
      ⟨(some 31), .cint .u8 (.t 30), none⟩,
      ⟨(some 32), .iaddr 1 (.t 28) (.c (.p (.int .i64 4))), none⟩,
      ⟨none, .store 1 (.t 32) (.t 31), none⟩])
    (.seq (.rg [⟨(some 33), .mov (.t 1), none⟩,
      ⟨(some 34), .mov (.t 2), none⟩,
      ⟨(some 35), .bin .shr (.t 34) (.c (.p (.int .u64 40))), none⟩,
      ⟨(some 36), .cint .u8 (.t 35), none⟩,
      ⟨(some 37), .iaddr 1 (.t 33) (.c (.p (.int .i64 5))), none⟩,
      ⟨none, .store 1 (.t 37) (.t 36), none⟩])
    (.seq (.rg [⟨(some 38), .mov (.t 1), none⟩,
      ⟨(some 39), .mov (.t 2), none⟩,
      ⟨(some 40), .bin .shr (.t 39) (.c (.p (.int .u64 48))), none⟩,
      ⟨(some 41), .cint .u8 (.t 40), none⟩,
      ⟨(some 42), .iaddr 1 (.t 38) (.c (.p (.int .i64 6))), none⟩,
      ⟨none, .store 1 (.t 42) (.t 41), none⟩])
    (.rg [⟨(some 43), .mov (.t 1), none⟩,
      ⟨(some 44), .mov (.t 2), none⟩,
      ⟨(some 45), .bin .shr (.t 44) (.c (.p (.int .u64 56))), none⟩,
      ⟨(some 46), .cint .u8 (.t 45), none⟩,
      ⟨(some 47), .iaddr 1 (.t 43) (.c (.p (.int .i64 7))), none⟩,
      ⟨none, .store 1 (.t 47) (.t 46), none⟩]))))))))))
def r95 : List DR := []
theorem c95_ok : Tryd.f95.body.bind (cCode Tryd.prog) = some c95 := by kernel_rfl
theorem r95_ok : cRes Tryd.prog Tryd.f95.results.toList = some r95 := by kernel_rfl

/-- given.example/pub-assaymark/pub/clickhousego/lib/proto.encodeFieldDump -/
def c97 : DC :=
  (.seq (.rg [⟨(some 2), .mov (.c (.p (.string ⟨#[]⟩))), none⟩,
      ⟨(some 3), .mov (.c (.p .nilIface)), none⟩])
    (.seq (.seq (.rg [⟨(some 5), .mov (.t 0), none⟩])
    (.block 0 (.seq (.rg [⟨(some 6), .tas 9 (.p (.string ⟨#[]⟩)) true (.t 5), none⟩,
       ⟨(some 7), .ext (.t 6) 1, none⟩,
       ⟨(some 8), .ext (.t 6) 0, none⟩])
     (.cond (.t 7) (.seq (.rg [⟨(some 4), .mov (.t 8), none⟩])
       (.seq (.rg [⟨(some 9), .mov (.t 4), none⟩,
         ⟨(some 10), .callr 109 [(.t 9)], none⟩,
         ⟨(some 11), .bin .add (.c (.p (.string ⟨#[39]⟩))) (.t 10), none⟩,
         ⟨(some 12), .bin .add (.t 11) (.c (.p (.string ⟨#[39]⟩))), none⟩,
         ⟨(some 2), .mov (.t 12), none⟩,
         ⟨(some 3), .mov (.c (.p .nilIface)), none⟩])
       .ret))
       .skip))))
    (.seq (.rg [⟨(some 13), .callr 96 [(.c (.p (.string ⟨#[117, 110, 115, 117, 112, 112, 111, 114, 116, 101, 100, 32, 102, 105, 101, 108, 100, 32, 116, 121, 112, 101, 32, 37, 84]⟩)))], none⟩,
      ⟨(some 2), .mov (.c (.p (.string ⟨#[]⟩))), none⟩,
      ⟨(some 3), .mov (.t 13), none⟩])
    .ret)))
def r97 : List DR := [.tmp 2, .tmp 3]
theorem c97_ok : Tryd.f97.body.bind (cCode Tryd.prog) = some c97 := by kernel_rfl
theorem r97_ok : cRes Tryd.prog Tryd.f97.results.toList = some r97 := by kernel_rfl

/-- given.example/pub-assaymark/pub/clickhousego/lib/proto.zzSprint -/
def c98 : DC :=
  (.seq (.rg [⟨(some 2), .mov (.c (.p (.string ⟨#[]⟩))), none⟩])
    (.seq (.seq (.rg [⟨(some 6), .mov (.t 0), none⟩])
    (.block 0 (.seq (.rg [⟨(some 7), .tas 9 (.p (.string ⟨#[]⟩)) true (.t 6), none⟩,
       ⟨(some 8), .ext (.t 7) 1, none⟩,
       ⟨(some 9), .ext (.t 7) 0, none⟩])
     (.cond (.t 8) (.seq (.rg [⟨(some 3), .mov (.t 9), none⟩])
       (.seq (.rg [⟨(some 10), .mov (.t 3), none⟩,
         ⟨(some 2), .mov (.t 10), none⟩])
       .ret))
       (.seq (.rg [⟨(some 11), .tas 3 (.p (.int .i64 0)) true (.t 6), none⟩,
         ⟨(some 12), .ext (.t 11) 1, none⟩,
         ⟨(some 13), .ext (.t 11) 0, none⟩])
       (.cond (.t 12) (.seq (.rg [⟨(some 4), .mov (.t 13), none⟩])
         (.seq (.rg [⟨(some 14), .mov (.t 4), none⟩,
           ⟨(some 15), .callr 63 [(.t 14)], none⟩,
           ⟨(some 2), .mov (.t 15), none⟩])
         .ret))
         (.seq (.rg [⟨(some 16), .tas 4 (.p (.bool false)) true (.t 6), none⟩,
           ⟨(some 17), .ext (.t 16) 1, none⟩,
           ⟨(some 18), .ext (.t 16) 0, none⟩])
         (.cond (.t 17) (.seq (.rg [⟨(some 5), .mov (.t 18), none⟩])
           (.seq (.rg [⟨(some 19), .mov (.t 5), none⟩,
             ⟨(some 20), .callr 110 [(.t 19)], none⟩,
             ⟨(some 2), .mov (.t 20), none⟩])
           .ret))
           .skip))))))))
    (.seq (.rg [⟨(some 2), .mov (.c (.p (.string ⟨#[]⟩))), none⟩])
    .ret)))
def r98 : List DR := [.tmp 2]
theorem c98_ok : Tryd.f98.body.bind (cCode Tryd.prog) = some c98 := by kernel_rfl
theorem r98_ok : cRes Tryd.prog Tryd.f98.results.toList = some r98 := by kernel_rfl

/-- given.example/pub-assaymark/pub/clickhousego/lib/proto.fieldDumpEscaper -/
def c109 : DC :=
  (.seq (.rg [⟨(some 2), .mov (.c (.p (.string ⟨#[]⟩))), none⟩])
    (.seq (.rg [⟨(some 3), .mov (.c (.p (.slice none 0 0))), none⟩])
    (.seq (.seq (.rg [⟨(some 6), .mov (.t 0), none⟩,
      ⟨(some 7), .lens (.t 6), none⟩,
      ⟨(some 8), .mov (.c (.p (.int .i64 0))), none⟩])
    (.block 0 (.loop (.seq (.rg [⟨(some 9), .bin .lss (.t 8) (.t 7), none⟩])
      (.seq (.cond (.t 9) .skip
        (.exit 0))
      (.seq (.block 1 (.seq (.rg [⟨(some 10), .mov (.t 8), none⟩,
         ⟨(some 4), .mov (.t 10), none⟩])
       (.seq (.rg [⟨(some 11), .mov (.t 0), none⟩,
         ⟨(some 12), .mov (.t 4), none⟩,
         ⟨(some 13), .idxs (.t 11) (.t 12), none⟩,
         ⟨(some 5), .mov (.t 13), none⟩])
       (.seq (.rg [⟨(some 14), .mov (.t 5), none⟩])
       (.block 2 (.seq (.seq (.rg [⟨(some 20), .bin .eql (.t 14) (.c (.p (.int .u8 92))), none⟩,
          ⟨(some 19), .mov (.t 20), none⟩])
        (.cond (.t 19) .skip
          (.rg [⟨(some 21), .bin .eql (.t 14) (.c (.p (.int .u8 39))), none⟩,
            ⟨(some 19), .mov (.t 21), none⟩])))
        (.cond (.t 19) (.rg [⟨(some 22), .mov (.t 3), none⟩,
            ⟨(some 23), .mov (.t 5), none⟩,
            ⟨(some 24), .lit 1 [(.c (.p (.int .u8 92))), (.t 23)], none⟩,
            ⟨(some 25), .app 1 1 (.t 22) (.t 24), none⟩,
            ⟨(some 3), .mov (.t 25), none⟩])
          (.seq (.rg [⟨(some 27), .bin .eql (.t 14) (.c (.p (.int .u8 10))), none⟩,
            ⟨(some 26), .mov (.t 27), none⟩])
          (.cond (.t 26) (.rg [⟨(some 28), .mov (.t 3), none⟩,
              ⟨(some 29), .lit 1 [(.c (.p (.int .u8 92))), (.c (.p (.int .u8 110)))], none⟩,
              ⟨(some 30), .app 1 1 (.t 28) (.t 29), none⟩,
              ⟨(some 3), .mov (.t 30), none⟩])
            (.seq (.rg [⟨(some 32), .bin .eql (.t 14) (.c (.p (.int .u8 13))), none⟩,
              ⟨(some 31), .mov (.t 32), none⟩])
            (.cond (.t 31) (.rg [⟨(some 33), .mov (.t 3), none⟩,
                ⟨(some 34), .lit 1 [(.c (.p (.int .u8 92))), (.c (.p (.int .u8 114)))], none⟩,
                ⟨(some 35), .app 1 1 (.t 33) (.t 34), none⟩,
                ⟨(some 3), .mov (.t 35), none⟩])
              (.seq (.rg [⟨(some 37), .bin .eql (.t 14) (.c (.p (.int .u8 9))), none⟩,
                ⟨(some 36), .mov (.t 37), none⟩])
              (.cond (.t 36) (.rg [⟨(some 38), .mov (.t 3), none⟩,
                  ⟨(some 39), .lit 1 [(.c (.p (.int .u8 92))), (.c (.p (.int .u8 116)))], none⟩,
                  ⟨(some 40), .app 1 1 (.t 38) (.t 39), none⟩,
                  ⟨(some 3), .mov (.t 40), none⟩])
                (.seq (.rg [⟨(some 42), .bin .eql (.t 14) (.c (.p (.int .u8 0))), none⟩,
                  ⟨(some 41), .mov (.t 42), none⟩])
                (.cond (.t 41) (.rg [⟨(some 43), .mov (.t 3), none⟩,
                    ⟨(some 44), .lit 1 [(.c (.p (.int .u8 92))), (.c (.p (.int .u8 48)))], none⟩,
                    ⟨(some 45), .app 1 1 (.t 43) (.t 44), none⟩,
                    ⟨(some 3), .mov (.t 45), none⟩])
                  (.rg [⟨(some 15), .mov (.t 3), none⟩,
                    ⟨(some 16), .mov (.t 5), none⟩,
                    ⟨(some 17), .lit 1 [(.t 16)], none⟩,
                    ⟨(some 18), .app 1 1 (.t 15) (.t 17), none⟩,
                    ⟨(some 3), .mov (.t 18), none⟩]))))))))))))))))
      (.rg [⟨(some 46), .bin .add (.t 8) (.c (.p (.int .i64 1))), none⟩,
        ⟨(some 8), .mov (.t 46), none⟩])))))))
    (.seq (.rg [⟨(some 47), .mov (.t 3), none⟩,
      ⟨(some 48), .b2s (.t 47), none⟩,
      ⟨(some 2), .mov (.t 48), none⟩])
    .ret))))
def r109 : List DR := [.tmp 2]
theorem c109_ok : Tryd.f109.body.bind (cCode Tryd.prog) = some c109 := by kernel_rfl
theorem r109_ok : cRes Tryd.prog Tryd.f109.results.toList = some r109 := by kernel_rfl

/-- given.example/pub-assaymark/pub/lightstrconv.FormatBool -/
def c110 : DC :=
  (.seq (.rg [⟨(some 2), .mov (.c (.p (.string ⟨#[]⟩))), none⟩])
    (.seq (.seq (.rg [⟨(some 3), .mov (.t 0), none⟩])
    (.cond (.t 3) (.seq (.rg [⟨(some 2), .mov (.c (.p (.string ⟨#[116, 114, 117, 101]⟩))), none⟩])
      .ret)
      .skip))
    (.seq (.rg [⟨(some 2), .mov (.c (.p (.string ⟨#[102, 97, 108, 115, 101]⟩))), none⟩])
    .ret)))
def r110 : List DR := [.tmp 2]
theorem c110_ok : Tryd.f110.body.bind (cCode Tryd.prog) = some c110 := by kernel_rfl
theorem r110_ok : cRes Tryd.prog Tryd.f110.results.toList = some r110 := by kernel_rfl

end Go.Proofs.YtdgnjngbheecnaaDoor
