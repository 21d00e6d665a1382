/- The codes of the functions, in the small language of Den. -/
import Derived.Test.YthkgekkpnldbmaaLibE
import Derived.Test.YthkgekkpnldbmaaProg
set_option linter.unusedVariables false
set_option linter.unusedSimpArgs false
set_option maxRecDepth 100000
namespace Go.Proofs.Ythkgekkpnldbmaa
open Go Go.Den Go.Proofs

/-- given.example/pub-assaymark/laws.FnNotify -/
def c3 : DC :=
  (.seq (.rg [⟨(some 2), .mov (.c (.p (.bool false))), none⟩])
    (.seq (.seq (.rg [⟨(some 29), .mov (.t 0), none⟩,
      ⟨(some 30), .callr 4 [(.t 29)], none⟩,
      ⟨(some 31), .un .not (.t 30), none⟩])
    (.cond (.t 31) (.seq (.rg [⟨(some 2), .mov (.c (.p (.bool true))), none⟩])
      .ret)
      .skip))
    (.seq (.rg [⟨(some 3), .mov (.c (.p (.slice none 0 0))), none⟩])
    (.seq (.rg [⟨(some 4), .mov (.c (.p (.slice none 0 0))), none⟩])
    (.seq (.rg [⟨(some 5), .mov (.c (.p (.slice none 0 0))), none⟩,
      ⟨(some 6), .mov (.c (.p (.slice none 0 0))), none⟩])
    (.seq (.seq (.rg [⟨(some 32), .mov (.t 0), none⟩,
      ⟨(some 33), .mov (.t 0), none⟩,
      ⟨(some 34), .lenl (.t 33), none⟩,
      ⟨(some 35), .mm false (.t 34) (.c (.p (.int .i64 14))), none⟩,
      ⟨(some 36), .slcl 10 (.t 32) none (some (.t 35)), none⟩,
      ⟨(some 37), .lenl (.t 36), none⟩,
      ⟨(some 38), .mov (.c (.p (.int .i64 0))), none⟩])
    (.block 0 (.loop (.seq (.rg [⟨(some 39), .bin .lss (.t 38) (.t 37), none⟩])
      (.seq (.cond (.t 39) .skip
        (.exit 0))
      (.seq (.block 1 (.seq (.rg [⟨(some 40), .iaddr 10 (.t 36) (.t 38), none⟩,
         ⟨(some 41), .load true 10 (.t 40), none⟩,
         ⟨(some 8), .alloc 10 (.agg [.p (.int .i64 0), .p (.int .i64 0), .p (.string ⟨#[]⟩), .p (.string ⟨#[]⟩), .p (.string ⟨#[]⟩), .p (.string ⟨#[]⟩), .p (.string ⟨#[]⟩), .p (.slice none 0 0), .p (.slice none 0 0), .p (.slice none 0 0)]), none⟩,
         ⟨none, .store 10 (.t 8) (.t 41), none⟩])
       (.seq (.rgd [⟨⟨(some 42), .faddr false 0 1 (.t 8), none⟩, 0, [0]⟩,
         ⟨⟨(some 43), .load false 1 (.t 42), none⟩, 0, [0]⟩,
         ⟨⟨(some 44), .cint .u64 (.t 43), none⟩, 0, [0]⟩,
         ⟨⟨(some 45), .bin .rem (.t 44) (.c (.p (.int .u64 3))), none⟩, 0, [0]⟩,
         ⟨⟨(some 46), .cint .i64 (.t 45), none⟩, 0, [0]⟩,
         ⟨⟨(some 47), .faddr true 1 9 (.t 8), none⟩, 0, [0]⟩,
         ⟨⟨(some 48), .load true 9 (.t 47), none⟩, 0, [0]⟩,
         ⟨⟨(some 49), .call 5 [(.t 48)], none⟩, 0, [0]⟩,
         ⟨⟨(some 50), .bld [.p (.int .i64 0), .p (.int .i64 0), .p (.string ⟨#[]⟩), .p (.string ⟨#[]⟩), .p (.string ⟨#[]⟩), .p (.string ⟨#[]⟩), .p (.string ⟨#[]⟩), .p (.slice none 0 0), .p (.slice none 0 0), .p (.slice none 0 0)] [(0, 1, (.t 46)), (1, 9, (.t 49))], none⟩, 1, []⟩,
         ⟨⟨none, .store 10 (.t 8) (.t 50), none⟩, 1, []⟩])
       (.seq (.rg [⟨(some 52), .mov (.t 4), none⟩,
         ⟨(some 53), .load true 10 (.t 8), none⟩,
         ⟨(some 54), .callr 6 [(.t 52), (.t 53)], none⟩,
         ⟨(some 51), .mov (.t 54), none⟩,
         ⟨(some 55), .ext (.t 51) 0, none⟩,
         ⟨(some 56), .ext (.t 51) 1, none⟩,
         ⟨(some 57), .ext (.t 51) 2, none⟩,
         ⟨(some 58), .ext (.t 51) 3, none⟩,
         ⟨(some 9), .mov (.t 55), none⟩,
         ⟨(some 10), .mov (.t 56), none⟩,
         ⟨(some 11), .mov (.t 57), none⟩,
         ⟨(some 12), .mov (.t 58), none⟩])
       (.seq (.rg [⟨(some 59), .mov (.t 12), none⟩])
       (.cond (.t 59) (.rg [⟨(some 60), .mov (.t 3), none⟩,
           ⟨(some 61), .load true 10 (.t 8), none⟩,
           ⟨(some 62), .lit 10 [(.t 61)], none⟩,
           ⟨(some 63), .app 10 168 (.t 60) (.t 62), none⟩,
           ⟨(some 64), .mov (.t 9), none⟩,
           ⟨(some 65), .mov (.t 5), none⟩,
           ⟨(some 66), .mov (.t 10), none⟩,
           ⟨(some 67), .lit 1 [(.t 66)], none⟩,
           ⟨(some 68), .app 1 1 (.t 65) (.t 67), none⟩,
           ⟨(some 69), .mov (.t 6), none⟩,
           ⟨(some 70), .mov (.t 11), none⟩,
           ⟨(some 71), .lit 1 [(.t 70)], none⟩,
           ⟨(some 72), .app 1 1 (.t 69) (.t 71), none⟩,
           ⟨(some 3), .mov (.t 63), none⟩,
           ⟨(some 4), .mov (.t 64), none⟩,
           ⟨(some 5), .mov (.t 68), none⟩,
           ⟨(some 6), .mov (.t 72), none⟩])
         .skip))))))
      (.rg [⟨(some 73), .bin .add (.t 38) (.c (.p (.int .i64 1))), none⟩,
        ⟨(some 38), .mov (.t 73), none⟩])))))))
    (.seq (.rg [⟨(some 74), .bld [.p (.string ⟨#[]⟩), .p (.string ⟨#[]⟩), .p (.string ⟨#[]⟩), .p (.string ⟨#[]⟩), .p (.string ⟨#[]⟩)] [(1, 1, (.c (.p (.string ⟨#[111, 119, 110]⟩))))], none⟩,
      ⟨(some 75), .lit 1 [(.c (.p (.string ⟨#[102, 105, 114, 115, 116]⟩)))], none⟩,
      ⟨(some 76), .bld [.p (.int .i64 0), .p (.string ⟨#[]⟩), .p (.string ⟨#[]⟩), .p (.string ⟨#[]⟩), .p (.string ⟨#[]⟩), .p (.string ⟨#[]⟩), .p (.slice none 0 0), .p (.slice none 0 0), .p (.slice none 0 0)] [(0, 1, (.c (.p (.int .i64 0)))), (1, 5, (.t 74)), (6, 1, (.t 75))], none⟩,
      ⟨(some 77), .bld [.p (.int .i64 0), .p (.int .i64 0), .p (.string ⟨#[]⟩), .p (.string ⟨#[]⟩), .p (.string ⟨#[]⟩), .p (.string ⟨#[]⟩), .p (.string ⟨#[]⟩), .p (.slice none 0 0), .p (.slice none 0 0), .p (.slice none 0 0)] [(0, 1, (.c (.p (.int .i64 0)))), (1, 9, (.t 76))], none⟩,
      ⟨(some 13), .alloc 10 (.agg [.p (.int .i64 0), .p (.int .i64 0), .p (.string ⟨#[]⟩), .p (.string ⟨#[]⟩), .p (.string ⟨#[]⟩), .p (.string ⟨#[]⟩), .p (.string ⟨#[]⟩), .p (.slice none 0 0), .p (.slice none 0 0), .p (.slice none 0 0)]), none⟩,
      ⟨none, .store 10 (.t 13) (.t 77), none⟩])
    (.seq (.seq (.rg [⟨(some 78), .mov (.t 3), none⟩,
      ⟨(some 79), .lenl (.t 78), none⟩,
      ⟨(some 80), .bin .eql (.t 79) (.c (.p (.int .i64 0))), none⟩])
    (.cond (.t 80) (.seq (.rg [⟨(some 82), .load true 10 (.t 13), none⟩,
        ⟨(some 83), .callr 6 [(.c (.p (.slice none 0 0))), (.t 82)], none⟩,
        ⟨(some 81), .mov (.t 83), none⟩,
        ⟨(some 84), .ext (.t 81) 0, none⟩,
        ⟨(some 85), .ext (.t 81) 1, none⟩,
        ⟨(some 86), .ext (.t 81) 2, none⟩,
        ⟨(some 87), .ext (.t 81) 3, none⟩,
        ⟨(some 14), .mov (.t 84), none⟩,
        ⟨(some 15), .mov (.t 85), none⟩,
        ⟨(some 16), .mov (.t 86), none⟩,
        ⟨(some 17), .mov (.t 87), none⟩])
      (.rg [⟨(some 88), .load true 10 (.t 13), none⟩,
        ⟨(some 89), .lit 10 [(.t 88)], none⟩,
        ⟨(some 90), .mov (.t 14), none⟩,
        ⟨(some 91), .lit 1 [(.c (.p (.bool true)))], none⟩,
        ⟨(some 92), .lit 1 [(.c (.p (.bool false)))], none⟩,
        ⟨(some 3), .mov (.t 89), none⟩,
        ⟨(some 4), .mov (.t 90), none⟩,
        ⟨(some 5), .mov (.t 91), none⟩,
        ⟨(some 6), .mov (.t 92), none⟩]))
      .skip))
    (.seq (.rg [⟨(some 94), .mov (.t 3), none⟩,
      ⟨(some 95), .callr 7 [(.t 94)], none⟩,
      ⟨(some 93), .mov (.t 95), none⟩,
      ⟨(some 96), .ext (.t 93) 0, none⟩,
      ⟨(some 97), .ext (.t 93) 1, none⟩,
      ⟨(some 98), .ext (.t 93) 2, none⟩,
      ⟨(some 99), .ext (.t 93) 3, none⟩,
      ⟨(some 100), .ext (.t 93) 4, none⟩,
      ⟨(some 101), .ext (.t 93) 5, none⟩,
      ⟨(some 18), .mov (.t 96), none⟩,
      ⟨(some 19), .mov (.t 97), none⟩,
      ⟨(some 20), .mov (.t 98), none⟩,
      ⟨(some 21), .mov (.t 99), none⟩,
      ⟨(some 22), .mov (.t 100), none⟩,
      ⟨(some 23), .mov (.t 101), none⟩])
    (.seq (.seq (.rg [⟨(some 102), .mov (.t 23), none⟩,
      ⟨(some 103), .un .not (.t 102), none⟩,
      ⟨(some 104), .mov (.t 103), none⟩,
      ⟨(some 105), .mov (.t 18), (some (104, false))⟩,
      ⟨(some 106), .lenl (.t 105), (some (104, false))⟩,
      ⟨(some 107), .mov (.t 3), (some (104, false))⟩,
      ⟨(some 108), .lenl (.t 107), (some (104, false))⟩,
      ⟨(some 109), .bin .neq (.t 106) (.t 108), (some (104, false))⟩,
      ⟨(some 110), .pick (.t 104) (.c (.p (.bool true))) (.t 109), none⟩,
      ⟨(some 111), .mov (.t 110), none⟩,
      ⟨(some 112), .mov (.t 19), (some (111, false))⟩,
      ⟨(some 113), .lenl (.t 112), (some (111, false))⟩,
      ⟨(some 114), .mov (.t 3), (some (111, false))⟩,
      ⟨(some 115), .lenl (.t 114), (some (111, false))⟩,
      ⟨(some 116), .bin .neq (.t 113) (.t 115), (some (111, false))⟩,
      ⟨(some 117), .pick (.t 111) (.c (.p (.bool true))) (.t 116), none⟩])
    (.cond (.t 117) (.seq (.rg [⟨(some 2), .mov (.c (.p (.bool false))), none⟩])
      .ret)
      .skip))
    (.seq (.seq (.rg [⟨(some 118), .mov (.t 3), none⟩,
      ⟨(some 119), .lenl (.t 118), none⟩,
      ⟨(some 120), .mov (.c (.p (.int .i64 0))), none⟩])
    (.block 2 (.loop (.seq (.rg [⟨(some 121), .bin .lss (.t 120) (.t 119), none⟩])
      (.seq (.cond (.t 121) .skip
        (.exit 2))
      (.seq (.block 3 (.seq (.rg [⟨(some 122), .mov (.t 120), none⟩,
         ⟨(some 123), .iaddr 10 (.t 118) (.t 120), none⟩,
         ⟨(some 124), .load true 10 (.t 123), none⟩,
         ⟨(some 25), .alloc 10 (.agg [.p (.int .i64 0), .p (.int .i64 0), .p (.string ⟨#[]⟩), .p (.string ⟨#[]⟩), .p (.string ⟨#[]⟩), .p (.string ⟨#[]⟩), .p (.string ⟨#[]⟩), .p (.slice none 0 0), .p (.slice none 0 0), .p (.slice none 0 0)]), none⟩,
         ⟨(some 24), .mov (.t 122), none⟩,
         ⟨none, .store 10 (.t 25) (.t 124), none⟩])
       (.seq (.rgd [⟨⟨(some 125), .faddr false 0 1 (.t 25), none⟩, 0, [0]⟩,
         ⟨⟨(some 126), .load false 1 (.t 125), none⟩, 0, [0]⟩,
         ⟨⟨(some 127), .bin .eql (.t 126) (.c (.p (.int .i64 0))), none⟩, 0, []⟩,
         ⟨⟨(some 128), .mov (.t 127), none⟩, 0, []⟩,
         ⟨⟨(some 129), .mov (.t 18), (some (128, true))⟩, 0, [0]⟩,
         ⟨⟨(some 130), .mov (.t 24), (some (128, true))⟩, 0, [0]⟩,
         ⟨⟨(some 131), .iaddr 1 (.t 129) (.t 130), (some (128, true))⟩, 0, [0]⟩,
         ⟨⟨(some 132), .load false 1 (.t 131), (some (128, true))⟩, 0, [0]⟩,
         ⟨⟨(some 133), .mov (.t 5), (some (128, true))⟩, 0, [0]⟩,
         ⟨⟨(some 134), .mov (.t 24), (some (128, true))⟩, 0, [0]⟩,
         ⟨⟨(some 135), .iaddr 1 (.t 133) (.t 134), (some (128, true))⟩, 0, [0]⟩,
         ⟨⟨(some 136), .load false 1 (.t 135), (some (128, true))⟩, 0, [0]⟩,
         ⟨⟨(some 137), .eqb true (.t 132) (.t 136), (some (128, true))⟩, 0, []⟩,
         ⟨⟨(some 138), .pick (.t 128) (.t 137) (.c (.p (.bool false))), none⟩, 0, []⟩,
         ⟨⟨(some 139), .mov (.t 138), none⟩, 0, []⟩,
         ⟨⟨(some 140), .faddr false 0 1 (.t 25), (some (139, false))⟩, 0, [0]⟩,
         ⟨⟨(some 141), .load false 1 (.t 140), (some (139, false))⟩, 0, [0]⟩,
         ⟨⟨(some 142), .bin .eql (.t 141) (.c (.p (.int .i64 2))), (some (139, false))⟩, 0, []⟩,
         ⟨⟨(some 143), .mov (.t 142), (some (139, false))⟩, 0, []⟩,
         ⟨⟨(some 144), .mov (.t 18), (some (143, true))⟩, 0, [0]⟩,
         ⟨⟨(some 145), .mov (.t 24), (some (143, true))⟩, 0, [0]⟩,
         ⟨⟨(some 146), .iaddr 1 (.t 144) (.t 145), (some (143, true))⟩, 0, [0]⟩,
         ⟨⟨(some 147), .load false 1 (.t 146), (some (143, true))⟩, 0, [0]⟩,
         ⟨⟨(some 148), .mov (.t 5), (some (143, true))⟩, 0, [0]⟩,
         ⟨⟨(some 149), .mov (.t 24), (some (143, true))⟩, 0, [0]⟩,
         ⟨⟨(some 150), .iaddr 1 (.t 148) (.t 149), (some (143, true))⟩, 0, [0]⟩,
         ⟨⟨(some 151), .load false 1 (.t 150), (some (143, true))⟩, 0, [0]⟩,
         ⟨⟨(some 152), .eqb true (.t 147) (.t 151), (some (143, true))⟩, 0, []⟩,
         ⟨⟨(some 153), .mov (.t 152), (some (143, true))⟩, 0, []⟩,
         ⟨⟨(some 154), .mov (.t 19), (some (153, false))⟩, 0, [0]⟩,
         ⟨⟨(some 155), .mov (.t 24), (some (153, false))⟩, 0, [0]⟩,
         ⟨⟨(some 156), .iaddr 1 (.t 154) (.t 155), (some (153, false))⟩, 0, [0]⟩,
         ⟨⟨(some 157), .load false 1 (.t 156), (some (153, false))⟩, 0, [0]⟩,
         ⟨⟨(some 158), .mov (.t 6), (some (153, false))⟩, 0, [0]⟩,
         ⟨⟨(some 159), .mov (.t 24), (some (153, false))⟩, 0, [0]⟩,
         ⟨⟨(some 160), .iaddr 1 (.t 158) (.t 159), (some (153, false))⟩, 0, [0]⟩,
         ⟨⟨(some 161), .load false 1 (.t 160), (some (153, false))⟩, 0, [0]⟩,
         ⟨⟨(some 162), .eqb true (.t 157) (.t 161), (some (153, false))⟩, 0, []⟩,
         ⟨⟨(some 163), .pick (.t 153) (.c (.p (.bool true))) (.t 162), (some (143, true))⟩, 0, []⟩,
         ⟨⟨(some 164), .pick (.t 143) (.t 163) (.c (.p (.bool false))), (some (139, false))⟩, 0, []⟩,
         ⟨⟨(some 165), .pick (.t 139) (.c (.p (.bool true))) (.t 164), none⟩, 0, []⟩])
       (.cond (.t 165) (.seq (.rg [⟨(some 2), .mov (.c (.p (.bool false))), none⟩])
         .ret)
         .skip))))
      (.rg [⟨(some 166), .bin .add (.t 120) (.c (.p (.int .i64 1))), none⟩,
        ⟨(some 120), .mov (.t 166), none⟩])))))))
    (.seq (.rg [⟨(some 26), .alloc 3 (.agg [.p (.slice none 0 0), .p (.slice none 0 0), .p (.slice none 0 0)]), none⟩])
    (.seq (.seq (.rg [⟨(some 167), .mov (.t 4), none⟩,
      ⟨(some 168), .lenl (.t 167), none⟩,
      ⟨(some 169), .mov (.c (.p (.int .i64 0))), none⟩])
    (.block 4 (.loop (.seq (.rg [⟨(some 170), .bin .lss (.t 169) (.t 168), none⟩])
      (.seq (.cond (.t 170) .skip
        (.exit 4))
      (.seq (.block 5 (.seq (.rg [⟨(some 171), .iaddr 9 (.t 167) (.t 169), none⟩,
         ⟨(some 172), .load true 9 (.t 171), none⟩,
         ⟨(some 28), .alloc 9 (.agg [.p (.int .i64 0), .p (.string ⟨#[]⟩), .p (.string ⟨#[]⟩), .p (.string ⟨#[]⟩), .p (.string ⟨#[]⟩), .p (.string ⟨#[]⟩), .p (.slice none 0 0), .p (.slice none 0 0), .p (.slice none 0 0)]), none⟩,
         ⟨none, .store 9 (.t 28) (.t 172), none⟩])
       (.rgv [⟨⟨(some 173), .faddr false 0 1 (.t 28), none⟩, 0, [0]⟩,
         ⟨⟨(some 174), .load false 1 (.t 173), none⟩, 0, [0]⟩,
         ⟨⟨(some 175), .faddr false 0 1 (.t 28), none⟩, 0, [0]⟩,
         ⟨⟨(some 176), .load false 1 (.t 175), none⟩, 0, [0]⟩,
         ⟨⟨(some 177), .iaddra 3 1 false (.t 26) (.t 176), none⟩, 0, [0]⟩,
         ⟨⟨(some 178), .load false 1 (.t 177), none⟩, 0, [0]⟩,
         ⟨⟨(some 179), .load true 9 (.t 28), none⟩, 0, [0]⟩,
         ⟨⟨(some 180), .lit 9 [(.t 179)], none⟩, 0, [0]⟩,
         ⟨⟨(some 181), .app 9 160 (.t 178) (.t 180), none⟩, 1, [0]⟩,
         ⟨⟨(some 182), .iaddra 3 1 false (.t 26) (.t 174), none⟩, 2, [2]⟩,
         ⟨⟨none, .store 1 (.t 182) (.t 181), none⟩, 2, []⟩])))
      (.rg [⟨(some 183), .bin .add (.t 169) (.c (.p (.int .i64 1))), none⟩,
        ⟨(some 169), .mov (.t 183), none⟩])))))))
    (.seq (.rg [⟨(some 184), .mov (.t 20), none⟩,
      ⟨(some 185), .iaddra 3 1 false (.t 26) (.c (.p (.int .i64 0))), none⟩,
      ⟨(some 186), .load false 1 (.t 185), none⟩,
      ⟨(some 187), .callr 8 [(.t 184), (.t 186)], none⟩,
      ⟨(some 188), .mov (.t 187), none⟩,
      ⟨(some 189), .mov (.t 21), (some (188, true))⟩,
      ⟨(some 190), .iaddra 3 1 false (.t 26) (.c (.p (.int .i64 1))), (some (188, true))⟩,
      ⟨(some 191), .load false 1 (.t 190), (some (188, true))⟩,
      ⟨(some 192), .callr 8 [(.t 189), (.t 191)], (some (188, true))⟩,
      ⟨(some 193), .pick (.t 188) (.t 192) (.c (.p (.bool false))), none⟩,
      ⟨(some 194), .mov (.t 193), none⟩,
      ⟨(some 195), .mov (.t 22), (some (194, true))⟩,
      ⟨(some 196), .iaddra 3 1 false (.t 26) (.c (.p (.int .i64 2))), (some (194, true))⟩,
      ⟨(some 197), .load false 1 (.t 196), (some (194, true))⟩,
      ⟨(some 198), .callr 8 [(.t 195), (.t 197)], (some (194, true))⟩,
      ⟨(some 199), .pick (.t 194) (.t 198) (.c (.p (.bool false))), none⟩,
      ⟨(some 2), .mov (.t 199), none⟩])
    .ret))))))))))))))
def r3 : List DR := [.tmp 2]
theorem c3_ok : Try.f3.body.bind (cCodeV [31] Try.prog) = some c3 := by kernel_rfl
theorem r3_ok : cRes Try.prog Try.f3.results.toList = some r3 := by kernel_rfl

/-- given.example/pub-assaymark/laws.zzFits10 -/
def c4 : DC :=
  (.seq (.rg [⟨(some 2), .mov (.c (.p (.bool false))), none⟩])
    (.seq (.seq (.rg [⟨(some 5), .mov (.t 0), none⟩,
      ⟨(some 6), .lenl (.t 5), none⟩,
      ⟨(some 7), .bin .gtr (.t 6) (.c (.p (.int .i64 2147483647))), none⟩])
    (.cond (.t 7) (.seq (.rg [⟨(some 2), .mov (.c (.p (.bool false))), none⟩])
      .ret)
      .skip))
    (.seq (.seq (.rg [⟨(some 8), .mov (.t 0), none⟩,
      ⟨(some 9), .lenl (.t 8), none⟩,
      ⟨(some 10), .mov (.c (.p (.int .i64 0))), none⟩])
    (.block 0 (.loop (.seq (.rg [⟨(some 11), .bin .lss (.t 10) (.t 9), none⟩])
      (.seq (.cond (.t 11) .skip
        (.exit 0))
      (.seq (.block 1 (.seq (.rg [⟨(some 12), .iaddr 10 (.t 8) (.t 10), none⟩,
         ⟨(some 13), .load true 10 (.t 12), none⟩,
         ⟨(some 4), .alloc 10 (.agg [.p (.int .i64 0), .p (.int .i64 0), .p (.string ⟨#[]⟩), .p (.string ⟨#[]⟩), .p (.string ⟨#[]⟩), .p (.string ⟨#[]⟩), .p (.string ⟨#[]⟩), .p (.slice none 0 0), .p (.slice none 0 0), .p (.slice none 0 0)]), none⟩,
         ⟨none, .store 10 (.t 4) (.t 13), none⟩])
       (.seq (.rg [⟨(some 14), .load true 10 (.t 4), none⟩,
         ⟨(some 15), .callr 9 [(.t 14)], none⟩,
         ⟨(some 16), .un .not (.t 15), none⟩])
       (.cond (.t 16) (.seq (.rg [⟨(some 2), .mov (.c (.p (.bool false))), none⟩])
         .ret)
         .skip))))
      (.rg [⟨(some 17), .bin .add (.t 10) (.c (.p (.int .i64 1))), none⟩,
        ⟨(some 10), .mov (.t 17), none⟩])))))))
    (.seq (.rg [⟨(some 2), .mov (.c (.p (.bool true))), none⟩])
    .ret))))
def r4 : List DR := [.tmp 2]
theorem c4_ok : Try.f4.body.bind (cCode Try.prog) = some c4 := by kernel_rfl
theorem r4_ok : cRes Try.prog Try.f4.results.toList = some r4 := by kernel_rfl

/-- given.example/pub-assaymark/laws.ntPlain -/
def c5 : DC :=
  (.seq (.rg [⟨(some 1), .box (.t 0), none⟩,
      ⟨(some 2), .alloc 9 (.agg [.p (.int .i64 0), .p (.string ⟨#[]⟩), .p (.string ⟨#[]⟩), .p (.string ⟨#[]⟩), .p (.string ⟨#[]⟩), .p (.string ⟨#[]⟩), .p (.slice none 0 0), .p (.slice none 0 0), .p (.slice none 0 0)]), none⟩])
    (.seq (.rgd [⟨⟨(some 3), .faddr false 0 1 (.t 1), none⟩, 0, [0]⟩,
      ⟨⟨(some 4), .load false 1 (.t 3), none⟩, 0, [0]⟩,
      ⟨⟨(some 5), .cint .u64 (.t 4), none⟩, 0, [0]⟩,
      ⟨⟨(some 6), .bin .rem (.t 5) (.c (.p (.int .u64 3))), none⟩, 0, [0]⟩,
      ⟨⟨(some 7), .cint .i64 (.t 6), none⟩, 0, [0]⟩,
      ⟨⟨(some 8), .faddr true 1 5 (.t 1), none⟩, 0, [0]⟩,
      ⟨⟨(some 9), .load true 5 (.t 8), none⟩, 0, [0]⟩,
      ⟨⟨(some 10), .call 10 [(.t 9)], none⟩, 0, [0]⟩,
      ⟨⟨(some 11), .faddr false 6 1 (.t 1), none⟩, 0, [0]⟩,
      ⟨⟨(some 12), .load false 1 (.t 11), none⟩, 0, [0]⟩,
      ⟨⟨(some 13), .call 11 [(.t 12)], none⟩, 1, [0]⟩,
      ⟨⟨(some 14), .faddr false 7 1 (.t 1), none⟩, 0, [0]⟩,
      ⟨⟨(some 15), .load false 1 (.t 14), none⟩, 0, [0]⟩,
      ⟨⟨(some 16), .call 12 [(.t 15)], none⟩, 2, [0]⟩,
      ⟨⟨(some 17), .faddr false 8 1 (.t 1), none⟩, 0, [0]⟩,
      ⟨⟨(some 18), .load false 1 (.t 17), none⟩, 0, [0]⟩,
      ⟨⟨(some 19), .call 12 [(.t 18)], none⟩, 3, [0]⟩,
      ⟨⟨(some 20), .bld [.p (.int .i64 0), .p (.string ⟨#[]⟩), .p (.string ⟨#[]⟩), .p (.string ⟨#[]⟩), .p (.string ⟨#[]⟩), .p (.string ⟨#[]⟩), .p (.slice none 0 0), .p (.slice none 0 0), .p (.slice none 0 0)] [(0, 1, (.t 7)), (1, 5, (.t 10)), (6, 1, (.t 13)), (7, 1, (.t 16)), (8, 1, (.t 19))], none⟩, 4, []⟩,
      ⟨⟨none, .store 9 (.t 2) (.t 20), none⟩, 4, []⟩])
    .ret))
def r5 : List DR := [.cell 2 true 9]
theorem c5_ok : Try.f5.body.bind (cCode Try.prog) = some c5 := by kernel_rfl
theorem r5_ok : cRes Try.prog Try.f5.results.toList = some r5 := by kernel_rfl

/-- given.example/pub-assaymark/spec.NotifyDo -/
def c6 : DC :=
  (.seq (.rg [⟨(some 3), .box (.t 1), none⟩,
      ⟨(some 4), .mov (.c (.p (.slice none 0 0))), none⟩,
      ⟨(some 5), .mov (.c (.p (.bool false))), none⟩,
      ⟨(some 6), .mov (.c (.p (.bool false))), none⟩,
      ⟨(some 7), .mov (.c (.p (.bool false))), none⟩])
    (.seq (.rg [⟨(some 16), .faddr true 1 9 (.t 3), none⟩,
      ⟨(some 17), .load true 9 (.t 16), none⟩,
      ⟨(some 8), .alloc 9 (.agg [.p (.int .i64 0), .p (.string ⟨#[]⟩), .p (.string ⟨#[]⟩), .p (.string ⟨#[]⟩), .p (.string ⟨#[]⟩), .p (.string ⟨#[]⟩), .p (.slice none 0 0), .p (.slice none 0 0), .p (.slice none 0 0)]), none⟩,
      ⟨none, .store 9 (.t 8) (.t 17), none⟩])
    (.seq (.seq (.rg [⟨(some 18), .faddr false 0 1 (.t 3), none⟩,
      ⟨(some 19), .load false 1 (.t 18), none⟩])
    (.block 0 (.seq (.rg [⟨(some 21), .bin .eql (.t 19) (.c (.p (.int .i64 0))), none⟩,
       ⟨(some 20), .mov (.t 21), none⟩])
     (.cond (.t 20) (.seq (.seq (.rg [⟨(some 22), .mov (.t 0), none⟩,
         ⟨(some 23), .lenl (.t 22), none⟩,
         ⟨(some 24), .mov (.c (.p (.int .i64 0))), none⟩])
       (.block 1 (.loop (.seq (.rg [⟨(some 25), .bin .lss (.t 24) (.t 23), none⟩])
         (.seq (.cond (.t 25) .skip
           (.exit 1))
         (.seq (.block 2 (.seq (.rg [⟨(some 26), .iaddr 9 (.t 22) (.t 24), none⟩,
            ⟨(some 27), .load true 9 (.t 26), none⟩,
            ⟨(some 10), .alloc 9 (.agg [.p (.int .i64 0), .p (.string ⟨#[]⟩), .p (.string ⟨#[]⟩), .p (.string ⟨#[]⟩), .p (.string ⟨#[]⟩), .p (.string ⟨#[]⟩), .p (.slice none 0 0), .p (.slice none 0 0), .p (.slice none 0 0)]), none⟩,
            ⟨none, .store 9 (.t 10) (.t 27), none⟩])
          (.seq (.rg [⟨(some 28), .faddr false 0 1 (.t 10), none⟩,
            ⟨(some 29), .load false 1 (.t 28), none⟩,
            ⟨(some 30), .faddr false 0 1 (.t 8), none⟩,
            ⟨(some 31), .load false 1 (.t 30), none⟩,
            ⟨(some 32), .bin .eql (.t 29) (.t 31), none⟩,
            ⟨(some 33), .mov (.t 32), none⟩,
            ⟨(some 34), .faddr true 1 5 (.t 10), (some (33, true))⟩,
            ⟨(some 35), .load true 5 (.t 34), (some (33, true))⟩,
            ⟨(some 36), .faddr true 1 5 (.t 8), (some (33, true))⟩,
            ⟨(some 37), .load true 5 (.t 36), (some (33, true))⟩,
            ⟨(some 38), .eqs false [.str, .str, .str, .str, .str] (.t 35) (.t 37), (some (33, true))⟩,
            ⟨(some 39), .pick (.t 33) (.t 38) (.c (.p (.bool false))), none⟩,
            ⟨(some 40), .mov (.t 39), none⟩,
            ⟨(some 41), .faddr false 6 1 (.t 10), (some (40, true))⟩,
            ⟨(some 42), .load false 1 (.t 41), (some (40, true))⟩,
            ⟨(some 43), .faddr false 6 1 (.t 8), (some (40, true))⟩,
            ⟨(some 44), .load false 1 (.t 43), (some (40, true))⟩,
            ⟨(some 45), .callr 13 [(.t 42), (.t 44), (.c (.p (.bool true)))], (some (40, true))⟩,
            ⟨(some 46), .lenl (.t 45), (some (40, true))⟩,
            ⟨(some 47), .bin .gtr (.t 46) (.c (.p (.int .i64 0))), (some (40, true))⟩,
            ⟨(some 48), .pick (.t 40) (.t 47) (.c (.p (.bool false))), none⟩])
          (.cond (.t 48) (.seq (.rg [⟨(some 49), .mov (.t 0), none⟩,
              ⟨(some 4), .mov (.t 49), none⟩,
              ⟨(some 5), .mov (.c (.p (.bool false))), none⟩,
              ⟨(some 6), .mov (.c (.p (.bool false))), none⟩,
              ⟨(some 7), .mov (.c (.p (.bool false))), none⟩])
            .ret)
            .skip))))
         (.rg [⟨(some 50), .bin .add (.t 24) (.c (.p (.int .i64 1))), none⟩,
           ⟨(some 24), .mov (.t 50), none⟩])))))))
       (.seq (.rgd [⟨⟨(some 51), .mov (.t 4), none⟩, 0, [0]⟩,
         ⟨⟨(some 52), .mov (.t 0), none⟩, 0, [0]⟩,
         ⟨⟨(some 53), .app 9 160 (.t 51) (.t 52), none⟩, 0, [0]⟩,
         ⟨⟨(some 54), .load true 9 (.t 8), none⟩, 0, [0]⟩,
         ⟨⟨(some 55), .litz 9 [(.t 54)], none⟩, 0, []⟩,
         ⟨⟨(some 56), .app 9 160 (.t 53) (.t 55), none⟩, 1, []⟩,
         ⟨⟨(some 4), .mov (.t 56), none⟩, 2, []⟩,
         ⟨⟨(some 5), .mov (.c (.p (.bool true))), none⟩, 2, []⟩,
         ⟨⟨(some 6), .mov (.c (.p (.bool false))), none⟩, 2, []⟩,
         ⟨⟨(some 7), .mov (.c (.p (.bool true))), none⟩, 2, []⟩])
       .ret))
       (.seq (.rg [⟨(some 58), .bin .eql (.t 19) (.c (.p (.int .i64 1))), none⟩,
         ⟨(some 57), .mov (.t 58), none⟩])
       (.cond (.t 57) (.seq (.seq (.rg [⟨(some 59), .mov (.t 0), none⟩,
           ⟨(some 60), .lenl (.t 59), none⟩,
           ⟨(some 61), .mov (.c (.p (.int .i64 0))), none⟩])
         (.block 3 (.loop (.seq (.rg [⟨(some 62), .bin .lss (.t 61) (.t 60), none⟩])
           (.seq (.cond (.t 62) .skip
             (.exit 3))
           (.seq (.block 4 (.seq (.rg [⟨(some 63), .iaddr 9 (.t 59) (.t 61), none⟩,
              ⟨(some 64), .load true 9 (.t 63), none⟩,
              ⟨(some 12), .alloc 9 (.agg [.p (.int .i64 0), .p (.string ⟨#[]⟩), .p (.string ⟨#[]⟩), .p (.string ⟨#[]⟩), .p (.string ⟨#[]⟩), .p (.string ⟨#[]⟩), .p (.slice none 0 0), .p (.slice none 0 0), .p (.slice none 0 0)]), none⟩,
              ⟨none, .store 9 (.t 12) (.t 64), none⟩])
            (.seq (.rg [⟨(some 65), .faddr false 0 1 (.t 12), none⟩,
              ⟨(some 66), .load false 1 (.t 65), none⟩,
              ⟨(some 67), .faddr false 0 1 (.t 8), none⟩,
              ⟨(some 68), .load false 1 (.t 67), none⟩,
              ⟨(some 69), .bin .neq (.t 66) (.t 68), none⟩,
              ⟨(some 70), .mov (.t 69), none⟩,
              ⟨(some 71), .faddr true 1 5 (.t 12), (some (70, false))⟩,
              ⟨(some 72), .load true 5 (.t 71), (some (70, false))⟩,
              ⟨(some 73), .faddr true 1 5 (.t 8), (some (70, false))⟩,
              ⟨(some 74), .load true 5 (.t 73), (some (70, false))⟩,
              ⟨(some 75), .eqs true [.str, .str, .str, .str, .str] (.t 72) (.t 74), (some (70, false))⟩,
              ⟨(some 76), .pick (.t 70) (.c (.p (.bool true))) (.t 75), none⟩])
            (.cond (.t 76) (.rg [⟨(some 77), .mov (.t 4), none⟩,
                ⟨(some 78), .load true 9 (.t 12), none⟩,
                ⟨(some 79), .lit 9 [(.t 78)], none⟩,
                ⟨(some 80), .app 9 160 (.t 77) (.t 79), none⟩,
                ⟨(some 4), .mov (.t 80), none⟩])
              .skip))))
           (.rg [⟨(some 81), .bin .add (.t 61) (.c (.p (.int .i64 1))), none⟩,
             ⟨(some 61), .mov (.t 81), none⟩])))))))
         (.seq (.rg [⟨(some 82), .mov (.t 4), none⟩,
           ⟨(some 4), .mov (.t 82), none⟩,
           ⟨(some 5), .mov (.c (.p (.bool true))), none⟩,
           ⟨(some 6), .mov (.c (.p (.bool false))), none⟩,
           ⟨(some 7), .mov (.c (.p (.bool true))), none⟩])
         .ret))
         .skip))))))
    (.seq (.rg [⟨(some 13), .mov (.c (.p (.int .i64 0))), none⟩])
    (.seq (.seq (.rg [⟨(some 83), .mov (.t 0), none⟩,
      ⟨(some 84), .lenl (.t 83), none⟩,
      ⟨(some 85), .mov (.c (.p (.int .i64 0))), none⟩])
    (.block 5 (.loop (.seq (.rg [⟨(some 86), .bin .lss (.t 85) (.t 84), none⟩])
      (.seq (.cond (.t 86) .skip
        (.exit 5))
      (.seq (.block 6 (.seq (.rg [⟨(some 87), .iaddr 9 (.t 83) (.t 85), none⟩,
         ⟨(some 88), .load true 9 (.t 87), none⟩,
         ⟨(some 15), .alloc 9 (.agg [.p (.int .i64 0), .p (.string ⟨#[]⟩), .p (.string ⟨#[]⟩), .p (.string ⟨#[]⟩), .p (.string ⟨#[]⟩), .p (.string ⟨#[]⟩), .p (.slice none 0 0), .p (.slice none 0 0), .p (.slice none 0 0)]), none⟩,
         ⟨none, .store 9 (.t 15) (.t 88), none⟩])
       (.seq (.rgd [⟨⟨(some 89), .faddr false 0 1 (.t 15), none⟩, 0, [0]⟩,
         ⟨⟨(some 90), .load false 1 (.t 89), none⟩, 0, [0]⟩,
         ⟨⟨(some 91), .faddr false 0 1 (.t 8), none⟩, 0, [0]⟩,
         ⟨⟨(some 92), .load false 1 (.t 91), none⟩, 0, [0]⟩,
         ⟨⟨(some 93), .bin .eql (.t 90) (.t 92), none⟩, 0, []⟩,
         ⟨⟨(some 94), .mov (.t 93), none⟩, 0, []⟩,
         ⟨⟨(some 95), .faddr true 1 5 (.t 15), (some (94, true))⟩, 0, [0]⟩,
         ⟨⟨(some 96), .load true 5 (.t 95), (some (94, true))⟩, 0, [0]⟩,
         ⟨⟨(some 97), .faddr true 1 5 (.t 8), (some (94, true))⟩, 0, [0]⟩,
         ⟨⟨(some 98), .load true 5 (.t 97), (some (94, true))⟩, 0, [0]⟩,
         ⟨⟨(some 99), .eqs false [.str, .str, .str, .str, .str] (.t 96) (.t 98), (some (94, true))⟩, 0, []⟩,
         ⟨⟨(some 100), .pick (.t 94) (.t 99) (.c (.p (.bool false))), none⟩, 0, []⟩,
         ⟨⟨(some 101), .mov (.t 100), none⟩, 0, []⟩,
         ⟨⟨(some 102), .load true 9 (.t 15), (some (101, true))⟩, 0, [0]⟩,
         ⟨⟨(some 103), .faddr false 6 1 (.t 8), (some (101, true))⟩, 0, [0]⟩,
         ⟨⟨(some 104), .load false 1 (.t 103), (some (101, true))⟩, 0, [0]⟩,
         ⟨⟨(some 105), .faddr false 7 1 (.t 8), (some (101, true))⟩, 0, [0]⟩,
         ⟨⟨(some 106), .load false 1 (.t 105), (some (101, true))⟩, 0, [0]⟩,
         ⟨⟨(some 107), .call 15 [(.t 106)], (some (101, true))⟩, 0, [0]⟩,
         ⟨⟨(some 108), .faddr false 8 1 (.t 8), (some (101, true))⟩, 0, [0]⟩,
         ⟨⟨(some 109), .load false 1 (.t 108), (some (101, true))⟩, 0, [0]⟩,
         ⟨⟨(some 110), .call 15 [(.t 109)], (some (101, true))⟩, 1, [0]⟩,
         ⟨⟨(some 111), .call 14 [(.t 102), (.t 104), (.t 107), (.t 110)], (some (101, true))⟩, 2, []⟩,
         ⟨⟨(some 112), .pick (.t 101) (.t 111) (.c (.p (.bool false))), none⟩, 3, []⟩])
       (.cond (.t 112) (.rg [⟨(some 113), .mov (.t 13), none⟩,
           ⟨(some 114), .bin .add (.t 113) (.c (.p (.int .i64 1))), none⟩,
           ⟨(some 13), .mov (.t 114), none⟩])
         (.rg [⟨(some 115), .mov (.t 4), none⟩,
           ⟨(some 116), .load true 9 (.t 15), none⟩,
           ⟨(some 117), .lit 9 [(.t 116)], none⟩,
           ⟨(some 118), .app 9 160 (.t 115) (.t 117), none⟩,
           ⟨(some 4), .mov (.t 118), none⟩])))))
      (.rg [⟨(some 119), .bin .add (.t 85) (.c (.p (.int .i64 1))), none⟩,
        ⟨(some 85), .mov (.t 119), none⟩])))))))
    (.seq (.rg [⟨(some 120), .mov (.t 4), none⟩,
      ⟨(some 121), .mov (.t 13), none⟩,
      ⟨(some 122), .bin .gtr (.t 121) (.c (.p (.int .i64 0))), none⟩,
      ⟨(some 123), .mov (.t 13), none⟩,
      ⟨(some 124), .bin .eql (.t 123) (.c (.p (.int .i64 0))), none⟩,
      ⟨(some 125), .mov (.t 13), none⟩,
      ⟨(some 126), .bin .lss (.t 125) (.c (.p (.int .i64 2))), none⟩,
      ⟨(some 4), .mov (.t 120), none⟩,
      ⟨(some 5), .mov (.t 122), none⟩,
      ⟨(some 6), .mov (.t 124), none⟩,
      ⟨(some 7), .mov (.t 126), none⟩])
    .ret))))))
def r6 : List DR := [.tmp 4, .tmp 5, .tmp 6, .tmp 7]
theorem c6_ok : Try.f6.body.bind (cCode Try.prog) = some c6 := by kernel_rfl
theorem r6_ok : cRes Try.prog Try.f6.results.toList = some r6 := by kernel_rfl

/-- given.example/pub-assaymark/impl.Notify -/
def c7 : DC :=
  (.seq (.rg [⟨(some 2), .mov (.c (.p (.slice none 0 0))), none⟩,
      ⟨(some 3), .mov (.c (.p (.slice none 0 0))), none⟩,
      ⟨(some 4), .mov (.c (.p (.slice none 0 0))), none⟩,
      ⟨(some 5), .mov (.c (.p (.slice none 0 0))), none⟩,
      ⟨(some 6), .mov (.c (.p (.slice none 0 0))), none⟩,
      ⟨(some 7), .mov (.c (.p (.bool false))), none⟩])
    (.seq (.rg [⟨(some 19), .bld [.p (.string ⟨#[]⟩), .p (.string ⟨#[]⟩), .p (.slice none 0 0), .p (.slice none 0 0), .p (.slice none 0 0)] [], none⟩,
      ⟨(some 20), .box (.t 19), none⟩,
      ⟨(some 8), .mov (.t 20), none⟩])
    (.seq (.seq (.rg [⟨(some 21), .mov (.t 0), none⟩,
      ⟨(some 22), .lenl (.t 21), none⟩,
      ⟨(some 23), .mov (.c (.p (.int .i64 0))), none⟩])
    (.block 0 (.loop (.seq (.rg [⟨(some 24), .bin .lss (.t 23) (.t 22), none⟩])
      (.seq (.cond (.t 24) .skip
        (.exit 0))
      (.seq (.block 1 (.seq (.rg [⟨(some 25), .iaddr 10 (.t 21) (.t 23), none⟩,
         ⟨(some 26), .load true 10 (.t 25), none⟩,
         ⟨(some 10), .alloc 10 (.agg [.p (.int .i64 0), .p (.int .i64 0), .p (.string ⟨#[]⟩), .p (.string ⟨#[]⟩), .p (.string ⟨#[]⟩), .p (.string ⟨#[]⟩), .p (.string ⟨#[]⟩), .p (.slice none 0 0), .p (.slice none 0 0), .p (.slice none 0 0)]), none⟩,
         ⟨none, .store 10 (.t 10) (.t 26), none⟩])
       (.seq (.seq (.rg [⟨(some 27), .faddr false 0 1 (.t 10), none⟩,
         ⟨(some 28), .load false 1 (.t 27), none⟩,
         ⟨(some 29), .bin .lss (.t 28) (.c (.p (.int .i64 0))), none⟩,
         ⟨(some 30), .mov (.t 29), none⟩,
         ⟨(some 31), .faddr false 0 1 (.t 10), (some (30, false))⟩,
         ⟨(some 32), .load false 1 (.t 31), (some (30, false))⟩,
         ⟨(some 33), .bin .gtr (.t 32) (.c (.p (.int .i64 2))), (some (30, false))⟩,
         ⟨(some 34), .pick (.t 30) (.c (.p (.bool true))) (.t 33), none⟩,
         ⟨(some 35), .mov (.t 34), none⟩,
         ⟨(some 36), .faddr true 1 9 (.t 10), (some (35, false))⟩,
         ⟨(some 37), .faddr false 0 1 (.t 36), (some (35, false))⟩,
         ⟨(some 38), .load false 1 (.t 37), (some (35, false))⟩,
         ⟨(some 39), .bin .lss (.t 38) (.c (.p (.int .i64 0))), (some (35, false))⟩,
         ⟨(some 40), .pick (.t 35) (.c (.p (.bool true))) (.t 39), none⟩,
         ⟨(some 41), .mov (.t 40), none⟩,
         ⟨(some 42), .faddr true 1 9 (.t 10), (some (41, false))⟩,
         ⟨(some 43), .faddr false 0 1 (.t 42), (some (41, false))⟩,
         ⟨(some 44), .load false 1 (.t 43), (some (41, false))⟩,
         ⟨(some 45), .bin .gtr (.t 44) (.c (.p (.int .i64 2))), (some (41, false))⟩,
         ⟨(some 46), .pick (.t 41) (.c (.p (.bool true))) (.t 45), none⟩,
         ⟨(some 47), .mov (.t 46), none⟩,
         ⟨(some 48), .mov (.t 0), (some (47, false))⟩,
         ⟨(some 49), .lenl (.t 48), (some (47, false))⟩,
         ⟨(some 50), .bin .gtr (.t 49) (.c (.p (.int .i64 200))), (some (47, false))⟩,
         ⟨(some 51), .pick (.t 47) (.c (.p (.bool true))) (.t 50), none⟩])
       (.cond (.t 51) (.seq (.rg [⟨(some 2), .mov (.c (.p (.slice none 0 0))), none⟩,
           ⟨(some 3), .mov (.c (.p (.slice none 0 0))), none⟩,
           ⟨(some 4), .mov (.c (.p (.slice none 0 0))), none⟩,
           ⟨(some 5), .mov (.c (.p (.slice none 0 0))), none⟩,
           ⟨(some 6), .mov (.c (.p (.slice none 0 0))), none⟩,
           ⟨(some 7), .mov (.c (.p (.bool false))), none⟩])
         .ret)
         .skip))
       (.seq (.rg [⟨(some 53), .mov (.t 8), none⟩,
         ⟨(some 54), .load true 10 (.t 10), none⟩,
         ⟨(some 55), .callr 16 [(.t 53), (.t 54)], none⟩,
         ⟨(some 52), .mov (.t 55), none⟩,
         ⟨(some 56), .ext (.t 52) 0, none⟩,
         ⟨(some 57), .ext (.t 52) 1, none⟩,
         ⟨(some 11), .mov (.t 56), none⟩,
         ⟨(some 12), .mov (.t 57), none⟩])
       (.rg [⟨(some 58), .mov (.t 2), none⟩,
         ⟨(some 59), .mov (.t 11), none⟩,
         ⟨(some 60), .lit 1 [(.t 59)], none⟩,
         ⟨(some 61), .app 1 1 (.t 58) (.t 60), none⟩,
         ⟨(some 62), .mov (.t 3), none⟩,
         ⟨(some 63), .mov (.t 12), none⟩,
         ⟨(some 64), .lit 1 [(.t 63)], none⟩,
         ⟨(some 65), .app 1 1 (.t 62) (.t 64), none⟩,
         ⟨(some 2), .mov (.t 61), none⟩,
         ⟨(some 3), .mov (.t 65), none⟩])))))
      (.rg [⟨(some 66), .bin .add (.t 23) (.c (.p (.int .i64 1))), none⟩,
        ⟨(some 23), .mov (.t 66), none⟩])))))))
    (.seq (.seq (.rg [⟨(some 67), .mov (.t 8), none⟩,
      ⟨(some 68), .nilchk .ptr (.t 67), none⟩,
      ⟨(some 69), .faddr false 3 1 (.t 68), none⟩,
      ⟨(some 70), .load false 1 (.t 69), none⟩,
      ⟨(some 71), .lenl (.t 70), none⟩,
      ⟨(some 72), .mov (.c (.p (.int .i64 0))), none⟩])
    (.block 2 (.loop (.seq (.rg [⟨(some 73), .bin .lss (.t 72) (.t 71), none⟩])
      (.seq (.cond (.t 73) .skip
        (.exit 2))
      (.seq (.block 3 (.seq (.rg [⟨(some 74), .iaddr 9 (.t 70) (.t 72), none⟩,
         ⟨(some 75), .load true 9 (.t 74), none⟩,
         ⟨(some 14), .alloc 9 (.agg [.p (.string ⟨#[]⟩), .p (.string ⟨#[]⟩), .p (.string ⟨#[]⟩), .p (.string ⟨#[]⟩), .p (.string ⟨#[]⟩), .p (.string ⟨#[]⟩), .p (.slice none 0 0), .p (.pointer none), .p (.string ⟨#[]⟩)]), none⟩,
         ⟨none, .store 9 (.t 14) (.t 75), none⟩])
       (.rg [⟨(some 76), .mov (.t 4), none⟩,
         ⟨(some 77), .faddr true 0 8 (.t 14), none⟩,
         ⟨(some 78), .load true 8 (.t 77), none⟩,
         ⟨(some 79), .callr 17 [(.c (.p (.int .i64 0))), (.t 78)], none⟩,
         ⟨(some 80), .lit 9 [(.t 79)], none⟩,
         ⟨(some 81), .app 9 160 (.t 76) (.t 80), none⟩,
         ⟨(some 4), .mov (.t 81), none⟩])))
      (.rg [⟨(some 82), .bin .add (.t 72) (.c (.p (.int .i64 1))), none⟩,
        ⟨(some 72), .mov (.t 82), none⟩])))))))
    (.seq (.seq (.rg [⟨(some 83), .mov (.t 8), none⟩,
      ⟨(some 84), .nilchk .ptr (.t 83), none⟩,
      ⟨(some 85), .faddr false 4 1 (.t 84), none⟩,
      ⟨(some 86), .load false 1 (.t 85), none⟩,
      ⟨(some 87), .lenl (.t 86), none⟩,
      ⟨(some 88), .mov (.c (.p (.int .i64 0))), none⟩])
    (.block 4 (.loop (.seq (.rg [⟨(some 89), .bin .lss (.t 88) (.t 87), none⟩])
      (.seq (.cond (.t 89) .skip
        (.exit 4))
      (.seq (.block 5 (.seq (.rg [⟨(some 90), .iaddr 9 (.t 86) (.t 88), none⟩,
         ⟨(some 91), .load true 9 (.t 90), none⟩,
         ⟨(some 16), .alloc 9 (.agg [.p (.string ⟨#[]⟩), .p (.string ⟨#[]⟩), .p (.string ⟨#[]⟩), .p (.string ⟨#[]⟩), .p (.string ⟨#[]⟩), .p (.string ⟨#[]⟩), .p (.slice none 0 0), .p (.pointer none), .p (.string ⟨#[]⟩)]), none⟩,
         ⟨none, .store 9 (.t 16) (.t 91), none⟩])
       (.rg [⟨(some 92), .mov (.t 5), none⟩,
         ⟨(some 93), .faddr true 0 8 (.t 16), none⟩,
         ⟨(some 94), .load true 8 (.t 93), none⟩,
         ⟨(some 95), .callr 17 [(.c (.p (.int .i64 1))), (.t 94)], none⟩,
         ⟨(some 96), .lit 9 [(.t 95)], none⟩,
         ⟨(some 97), .app 9 160 (.t 92) (.t 96), none⟩,
         ⟨(some 5), .mov (.t 97), none⟩])))
      (.rg [⟨(some 98), .bin .add (.t 88) (.c (.p (.int .i64 1))), none⟩,
        ⟨(some 88), .mov (.t 98), none⟩])))))))
    (.seq (.seq (.rg [⟨(some 99), .mov (.t 8), none⟩,
      ⟨(some 100), .nilchk .ptr (.t 99), none⟩,
      ⟨(some 101), .faddr false 2 1 (.t 100), none⟩,
      ⟨(some 102), .load false 1 (.t 101), none⟩,
      ⟨(some 103), .lenl (.t 102), none⟩,
      ⟨(some 104), .mov (.c (.p (.int .i64 0))), none⟩])
    (.block 6 (.loop (.seq (.rg [⟨(some 105), .bin .lss (.t 104) (.t 103), none⟩])
      (.seq (.cond (.t 105) .skip
        (.exit 6))
      (.seq (.block 7 (.seq (.rg [⟨(some 106), .iaddr 9 (.t 102) (.t 104), none⟩,
         ⟨(some 107), .load true 9 (.t 106), none⟩,
         ⟨(some 18), .alloc 9 (.agg [.p (.string ⟨#[]⟩), .p (.string ⟨#[]⟩), .p (.string ⟨#[]⟩), .p (.string ⟨#[]⟩), .p (.string ⟨#[]⟩), .p (.string ⟨#[]⟩), .p (.slice none 0 0), .p (.pointer none), .p (.string ⟨#[]⟩)]), none⟩,
         ⟨none, .store 9 (.t 18) (.t 107), none⟩])
       (.rg [⟨(some 108), .mov (.t 6), none⟩,
         ⟨(some 109), .faddr true 0 8 (.t 18), none⟩,
         ⟨(some 110), .load true 8 (.t 109), none⟩,
         ⟨(some 111), .callr 17 [(.c (.p (.int .i64 2))), (.t 110)], none⟩,
         ⟨(some 112), .lit 9 [(.t 111)], none⟩,
         ⟨(some 113), .app 9 160 (.t 108) (.t 112), none⟩,
         ⟨(some 6), .mov (.t 113), none⟩])))
      (.rg [⟨(some 114), .bin .add (.t 104) (.c (.p (.int .i64 1))), none⟩,
        ⟨(some 104), .mov (.t 114), none⟩])))))))
    (.seq (.rg [⟨(some 115), .mov (.t 2), none⟩,
      ⟨(some 116), .mov (.t 3), none⟩,
      ⟨(some 117), .mov (.t 4), none⟩,
      ⟨(some 118), .mov (.t 5), none⟩,
      ⟨(some 119), .mov (.t 6), none⟩,
      ⟨(some 2), .mov (.t 115), none⟩,
      ⟨(some 3), .mov (.t 116), none⟩,
      ⟨(some 4), .mov (.t 117), none⟩,
      ⟨(some 5), .mov (.t 118), none⟩,
      ⟨(some 6), .mov (.t 119), none⟩,
      ⟨(some 7), .mov (.c (.p (.bool true))), none⟩])
    .ret)))))))
def r7 : List DR := [.tmp 2, .tmp 3, .tmp 4, .tmp 5, .tmp 6, .tmp 7]
theorem c7_ok : Try.f7.body.bind (cCode Try.prog) = some c7 := by kernel_rfl
theorem r7_ok : cRes Try.prog Try.f7.results.toList = some r7 := by kernel_rfl

/-- given.example/pub-assaymark/spec.SameNotices -/
def c8 : DC :=
  (.seq (.rg [⟨(some 4), .mov (.c (.p (.bool false))), none⟩])
    (.seq (.seq (.rg [⟨(some 8), .mov (.t 0), none⟩,
      ⟨(some 9), .lenl (.t 8), none⟩,
      ⟨(some 10), .mov (.t 1), none⟩,
      ⟨(some 11), .lenl (.t 10), none⟩,
      ⟨(some 12), .bin .neq (.t 9) (.t 11), none⟩])
    (.cond (.t 12) (.seq (.rg [⟨(some 4), .mov (.c (.p (.bool false))), none⟩])
      .ret)
      .skip))
    (.seq (.seq (.rg [⟨(some 13), .mov (.t 0), none⟩,
      ⟨(some 14), .lenl (.t 13), none⟩,
      ⟨(some 15), .mov (.c (.p (.int .i64 0))), none⟩])
    (.block 0 (.loop (.seq (.rg [⟨(some 16), .bin .lss (.t 15) (.t 14), none⟩])
      (.seq (.cond (.t 16) .skip
        (.exit 0))
      (.seq (.block 1 (.seq (.rg [⟨(some 17), .mov (.t 15), none⟩,
         ⟨(some 18), .iaddr 9 (.t 13) (.t 15), none⟩,
         ⟨(some 19), .load true 9 (.t 18), none⟩,
         ⟨(some 6), .alloc 9 (.agg [.p (.int .i64 0), .p (.string ⟨#[]⟩), .p (.string ⟨#[]⟩), .p (.string ⟨#[]⟩), .p (.string ⟨#[]⟩), .p (.string ⟨#[]⟩), .p (.slice none 0 0), .p (.slice none 0 0), .p (.slice none 0 0)]), none⟩,
         ⟨(some 5), .mov (.t 17), none⟩,
         ⟨none, .store 9 (.t 6) (.t 19), none⟩])
       (.seq (.rg [⟨(some 20), .mov (.t 1), none⟩,
         ⟨(some 21), .mov (.t 5), none⟩,
         ⟨(some 22), .iaddr 9 (.t 20) (.t 21), none⟩,
         ⟨(some 23), .load true 9 (.t 22), none⟩,
         ⟨(some 7), .alloc 9 (.agg [.p (.int .i64 0), .p (.string ⟨#[]⟩), .p (.string ⟨#[]⟩), .p (.string ⟨#[]⟩), .p (.string ⟨#[]⟩), .p (.string ⟨#[]⟩), .p (.slice none 0 0), .p (.slice none 0 0), .p (.slice none 0 0)]), none⟩,
         ⟨none, .store 9 (.t 7) (.t 23), none⟩])
       (.seq (.rg [⟨(some 24), .faddr false 0 1 (.t 6), none⟩,
         ⟨(some 25), .load false 1 (.t 24), none⟩,
         ⟨(some 26), .faddr false 0 1 (.t 7), none⟩,
         ⟨(some 27), .load false 1 (.t 26), none⟩,
         ⟨(some 28), .bin .neq (.t 25) (.t 27), none⟩,
         ⟨(some 29), .mov (.t 28), none⟩,
         ⟨(some 30), .faddr true 1 5 (.t 6), (some (29, false))⟩,
         ⟨(some 31), .load true 5 (.t 30), (some (29, false))⟩,
         ⟨(some 32), .faddr true 1 5 (.t 7), (some (29, false))⟩,
         ⟨(some 33), .load true 5 (.t 32), (some (29, false))⟩,
         ⟨(some 34), .eqs true [.str, .str, .str, .str, .str] (.t 31) (.t 33), (some (29, false))⟩,
         ⟨(some 35), .pick (.t 29) (.c (.p (.bool true))) (.t 34), none⟩,
         ⟨(some 36), .mov (.t 35), none⟩,
         ⟨(some 37), .faddr false 6 1 (.t 6), (some (36, false))⟩,
         ⟨(some 38), .load false 1 (.t 37), (some (36, false))⟩,
         ⟨(some 39), .faddr false 6 1 (.t 7), (some (36, false))⟩,
         ⟨(some 40), .load false 1 (.t 39), (some (36, false))⟩,
         ⟨(some 41), .callr 18 [(.t 38), (.t 40)], (some (36, false))⟩,
         ⟨(some 42), .un .not (.t 41), (some (36, false))⟩,
         ⟨(some 43), .pick (.t 36) (.c (.p (.bool true))) (.t 42), none⟩,
         ⟨(some 44), .mov (.t 43), none⟩,
         ⟨(some 45), .faddr false 7 1 (.t 6), (some (44, false))⟩,
         ⟨(some 46), .load false 1 (.t 45), (some (44, false))⟩,
         ⟨(some 47), .faddr false 7 1 (.t 7), (some (44, false))⟩,
         ⟨(some 48), .load false 1 (.t 47), (some (44, false))⟩,
         ⟨(some 49), .callr 18 [(.t 46), (.t 48)], (some (44, false))⟩,
         ⟨(some 50), .un .not (.t 49), (some (44, false))⟩,
         ⟨(some 51), .pick (.t 44) (.c (.p (.bool true))) (.t 50), none⟩,
         ⟨(some 52), .mov (.t 51), none⟩,
         ⟨(some 53), .faddr false 8 1 (.t 6), (some (52, false))⟩,
         ⟨(some 54), .load false 1 (.t 53), (some (52, false))⟩,
         ⟨(some 55), .faddr false 8 1 (.t 7), (some (52, false))⟩,
         ⟨(some 56), .load false 1 (.t 55), (some (52, false))⟩,
         ⟨(some 57), .callr 18 [(.t 54), (.t 56)], (some (52, false))⟩,
         ⟨(some 58), .un .not (.t 57), (some (52, false))⟩,
         ⟨(some 59), .pick (.t 52) (.c (.p (.bool true))) (.t 58), none⟩])
       (.cond (.t 59) (.seq (.rg [⟨(some 4), .mov (.c (.p (.bool false))), none⟩])
         .ret)
         .skip)))))
      (.rg [⟨(some 60), .bin .add (.t 15) (.c (.p (.int .i64 1))), none⟩,
        ⟨(some 15), .mov (.t 60), none⟩])))))))
    (.seq (.rg [⟨(some 4), .mov (.c (.p (.bool true))), none⟩])
    .ret))))
def r8 : List DR := [.tmp 4]
theorem c8_ok : Try.f8.body.bind (cCode Try.prog) = some c8 := by kernel_rfl
theorem r8_ok : cRes Try.prog Try.f8.results.toList = some r8 := by kernel_rfl

/-- given.example/pub-assaymark/laws.zzFits11 -/
def c9 : DC :=
  (.seq (.rg [⟨(some 1), .box (.t 0), none⟩,
      ⟨(some 2), .mov (.c (.p (.bool false))), none⟩])
    (.seq (.seq (.rg [⟨(some 3), .faddr true 1 9 (.t 1), none⟩,
      ⟨(some 4), .load true 9 (.t 3), none⟩,
      ⟨(some 5), .callr 19 [(.t 4)], none⟩,
      ⟨(some 6), .un .not (.t 5), none⟩])
    (.cond (.t 6) (.seq (.rg [⟨(some 2), .mov (.c (.p (.bool false))), none⟩])
      .ret)
      .skip))
    (.seq (.rg [⟨(some 2), .mov (.c (.p (.bool true))), none⟩])
    .ret)))
def r9 : List DR := [.tmp 2]
theorem c9_ok : Try.f9.body.bind (cCode Try.prog) = some c9 := by kernel_rfl
theorem r9_ok : cRes Try.prog Try.f9.results.toList = some r9 := by kernel_rfl

/-- given.example/pub-assaymark/laws.arnPlain -/
def c10 : DC :=
  (.seq (.rg [⟨(some 1), .box (.t 0), none⟩,
      ⟨(some 2), .alloc 5 (.agg [.p (.string ⟨#[]⟩), .p (.string ⟨#[]⟩), .p (.string ⟨#[]⟩), .p (.string ⟨#[]⟩), .p (.string ⟨#[]⟩)]), none⟩])
    (.seq (.rgd [⟨⟨(some 3), .faddr false 0 1 (.t 1), none⟩, 0, [0]⟩,
      ⟨⟨(some 4), .load false 1 (.t 3), none⟩, 0, [0]⟩,
      ⟨⟨(some 5), .call 20 [(.t 4)], none⟩, 0, [0]⟩,
      ⟨⟨(some 6), .faddr false 1 1 (.t 1), none⟩, 0, [0]⟩,
      ⟨⟨(some 7), .load false 1 (.t 6), none⟩, 0, [0]⟩,
      ⟨⟨(some 8), .call 20 [(.t 7)], none⟩, 1, [0]⟩,
      ⟨⟨(some 9), .faddr false 2 1 (.t 1), none⟩, 0, [0]⟩,
      ⟨⟨(some 10), .load false 1 (.t 9), none⟩, 0, [0]⟩,
      ⟨⟨(some 11), .call 20 [(.t 10)], none⟩, 2, [0]⟩,
      ⟨⟨(some 12), .faddr false 3 1 (.t 1), none⟩, 0, [0]⟩,
      ⟨⟨(some 13), .load false 1 (.t 12), none⟩, 0, [0]⟩,
      ⟨⟨(some 14), .call 20 [(.t 13)], none⟩, 3, [0]⟩,
      ⟨⟨(some 15), .faddr false 4 1 (.t 1), none⟩, 0, [0]⟩,
      ⟨⟨(some 16), .load false 1 (.t 15), none⟩, 0, [0]⟩,
      ⟨⟨(some 17), .call 20 [(.t 16)], none⟩, 4, []⟩,
      ⟨⟨(some 18), .bld [.p (.string ⟨#[]⟩), .p (.string ⟨#[]⟩), .p (.string ⟨#[]⟩), .p (.string ⟨#[]⟩), .p (.string ⟨#[]⟩)] [(0, 1, (.t 5)), (1, 1, (.t 8)), (2, 1, (.t 11)), (3, 1, (.t 14)), (4, 1, (.t 17))], none⟩, 5, []⟩,
      ⟨⟨none, .store 5 (.t 2) (.t 18), none⟩, 5, []⟩])
    .ret))
def r10 : List DR := [.cell 2 true 5]
theorem c10_ok : Try.f10.body.bind (cCode Try.prog) = some c10 := by kernel_rfl
theorem r10_ok : cRes Try.prog Try.f10.results.toList = some r10 := by kernel_rfl

/-- given.example/pub-assaymark/laws.ntEvents -/
def c11 : DC :=
  (.seq (.rg [⟨(some 2), .mov (.c (.p (.slice none 0 0))), none⟩])
    (.seq (.rg [⟨(some 3), .mov (.c (.p (.slice none 0 0))), none⟩])
    (.seq (.seq (.rg [⟨(some 6), .mov (.t 0), none⟩,
      ⟨(some 7), .callr 21 [(.t 6)], none⟩,
      ⟨(some 8), .mov (.t 0), none⟩,
      ⟨(some 9), .lenl (.t 8), none⟩,
      ⟨(some 10), .mm false (.t 9) (.c (.p (.int .i64 4))), none⟩,
      ⟨(some 11), .slcl 1 (.t 7) none (some (.t 10)), none⟩,
      ⟨(some 12), .lenl (.t 11), none⟩,
      ⟨(some 13), .mov (.c (.p (.int .i64 0))), none⟩])
    (.block 0 (.loop (.seq (.rg [⟨(some 14), .bin .lss (.t 13) (.t 12), none⟩])
      (.seq (.cond (.t 14) .skip
        (.exit 0))
      (.seq (.block 1 (.seq (.rg [⟨(some 15), .iaddr 1 (.t 11) (.t 13), none⟩,
         ⟨(some 16), .load false 1 (.t 15), none⟩,
         ⟨(some 5), .mov (.t 16), none⟩])
       (.seq (.rg [⟨(some 17), .mov (.t 3), none⟩,
         ⟨(some 18), .mov (.t 5), none⟩,
         ⟨(some 19), .callr 22 [(.t 17), (.t 18)], none⟩,
         ⟨(some 20), .un .not (.t 19), none⟩])
       (.cond (.t 20) (.rg [⟨(some 21), .mov (.t 3), none⟩,
           ⟨(some 22), .mov (.t 5), none⟩,
           ⟨(some 23), .lit 1 [(.t 22)], none⟩,
           ⟨(some 24), .app 1 16 (.t 21) (.t 23), none⟩,
           ⟨(some 3), .mov (.t 24), none⟩])
         .skip))))
      (.rg [⟨(some 25), .bin .add (.t 13) (.c (.p (.int .i64 1))), none⟩,
        ⟨(some 13), .mov (.t 25), none⟩])))))))
    (.seq (.rg [⟨(some 26), .mov (.t 3), none⟩,
      ⟨(some 2), .mov (.t 26), none⟩])
    .ret))))
def r11 : List DR := [.tmp 2]
theorem c11_ok : Try.f11.body.bind (cCode Try.prog) = some c11 := by kernel_rfl
theorem r11_ok : cRes Try.prog Try.f11.results.toList = some r11 := by kernel_rfl

/-- given.example/pub-assaymark/laws.ntOne -/
def c12 : DC :=
  (.seq (.rg [⟨(some 2), .mov (.c (.p (.slice none 0 0))), none⟩])
    (.seq (.seq (.rg [⟨(some 4), .mov (.t 0), none⟩,
      ⟨(some 5), .mov (.t 0), none⟩,
      ⟨(some 6), .lenl (.t 5), none⟩,
      ⟨(some 7), .mm false (.t 6) (.c (.p (.int .i64 1))), none⟩,
      ⟨(some 8), .slcl 1 (.t 4) none (some (.t 7)), none⟩,
      ⟨(some 9), .callr 21 [(.t 8)], none⟩,
      ⟨(some 3), .mov (.t 9), none⟩])
    (.seq (.rg [⟨(some 10), .mov (.t 3), none⟩,
      ⟨(some 11), .lenl (.t 10), none⟩,
      ⟨(some 12), .bin .gtr (.t 11) (.c (.p (.int .i64 0))), none⟩,
      ⟨(some 13), .mov (.t 12), none⟩,
      ⟨(some 14), .mov (.t 3), (some (13, true))⟩,
      ⟨(some 15), .iaddr 1 (.t 14) (.c (.p (.int .i64 0))), (some (13, true))⟩,
      ⟨(some 16), .load false 1 (.t 15), (some (13, true))⟩,
      ⟨(some 17), .bin .neq (.t 16) (.c (.p (.string ⟨#[]⟩))), (some (13, true))⟩,
      ⟨(some 18), .pick (.t 13) (.t 17) (.c (.p (.bool false))), none⟩])
    (.cond (.t 18) (.seq (.rg [⟨(some 19), .mov (.t 3), none⟩,
        ⟨(some 2), .mov (.t 19), none⟩])
      .ret)
      .skip)))
    (.seq (.rg [⟨(some 2), .mov (.c (.p (.slice none 0 0))), none⟩])
    .ret)))
def r12 : List DR := [.tmp 2]
theorem c12_ok : Try.f12.body.bind (cCode Try.prog) = some c12 := by kernel_rfl
theorem r12_ok : cRes Try.prog Try.f12.results.toList = some r12 := by kernel_rfl

/-- given.example/pub-assaymark/spec.SetKeep -/
def c13 : DC :=
  (.seq (.rg [⟨(some 6), .mov (.c (.p (.slice none 0 0))), none⟩])
    (.seq (.rg [⟨(some 7), .mov (.c (.p (.slice none 0 0))), none⟩])
    (.seq (.seq (.rg [⟨(some 10), .mov (.t 0), none⟩,
      ⟨(some 11), .lenl (.t 10), none⟩,
      ⟨(some 12), .mov (.c (.p (.int .i64 0))), none⟩])
    (.block 0 (.loop (.seq (.rg [⟨(some 13), .bin .lss (.t 12) (.t 11), none⟩])
      (.seq (.cond (.t 13) .skip
        (.exit 0))
      (.seq (.block 1 (.seq (.rg [⟨(some 14), .iaddr 1 (.t 10) (.t 12), none⟩,
         ⟨(some 15), .load false 1 (.t 14), none⟩,
         ⟨(some 9), .mov (.t 15), none⟩])
       (.seq (.rg [⟨(some 16), .mov (.t 1), none⟩,
         ⟨(some 17), .mov (.t 9), none⟩,
         ⟨(some 18), .callr 22 [(.t 16), (.t 17)], none⟩,
         ⟨(some 19), .mov (.t 2), none⟩,
         ⟨(some 20), .eqb false (.t 18) (.t 19), none⟩])
       (.cond (.t 20) (.rg [⟨(some 21), .mov (.t 7), none⟩,
           ⟨(some 22), .mov (.t 9), none⟩,
           ⟨(some 23), .lit 1 [(.t 22)], none⟩,
           ⟨(some 24), .app 1 16 (.t 21) (.t 23), none⟩,
           ⟨(some 7), .mov (.t 24), none⟩])
         .skip))))
      (.rg [⟨(some 25), .bin .add (.t 12) (.c (.p (.int .i64 1))), none⟩,
        ⟨(some 12), .mov (.t 25), none⟩])))))))
    (.seq (.rg [⟨(some 26), .mov (.t 7), none⟩,
      ⟨(some 27), .callr 23 [(.t 26)], none⟩,
      ⟨(some 6), .mov (.t 27), none⟩])
    .ret))))
def r13 : List DR := [.tmp 6]
theorem c13_ok : Try.f13.body.bind (cCode Try.prog) = some c13 := by kernel_rfl
theorem r13_ok : cRes Try.prog Try.f13.results.toList = some r13 := by kernel_rfl

/-- given.example/pub-assaymark/spec.NoticeIs -/
def c14 : DC :=
  (.seq (.rg [⟨(some 4), .box (.t 0), none⟩,
      ⟨(some 8), .mov (.c (.p (.bool false))), none⟩])
    (.seq (.rg [⟨(some 9), .faddr false 6 1 (.t 4), none⟩,
      ⟨(some 10), .load false 1 (.t 9), none⟩,
      ⟨(some 11), .mov (.t 1), none⟩,
      ⟨(some 12), .callr 24 [(.t 10), (.t 11)], none⟩,
      ⟨(some 13), .mov (.t 12), none⟩,
      ⟨(some 14), .faddr false 7 1 (.t 4), (some (13, true))⟩,
      ⟨(some 15), .load false 1 (.t 14), (some (13, true))⟩,
      ⟨(some 16), .callr 15 [(.t 15)], (some (13, true))⟩,
      ⟨(some 17), .mov (.t 2), (some (13, true))⟩,
      ⟨(some 18), .bin .eql (.t 16) (.t 17), (some (13, true))⟩,
      ⟨(some 19), .pick (.t 13) (.t 18) (.c (.p (.bool false))), none⟩,
      ⟨(some 20), .mov (.t 19), none⟩,
      ⟨(some 21), .faddr false 8 1 (.t 4), (some (20, true))⟩,
      ⟨(some 22), .load false 1 (.t 21), (some (20, true))⟩,
      ⟨(some 23), .callr 15 [(.t 22)], (some (20, true))⟩,
      ⟨(some 24), .mov (.t 3), (some (20, true))⟩,
      ⟨(some 25), .bin .eql (.t 23) (.t 24), (some (20, true))⟩,
      ⟨(some 26), .pick (.t 20) (.t 25) (.c (.p (.bool false))), none⟩,
      ⟨(some 8), .mov (.t 26), none⟩])
    .ret))
def r14 : List DR := [.tmp 8]
theorem c14_ok : Try.f14.body.bind (cCode Try.prog) = some c14 := by kernel_rfl
theorem r14_ok : cRes Try.prog Try.f14.results.toList = some r14 := by kernel_rfl

/-- given.example/pub-assaymark/spec.first -/
def c15 : DC :=
  (.seq (.rg [⟨(some 2), .mov (.c (.p (.string ⟨#[]⟩))), none⟩])
    (.seq (.seq (.rg [⟨(some 3), .mov (.t 0), none⟩,
      ⟨(some 4), .lenl (.t 3), none⟩,
      ⟨(some 5), .bin .eql (.t 4) (.c (.p (.int .i64 0))), none⟩])
    (.cond (.t 5) (.seq (.rg [⟨(some 2), .mov (.c (.p (.string ⟨#[]⟩))), none⟩])
      .ret)
      .skip))
    (.seq (.rg [⟨(some 6), .mov (.t 0), none⟩,
      ⟨(some 7), .iaddr 1 (.t 6) (.c (.p (.int .i64 0))), none⟩,
      ⟨(some 8), .load false 1 (.t 7), none⟩,
      ⟨(some 2), .mov (.t 8), none⟩])
    .ret)))
def r15 : List DR := [.tmp 2]
theorem c15_ok : Try.f15.body.bind (cCode Try.prog) = some c15 := by kernel_rfl
theorem r15_ok : cRes Try.prog Try.f15.results.toList = some r15 := by kernel_rfl

/-- given.example/pub-assaymark/impl.ntDo -/
def c16 : DC :=
  (.seq (.rg [⟨(some 3), .box (.t 1), none⟩,
      ⟨(some 4), .mov (.c (.p (.bool false))), none⟩,
      ⟨(some 5), .mov (.c (.p (.bool false))), none⟩])
    (.seq (.rg [⟨(some 9), .faddr true 1 9 (.t 3), none⟩,
      ⟨(some 10), .load true 9 (.t 9), none⟩,
      ⟨(some 6), .alloc 9 (.agg [.p (.int .i64 0), .p (.string ⟨#[]⟩), .p (.string ⟨#[]⟩), .p (.string ⟨#[]⟩), .p (.string ⟨#[]⟩), .p (.string ⟨#[]⟩), .p (.slice none 0 0), .p (.slice none 0 0), .p (.slice none 0 0)]), none⟩,
      ⟨none, .store 9 (.t 6) (.t 10), none⟩])
    (.seq (.rg [⟨(some 11), .load true 9 (.t 6), none⟩,
      ⟨(some 12), .callr 25 [(.t 11)], none⟩,
      ⟨(some 7), .alloc 8 (.agg [.p (.string ⟨#[]⟩), .p (.string ⟨#[]⟩), .p (.string ⟨#[]⟩), .p (.string ⟨#[]⟩), .p (.string ⟨#[]⟩), .p (.string ⟨#[]⟩), .p (.slice none 0 0), .p (.pointer none)]), none⟩,
      ⟨none, .store 8 (.t 7) (.t 12), none⟩])
    (.seq (.seq (.rg [⟨(some 13), .faddr false 0 1 (.t 3), none⟩,
      ⟨(some 14), .load false 1 (.t 13), none⟩])
    (.block 0 (.seq (.rg [⟨(some 16), .bin .eql (.t 14) (.c (.p (.int .i64 0))), none⟩,
       ⟨(some 15), .mov (.t 16), none⟩])
     (.cond (.t 15) (.seq (.seq (.rg [⟨(some 17), .faddr false 0 1 (.t 6), none⟩,
         ⟨(some 18), .load false 1 (.t 17), none⟩])
       (.block 1 (.seq (.rg [⟨(some 20), .bin .eql (.t 18) (.c (.p (.int .i64 0))), none⟩,
          ⟨(some 19), .mov (.t 20), none⟩])
        (.cond (.t 19) (.seq (.rg [⟨(some 21), .mov (.t 0), none⟩,
            ⟨(some 22), .load true 8 (.t 7), none⟩,
            ⟨(some 23), .callr 26 [(.t 21), (.t 22)], none⟩,
            ⟨(some 4), .mov (.t 23), none⟩,
            ⟨(some 5), .mov (.c (.p (.bool false))), none⟩])
          .ret)
          (.seq (.rg [⟨(some 25), .bin .eql (.t 18) (.c (.p (.int .i64 1))), none⟩,
            ⟨(some 24), .mov (.t 25), none⟩])
          (.cond (.t 24) (.seq (.rg [⟨(some 26), .mov (.t 0), none⟩,
              ⟨(some 27), .load true 8 (.t 7), none⟩,
              ⟨(some 28), .callr 27 [(.t 26), (.t 27)], none⟩,
              ⟨(some 4), .mov (.t 28), none⟩,
              ⟨(some 5), .mov (.c (.p (.bool false))), none⟩])
            .ret)
            .skip))))))
       (.seq (.rg [⟨(some 29), .mov (.t 0), none⟩,
         ⟨(some 30), .load true 8 (.t 7), none⟩,
         ⟨(some 31), .callr 28 [(.t 29), (.t 30)], none⟩,
         ⟨(some 4), .mov (.t 31), none⟩,
         ⟨(some 5), .mov (.c (.p (.bool false))), none⟩])
       .ret))
       (.seq (.rg [⟨(some 33), .bin .eql (.t 14) (.c (.p (.int .i64 1))), none⟩,
         ⟨(some 32), .mov (.t 33), none⟩])
       (.cond (.t 32) (.seq (.seq (.rg [⟨(some 34), .faddr false 0 1 (.t 6), none⟩,
           ⟨(some 35), .load false 1 (.t 34), none⟩])
         (.block 2 (.seq (.rg [⟨(some 41), .bin .eql (.t 35) (.c (.p (.int .i64 0))), none⟩,
            ⟨(some 40), .mov (.t 41), none⟩])
          (.cond (.t 40) (.rg [⟨(some 42), .mov (.t 0), none⟩,
              ⟨(some 43), .faddr true 1 5 (.t 7), none⟩,
              ⟨(some 44), .load true 5 (.t 43), none⟩,
              ⟨(some 45), .callr 29 [(.t 42), (.t 44)], none⟩])
            (.seq (.rg [⟨(some 47), .bin .eql (.t 35) (.c (.p (.int .i64 1))), none⟩,
              ⟨(some 46), .mov (.t 47), none⟩])
            (.cond (.t 46) (.rg [⟨(some 48), .mov (.t 0), none⟩,
                ⟨(some 49), .faddr true 1 5 (.t 7), none⟩,
                ⟨(some 50), .load true 5 (.t 49), none⟩,
                ⟨(some 51), .callr 30 [(.t 48), (.t 50)], none⟩])
              (.rg [⟨(some 36), .mov (.t 0), none⟩,
                ⟨(some 37), .faddr true 1 5 (.t 7), none⟩,
                ⟨(some 38), .load true 5 (.t 37), none⟩,
                ⟨(some 39), .callr 31 [(.t 36), (.t 38)], none⟩])))))))
         (.seq (.rg [⟨(some 4), .mov (.c (.p (.bool true))), none⟩,
           ⟨(some 5), .mov (.c (.p (.bool false))), none⟩])
         .ret))
         .skip))))))
    (.seq (.rg [⟨(some 52), .mov (.t 0), none⟩,
      ⟨(some 53), .load true 9 (.t 6), none⟩,
      ⟨(some 54), .callr 32 [(.t 52), (.t 53)], none⟩,
      ⟨(some 8), .mov (.t 54), none⟩])
    (.seq (.rgd [⟨⟨(some 55), .mov (.t 8), none⟩, 0, []⟩,
      ⟨⟨(some 56), .eqn false .iface (.t 55), none⟩, 0, []⟩,
      ⟨⟨(some 57), .mov (.t 8), none⟩, 0, []⟩,
      ⟨⟨(some 58), .ifc 80 (.c (.p (.string ⟨#[110, 111, 32, 110, 111, 116, 105, 102, 105, 99, 97, 116, 105, 111, 110, 32, 99, 111, 110, 102, 105, 103, 117, 114, 97, 116, 105, 111, 110, 32, 109, 97, 116, 99, 104, 101, 100]⟩))), none⟩, 0, []⟩,
      ⟨⟨(some 59), .eqi false (.t 57) (.t 58), none⟩, 0, []⟩,
      ⟨⟨(some 4), .mov (.t 56), none⟩, 0, []⟩,
      ⟨⟨(some 5), .mov (.t 59), none⟩, 0, []⟩])
    .ret))))))
def r16 : List DR := [.tmp 4, .tmp 5]
theorem c16_ok : Try.f16.body.bind (cCode Try.prog) = some c16 := by kernel_rfl
theorem r16_ok : cRes Try.prog Try.f16.results.toList = some r16 := by kernel_rfl

/-- given.example/pub-assaymark/impl.noticeTold -/
def c17 : DC :=
  (.seq (.rg [⟨(some 3), .box (.t 1), none⟩,
      ⟨(some 4), .alloc 9 (.agg [.p (.int .i64 0), .p (.string ⟨#[]⟩), .p (.string ⟨#[]⟩), .p (.string ⟨#[]⟩), .p (.string ⟨#[]⟩), .p (.string ⟨#[]⟩), .p (.slice none 0 0), .p (.slice none 0 0), .p (.slice none 0 0)]), none⟩])
    (.seq (.rg [⟨(some 10), .mov (.t 0), none⟩,
      ⟨(some 11), .faddr true 1 5 (.t 3), none⟩,
      ⟨(some 12), .load true 5 (.t 11), none⟩,
      ⟨(some 13), .callr 33 [(.t 12)], none⟩,
      ⟨(some 14), .bld [.p (.int .i64 0), .p (.string ⟨#[]⟩), .p (.string ⟨#[]⟩), .p (.string ⟨#[]⟩), .p (.string ⟨#[]⟩), .p (.string ⟨#[]⟩), .p (.slice none 0 0), .p (.slice none 0 0), .p (.slice none 0 0)] [(0, 1, (.t 10)), (1, 5, (.t 13))], none⟩,
      ⟨(some 5), .alloc 9 (.agg [.p (.int .i64 0), .p (.string ⟨#[]⟩), .p (.string ⟨#[]⟩), .p (.string ⟨#[]⟩), .p (.string ⟨#[]⟩), .p (.string ⟨#[]⟩), .p (.slice none 0 0), .p (.slice none 0 0), .p (.slice none 0 0)]), none⟩,
      ⟨none, .store 9 (.t 5) (.t 14), none⟩])
    (.seq (.seq (.rg [⟨(some 15), .faddr false 6 1 (.t 3), none⟩,
      ⟨(some 16), .load false 1 (.t 15), none⟩,
      ⟨(some 17), .lenl (.t 16), none⟩,
      ⟨(some 18), .mov (.c (.p (.int .i64 0))), none⟩])
    (.block 0 (.loop (.seq (.rg [⟨(some 19), .bin .lss (.t 18) (.t 17), none⟩])
      (.seq (.cond (.t 19) .skip
        (.exit 0))
      (.seq (.block 1 (.seq (.rg [⟨(some 20), .iaddr 1 (.t 16) (.t 18), none⟩,
         ⟨(some 21), .load false 1 (.t 20), none⟩,
         ⟨(some 7), .mov (.t 21), none⟩])
       (.rg [⟨(some 22), .faddr false 6 1 (.t 5), none⟩,
         ⟨(some 23), .load false 1 (.t 22), none⟩,
         ⟨(some 24), .mov (.t 7), none⟩,
         ⟨(some 25), .lit 1 [(.t 24)], none⟩,
         ⟨(some 26), .app 1 16 (.t 23) (.t 25), none⟩,
         ⟨(some 27), .faddr false 6 1 (.t 5), none⟩,
         ⟨none, .store 1 (.t 27) (.t 26), none⟩])))
      (.rg [⟨(some 28), .bin .add (.t 18) (.c (.p (.int .i64 1))), none⟩,
        ⟨(some 18), .mov (.t 28), none⟩])))))))
    (.seq (.seq (.rg [⟨(some 29), .faddr false 7 1 (.t 3), none⟩,
      ⟨(some 30), .load false 1 (.t 29), none⟩,
      ⟨(some 31), .eqn false .ptr (.t 30), none⟩])
    (.cond (.t 31) (.seq (.rg [⟨(some 32), .load true 9 (.t 5), none⟩,
        ⟨none, .store 9 (.t 4) (.t 32), none⟩])
      .ret)
      .skip))
    (.seq (.seq (.rg [⟨(some 33), .faddr false 7 1 (.t 3), none⟩,
      ⟨(some 34), .load false 1 (.t 33), none⟩,
      ⟨(some 35), .nilchk .ptr (.t 34), none⟩,
      ⟨(some 36), .faddr true 0 1 (.t 35), none⟩,
      ⟨(some 37), .faddr false 0 1 (.t 36), none⟩,
      ⟨(some 38), .load false 1 (.t 37), none⟩,
      ⟨(some 39), .lenl (.t 38), none⟩,
      ⟨(some 40), .mov (.c (.p (.int .i64 0))), none⟩])
    (.block 2 (.loop (.seq (.rg [⟨(some 41), .bin .lss (.t 40) (.t 39), none⟩])
      (.seq (.cond (.t 41) .skip
        (.exit 2))
      (.seq (.block 3 (.seq (.rg [⟨(some 42), .iaddr 2 (.t 38) (.t 40), none⟩,
         ⟨(some 43), .load true 2 (.t 42), none⟩,
         ⟨(some 9), .alloc 2 (.agg [.p (.string ⟨#[]⟩), .p (.string ⟨#[]⟩)]), none⟩,
         ⟨none, .store 2 (.t 9) (.t 43), none⟩])
       (.seq (.rg [⟨(some 44), .faddr false 0 1 (.t 9), none⟩,
         ⟨(some 45), .load false 1 (.t 44), none⟩])
       (.block 4 (.seq (.rg [⟨(some 47), .bin .eql (.t 45) (.c (.p (.string ⟨#[112, 114, 101, 102, 105, 120]⟩))), none⟩,
          ⟨(some 46), .mov (.t 47), none⟩])
        (.cond (.t 46) (.rg [⟨(some 48), .faddr false 7 1 (.t 5), none⟩,
            ⟨(some 49), .load false 1 (.t 48), none⟩,
            ⟨(some 50), .faddr false 1 1 (.t 9), none⟩,
            ⟨(some 51), .load false 1 (.t 50), none⟩,
            ⟨(some 52), .lit 1 [(.t 51)], none⟩,
            ⟨(some 53), .app 1 16 (.t 49) (.t 52), none⟩,
            ⟨(some 54), .faddr false 7 1 (.t 5), none⟩,
            ⟨none, .store 1 (.t 54) (.t 53), none⟩])
          (.seq (.rg [⟨(some 56), .bin .eql (.t 45) (.c (.p (.string ⟨#[115, 117, 102, 102, 105, 120]⟩))), none⟩,
            ⟨(some 55), .mov (.t 56), none⟩])
          (.cond (.t 55) (.rg [⟨(some 57), .faddr false 8 1 (.t 5), none⟩,
              ⟨(some 58), .load false 1 (.t 57), none⟩,
              ⟨(some 59), .faddr false 1 1 (.t 9), none⟩,
              ⟨(some 60), .load false 1 (.t 59), none⟩,
              ⟨(some 61), .lit 1 [(.t 60)], none⟩,
              ⟨(some 62), .app 1 16 (.t 58) (.t 61), none⟩,
              ⟨(some 63), .faddr false 8 1 (.t 5), none⟩,
              ⟨none, .store 1 (.t 63) (.t 62), none⟩])
            .skip))))))))
      (.rg [⟨(some 64), .bin .add (.t 40) (.c (.p (.int .i64 1))), none⟩,
        ⟨(some 40), .mov (.t 64), none⟩])))))))
    (.seq (.rg [⟨(some 65), .load true 9 (.t 5), none⟩,
      ⟨none, .store 9 (.t 4) (.t 65), none⟩])
    .ret))))))
def r17 : List DR := [.cell 4 true 9]
theorem c17_ok : Try.f17.body.bind (cCode Try.prog) = some c17 := by kernel_rfl
theorem r17_ok : cRes Try.prog Try.f17.results.toList = some r17 := by kernel_rfl

/-- given.example/pub-assaymark/spec.SetSame -/
def c18 : DC :=
  (.seq (.rg [⟨(some 4), .mov (.c (.p (.bool false))), none⟩])
    (.seq (.seq (.rg [⟨(some 7), .mov (.t 0), none⟩,
      ⟨(some 8), .lenl (.t 7), none⟩,
      ⟨(some 9), .mov (.t 1), none⟩,
      ⟨(some 10), .lenl (.t 9), none⟩,
      ⟨(some 11), .bin .neq (.t 8) (.t 10), none⟩])
    (.cond (.t 11) (.seq (.rg [⟨(some 4), .mov (.c (.p (.bool false))), none⟩])
      .ret)
      .skip))
    (.seq (.seq (.rg [⟨(some 12), .mov (.t 0), none⟩,
      ⟨(some 13), .lenl (.t 12), none⟩,
      ⟨(some 14), .mov (.c (.p (.int .i64 0))), none⟩])
    (.block 0 (.loop (.seq (.rg [⟨(some 15), .bin .lss (.t 14) (.t 13), none⟩])
      (.seq (.cond (.t 15) .skip
        (.exit 0))
      (.seq (.block 1 (.seq (.rg [⟨(some 16), .mov (.t 14), none⟩,
         ⟨(some 17), .iaddr 1 (.t 12) (.t 14), none⟩,
         ⟨(some 18), .load false 1 (.t 17), none⟩,
         ⟨(some 5), .mov (.t 16), none⟩,
         ⟨(some 6), .mov (.t 18), none⟩])
       (.seq (.rg [⟨(some 19), .mov (.t 6), none⟩,
         ⟨(some 20), .mov (.t 1), none⟩,
         ⟨(some 21), .mov (.t 5), none⟩,
         ⟨(some 22), .iaddr 1 (.t 20) (.t 21), none⟩,
         ⟨(some 23), .load false 1 (.t 22), none⟩,
         ⟨(some 24), .bin .neq (.t 19) (.t 23), none⟩])
       (.cond (.t 24) (.seq (.rg [⟨(some 4), .mov (.c (.p (.bool false))), none⟩])
         .ret)
         .skip))))
      (.rg [⟨(some 25), .bin .add (.t 14) (.c (.p (.int .i64 1))), none⟩,
        ⟨(some 14), .mov (.t 25), none⟩])))))))
    (.seq (.rg [⟨(some 4), .mov (.c (.p (.bool true))), none⟩])
    .ret))))
def r18 : List DR := [.tmp 4]
theorem c18_ok : Try.f18.body.bind (cCode Try.prog) = some c18 := by kernel_rfl
theorem r18_ok : cRes Try.prog Try.f18.results.toList = some r18 := by kernel_rfl

/-- given.example/pub-assaymark/laws.zzFits12 -/
def c19 : DC :=
  (.seq (.rg [⟨(some 1), .box (.t 0), none⟩,
      ⟨(some 2), .mov (.c (.p (.bool false))), none⟩])
    (.seq (.seq (.rg [⟨(some 3), .faddr true 1 5 (.t 1), none⟩,
      ⟨(some 4), .load true 5 (.t 3), none⟩,
      ⟨(some 5), .callr 34 [(.t 4)], none⟩,
      ⟨(some 6), .un .not (.t 5), none⟩])
    (.cond (.t 6) (.seq (.rg [⟨(some 2), .mov (.c (.p (.bool false))), none⟩])
      .ret)
      .skip))
    (.seq (.seq (.rg [⟨(some 7), .faddr false 6 1 (.t 1), none⟩,
      ⟨(some 8), .load false 1 (.t 7), none⟩,
      ⟨(some 9), .callr 35 [(.t 8)], none⟩,
      ⟨(some 10), .un .not (.t 9), none⟩])
    (.cond (.t 10) (.seq (.rg [⟨(some 2), .mov (.c (.p (.bool false))), none⟩])
      .ret)
      .skip))
    (.seq (.seq (.rg [⟨(some 11), .faddr false 7 1 (.t 1), none⟩,
      ⟨(some 12), .load false 1 (.t 11), none⟩,
      ⟨(some 13), .callr 35 [(.t 12)], none⟩,
      ⟨(some 14), .un .not (.t 13), none⟩])
    (.cond (.t 14) (.seq (.rg [⟨(some 2), .mov (.c (.p (.bool false))), none⟩])
      .ret)
      .skip))
    (.seq (.seq (.rg [⟨(some 15), .faddr false 8 1 (.t 1), none⟩,
      ⟨(some 16), .load false 1 (.t 15), none⟩,
      ⟨(some 17), .callr 35 [(.t 16)], none⟩,
      ⟨(some 18), .un .not (.t 17), none⟩])
    (.cond (.t 18) (.seq (.rg [⟨(some 2), .mov (.c (.p (.bool false))), none⟩])
      .ret)
      .skip))
    (.seq (.rg [⟨(some 2), .mov (.c (.p (.bool true))), none⟩])
    .ret))))))
def r19 : List DR := [.tmp 2]
theorem c19_ok : Try.f19.body.bind (cCode Try.prog) = some c19 := by kernel_rfl
theorem r19_ok : cRes Try.prog Try.f19.results.toList = some r19 := by kernel_rfl

/-- given.example/pub-assaymark/laws.arnPart -/
def c20 : DC :=
  (.seq (.rg [⟨(some 2), .mov (.c (.p (.string ⟨#[]⟩))), none⟩])
    (.seq (.rg [⟨(some 3), .mov (.c (.p (.slice none 0 0))), none⟩])
    (.seq (.seq (.rg [⟨(some 6), .mov (.t 0), none⟩,
      ⟨(some 7), .mov (.t 0), none⟩,
      ⟨(some 8), .lens (.t 7), none⟩,
      ⟨(some 9), .mm false (.t 8) (.c (.p (.int .i64 20))), none⟩,
      ⟨(some 10), .slcs (.t 6) none (some (.t 9)), none⟩,
      ⟨(some 11), .s2b (.t 10), none⟩,
      ⟨(some 12), .lenl (.t 11), none⟩,
      ⟨(some 13), .mov (.c (.p (.int .i64 0))), none⟩])
    (.block 0 (.loop (.seq (.rg [⟨(some 14), .bin .lss (.t 13) (.t 12), none⟩])
      (.seq (.cond (.t 14) .skip
        (.exit 0))
      (.seq (.block 1 (.seq (.rg [⟨(some 15), .iaddr 1 (.t 11) (.t 13), none⟩,
         ⟨(some 16), .load false 1 (.t 15), none⟩,
         ⟨(some 5), .mov (.t 16), none⟩])
       (.seq (.rg [⟨(some 17), .mov (.t 5), none⟩,
         ⟨(some 18), .bin .neq (.t 17) (.c (.p (.int .u8 58))), none⟩])
       (.cond (.t 18) (.rg [⟨(some 19), .mov (.t 3), none⟩,
           ⟨(some 20), .mov (.t 5), none⟩,
           ⟨(some 21), .lit 1 [(.t 20)], none⟩,
           ⟨(some 22), .app 1 1 (.t 19) (.t 21), none⟩,
           ⟨(some 3), .mov (.t 22), none⟩])
         .skip))))
      (.rg [⟨(some 23), .bin .add (.t 13) (.c (.p (.int .i64 1))), none⟩,
        ⟨(some 13), .mov (.t 23), none⟩])))))))
    (.seq (.rg [⟨(some 24), .mov (.t 3), none⟩,
      ⟨(some 25), .b2s (.t 24), none⟩,
      ⟨(some 2), .mov (.t 25), none⟩])
    .ret))))
def r20 : List DR := [.tmp 2]
theorem c20_ok : Try.f20.body.bind (cCode Try.prog) = some c20 := by kernel_rfl
theorem r20_ok : cRes Try.prog Try.f20.results.toList = some r20 := by kernel_rfl

/-- given.example/pub-assaymark/laws.setPlain -/
def c21 : DC :=
  (.seq (.rg [⟨(some 2), .mov (.c (.p (.slice none 0 0))), none⟩])
    (.seq (.rg [⟨(some 3), .mov (.c (.p (.slice none 0 0))), none⟩])
    (.seq (.seq (.rg [⟨(some 9), .mov (.t 0), none⟩,
      ⟨(some 10), .callr 36 [(.t 9)], none⟩,
      ⟨(some 11), .lenl (.t 10), none⟩,
      ⟨(some 12), .mov (.c (.p (.int .i64 0))), none⟩])
    (.block 0 (.loop (.seq (.rg [⟨(some 13), .bin .lss (.t 12) (.t 11), none⟩])
      (.seq (.cond (.t 13) .skip
        (.exit 0))
      (.seq (.block 1 (.seq (.rg [⟨(some 14), .iaddr 1 (.t 10) (.t 12), none⟩,
         ⟨(some 15), .load false 1 (.t 14), none⟩,
         ⟨(some 5), .mov (.t 15), none⟩])
       (.seq (.rg [⟨(some 6), .mov (.c (.p (.slice none 0 0))), none⟩])
       (.seq (.seq (.rg [⟨(some 16), .mov (.t 5), none⟩,
         ⟨(some 17), .s2b (.t 16), none⟩,
         ⟨(some 18), .lenl (.t 17), none⟩,
         ⟨(some 19), .mov (.c (.p (.int .i64 0))), none⟩])
       (.block 2 (.loop (.seq (.rg [⟨(some 20), .bin .lss (.t 19) (.t 18), none⟩])
         (.seq (.cond (.t 20) .skip
           (.exit 2))
         (.seq (.block 3 (.seq (.rg [⟨(some 21), .iaddr 1 (.t 17) (.t 19), none⟩,
            ⟨(some 22), .load false 1 (.t 21), none⟩,
            ⟨(some 8), .mov (.t 22), none⟩])
          (.seq (.rg [⟨(some 23), .mov (.t 8), none⟩,
            ⟨(some 24), .bin .geq (.t 23) (.c (.p (.int .u8 32))), none⟩,
            ⟨(some 25), .mov (.t 24), none⟩,
            ⟨(some 26), .mov (.t 8), (some (25, true))⟩,
            ⟨(some 27), .bin .leq (.t 26) (.c (.p (.int .u8 126))), (some (25, true))⟩,
            ⟨(some 28), .pick (.t 25) (.t 27) (.c (.p (.bool false))), none⟩])
          (.cond (.t 28) (.rg [⟨(some 29), .mov (.t 6), none⟩,
              ⟨(some 30), .mov (.t 8), none⟩,
              ⟨(some 31), .lit 1 [(.t 30)], none⟩,
              ⟨(some 32), .app 1 1 (.t 29) (.t 31), none⟩,
              ⟨(some 6), .mov (.t 32), none⟩])
            .skip))))
         (.rg [⟨(some 33), .bin .add (.t 19) (.c (.p (.int .i64 1))), none⟩,
           ⟨(some 19), .mov (.t 33), none⟩])))))))
       (.rg [⟨(some 34), .mov (.t 3), none⟩,
         ⟨(some 35), .mov (.t 6), none⟩,
         ⟨(some 36), .b2s (.t 35), none⟩,
         ⟨(some 37), .lit 1 [(.t 36)], none⟩,
         ⟨(some 38), .app 1 16 (.t 34) (.t 37), none⟩,
         ⟨(some 3), .mov (.t 38), none⟩])))))
      (.rg [⟨(some 39), .bin .add (.t 12) (.c (.p (.int .i64 1))), none⟩,
        ⟨(some 12), .mov (.t 39), none⟩])))))))
    (.seq (.rg [⟨(some 40), .mov (.t 3), none⟩,
      ⟨(some 2), .mov (.t 40), none⟩])
    .ret))))
def r21 : List DR := [.tmp 2]
theorem c21_ok : Try.f21.body.bind (cCode Try.prog) = some c21 := by kernel_rfl
theorem r21_ok : cRes Try.prog Try.f21.results.toList = some r21 := by kernel_rfl

/-- given.example/pub-assaymark/spec.SetHas -/
def c22 : DC :=
  (.seq (.rg [⟨(some 4), .mov (.c (.p (.bool false))), none⟩])
    (.seq (.seq (.rg [⟨(some 7), .mov (.t 0), none⟩,
      ⟨(some 8), .lenl (.t 7), none⟩,
      ⟨(some 9), .mov (.c (.p (.int .i64 0))), none⟩])
    (.block 0 (.loop (.seq (.rg [⟨(some 10), .bin .lss (.t 9) (.t 8), none⟩])
      (.seq (.cond (.t 10) .skip
        (.exit 0))
      (.seq (.block 1 (.seq (.rg [⟨(some 11), .iaddr 1 (.t 7) (.t 9), none⟩,
         ⟨(some 12), .load false 1 (.t 11), none⟩,
         ⟨(some 6), .mov (.t 12), none⟩])
       (.seq (.rg [⟨(some 13), .mov (.t 6), none⟩,
         ⟨(some 14), .mov (.t 1), none⟩,
         ⟨(some 15), .bin .eql (.t 13) (.t 14), none⟩])
       (.cond (.t 15) (.seq (.rg [⟨(some 4), .mov (.c (.p (.bool true))), none⟩])
         .ret)
         .skip))))
      (.rg [⟨(some 16), .bin .add (.t 9) (.c (.p (.int .i64 1))), none⟩,
        ⟨(some 9), .mov (.t 16), none⟩])))))))
    (.seq (.rg [⟨(some 4), .mov (.c (.p (.bool false))), none⟩])
    .ret)))
def r22 : List DR := [.tmp 4]
theorem c22_ok : Try.f22.body.bind (cCode Try.prog) = some c22 := by kernel_rfl
theorem r22_ok : cRes Try.prog Try.f22.results.toList = some r22 := by kernel_rfl

/-- given.example/pub-assaymark/spec.SetOf -/
def c23 : DC :=
  (.seq (.rg [⟨(some 2), .mov (.c (.p (.slice none 0 0))), none⟩])
    (.seq (.rg [⟨(some 3), .mov (.c (.p (.slice none 0 0))), none⟩])
    (.seq (.seq (.rg [⟨(some 7), .mov (.t 0), none⟩,
      ⟨(some 8), .lenl (.t 7), none⟩,
      ⟨(some 9), .mov (.c (.p (.int .i64 0))), none⟩])
    (.block 0 (.loop (.seq (.rg [⟨(some 10), .bin .lss (.t 9) (.t 8), none⟩])
      (.seq (.cond (.t 10) .skip
        (.exit 0))
      (.seq (.block 1 (.seq (.rg [⟨(some 11), .iaddr 1 (.t 7) (.t 9), none⟩,
         ⟨(some 12), .load false 1 (.t 11), none⟩,
         ⟨(some 5), .mov (.t 12), none⟩])
       (.seq (.rg [⟨(some 6), .mov (.c (.p (.int .i64 0))), none⟩])
       (.seq (.block 2 (.loop (.seq (.seq (.rg [⟨(some 13), .mov (.t 6), none⟩,
           ⟨(some 14), .mov (.t 3), none⟩,
           ⟨(some 15), .lenl (.t 14), none⟩,
           ⟨(some 16), .bin .lss (.t 13) (.t 15), none⟩,
           ⟨(some 17), .mov (.t 16), none⟩,
           ⟨(some 18), .mov (.t 3), (some (17, true))⟩,
           ⟨(some 19), .mov (.t 6), (some (17, true))⟩,
           ⟨(some 20), .iaddr 1 (.t 18) (.t 19), (some (17, true))⟩,
           ⟨(some 21), .load false 1 (.t 20), (some (17, true))⟩,
           ⟨(some 22), .mov (.t 5), (some (17, true))⟩,
           ⟨(some 23), .bin .lss (.t 21) (.t 22), (some (17, true))⟩,
           ⟨(some 24), .pick (.t 17) (.t 23) (.c (.p (.bool false))), none⟩])
         (.cond (.t 24) .skip
           (.exit 2)))
         (.block 3 (.rg [⟨(some 25), .mov (.t 6), none⟩,
            ⟨(some 26), .bin .add (.t 25) (.c (.p (.int .i64 1))), none⟩,
            ⟨(some 6), .mov (.t 26), none⟩])))))
       (.seq (.rg [⟨(some 27), .mov (.t 6), none⟩,
         ⟨(some 28), .mov (.t 3), none⟩,
         ⟨(some 29), .lenl (.t 28), none⟩,
         ⟨(some 30), .bin .eql (.t 27) (.t 29), none⟩,
         ⟨(some 31), .mov (.t 30), none⟩,
         ⟨(some 32), .mov (.t 3), (some (31, false))⟩,
         ⟨(some 33), .mov (.t 6), (some (31, false))⟩,
         ⟨(some 34), .iaddr 1 (.t 32) (.t 33), (some (31, false))⟩,
         ⟨(some 35), .load false 1 (.t 34), (some (31, false))⟩,
         ⟨(some 36), .mov (.t 5), (some (31, false))⟩,
         ⟨(some 37), .bin .neq (.t 35) (.t 36), (some (31, false))⟩,
         ⟨(some 38), .pick (.t 31) (.c (.p (.bool true))) (.t 37), none⟩])
       (.cond (.t 38) (.rgd [⟨⟨(some 39), .mov (.t 3), none⟩, 0, [0]⟩,
           ⟨⟨(some 40), .mov (.t 6), none⟩, 0, [0]⟩,
           ⟨⟨(some 41), .slcl 1 (.t 39) none (some (.t 40)), none⟩, 0, [0]⟩,
           ⟨⟨(some 42), .mov (.t 5), none⟩, 0, [0]⟩,
           ⟨⟨(some 43), .lit 1 [(.t 42)], none⟩, 0, [0]⟩,
           ⟨⟨(some 44), .mov (.t 3), none⟩, 0, [0]⟩,
           ⟨⟨(some 45), .mov (.t 6), none⟩, 0, [0]⟩,
           ⟨⟨(some 46), .slcl 1 (.t 44) (some (.t 45)) none, none⟩, 0, [0]⟩,
           ⟨⟨(some 47), .app 1 16 (.t 43) (.t 46), none⟩, 1, [0]⟩,
           ⟨⟨(some 48), .app 1 16 (.t 41) (.t 47), none⟩, 2, []⟩,
           ⟨⟨(some 3), .mov (.t 48), none⟩, 3, []⟩])
         .skip))))))
      (.rg [⟨(some 49), .bin .add (.t 9) (.c (.p (.int .i64 1))), none⟩,
        ⟨(some 9), .mov (.t 49), none⟩])))))))
    (.seq (.rg [⟨(some 50), .mov (.t 3), none⟩,
      ⟨(some 2), .mov (.t 50), none⟩])
    .ret))))
def r23 : List DR := [.tmp 2]
theorem c23_ok : Try.f23.body.bind (cCode Try.prog) = some c23 := by kernel_rfl
theorem r23_ok : cRes Try.prog Try.f23.results.toList = some r23 := by kernel_rfl

/-- given.example/pub-assaymark/spec.SameEvents -/
def c24 : DC :=
  (.seq (.rg [⟨(some 4), .mov (.c (.p (.bool false))), none⟩])
    (.seq (.rg [⟨(some 5), .mov (.t 0), none⟩,
      ⟨(some 6), .callr 23 [(.t 5)], none⟩,
      ⟨(some 7), .mov (.t 1), none⟩,
      ⟨(some 8), .callr 23 [(.t 7)], none⟩,
      ⟨(some 9), .callr 18 [(.t 6), (.t 8)], none⟩,
      ⟨(some 4), .mov (.t 9), none⟩])
    .ret))
def r24 : List DR := [.tmp 4]
theorem c24_ok : Try.f24.body.bind (cCode Try.prog) = some c24 := by kernel_rfl
theorem r24_ok : cRes Try.prog Try.f24.results.toList = some r24 := by kernel_rfl

/-- given.example/pub-assaymark/impl.noticeOf -/
def c25 : DC :=
  (.seq (.rg [⟨(some 1), .box (.t 0), none⟩,
      ⟨(some 2), .alloc 8 (.agg [.p (.string ⟨#[]⟩), .p (.string ⟨#[]⟩), .p (.string ⟨#[]⟩), .p (.string ⟨#[]⟩), .p (.string ⟨#[]⟩), .p (.string ⟨#[]⟩), .p (.slice none 0 0), .p (.pointer none)]), none⟩])
    (.seq (.rg [⟨(some 8), .faddr true 1 5 (.t 1), none⟩,
      ⟨(some 9), .load true 5 (.t 8), none⟩,
      ⟨(some 10), .callr 38 [(.t 9)], none⟩,
      ⟨(some 11), .callr 37 [(.t 10)], none⟩,
      ⟨(some 3), .alloc 8 (.agg [.p (.string ⟨#[]⟩), .p (.string ⟨#[]⟩), .p (.string ⟨#[]⟩), .p (.string ⟨#[]⟩), .p (.string ⟨#[]⟩), .p (.string ⟨#[]⟩), .p (.slice none 0 0), .p (.pointer none)]), none⟩,
      ⟨none, .store 8 (.t 3) (.t 11), none⟩])
    (.seq (.rg [⟨(some 12), .faddr false 6 1 (.t 1), none⟩,
      ⟨(some 13), .load false 1 (.t 12), none⟩,
      ⟨(some 14), .callr 40 [(.t 13)], none⟩,
      ⟨(some 15), .callr 39 [(.t 3), (.t 14)], none⟩])
    (.seq (.seq (.rg [⟨(some 16), .faddr false 7 1 (.t 1), none⟩,
      ⟨(some 17), .load false 1 (.t 16), none⟩,
      ⟨(some 18), .lenl (.t 17), none⟩,
      ⟨(some 19), .mov (.c (.p (.int .i64 0))), none⟩])
    (.block 0 (.loop (.seq (.rg [⟨(some 20), .bin .lss (.t 19) (.t 18), none⟩])
      (.seq (.cond (.t 20) .skip
        (.exit 0))
      (.seq (.block 1 (.seq (.rg [⟨(some 21), .iaddr 1 (.t 17) (.t 19), none⟩,
         ⟨(some 22), .load false 1 (.t 21), none⟩,
         ⟨(some 5), .mov (.t 22), none⟩])
       (.rg [⟨(some 23), .mov (.t 5), none⟩,
         ⟨(some 24), .callr 41 [(.t 3), (.t 23)], none⟩])))
      (.rg [⟨(some 25), .bin .add (.t 19) (.c (.p (.int .i64 1))), none⟩,
        ⟨(some 19), .mov (.t 25), none⟩])))))))
    (.seq (.seq (.rg [⟨(some 26), .faddr false 8 1 (.t 1), none⟩,
      ⟨(some 27), .load false 1 (.t 26), none⟩,
      ⟨(some 28), .lenl (.t 27), none⟩,
      ⟨(some 29), .mov (.c (.p (.int .i64 0))), none⟩])
    (.block 2 (.loop (.seq (.rg [⟨(some 30), .bin .lss (.t 29) (.t 28), none⟩])
      (.seq (.cond (.t 30) .skip
        (.exit 2))
      (.seq (.block 3 (.seq (.rg [⟨(some 31), .iaddr 1 (.t 27) (.t 29), none⟩,
         ⟨(some 32), .load false 1 (.t 31), none⟩,
         ⟨(some 7), .mov (.t 32), none⟩])
       (.rg [⟨(some 33), .mov (.t 7), none⟩,
         ⟨(some 34), .callr 42 [(.t 3), (.t 33)], none⟩])))
      (.rg [⟨(some 35), .bin .add (.t 29) (.c (.p (.int .i64 1))), none⟩,
        ⟨(some 29), .mov (.t 35), none⟩])))))))
    (.seq (.rg [⟨(some 36), .load true 8 (.t 3), none⟩,
      ⟨none, .store 8 (.t 2) (.t 36), none⟩])
    .ret))))))
def r25 : List DR := [.cell 2 true 8]
theorem c25_ok : Try.f25.body.bind (cCode Try.prog) = some c25 := by kernel_rfl
theorem r25_ok : cRes Try.prog Try.f25.results.toList = some r25 := by kernel_rfl

/-- (*given.example/pub-assaymark/pub/miniogo/pkg/notification.Configuration).AddTopic -/
def c26 : DC :=
  (.seq (.rg [⟨(some 3), .box (.t 1), none⟩,
      ⟨(some 4), .mov (.c (.p (.bool false))), none⟩])
    (.seq (.rgd [⟨⟨(some 14), .load true 8 (.t 3), none⟩, 0, [0]⟩,
      ⟨⟨(some 15), .faddr true 1 5 (.t 3), none⟩, 0, [0]⟩,
      ⟨⟨(some 16), .load true 5 (.t 15), none⟩, 0, [0]⟩,
      ⟨⟨(some 17), .pcall 43 [(.t 16)], none⟩, 0, [0]⟩,
      ⟨⟨(some 18), .bld [.p (.string ⟨#[]⟩), .p (.string ⟨#[]⟩), .p (.string ⟨#[]⟩), .p (.string ⟨#[]⟩), .p (.string ⟨#[]⟩), .p (.string ⟨#[]⟩), .p (.slice none 0 0), .p (.pointer none), .p (.string ⟨#[]⟩)] [(0, 8, (.t 14)), (8, 1, (.t 17))], none⟩, 0, []⟩,
      ⟨⟨(some 5), .alloc 9 (.agg [.p (.string ⟨#[]⟩), .p (.string ⟨#[]⟩), .p (.string ⟨#[]⟩), .p (.string ⟨#[]⟩), .p (.string ⟨#[]⟩), .p (.string ⟨#[]⟩), .p (.slice none 0 0), .p (.pointer none), .p (.string ⟨#[]⟩)]), none⟩, 0, [0]⟩,
      ⟨⟨none, .store 9 (.t 5) (.t 18), none⟩, 1, []⟩])
    (.seq (.seq (.rg [⟨(some 19), .mov (.t 0), none⟩,
      ⟨(some 20), .nilchk .ptr (.t 19), none⟩,
      ⟨(some 21), .faddr false 3 1 (.t 20), none⟩,
      ⟨(some 22), .load false 1 (.t 21), none⟩,
      ⟨(some 23), .lenl (.t 22), none⟩,
      ⟨(some 24), .mov (.c (.p (.int .i64 0))), none⟩])
    (.block 0 (.loop (.seq (.rg [⟨(some 25), .bin .lss (.t 24) (.t 23), none⟩])
      (.seq (.cond (.t 25) .skip
        (.exit 0))
      (.seq (.block 1 (.seq (.rg [⟨(some 26), .iaddr 9 (.t 22) (.t 24), none⟩,
         ⟨(some 27), .load true 9 (.t 26), none⟩,
         ⟨(some 7), .alloc 9 (.agg [.p (.string ⟨#[]⟩), .p (.string ⟨#[]⟩), .p (.string ⟨#[]⟩), .p (.string ⟨#[]⟩), .p (.string ⟨#[]⟩), .p (.string ⟨#[]⟩), .p (.slice none 0 0), .p (.pointer none), .p (.string ⟨#[]⟩)]), none⟩,
         ⟨none, .store 9 (.t 7) (.t 27), none⟩])
       (.seq (.rgd [⟨⟨(some 28), .faddr false 8 1 (.t 7), none⟩, 0, [0]⟩,
         ⟨⟨(some 29), .load false 1 (.t 28), none⟩, 0, [0]⟩,
         ⟨⟨(some 30), .faddr true 0 8 (.t 5), none⟩, 0, [0]⟩,
         ⟨⟨(some 31), .faddr true 1 5 (.t 30), none⟩, 0, [0]⟩,
         ⟨⟨(some 32), .load true 5 (.t 31), none⟩, 0, [0]⟩,
         ⟨⟨(some 33), .call 43 [(.t 32)], none⟩, 0, [0]⟩,
         ⟨⟨(some 34), .bin .eql (.t 29) (.t 33), none⟩, 1, []⟩,
         ⟨⟨(some 35), .mov (.t 34), none⟩, 1, []⟩,
         ⟨⟨(some 36), .faddr true 0 8 (.t 5), (some (35, true))⟩, 1, [1]⟩,
         ⟨⟨(some 37), .faddr false 7 1 (.t 36), (some (35, true))⟩, 1, [1]⟩,
         ⟨⟨(some 38), .load false 1 (.t 37), (some (35, true))⟩, 1, [1]⟩,
         ⟨⟨(some 39), .faddr true 0 8 (.t 7), (some (35, true))⟩, 1, [1]⟩,
         ⟨⟨(some 40), .faddr false 7 1 (.t 39), (some (35, true))⟩, 1, [1]⟩,
         ⟨⟨(some 41), .load false 1 (.t 40), (some (35, true))⟩, 1, [1]⟩,
         ⟨⟨(some 42), .eqp false (.t 38) (.t 41), (some (35, true))⟩, 1, [1]⟩,
         ⟨⟨(some 43), .pick (.t 35) (.t 42) (.c (.p (.bool false))), none⟩, 1, []⟩])
       (.cond (.t 43) (.seq (.rg [⟨(some 44), .callr 44 [], none⟩,
           ⟨(some 8), .mov (.t 44), none⟩])
         (.seq (.seq (.rg [⟨(some 45), .faddr true 0 8 (.t 7), none⟩,
           ⟨(some 46), .faddr false 6 1 (.t 45), none⟩,
           ⟨(some 47), .load false 1 (.t 46), none⟩,
           ⟨(some 48), .lenl (.t 47), none⟩,
           ⟨(some 49), .mov (.c (.p (.int .i64 0))), none⟩])
         (.block 2 (.loop (.seq (.rg [⟨(some 50), .bin .lss (.t 49) (.t 48), none⟩])
           (.seq (.cond (.t 50) .skip
             (.exit 2))
           (.seq (.block 3 (.seq (.rg [⟨(some 51), .iaddr 1 (.t 47) (.t 49), none⟩,
              ⟨(some 52), .load false 1 (.t 51), none⟩,
              ⟨(some 10), .mov (.t 52), none⟩])
            (.rg [⟨(some 53), .mov (.t 8), none⟩,
              ⟨(some 54), .mov (.t 10), none⟩,
              ⟨(some 55), .callr 45 [(.t 53), (.t 54)], none⟩])))
           (.rg [⟨(some 56), .bin .add (.t 49) (.c (.p (.int .i64 1))), none⟩,
             ⟨(some 49), .mov (.t 56), none⟩])))))))
         (.seq (.rg [⟨(some 57), .callr 44 [], none⟩,
           ⟨(some 11), .mov (.t 57), none⟩])
         (.seq (.seq (.rg [⟨(some 58), .faddr false 6 1 (.t 3), none⟩,
           ⟨(some 59), .load false 1 (.t 58), none⟩,
           ⟨(some 60), .lenl (.t 59), none⟩,
           ⟨(some 61), .mov (.c (.p (.int .i64 0))), none⟩])
         (.block 4 (.loop (.seq (.rg [⟨(some 62), .bin .lss (.t 61) (.t 60), none⟩])
           (.seq (.cond (.t 62) .skip
             (.exit 4))
           (.seq (.block 5 (.seq (.rg [⟨(some 63), .iaddr 1 (.t 59) (.t 61), none⟩,
              ⟨(some 64), .load false 1 (.t 63), none⟩,
              ⟨(some 13), .mov (.t 64), none⟩])
            (.rg [⟨(some 65), .mov (.t 11), none⟩,
              ⟨(some 66), .mov (.t 13), none⟩,
              ⟨(some 67), .callr 45 [(.t 65), (.t 66)], none⟩])))
           (.rg [⟨(some 68), .bin .add (.t 61) (.c (.p (.int .i64 1))), none⟩,
             ⟨(some 61), .mov (.t 68), none⟩])))))))
         (.seq (.rg [⟨(some 69), .mov (.t 11), none⟩,
           ⟨(some 70), .mov (.t 8), none⟩,
           ⟨(some 71), .callr 46 [(.t 69), (.t 70)], none⟩,
           ⟨(some 72), .callr 47 [(.t 71)], none⟩,
           ⟨(some 73), .un .not (.t 72), none⟩])
         (.cond (.t 73) (.seq (.rg [⟨(some 4), .mov (.c (.p (.bool false))), none⟩])
           .ret)
           .skip))))))
         .skip))))
      (.rg [⟨(some 74), .bin .add (.t 24) (.c (.p (.int .i64 1))), none⟩,
        ⟨(some 24), .mov (.t 74), none⟩])))))))
    (.seq (.rgd [⟨⟨(some 75), .mov (.t 0), none⟩, 0, [0]⟩,
      ⟨⟨(some 76), .mov (.t 0), none⟩, 0, [0]⟩,
      ⟨⟨(some 77), .nilchk .ptr (.t 76), none⟩, 0, [0]⟩,
      ⟨⟨(some 78), .faddr false 3 1 (.t 77), none⟩, 0, [0]⟩,
      ⟨⟨(some 79), .load false 1 (.t 78), none⟩, 0, [0]⟩,
      ⟨⟨(some 80), .load true 9 (.t 5), none⟩, 0, [0]⟩,
      ⟨⟨(some 81), .lit 9 [(.t 80)], none⟩, 0, [0]⟩,
      ⟨⟨(some 82), .app 9 144 (.t 79) (.t 81), none⟩, 1, []⟩,
      ⟨⟨(some 83), .nilchk .ptr (.t 75), none⟩, 2, [2]⟩,
      ⟨⟨(some 84), .faddr false 3 1 (.t 83), none⟩, 2, [2]⟩,
      ⟨⟨none, .store 1 (.t 84) (.t 82), none⟩, 2, []⟩])
    (.seq (.rg [⟨(some 4), .mov (.c (.p (.bool true))), none⟩])
    .ret)))))
def r26 : List DR := [.tmp 4]
theorem c26_ok : Try.f26.body.bind (cCode Try.prog) = some c26 := by kernel_rfl
theorem r26_ok : cRes Try.prog Try.f26.results.toList = some r26 := by kernel_rfl

/-- (*given.example/pub-assaymark/pub/miniogo/pkg/notification.Configuration).AddQueue -/
def c27 : DC :=
  (.seq (.rg [⟨(some 3), .box (.t 1), none⟩,
      ⟨(some 4), .mov (.c (.p (.bool false))), none⟩])
    (.seq (.rgd [⟨⟨(some 14), .load true 8 (.t 3), none⟩, 0, [0]⟩,
      ⟨⟨(some 15), .faddr true 1 5 (.t 3), none⟩, 0, [0]⟩,
      ⟨⟨(some 16), .load true 5 (.t 15), none⟩, 0, [0]⟩,
      ⟨⟨(some 17), .pcall 43 [(.t 16)], none⟩, 0, [0]⟩,
      ⟨⟨(some 18), .bld [.p (.string ⟨#[]⟩), .p (.string ⟨#[]⟩), .p (.string ⟨#[]⟩), .p (.string ⟨#[]⟩), .p (.string ⟨#[]⟩), .p (.string ⟨#[]⟩), .p (.slice none 0 0), .p (.pointer none), .p (.string ⟨#[]⟩)] [(0, 8, (.t 14)), (8, 1, (.t 17))], none⟩, 0, []⟩,
      ⟨⟨(some 5), .alloc 9 (.agg [.p (.string ⟨#[]⟩), .p (.string ⟨#[]⟩), .p (.string ⟨#[]⟩), .p (.string ⟨#[]⟩), .p (.string ⟨#[]⟩), .p (.string ⟨#[]⟩), .p (.slice none 0 0), .p (.pointer none), .p (.string ⟨#[]⟩)]), none⟩, 0, [0]⟩,
      ⟨⟨none, .store 9 (.t 5) (.t 18), none⟩, 1, []⟩])
    (.seq (.seq (.rg [⟨(some 19), .mov (.t 0), none⟩,
      ⟨(some 20), .nilchk .ptr (.t 19), none⟩,
      ⟨(some 21), .faddr false 4 1 (.t 20), none⟩,
      ⟨(some 22), .load false 1 (.t 21), none⟩,
      ⟨(some 23), .lenl (.t 22), none⟩,
      ⟨(some 24), .mov (.c (.p (.int .i64 0))), none⟩])
    (.block 0 (.loop (.seq (.rg [⟨(some 25), .bin .lss (.t 24) (.t 23), none⟩])
      (.seq (.cond (.t 25) .skip
        (.exit 0))
      (.seq (.block 1 (.seq (.rg [⟨(some 26), .iaddr 9 (.t 22) (.t 24), none⟩,
         ⟨(some 27), .load true 9 (.t 26), none⟩,
         ⟨(some 7), .alloc 9 (.agg [.p (.string ⟨#[]⟩), .p (.string ⟨#[]⟩), .p (.string ⟨#[]⟩), .p (.string ⟨#[]⟩), .p (.string ⟨#[]⟩), .p (.string ⟨#[]⟩), .p (.slice none 0 0), .p (.pointer none), .p (.string ⟨#[]⟩)]), none⟩,
         ⟨none, .store 9 (.t 7) (.t 27), none⟩])
       (.seq (.rgd [⟨⟨(some 28), .faddr false 8 1 (.t 7), none⟩, 0, [0]⟩,
         ⟨⟨(some 29), .load false 1 (.t 28), none⟩, 0, [0]⟩,
         ⟨⟨(some 30), .faddr true 0 8 (.t 5), none⟩, 0, [0]⟩,
         ⟨⟨(some 31), .faddr true 1 5 (.t 30), none⟩, 0, [0]⟩,
         ⟨⟨(some 32), .load true 5 (.t 31), none⟩, 0, [0]⟩,
         ⟨⟨(some 33), .call 43 [(.t 32)], none⟩, 0, [0]⟩,
         ⟨⟨(some 34), .bin .eql (.t 29) (.t 33), none⟩, 1, []⟩,
         ⟨⟨(some 35), .mov (.t 34), none⟩, 1, []⟩,
         ⟨⟨(some 36), .faddr true 0 8 (.t 5), (some (35, true))⟩, 1, [1]⟩,
         ⟨⟨(some 37), .faddr false 7 1 (.t 36), (some (35, true))⟩, 1, [1]⟩,
         ⟨⟨(some 38), .load false 1 (.t 37), (some (35, true))⟩, 1, [1]⟩,
         ⟨⟨(some 39), .faddr true 0 8 (.t 7), (some (35, true))⟩, 1, [1]⟩,
         ⟨⟨(some 40), .faddr false 7 1 (.t 39), (some (35, true))⟩, 1, [1]⟩,
         ⟨⟨(some 41), .load false 1 (.t 40), (some (35, true))⟩, 1, [1]⟩,
         ⟨⟨(some 42), .eqp false (.t 38) (.t 41), (some (35, true))⟩, 1, [1]⟩,
         ⟨⟨(some 43), .pick (.t 35) (.t 42) (.c (.p (.bool false))), none⟩, 1, []⟩])
       (.cond (.t 43) (.seq (.rg [⟨(some 44), .callr 44 [], none⟩,
           ⟨(some 8), .mov (.t 44), none⟩])
         (.seq (.seq (.rg [⟨(some 45), .faddr true 0 8 (.t 7), none⟩,
           ⟨(some 46), .faddr false 6 1 (.t 45), none⟩,
           ⟨(some 47), .load false 1 (.t 46), none⟩,
           ⟨(some 48), .lenl (.t 47), none⟩,
           ⟨(some 49), .mov (.c (.p (.int .i64 0))), none⟩])
         (.block 2 (.loop (.seq (.rg [⟨(some 50), .bin .lss (.t 49) (.t 48), none⟩])
           (.seq (.cond (.t 50) .skip
             (.exit 2))
           (.seq (.block 3 (.seq (.rg [⟨(some 51), .iaddr 1 (.t 47) (.t 49), none⟩,
              ⟨(some 52), .load false 1 (.t 51), none⟩,
              ⟨(some 10), .mov (.t 52), none⟩])
            (.rg [⟨(some 53), .mov (.t 8), none⟩,
              ⟨(some 54), .mov (.t 10), none⟩,
              ⟨(some 55), .callr 45 [(.t 53), (.t 54)], none⟩])))
           (.rg [⟨(some 56), .bin .add (.t 49) (.c (.p (.int .i64 1))), none⟩,
             ⟨(some 49), .mov (.t 56), none⟩])))))))
         (.seq (.rg [⟨(some 57), .callr 44 [], none⟩,
           ⟨(some 11), .mov (.t 57), none⟩])
         (.seq (.seq (.rg [⟨(some 58), .faddr false 6 1 (.t 3), none⟩,
           ⟨(some 59), .load false 1 (.t 58), none⟩,
           ⟨(some 60), .lenl (.t 59), none⟩,
           ⟨(some 61), .mov (.c (.p (.int .i64 0))), none⟩])
         (.block 4 (.loop (.seq (.rg [⟨(some 62), .bin .lss (.t 61) (.t 60), none⟩])
           (.seq (.cond (.t 62) .skip
             (.exit 4))
           (.seq (.block 5 (.seq (.rg [⟨(some 63), .iaddr 1 (.t 59) (.t 61), none⟩,
              ⟨(some 64), .load false 1 (.t 63), none⟩,
              ⟨(some 13), .mov (.t 64), none⟩])
            (.rg [⟨(some 65), .mov (.t 11), none⟩,
              ⟨(some 66), .mov (.t 13), none⟩,
              ⟨(some 67), .callr 45 [(.t 65), (.t 66)], none⟩])))
           (.rg [⟨(some 68), .bin .add (.t 61) (.c (.p (.int .i64 1))), none⟩,
             ⟨(some 61), .mov (.t 68), none⟩])))))))
         (.seq (.rg [⟨(some 69), .mov (.t 11), none⟩,
           ⟨(some 70), .mov (.t 8), none⟩,
           ⟨(some 71), .callr 46 [(.t 69), (.t 70)], none⟩,
           ⟨(some 72), .callr 47 [(.t 71)], none⟩,
           ⟨(some 73), .un .not (.t 72), none⟩])
         (.cond (.t 73) (.seq (.rg [⟨(some 4), .mov (.c (.p (.bool false))), none⟩])
           .ret)
           .skip))))))
         .skip))))
      (.rg [⟨(some 74), .bin .add (.t 24) (.c (.p (.int .i64 1))), none⟩,
        ⟨(some 24), .mov (.t 74), none⟩])))))))
    (.seq (.rgd [⟨⟨(some 75), .mov (.t 0), none⟩, 0, [0]⟩,
      ⟨⟨(some 76), .mov (.t 0), none⟩, 0, [0]⟩,
      ⟨⟨(some 77), .nilchk .ptr (.t 76), none⟩, 0, [0]⟩,
      ⟨⟨(some 78), .faddr false 4 1 (.t 77), none⟩, 0, [0]⟩,
      ⟨⟨(some 79), .load false 1 (.t 78), none⟩, 0, [0]⟩,
      ⟨⟨(some 80), .load true 9 (.t 5), none⟩, 0, [0]⟩,
      ⟨⟨(some 81), .lit 9 [(.t 80)], none⟩, 0, [0]⟩,
      ⟨⟨(some 82), .app 9 144 (.t 79) (.t 81), none⟩, 1, []⟩,
      ⟨⟨(some 83), .nilchk .ptr (.t 75), none⟩, 2, [2]⟩,
      ⟨⟨(some 84), .faddr false 4 1 (.t 83), none⟩, 2, [2]⟩,
      ⟨⟨none, .store 1 (.t 84) (.t 82), none⟩, 2, []⟩])
    (.seq (.rg [⟨(some 4), .mov (.c (.p (.bool true))), none⟩])
    .ret)))))
def r27 : List DR := [.tmp 4]
theorem c27_ok : Try.f27.body.bind (cCode Try.prog) = some c27 := by kernel_rfl
theorem r27_ok : cRes Try.prog Try.f27.results.toList = some r27 := by kernel_rfl

/-- (*given.example/pub-assaymark/pub/miniogo/pkg/notification.Configuration).AddLambda -/
def c28 : DC :=
  (.seq (.rg [⟨(some 3), .box (.t 1), none⟩,
      ⟨(some 4), .mov (.c (.p (.bool false))), none⟩])
    (.seq (.rgd [⟨⟨(some 14), .load true 8 (.t 3), none⟩, 0, [0]⟩,
      ⟨⟨(some 15), .faddr true 1 5 (.t 3), none⟩, 0, [0]⟩,
      ⟨⟨(some 16), .load true 5 (.t 15), none⟩, 0, [0]⟩,
      ⟨⟨(some 17), .pcall 43 [(.t 16)], none⟩, 0, [0]⟩,
      ⟨⟨(some 18), .bld [.p (.string ⟨#[]⟩), .p (.string ⟨#[]⟩), .p (.string ⟨#[]⟩), .p (.string ⟨#[]⟩), .p (.string ⟨#[]⟩), .p (.string ⟨#[]⟩), .p (.slice none 0 0), .p (.pointer none), .p (.string ⟨#[]⟩)] [(0, 8, (.t 14)), (8, 1, (.t 17))], none⟩, 0, []⟩,
      ⟨⟨(some 5), .alloc 9 (.agg [.p (.string ⟨#[]⟩), .p (.string ⟨#[]⟩), .p (.string ⟨#[]⟩), .p (.string ⟨#[]⟩), .p (.string ⟨#[]⟩), .p (.string ⟨#[]⟩), .p (.slice none 0 0), .p (.pointer none), .p (.string ⟨#[]⟩)]), none⟩, 0, [0]⟩,
      ⟨⟨none, .store 9 (.t 5) (.t 18), none⟩, 1, []⟩])
    (.seq (.seq (.rg [⟨(some 19), .mov (.t 0), none⟩,
      ⟨(some 20), .nilchk .ptr (.t 19), none⟩,
      ⟨(some 21), .faddr false 2 1 (.t 20), none⟩,
      ⟨(some 22), .load false 1 (.t 21), none⟩,
      ⟨(some 23), .lenl (.t 22), none⟩,
      ⟨(some 24), .mov (.c (.p (.int .i64 0))), none⟩])
    (.block 0 (.loop (.seq (.rg [⟨(some 25), .bin .lss (.t 24) (.t 23), none⟩])
      (.seq (.cond (.t 25) .skip
        (.exit 0))
      (.seq (.block 1 (.seq (.rg [⟨(some 26), .iaddr 9 (.t 22) (.t 24), none⟩,
         ⟨(some 27), .load true 9 (.t 26), none⟩,
         ⟨(some 7), .alloc 9 (.agg [.p (.string ⟨#[]⟩), .p (.string ⟨#[]⟩), .p (.string ⟨#[]⟩), .p (.string ⟨#[]⟩), .p (.string ⟨#[]⟩), .p (.string ⟨#[]⟩), .p (.slice none 0 0), .p (.pointer none), .p (.string ⟨#[]⟩)]), none⟩,
         ⟨none, .store 9 (.t 7) (.t 27), none⟩])
       (.seq (.rgd [⟨⟨(some 28), .faddr false 8 1 (.t 7), none⟩, 0, [0]⟩,
         ⟨⟨(some 29), .load false 1 (.t 28), none⟩, 0, [0]⟩,
         ⟨⟨(some 30), .faddr true 0 8 (.t 5), none⟩, 0, [0]⟩,
         ⟨⟨(some 31), .faddr true 1 5 (.t 30), none⟩, 0, [0]⟩,
         ⟨⟨(some 32), .load true 5 (.t 31), none⟩, 0, [0]⟩,
         ⟨⟨(some 33), .call 43 [(.t 32)], none⟩, 0, [0]⟩,
         ⟨⟨(some 34), .bin .eql (.t 29) (.t 33), none⟩, 1, []⟩,
         ⟨⟨(some 35), .mov (.t 34), none⟩, 1, []⟩,
         ⟨⟨(some 36), .faddr true 0 8 (.t 5), (some (35, true))⟩, 1, [1]⟩,
         ⟨⟨(some 37), .faddr false 7 1 (.t 36), (some (35, true))⟩, 1, [1]⟩,
         ⟨⟨(some 38), .load false 1 (.t 37), (some (35, true))⟩, 1, [1]⟩,
         ⟨⟨(some 39), .faddr true 0 8 (.t 7), (some (35, true))⟩, 1, [1]⟩,
         ⟨⟨(some 40), .faddr false 7 1 (.t 39), (some (35, true))⟩, 1, [1]⟩,
         ⟨⟨(some 41), .load false 1 (.t 40), (some (35, true))⟩, 1, [1]⟩,
         ⟨⟨(some 42), .eqp false (.t 38) (.t 41), (some (35, true))⟩, 1, [1]⟩,
         ⟨⟨(some 43), .pick (.t 35) (.t 42) (.c (.p (.bool false))), none⟩, 1, []⟩])
       (.cond (.t 43) (.seq (.rg [⟨(some 44), .callr 44 [], none⟩,
           ⟨(some 8), .mov (.t 44), none⟩])
         (.seq (.seq (.rg [⟨(some 45), .faddr true 0 8 (.t 7), none⟩,
           ⟨(some 46), .faddr false 6 1 (.t 45), none⟩,
           ⟨(some 47), .load false 1 (.t 46), none⟩,
           ⟨(some 48), .lenl (.t 47), none⟩,
           ⟨(some 49), .mov (.c (.p (.int .i64 0))), none⟩])
         (.block 2 (.loop (.seq (.rg [⟨(some 50), .bin .lss (.t 49) (.t 48), none⟩])
           (.seq (.cond (.t 50) .skip
             (.exit 2))
           (.seq (.block 3 (.seq (.rg [⟨(some 51), .iaddr 1 (.t 47) (.t 49), none⟩,
              ⟨(some 52), .load false 1 (.t 51), none⟩,
              ⟨(some 10), .mov (.t 52), none⟩])
            (.rg [⟨(some 53), .mov (.t 8), none⟩,
              ⟨(some 54), .mov (.t 10), none⟩,
              ⟨(some 55), .callr 45 [(.t 53), (.t 54)], none⟩])))
           (.rg [⟨(some 56), .bin .add (.t 49) (.c (.p (.int .i64 1))), none⟩,
             ⟨(some 49), .mov (.t 56), none⟩])))))))
         (.seq (.rg [⟨(some 57), .callr 44 [], none⟩,
           ⟨(some 11), .mov (.t 57), none⟩])
         (.seq (.seq (.rg [⟨(some 58), .faddr false 6 1 (.t 3), none⟩,
           ⟨(some 59), .load false 1 (.t 58), none⟩,
           ⟨(some 60), .lenl (.t 59), none⟩,
           ⟨(some 61), .mov (.c (.p (.int .i64 0))), none⟩])
         (.block 4 (.loop (.seq (.rg [⟨(some 62), .bin .lss (.t 61) (.t 60), none⟩])
           (.seq (.cond (.t 62) .skip
             (.exit 4))
           (.seq (.block 5 (.seq (.rg [⟨(some 63), .iaddr 1 (.t 59) (.t 61), none⟩,
              ⟨(some 64), .load false 1 (.t 63), none⟩,
              ⟨(some 13), .mov (.t 64), none⟩])
            (.rg [⟨(some 65), .mov (.t 11), none⟩,
              ⟨(some 66), .mov (.t 13), none⟩,
              ⟨(some 67), .callr 45 [(.t 65), (.t 66)], none⟩])))
           (.rg [⟨(some 68), .bin .add (.t 61) (.c (.p (.int .i64 1))), none⟩,
             ⟨(some 61), .mov (.t 68), none⟩])))))))
         (.seq (.rg [⟨(some 69), .mov (.t 11), none⟩,
           ⟨(some 70), .mov (.t 8), none⟩,
           ⟨(some 71), .callr 46 [(.t 69), (.t 70)], none⟩,
           ⟨(some 72), .callr 47 [(.t 71)], none⟩,
           ⟨(some 73), .un .not (.t 72), none⟩])
         (.cond (.t 73) (.seq (.rg [⟨(some 4), .mov (.c (.p (.bool false))), none⟩])
           .ret)
           .skip))))))
         .skip))))
      (.rg [⟨(some 74), .bin .add (.t 24) (.c (.p (.int .i64 1))), none⟩,
        ⟨(some 24), .mov (.t 74), none⟩])))))))
    (.seq (.rgd [⟨⟨(some 75), .mov (.t 0), none⟩, 0, [0]⟩,
      ⟨⟨(some 76), .mov (.t 0), none⟩, 0, [0]⟩,
      ⟨⟨(some 77), .nilchk .ptr (.t 76), none⟩, 0, [0]⟩,
      ⟨⟨(some 78), .faddr false 2 1 (.t 77), none⟩, 0, [0]⟩,
      ⟨⟨(some 79), .load false 1 (.t 78), none⟩, 0, [0]⟩,
      ⟨⟨(some 80), .load true 9 (.t 5), none⟩, 0, [0]⟩,
      ⟨⟨(some 81), .lit 9 [(.t 80)], none⟩, 0, [0]⟩,
      ⟨⟨(some 82), .app 9 144 (.t 79) (.t 81), none⟩, 1, []⟩,
      ⟨⟨(some 83), .nilchk .ptr (.t 75), none⟩, 2, [2]⟩,
      ⟨⟨(some 84), .faddr false 2 1 (.t 83), none⟩, 2, [2]⟩,
      ⟨⟨none, .store 1 (.t 84) (.t 82), none⟩, 2, []⟩])
    (.seq (.rg [⟨(some 4), .mov (.c (.p (.bool true))), none⟩])
    .ret)))))
def r28 : List DR := [.tmp 4]
theorem c28_ok : Try.f28.body.bind (cCode Try.prog) = some c28 := by kernel_rfl
theorem r28_ok : cRes Try.prog Try.f28.results.toList = some r28 := by kernel_rfl

/-- (*given.example/pub-assaymark/pub/miniogo/pkg/notification.Configuration).RemoveTopicByArn -/
def c29 : DC :=
  (.seq (.rg [⟨(some 3), .box (.t 1), none⟩])
    (.seq (.rg [⟨(some 4), .mov (.c (.p (.slice none 0 0))), none⟩])
    (.seq (.seq (.rg [⟨(some 7), .mov (.t 0), none⟩,
      ⟨(some 8), .nilchk .ptr (.t 7), none⟩,
      ⟨(some 9), .faddr false 3 1 (.t 8), none⟩,
      ⟨(some 10), .load false 1 (.t 9), none⟩,
      ⟨(some 11), .lenl (.t 10), none⟩,
      ⟨(some 12), .mov (.c (.p (.int .i64 0))), none⟩])
    (.block 0 (.loop (.seq (.rg [⟨(some 13), .bin .lss (.t 12) (.t 11), none⟩])
      (.seq (.cond (.t 13) .skip
        (.exit 0))
      (.seq (.block 1 (.seq (.rg [⟨(some 14), .iaddr 9 (.t 10) (.t 12), none⟩,
         ⟨(some 15), .load true 9 (.t 14), none⟩,
         ⟨(some 6), .alloc 9 (.agg [.p (.string ⟨#[]⟩), .p (.string ⟨#[]⟩), .p (.string ⟨#[]⟩), .p (.string ⟨#[]⟩), .p (.string ⟨#[]⟩), .p (.string ⟨#[]⟩), .p (.slice none 0 0), .p (.pointer none), .p (.string ⟨#[]⟩)]), none⟩,
         ⟨none, .store 9 (.t 6) (.t 15), none⟩])
       (.seq (.rgd [⟨⟨(some 16), .faddr false 8 1 (.t 6), none⟩, 0, [0]⟩,
         ⟨⟨(some 17), .load false 1 (.t 16), none⟩, 0, [0]⟩,
         ⟨⟨(some 18), .load true 5 (.t 3), none⟩, 0, [0]⟩,
         ⟨⟨(some 19), .call 43 [(.t 18)], none⟩, 0, [0]⟩,
         ⟨⟨(some 20), .bin .neq (.t 17) (.t 19), none⟩, 1, []⟩])
       (.cond (.t 20) (.rg [⟨(some 21), .mov (.t 4), none⟩,
           ⟨(some 22), .load true 9 (.t 6), none⟩,
           ⟨(some 23), .lit 9 [(.t 22)], none⟩,
           ⟨(some 24), .app 9 144 (.t 21) (.t 23), none⟩,
           ⟨(some 4), .mov (.t 24), none⟩])
         .skip))))
      (.rg [⟨(some 25), .bin .add (.t 12) (.c (.p (.int .i64 1))), none⟩,
        ⟨(some 12), .mov (.t 25), none⟩])))))))
    (.rg [⟨(some 26), .mov (.t 0), none⟩,
      ⟨(some 27), .mov (.t 4), none⟩,
      ⟨(some 28), .nilchk .ptr (.t 26), none⟩,
      ⟨(some 29), .faddr false 3 1 (.t 28), none⟩,
      ⟨none, .store 1 (.t 29) (.t 27), none⟩]))))
def r29 : List DR := []
theorem c29_ok : Try.f29.body.bind (cCode Try.prog) = some c29 := by kernel_rfl
theorem r29_ok : cRes Try.prog Try.f29.results.toList = some r29 := by kernel_rfl

/-- (*given.example/pub-assaymark/pub/miniogo/pkg/notification.Configuration).RemoveQueueByArn -/
def c30 : DC :=
  (.seq (.rg [⟨(some 3), .box (.t 1), none⟩])
    (.seq (.rg [⟨(some 4), .mov (.c (.p (.slice none 0 0))), none⟩])
    (.seq (.seq (.rg [⟨(some 7), .mov (.t 0), none⟩,
      ⟨(some 8), .nilchk .ptr (.t 7), none⟩,
      ⟨(some 9), .faddr false 4 1 (.t 8), none⟩,
      ⟨(some 10), .load false 1 (.t 9), none⟩,
      ⟨(some 11), .lenl (.t 10), none⟩,
      ⟨(some 12), .mov (.c (.p (.int .i64 0))), none⟩])
    (.block 0 (.loop (.seq (.rg [⟨(some 13), .bin .lss (.t 12) (.t 11), none⟩])
      (.seq (.cond (.t 13) .skip
        (.exit 0))
      (.seq (.block 1 (.seq (.rg [⟨(some 14), .iaddr 9 (.t 10) (.t 12), none⟩,
         ⟨(some 15), .load true 9 (.t 14), none⟩,
         ⟨(some 6), .alloc 9 (.agg [.p (.string ⟨#[]⟩), .p (.string ⟨#[]⟩), .p (.string ⟨#[]⟩), .p (.string ⟨#[]⟩), .p (.string ⟨#[]⟩), .p (.string ⟨#[]⟩), .p (.slice none 0 0), .p (.pointer none), .p (.string ⟨#[]⟩)]), none⟩,
         ⟨none, .store 9 (.t 6) (.t 15), none⟩])
       (.seq (.rgd [⟨⟨(some 16), .faddr false 8 1 (.t 6), none⟩, 0, [0]⟩,
         ⟨⟨(some 17), .load false 1 (.t 16), none⟩, 0, [0]⟩,
         ⟨⟨(some 18), .load true 5 (.t 3), none⟩, 0, [0]⟩,
         ⟨⟨(some 19), .call 43 [(.t 18)], none⟩, 0, [0]⟩,
         ⟨⟨(some 20), .bin .neq (.t 17) (.t 19), none⟩, 1, []⟩])
       (.cond (.t 20) (.rg [⟨(some 21), .mov (.t 4), none⟩,
           ⟨(some 22), .load true 9 (.t 6), none⟩,
           ⟨(some 23), .lit 9 [(.t 22)], none⟩,
           ⟨(some 24), .app 9 144 (.t 21) (.t 23), none⟩,
           ⟨(some 4), .mov (.t 24), none⟩])
         .skip))))
      (.rg [⟨(some 25), .bin .add (.t 12) (.c (.p (.int .i64 1))), none⟩,
        ⟨(some 12), .mov (.t 25), none⟩])))))))
    (.rg [⟨(some 26), .mov (.t 0), none⟩,
      ⟨(some 27), .mov (.t 4), none⟩,
      ⟨(some 28), .nilchk .ptr (.t 26), none⟩,
      ⟨(some 29), .faddr false 4 1 (.t 28), none⟩,
      ⟨none, .store 1 (.t 29) (.t 27), none⟩]))))
def r30 : List DR := []
theorem c30_ok : Try.f30.body.bind (cCode Try.prog) = some c30 := by kernel_rfl
theorem r30_ok : cRes Try.prog Try.f30.results.toList = some r30 := by kernel_rfl

/-- (*given.example/pub-assaymark/pub/miniogo/pkg/notification.Configuration).RemoveLambdaByArn -/
def c31 : DC :=
  (.seq (.rg [⟨(some 3), .box (.t 1), none⟩])
    (.seq (.rg [⟨(some 4), .mov (.c (.p (.slice none 0 0))), none⟩])
    (.seq (.seq (.rg [⟨(some 7), .mov (.t 0), none⟩,
      ⟨(some 8), .nilchk .ptr (.t 7), none⟩,
      ⟨(some 9), .faddr false 2 1 (.t 8), none⟩,
      ⟨(some 10), .load false 1 (.t 9), none⟩,
      ⟨(some 11), .lenl (.t 10), none⟩,
      ⟨(some 12), .mov (.c (.p (.int .i64 0))), none⟩])
    (.block 0 (.loop (.seq (.rg [⟨(some 13), .bin .lss (.t 12) (.t 11), none⟩])
      (.seq (.cond (.t 13) .skip
        (.exit 0))
      (.seq (.block 1 (.seq (.rg [⟨(some 14), .iaddr 9 (.t 10) (.t 12), none⟩,
         ⟨(some 15), .load true 9 (.t 14), none⟩,
         ⟨(some 6), .alloc 9 (.agg [.p (.string ⟨#[]⟩), .p (.string ⟨#[]⟩), .p (.string ⟨#[]⟩), .p (.string ⟨#[]⟩), .p (.string ⟨#[]⟩), .p (.string ⟨#[]⟩), .p (.slice none 0 0), .p (.pointer none), .p (.string ⟨#[]⟩)]), none⟩,
         ⟨none, .store 9 (.t 6) (.t 15), none⟩])
       (.seq (.rgd [⟨⟨(some 16), .faddr false 8 1 (.t 6), none⟩, 0, [0]⟩,
         ⟨⟨(some 17), .load false 1 (.t 16), none⟩, 0, [0]⟩,
         ⟨⟨(some 18), .load true 5 (.t 3), none⟩, 0, [0]⟩,
         ⟨⟨(some 19), .call 43 [(.t 18)], none⟩, 0, [0]⟩,
         ⟨⟨(some 20), .bin .neq (.t 17) (.t 19), none⟩, 1, []⟩])
       (.cond (.t 20) (.rg [⟨(some 21), .mov (.t 4), none⟩,
           ⟨(some 22), .load true 9 (.t 6), none⟩,
           ⟨(some 23), .lit 9 [(.t 22)], none⟩,
           ⟨(some 24), .app 9 144 (.t 21) (.t 23), none⟩,
           ⟨(some 4), .mov (.t 24), none⟩])
         .skip))))
      (.rg [⟨(some 25), .bin .add (.t 12) (.c (.p (.int .i64 1))), none⟩,
        ⟨(some 12), .mov (.t 25), none⟩])))))))
    (.rg [⟨(some 26), .mov (.t 0), none⟩,
      ⟨(some 27), .mov (.t 4), none⟩,
      ⟨(some 28), .nilchk .ptr (.t 26), none⟩,
      ⟨(some 29), .faddr false 2 1 (.t 28), none⟩,
      ⟨none, .store 1 (.t 29) (.t 27), none⟩]))))
def r31 : List DR := []
theorem c31_ok : Try.f31.body.bind (cCode Try.prog) = some c31 := by kernel_rfl
theorem r31_ok : cRes Try.prog Try.f31.results.toList = some r31 := by kernel_rfl

/-- given.example/pub-assaymark/impl.ntRemoveOne -/
def c32 : DC :=
  (.seq (.rg [⟨(some 3), .box (.t 1), none⟩,
      ⟨(some 4), .mov (.c (.p .nilIface)), none⟩])
    (.seq (.rgd [⟨⟨(some 8), .faddr false 7 1 (.t 3), none⟩, 0, [0]⟩,
      ⟨⟨(some 9), .load false 1 (.t 8), none⟩, 0, [0]⟩,
      ⟨⟨(some 10), .call 48 [(.t 9)], none⟩, 0, [0]⟩,
      ⟨⟨(some 11), .faddr false 8 1 (.t 3), none⟩, 0, [0]⟩,
      ⟨⟨(some 12), .load false 1 (.t 11), none⟩, 0, [0]⟩,
      ⟨⟨(some 13), .call 48 [(.t 12)], none⟩, 1, [0]⟩,
      ⟨⟨(some 14), .faddr false 6 1 (.t 3), none⟩, 0, [0]⟩,
      ⟨⟨(some 15), .load false 1 (.t 14), none⟩, 0, [0]⟩,
      ⟨⟨(some 16), .call 40 [(.t 15)], none⟩, 2, []⟩,
      ⟨⟨(some 5), .mov (.t 10), none⟩, 3, []⟩,
      ⟨⟨(some 6), .mov (.t 13), none⟩, 3, []⟩,
      ⟨⟨(some 7), .mov (.t 16), none⟩, 3, []⟩])
    (.seq (.seq (.rg [⟨(some 17), .faddr false 0 1 (.t 3), none⟩,
      ⟨(some 18), .load false 1 (.t 17), none⟩])
    (.block 0 (.seq (.rg [⟨(some 20), .bin .eql (.t 18) (.c (.p (.int .i64 0))), none⟩,
       ⟨(some 19), .mov (.t 20), none⟩])
     (.cond (.t 19) (.seq (.rg [⟨(some 21), .mov (.t 0), none⟩,
         ⟨(some 22), .faddr true 1 5 (.t 3), none⟩,
         ⟨(some 23), .load true 5 (.t 22), none⟩,
         ⟨(some 24), .callr 38 [(.t 23)], none⟩,
         ⟨(some 25), .mov (.t 7), none⟩,
         ⟨(some 26), .mov (.t 5), none⟩,
         ⟨(some 27), .mov (.t 6), none⟩,
         ⟨(some 28), .callr 49 [(.t 21), (.t 24), (.t 25), (.t 26), (.t 27)], none⟩,
         ⟨(some 4), .mov (.t 28), none⟩])
       .ret)
       (.seq (.rg [⟨(some 30), .bin .eql (.t 18) (.c (.p (.int .i64 1))), none⟩,
         ⟨(some 29), .mov (.t 30), none⟩])
       (.cond (.t 29) (.seq (.rg [⟨(some 31), .mov (.t 0), none⟩,
           ⟨(some 32), .faddr true 1 5 (.t 3), none⟩,
           ⟨(some 33), .load true 5 (.t 32), none⟩,
           ⟨(some 34), .callr 38 [(.t 33)], none⟩,
           ⟨(some 35), .mov (.t 7), none⟩,
           ⟨(some 36), .mov (.t 5), none⟩,
           ⟨(some 37), .mov (.t 6), none⟩,
           ⟨(some 38), .callr 50 [(.t 31), (.t 34), (.t 35), (.t 36), (.t 37)], none⟩,
           ⟨(some 4), .mov (.t 38), none⟩])
         .ret)
         .skip))))))
    (.seq (.rg [⟨(some 39), .mov (.t 0), none⟩,
      ⟨(some 40), .faddr true 1 5 (.t 3), none⟩,
      ⟨(some 41), .load true 5 (.t 40), none⟩,
      ⟨(some 42), .callr 38 [(.t 41)], none⟩,
      ⟨(some 43), .mov (.t 7), none⟩,
      ⟨(some 44), .mov (.t 5), none⟩,
      ⟨(some 45), .mov (.t 6), none⟩,
      ⟨(some 46), .callr 51 [(.t 39), (.t 42), (.t 43), (.t 44), (.t 45)], none⟩,
      ⟨(some 4), .mov (.t 46), none⟩])
    .ret))))
def r32 : List DR := [.tmp 4]
theorem c32_ok : Try.f32.body.bind (cCode Try.prog) = some c32 := by kernel_rfl
theorem r32_ok : cRes Try.prog Try.f32.results.toList = some r32 := by kernel_rfl

/-- given.example/pub-assaymark/impl.arnTold -/
def c33 : DC :=
  (.seq (.rg [⟨(some 1), .box (.t 0), none⟩,
      ⟨(some 2), .alloc 5 (.agg [.p (.string ⟨#[]⟩), .p (.string ⟨#[]⟩), .p (.string ⟨#[]⟩), .p (.string ⟨#[]⟩), .p (.string ⟨#[]⟩)]), none⟩])
    (.seq (.rg [⟨(some 3), .faddr false 0 1 (.t 1), none⟩,
      ⟨(some 4), .load false 1 (.t 3), none⟩,
      ⟨(some 5), .faddr false 1 1 (.t 1), none⟩,
      ⟨(some 6), .load false 1 (.t 5), none⟩,
      ⟨(some 7), .faddr false 2 1 (.t 1), none⟩,
      ⟨(some 8), .load false 1 (.t 7), none⟩,
      ⟨(some 9), .faddr false 3 1 (.t 1), none⟩,
      ⟨(some 10), .load false 1 (.t 9), none⟩,
      ⟨(some 11), .faddr false 4 1 (.t 1), none⟩,
      ⟨(some 12), .load false 1 (.t 11), none⟩,
      ⟨(some 13), .bld [.p (.string ⟨#[]⟩), .p (.string ⟨#[]⟩), .p (.string ⟨#[]⟩), .p (.string ⟨#[]⟩), .p (.string ⟨#[]⟩)] [(0, 1, (.t 4)), (1, 1, (.t 6)), (2, 1, (.t 8)), (3, 1, (.t 10)), (4, 1, (.t 12))], none⟩,
      ⟨none, .store 5 (.t 2) (.t 13), none⟩])
    .ret))
def r33 : List DR := [.cell 2 true 5]
theorem c33_ok : Try.f33.body.bind (cCode Try.prog) = some c33 := by kernel_rfl
theorem r33_ok : cRes Try.prog Try.f33.results.toList = some r33 := by kernel_rfl

/-- given.example/pub-assaymark/laws.zzFits9 -/
def c34 : DC :=
  (.seq (.rg [⟨(some 1), .box (.t 0), none⟩,
      ⟨(some 2), .mov (.c (.p (.bool false))), none⟩])
    (.seq (.seq (.rg [⟨(some 3), .faddr false 0 1 (.t 1), none⟩,
      ⟨(some 4), .load false 1 (.t 3), none⟩,
      ⟨(some 5), .lens (.t 4), none⟩,
      ⟨(some 6), .bin .gtr (.t 5) (.c (.p (.int .i64 2147483647))), none⟩])
    (.cond (.t 6) (.seq (.rg [⟨(some 2), .mov (.c (.p (.bool false))), none⟩])
      .ret)
      .skip))
    (.seq (.seq (.rg [⟨(some 7), .faddr false 1 1 (.t 1), none⟩,
      ⟨(some 8), .load false 1 (.t 7), none⟩,
      ⟨(some 9), .lens (.t 8), none⟩,
      ⟨(some 10), .bin .gtr (.t 9) (.c (.p (.int .i64 2147483647))), none⟩])
    (.cond (.t 10) (.seq (.rg [⟨(some 2), .mov (.c (.p (.bool false))), none⟩])
      .ret)
      .skip))
    (.seq (.seq (.rg [⟨(some 11), .faddr false 2 1 (.t 1), none⟩,
      ⟨(some 12), .load false 1 (.t 11), none⟩,
      ⟨(some 13), .lens (.t 12), none⟩,
      ⟨(some 14), .bin .gtr (.t 13) (.c (.p (.int .i64 2147483647))), none⟩])
    (.cond (.t 14) (.seq (.rg [⟨(some 2), .mov (.c (.p (.bool false))), none⟩])
      .ret)
      .skip))
    (.seq (.seq (.rg [⟨(some 15), .faddr false 3 1 (.t 1), none⟩,
      ⟨(some 16), .load false 1 (.t 15), none⟩,
      ⟨(some 17), .lens (.t 16), none⟩,
      ⟨(some 18), .bin .gtr (.t 17) (.c (.p (.int .i64 2147483647))), none⟩])
    (.cond (.t 18) (.seq (.rg [⟨(some 2), .mov (.c (.p (.bool false))), none⟩])
      .ret)
      .skip))
    (.seq (.seq (.rg [⟨(some 19), .faddr false 4 1 (.t 1), none⟩,
      ⟨(some 20), .load false 1 (.t 19), none⟩,
      ⟨(some 21), .lens (.t 20), none⟩,
      ⟨(some 22), .bin .gtr (.t 21) (.c (.p (.int .i64 2147483647))), none⟩])
    (.cond (.t 22) (.seq (.rg [⟨(some 2), .mov (.c (.p (.bool false))), none⟩])
      .ret)
      .skip))
    (.seq (.rg [⟨(some 2), .mov (.c (.p (.bool true))), none⟩])
    .ret)))))))
def r34 : List DR := [.tmp 2]
theorem c34_ok : Try.f34.body.bind (cCode Try.prog) = some c34 := by kernel_rfl
theorem r34_ok : cRes Try.prog Try.f34.results.toList = some r34 := by kernel_rfl

/-- given.example/pub-assaymark/laws.zzFits8 -/
def c35 : DC :=
  (.seq (.rg [⟨(some 2), .mov (.c (.p (.bool false))), none⟩])
    (.seq (.seq (.rg [⟨(some 5), .mov (.t 0), none⟩,
      ⟨(some 6), .lenl (.t 5), none⟩,
      ⟨(some 7), .bin .gtr (.t 6) (.c (.p (.int .i64 2147483647))), none⟩])
    (.cond (.t 7) (.seq (.rg [⟨(some 2), .mov (.c (.p (.bool false))), none⟩])
      .ret)
      .skip))
    (.seq (.seq (.rg [⟨(some 8), .mov (.t 0), none⟩,
      ⟨(some 9), .lenl (.t 8), none⟩,
      ⟨(some 10), .mov (.c (.p (.int .i64 0))), none⟩])
    (.block 0 (.loop (.seq (.rg [⟨(some 11), .bin .lss (.t 10) (.t 9), none⟩])
      (.seq (.cond (.t 11) .skip
        (.exit 0))
      (.seq (.block 1 (.seq (.rg [⟨(some 12), .iaddr 1 (.t 8) (.t 10), none⟩,
         ⟨(some 13), .load false 1 (.t 12), none⟩,
         ⟨(some 4), .mov (.t 13), none⟩])
       (.seq (.rg [⟨(some 14), .mov (.t 4), none⟩,
         ⟨(some 15), .lens (.t 14), none⟩,
         ⟨(some 16), .bin .gtr (.t 15) (.c (.p (.int .i64 2147483647))), none⟩])
       (.cond (.t 16) (.seq (.rg [⟨(some 2), .mov (.c (.p (.bool false))), none⟩])
         .ret)
         .skip))))
      (.rg [⟨(some 17), .bin .add (.t 10) (.c (.p (.int .i64 1))), none⟩,
        ⟨(some 10), .mov (.t 17), none⟩])))))))
    (.seq (.rg [⟨(some 2), .mov (.c (.p (.bool true))), none⟩])
    .ret))))
def r35 : List DR := [.tmp 2]
theorem c35_ok : Try.f35.body.bind (cCode Try.prog) = some c35 := by kernel_rfl
theorem r35_ok : cRes Try.prog Try.f35.results.toList = some r35 := by kernel_rfl

/-- given.example/pub-assaymark/laws.setTexts -/
def c36 : DC :=
  (.seq (.rg [⟨(some 2), .mov (.c (.p (.slice none 0 0))), none⟩])
    (.seq (.rg [⟨(some 3), .mov (.c (.p (.slice none 0 0))), none⟩])
    (.seq (.seq (.rg [⟨(some 6), .mov (.t 0), none⟩,
      ⟨(some 7), .mov (.t 0), none⟩,
      ⟨(some 8), .lenl (.t 7), none⟩,
      ⟨(some 9), .mm false (.t 8) (.c (.p (.int .i64 10))), none⟩,
      ⟨(some 10), .slcl 1 (.t 6) none (some (.t 9)), none⟩,
      ⟨(some 11), .lenl (.t 10), none⟩,
      ⟨(some 12), .mov (.c (.p (.int .i64 0))), none⟩])
    (.block 0 (.loop (.seq (.rg [⟨(some 13), .bin .lss (.t 12) (.t 11), none⟩])
      (.seq (.cond (.t 13) .skip
        (.exit 0))
      (.seq (.block 1 (.seq (.rg [⟨(some 14), .iaddr 1 (.t 10) (.t 12), none⟩,
         ⟨(some 15), .load false 1 (.t 14), none⟩,
         ⟨(some 5), .mov (.t 15), none⟩])
       (.rg [⟨(some 16), .mov (.t 3), none⟩,
         ⟨(some 17), .mov (.t 5), none⟩,
         ⟨(some 18), .mov (.t 5), none⟩,
         ⟨(some 19), .lens (.t 18), none⟩,
         ⟨(some 20), .mm false (.t 19) (.c (.p (.int .i64 20))), none⟩,
         ⟨(some 21), .slcs (.t 17) none (some (.t 20)), none⟩,
         ⟨(some 22), .lit 1 [(.t 21)], none⟩,
         ⟨(some 23), .app 1 16 (.t 16) (.t 22), none⟩,
         ⟨(some 3), .mov (.t 23), none⟩])))
      (.rg [⟨(some 24), .bin .add (.t 12) (.c (.p (.int .i64 1))), none⟩,
        ⟨(some 12), .mov (.t 24), none⟩])))))))
    (.seq (.rg [⟨(some 25), .mov (.t 3), none⟩,
      ⟨(some 2), .mov (.t 25), none⟩])
    .ret))))
def r36 : List DR := [.tmp 2]
theorem c36_ok : Try.f36.body.bind (cCode Try.prog) = some c36 := by kernel_rfl
theorem r36_ok : cRes Try.prog Try.f36.results.toList = some r36 := by kernel_rfl

/-- given.example/pub-assaymark/pub/miniogo/pkg/notification.NewConfig -/
def c37 : DC :=
  (.seq (.rg [⟨(some 1), .box (.t 0), none⟩,
      ⟨(some 2), .alloc 8 (.agg [.p (.string ⟨#[]⟩), .p (.string ⟨#[]⟩), .p (.string ⟨#[]⟩), .p (.string ⟨#[]⟩), .p (.string ⟨#[]⟩), .p (.string ⟨#[]⟩), .p (.slice none 0 0), .p (.pointer none)]), none⟩])
    (.seq (.rg [⟨(some 3), .load true 5 (.t 1), none⟩,
      ⟨(some 4), .bld [.p (.slice none 0 0)] [], none⟩,
      ⟨(some 5), .box (.t 4), none⟩,
      ⟨(some 6), .bld [.p (.string ⟨#[]⟩), .p (.string ⟨#[]⟩), .p (.string ⟨#[]⟩), .p (.string ⟨#[]⟩), .p (.string ⟨#[]⟩), .p (.string ⟨#[]⟩), .p (.slice none 0 0), .p (.pointer none)] [(1, 5, (.t 3)), (7, 1, (.t 5))], none⟩,
      ⟨none, .store 8 (.t 2) (.t 6), none⟩])
    .ret))
def r37 : List DR := [.cell 2 true 8]
theorem c37_ok : Try.f37.body.bind (cCode Try.prog) = some c37 := by kernel_rfl
theorem r37_ok : cRes Try.prog Try.f37.results.toList = some r37 := by kernel_rfl

/-- given.example/pub-assaymark/impl.arnOf -/
def c38 : DC :=
  (.seq (.rg [⟨(some 1), .box (.t 0), none⟩,
      ⟨(some 2), .alloc 5 (.agg [.p (.string ⟨#[]⟩), .p (.string ⟨#[]⟩), .p (.string ⟨#[]⟩), .p (.string ⟨#[]⟩), .p (.string ⟨#[]⟩)]), none⟩])
    (.seq (.rg [⟨(some 3), .faddr false 0 1 (.t 1), none⟩,
      ⟨(some 4), .load false 1 (.t 3), none⟩,
      ⟨(some 5), .faddr false 1 1 (.t 1), none⟩,
      ⟨(some 6), .load false 1 (.t 5), none⟩,
      ⟨(some 7), .faddr false 2 1 (.t 1), none⟩,
      ⟨(some 8), .load false 1 (.t 7), none⟩,
      ⟨(some 9), .faddr false 3 1 (.t 1), none⟩,
      ⟨(some 10), .load false 1 (.t 9), none⟩,
      ⟨(some 11), .faddr false 4 1 (.t 1), none⟩,
      ⟨(some 12), .load false 1 (.t 11), none⟩,
      ⟨(some 13), .callr 52 [(.t 4), (.t 6), (.t 8), (.t 10), (.t 12)], none⟩,
      ⟨none, .store 5 (.t 2) (.t 13), none⟩])
    .ret))
def r38 : List DR := [.cell 2 true 5]
theorem c38_ok : Try.f38.body.bind (cCode Try.prog) = some c38 := by kernel_rfl
theorem r38_ok : cRes Try.prog Try.f38.results.toList = some r38 := by kernel_rfl

/-- (*given.example/pub-assaymark/pub/miniogo/pkg/notification.Config).AddEvents -/
def c39 : DC :=
  (.rg [⟨(some 4), .mov (.t 0), none⟩,
      ⟨(some 5), .mov (.t 0), none⟩,
      ⟨(some 6), .nilchk .ptr (.t 5), none⟩,
      ⟨(some 7), .faddr false 6 1 (.t 6), none⟩,
      ⟨(some 8), .load false 1 (.t 7), none⟩,
      ⟨(some 9), .mov (.t 1), none⟩,
      ⟨(some 10), .app 1 16 (.t 8) (.t 9), none⟩,
      ⟨(some 11), .nilchk .ptr (.t 4), none⟩,
      ⟨(some 12), .faddr false 6 1 (.t 11), none⟩,
      ⟨none, .store 1 (.t 12) (.t 10), none⟩])
def r39 : List DR := []
theorem c39_ok : Try.f39.body.bind (cCode Try.prog) = some c39 := by kernel_rfl
theorem r39_ok : cRes Try.prog Try.f39.results.toList = some r39 := by kernel_rfl

/-- given.example/pub-assaymark/impl.events -/
def c40 : DC :=
  (.seq (.rg [⟨(some 2), .mov (.c (.p (.slice none 0 0))), none⟩])
    (.seq (.seq (.rg [⟨(some 5), .mov (.t 0), none⟩,
      ⟨(some 6), .lenl (.t 5), none⟩,
      ⟨(some 7), .mov (.c (.p (.int .i64 0))), none⟩])
    (.block 0 (.loop (.seq (.rg [⟨(some 8), .bin .lss (.t 7) (.t 6), none⟩])
      (.seq (.cond (.t 8) .skip
        (.exit 0))
      (.seq (.block 1 (.seq (.rg [⟨(some 9), .iaddr 1 (.t 5) (.t 7), none⟩,
         ⟨(some 10), .load false 1 (.t 9), none⟩,
         ⟨(some 4), .mov (.t 10), none⟩])
       (.rg [⟨(some 11), .mov (.t 2), none⟩,
         ⟨(some 12), .mov (.t 4), none⟩,
         ⟨(some 13), .lit 1 [(.t 12)], none⟩,
         ⟨(some 14), .app 1 16 (.t 11) (.t 13), none⟩,
         ⟨(some 2), .mov (.t 14), none⟩])))
      (.rg [⟨(some 15), .bin .add (.t 7) (.c (.p (.int .i64 1))), none⟩,
        ⟨(some 7), .mov (.t 15), none⟩])))))))
    (.seq (.rg [⟨(some 16), .mov (.t 2), none⟩,
      ⟨(some 2), .mov (.t 16), none⟩])
    .ret)))
def r40 : List DR := [.tmp 2]
theorem c40_ok : Try.f40.body.bind (cCode Try.prog) = some c40 := by kernel_rfl
theorem r40_ok : cRes Try.prog Try.f40.results.toList = some r40 := by kernel_rfl

/-- (*given.example/pub-assaymark/pub/miniogo/pkg/notification.Config).AddFilterPrefix -/
def c41 : DC :=
  (.seq (.seq (.rg [⟨(some 6), .mov (.t 0), none⟩,
      ⟨(some 7), .nilchk .ptr (.t 6), none⟩,
      ⟨(some 8), .faddr false 7 1 (.t 7), none⟩,
      ⟨(some 9), .load false 1 (.t 8), none⟩,
      ⟨(some 10), .eqn false .ptr (.t 9), none⟩])
    (.cond (.t 10) (.rg [⟨(some 11), .mov (.t 0), none⟩,
        ⟨(some 12), .bld [.p (.slice none 0 0)] [], none⟩,
        ⟨(some 13), .box (.t 12), none⟩,
        ⟨(some 14), .nilchk .ptr (.t 11), none⟩,
        ⟨(some 15), .faddr false 7 1 (.t 14), none⟩,
        ⟨none, .store 1 (.t 15) (.t 13), none⟩])
      .skip))
    (.seq (.rg [⟨(some 16), .mov (.t 1), none⟩,
      ⟨(some 17), .bld [.p (.string ⟨#[]⟩), .p (.string ⟨#[]⟩)] [(0, 1, (.c (.p (.string ⟨#[112, 114, 101, 102, 105, 120]⟩)))), (1, 1, (.t 16))], none⟩,
      ⟨(some 4), .alloc 2 (.agg [.p (.string ⟨#[]⟩), .p (.string ⟨#[]⟩)]), none⟩,
      ⟨none, .store 2 (.t 4) (.t 17), none⟩])
    (.seq (.seq (.rg [⟨(some 18), .mov (.t 0), none⟩,
      ⟨(some 19), .nilchk .ptr (.t 18), none⟩,
      ⟨(some 20), .faddr false 7 1 (.t 19), none⟩,
      ⟨(some 21), .load false 1 (.t 20), none⟩,
      ⟨(some 22), .nilchk .ptr (.t 21), none⟩,
      ⟨(some 23), .faddr true 0 1 (.t 22), none⟩,
      ⟨(some 24), .faddr false 0 1 (.t 23), none⟩,
      ⟨(some 25), .load false 1 (.t 24), none⟩,
      ⟨(some 26), .lenl (.t 25), none⟩,
      ⟨(some 27), .mov (.c (.p (.int .i64 0))), none⟩])
    (.block 0 (.loop (.seq (.rg [⟨(some 28), .bin .lss (.t 27) (.t 26), none⟩])
      (.seq (.cond (.t 28) .skip
        (.exit 0))
      (.seq (.block 1 (.seq (.rg [⟨(some 29), .mov (.t 27), none⟩,
         ⟨(some 5), .mov (.t 29), none⟩])
       (.seq (.rg [⟨(some 30), .mov (.t 0), none⟩,
         ⟨(some 31), .nilchk .ptr (.t 30), none⟩,
         ⟨(some 32), .faddr false 7 1 (.t 31), none⟩,
         ⟨(some 33), .load false 1 (.t 32), none⟩,
         ⟨(some 34), .nilchk .ptr (.t 33), none⟩,
         ⟨(some 35), .faddr true 0 1 (.t 34), none⟩,
         ⟨(some 36), .faddr false 0 1 (.t 35), none⟩,
         ⟨(some 37), .load false 1 (.t 36), none⟩,
         ⟨(some 38), .mov (.t 5), none⟩,
         ⟨(some 39), .iaddr 2 (.t 37) (.t 38), none⟩,
         ⟨(some 40), .faddr false 0 1 (.t 39), none⟩,
         ⟨(some 41), .load false 1 (.t 40), none⟩,
         ⟨(some 42), .bin .eql (.t 41) (.c (.p (.string ⟨#[112, 114, 101, 102, 105, 120]⟩))), none⟩])
       (.cond (.t 42) (.seq (.rgd [⟨⟨(some 43), .mov (.t 0), none⟩, 0, [0]⟩,
           ⟨⟨(some 44), .nilchk .ptr (.t 43), none⟩, 0, [0]⟩,
           ⟨⟨(some 45), .faddr false 7 1 (.t 44), none⟩, 0, [0]⟩,
           ⟨⟨(some 46), .load false 1 (.t 45), none⟩, 0, [0]⟩,
           ⟨⟨(some 47), .nilchk .ptr (.t 46), none⟩, 0, [0]⟩,
           ⟨⟨(some 48), .faddr true 0 1 (.t 47), none⟩, 0, [0]⟩,
           ⟨⟨(some 49), .faddr false 0 1 (.t 48), none⟩, 0, [0]⟩,
           ⟨⟨(some 50), .load false 1 (.t 49), none⟩, 0, [0]⟩,
           ⟨⟨(some 51), .mov (.t 5), none⟩, 0, [0]⟩,
           ⟨⟨(some 52), .load true 2 (.t 4), none⟩, 0, [0]⟩,
           ⟨⟨(some 53), .iaddr 2 (.t 50) (.t 51), none⟩, 0, [0]⟩,
           ⟨⟨none, .store 2 (.t 53) (.t 52), none⟩, 0, []⟩])
         .ret)
         .skip))))
      (.rg [⟨(some 54), .bin .add (.t 27) (.c (.p (.int .i64 1))), none⟩,
        ⟨(some 27), .mov (.t 54), none⟩])))))))
    (.rgv [⟨⟨(some 55), .mov (.t 0), none⟩, 0, [0]⟩,
      ⟨⟨(some 56), .nilchk .ptr (.t 55), none⟩, 0, [0]⟩,
      ⟨⟨(some 57), .faddr false 7 1 (.t 56), none⟩, 0, [0]⟩,
      ⟨⟨(some 58), .load false 1 (.t 57), none⟩, 0, [0]⟩,
      ⟨⟨(some 59), .mov (.t 0), none⟩, 0, [0]⟩,
      ⟨⟨(some 60), .nilchk .ptr (.t 59), none⟩, 0, [0]⟩,
      ⟨⟨(some 61), .faddr false 7 1 (.t 60), none⟩, 0, [0]⟩,
      ⟨⟨(some 62), .load false 1 (.t 61), none⟩, 0, [0]⟩,
      ⟨⟨(some 63), .nilchk .ptr (.t 62), none⟩, 0, [0]⟩,
      ⟨⟨(some 64), .faddr true 0 1 (.t 63), none⟩, 0, [0]⟩,
      ⟨⟨(some 65), .faddr false 0 1 (.t 64), none⟩, 0, [0]⟩,
      ⟨⟨(some 66), .load false 1 (.t 65), none⟩, 0, [0]⟩,
      ⟨⟨(some 67), .load true 2 (.t 4), none⟩, 0, [0]⟩,
      ⟨⟨(some 68), .lit 2 [(.t 67)], none⟩, 0, [0]⟩,
      ⟨⟨(some 69), .app 2 32 (.t 66) (.t 68), none⟩, 1, [0]⟩,
      ⟨⟨(some 70), .nilchk .ptr (.t 58), none⟩, 2, [2]⟩,
      ⟨⟨(some 71), .faddr true 0 1 (.t 70), none⟩, 2, [2]⟩,
      ⟨⟨(some 72), .faddr false 0 1 (.t 71), none⟩, 2, [2]⟩,
      ⟨⟨none, .store 1 (.t 72) (.t 69), none⟩, 2, []⟩]))))
def r41 : List DR := []
theorem c41_ok : Try.f41.body.bind (cCodeV [9] Try.prog) = some c41 := by kernel_rfl
theorem r41_ok : cRes Try.prog Try.f41.results.toList = some r41 := by kernel_rfl

/-- (*given.example/pub-assaymark/pub/miniogo/pkg/notification.Config).AddFilterSuffix -/
def c42 : DC :=
  (.seq (.seq (.rg [⟨(some 6), .mov (.t 0), none⟩,
      ⟨(some 7), .nilchk .ptr (.t 6), none⟩,
      ⟨(some 8), .faddr false 7 1 (.t 7), none⟩,
      ⟨(some 9), .load false 1 (.t 8), none⟩,
      ⟨(some 10), .eqn false .ptr (.t 9), none⟩])
    (.cond (.t 10) (.rg [⟨(some 11), .mov (.t 0), none⟩,
        ⟨(some 12), .bld [.p (.slice none 0 0)] [], none⟩,
        ⟨(some 13), .box (.t 12), none⟩,
        ⟨(some 14), .nilchk .ptr (.t 11), none⟩,
        ⟨(some 15), .faddr false 7 1 (.t 14), none⟩,
        ⟨none, .store 1 (.t 15) (.t 13), none⟩])
      .skip))
    (.seq (.rg [⟨(some 16), .mov (.t 1), none⟩,
      ⟨(some 17), .bld [.p (.string ⟨#[]⟩), .p (.string ⟨#[]⟩)] [(0, 1, (.c (.p (.string ⟨#[115, 117, 102, 102, 105, 120]⟩)))), (1, 1, (.t 16))], none⟩,
      ⟨(some 4), .alloc 2 (.agg [.p (.string ⟨#[]⟩), .p (.string ⟨#[]⟩)]), none⟩,
      ⟨none, .store 2 (.t 4) (.t 17), none⟩])
    (.seq (.seq (.rg [⟨(some 18), .mov (.t 0), none⟩,
      ⟨(some 19), .nilchk .ptr (.t 18), none⟩,
      ⟨(some 20), .faddr false 7 1 (.t 19), none⟩,
      ⟨(some 21), .load false 1 (.t 20), none⟩,
      ⟨(some 22), .nilchk .ptr (.t 21), none⟩,
      ⟨(some 23), .faddr true 0 1 (.t 22), none⟩,
      ⟨(some 24), .faddr false 0 1 (.t 23), none⟩,
      ⟨(some 25), .load false 1 (.t 24), none⟩,
      ⟨(some 26), .lenl (.t 25), none⟩,
      ⟨(some 27), .mov (.c (.p (.int .i64 0))), none⟩])
    (.block 0 (.loop (.seq (.rg [⟨(some 28), .bin .lss (.t 27) (.t 26), none⟩])
      (.seq (.cond (.t 28) .skip
        (.exit 0))
      (.seq (.block 1 (.seq (.rg [⟨(some 29), .mov (.t 27), none⟩,
         ⟨(some 5), .mov (.t 29), none⟩])
       (.seq (.rg [⟨(some 30), .mov (.t 0), none⟩,
         ⟨(some 31), .nilchk .ptr (.t 30), none⟩,
         ⟨(some 32), .faddr false 7 1 (.t 31), none⟩,
         ⟨(some 33), .load false 1 (.t 32), none⟩,
         ⟨(some 34), .nilchk .ptr (.t 33), none⟩,
         ⟨(some 35), .faddr true 0 1 (.t 34), none⟩,
         ⟨(some 36), .faddr false 0 1 (.t 35), none⟩,
         ⟨(some 37), .load false 1 (.t 36), none⟩,
         ⟨(some 38), .mov (.t 5), none⟩,
         ⟨(some 39), .iaddr 2 (.t 37) (.t 38), none⟩,
         ⟨(some 40), .faddr false 0 1 (.t 39), none⟩,
         ⟨(some 41), .load false 1 (.t 40), none⟩,
         ⟨(some 42), .bin .eql (.t 41) (.c (.p (.string ⟨#[115, 117, 102, 102, 105, 120]⟩))), none⟩])
       (.cond (.t 42) (.seq (.rgd [⟨⟨(some 43), .mov (.t 0), none⟩, 0, [0]⟩,
           ⟨⟨(some 44), .nilchk .ptr (.t 43), none⟩, 0, [0]⟩,
           ⟨⟨(some 45), .faddr false 7 1 (.t 44), none⟩, 0, [0]⟩,
           ⟨⟨(some 46), .load false 1 (.t 45), none⟩, 0, [0]⟩,
           ⟨⟨(some 47), .nilchk .ptr (.t 46), none⟩, 0, [0]⟩,
           ⟨⟨(some 48), .faddr true 0 1 (.t 47), none⟩, 0, [0]⟩,
           ⟨⟨(some 49), .faddr false 0 1 (.t 48), none⟩, 0, [0]⟩,
           ⟨⟨(some 50), .load false 1 (.t 49), none⟩, 0, [0]⟩,
           ⟨⟨(some 51), .mov (.t 5), none⟩, 0, [0]⟩,
           ⟨⟨(some 52), .load true 2 (.t 4), none⟩, 0, [0]⟩,
           ⟨⟨(some 53), .iaddr 2 (.t 50) (.t 51), none⟩, 0, [0]⟩,
           ⟨⟨none, .store 2 (.t 53) (.t 52), none⟩, 0, []⟩])
         .ret)
         .skip))))
      (.rg [⟨(some 54), .bin .add (.t 27) (.c (.p (.int .i64 1))), none⟩,
        ⟨(some 27), .mov (.t 54), none⟩])))))))
    (.rgv [⟨⟨(some 55), .mov (.t 0), none⟩, 0, [0]⟩,
      ⟨⟨(some 56), .nilchk .ptr (.t 55), none⟩, 0, [0]⟩,
      ⟨⟨(some 57), .faddr false 7 1 (.t 56), none⟩, 0, [0]⟩,
      ⟨⟨(some 58), .load false 1 (.t 57), none⟩, 0, [0]⟩,
      ⟨⟨(some 59), .mov (.t 0), none⟩, 0, [0]⟩,
      ⟨⟨(some 60), .nilchk .ptr (.t 59), none⟩, 0, [0]⟩,
      ⟨⟨(some 61), .faddr false 7 1 (.t 60), none⟩, 0, [0]⟩,
      ⟨⟨(some 62), .load false 1 (.t 61), none⟩, 0, [0]⟩,
      ⟨⟨(some 63), .nilchk .ptr (.t 62), none⟩, 0, [0]⟩,
      ⟨⟨(some 64), .faddr true 0 1 (.t 63), none⟩, 0, [0]⟩,
      ⟨⟨(some 65), .faddr false 0 1 (.t 64), none⟩, 0, [0]⟩,
      ⟨⟨(some 66), .load false 1 (.t 65), none⟩, 0, [0]⟩,
      ⟨⟨(some 67), .load true 2 (.t 4), none⟩, 0, [0]⟩,
      ⟨⟨(some 68), .lit 2 [(.t 67)], none⟩, 0, [0]⟩,
      ⟨⟨(some 69), .app 2 32 (.t 66) (.t 68), none⟩, 1, [0]⟩,
      ⟨⟨(some 70), .nilchk .ptr (.t 58), none⟩, 2, [2]⟩,
      ⟨⟨(some 71), .faddr true 0 1 (.t 70), none⟩, 2, [2]⟩,
      ⟨⟨(some 72), .faddr false 0 1 (.t 71), none⟩, 2, [2]⟩,
      ⟨⟨none, .store 1 (.t 72) (.t 69), none⟩, 2, []⟩]))))
def r42 : List DR := []
theorem c42_ok : Try.f42.body.bind (cCodeV [9] Try.prog) = some c42 := by kernel_rfl
theorem r42_ok : cRes Try.prog Try.f42.results.toList = some r42 := by kernel_rfl

/-- (given.example/pub-assaymark/pub/miniogo/pkg/notification.Arn).String -/
def c43 : DC :=
  (.seq (.rg [⟨(some 1), .box (.t 0), none⟩,
      ⟨(some 2), .mov (.c (.p (.string ⟨#[]⟩))), none⟩])
    (.seq (.rg [⟨(some 3), .faddr false 0 1 (.t 1), none⟩,
      ⟨(some 4), .load false 1 (.t 3), none⟩,
      ⟨(some 5), .bin .add (.c (.p (.string ⟨#[97, 114, 110, 58]⟩))) (.t 4), none⟩,
      ⟨(some 6), .bin .add (.t 5) (.c (.p (.string ⟨#[58]⟩))), none⟩,
      ⟨(some 7), .faddr false 1 1 (.t 1), none⟩,
      ⟨(some 8), .load false 1 (.t 7), none⟩,
      ⟨(some 9), .bin .add (.t 6) (.t 8), none⟩,
      ⟨(some 10), .bin .add (.t 9) (.c (.p (.string ⟨#[58]⟩))), none⟩,
      ⟨(some 11), .faddr false 2 1 (.t 1), none⟩,
      ⟨(some 12), .load false 1 (.t 11), none⟩,
      ⟨(some 13), .bin .add (.t 10) (.t 12), none⟩,
      ⟨(some 14), .bin .add (.t 13) (.c (.p (.string ⟨#[58]⟩))), none⟩,
      ⟨(some 15), .faddr false 3 1 (.t 1), none⟩,
      ⟨(some 16), .load false 1 (.t 15), none⟩,
      ⟨(some 17), .bin .add (.t 14) (.t 16), none⟩,
      ⟨(some 18), .bin .add (.t 17) (.c (.p (.string ⟨#[58]⟩))), none⟩,
      ⟨(some 19), .faddr false 4 1 (.t 1), none⟩,
      ⟨(some 20), .load false 1 (.t 19), none⟩,
      ⟨(some 21), .bin .add (.t 18) (.t 20), none⟩,
      ⟨(some 2), .mov (.t 21), none⟩])
    .ret))
def r43 : List DR := [.tmp 2]
theorem c43_ok : Try.f43.body.bind (cCode Try.prog) = some c43 := by kernel_rfl
theorem r43_ok : cRes Try.prog Try.f43.results.toList = some r43 := by kernel_rfl

/-- given.example/pub-assaymark/pub/miniogo/pkg/set.NewStringSet -/
def c44 : DC :=
  (.seq (.rg [⟨(some 0), .mov (.c (.p (.map none))), none⟩])
    (.seq (.rg [⟨(some 1), .callr 53 [], none⟩,
      ⟨(some 0), .mov (.t 1), none⟩])
    .ret))
def r44 : List DR := [.tmp 0]
theorem c44_ok : Try.f44.body.bind (cCode Try.prog) = some c44 := by kernel_rfl
theorem r44_ok : cRes Try.prog Try.f44.results.toList = some r44 := by kernel_rfl

/-- (given.example/pub-assaymark/pub/miniogo/pkg/set.StringSet).Add -/
def c45 : DC :=
  (.rg [⟨(some 4), .mov (.t 0), none⟩,
      ⟨(some 5), .mov (.t 1), none⟩,
      ⟨(some 6), .callr 54 [(.t 4), (.t 5)], none⟩])
def r45 : List DR := []
theorem c45_ok : Try.f45.body.bind (cCode Try.prog) = some c45 := by kernel_rfl
theorem r45_ok : cRes Try.prog Try.f45.results.toList = some r45 := by kernel_rfl

/-- (given.example/pub-assaymark/pub/miniogo/pkg/set.StringSet).IsEmpty -/
def c47 : DC :=
  (.seq (.rg [⟨(some 2), .mov (.c (.p (.bool false))), none⟩])
    (.seq (.rg [⟨(some 3), .mov (.t 0), none⟩,
      ⟨(some 4), .callr 56 [(.t 3)], none⟩,
      ⟨(some 2), .mov (.t 4), none⟩])
    .ret))
def r47 : List DR := [.tmp 2]
theorem c47_ok : Try.f47.body.bind (cCode Try.prog) = some c47 := by kernel_rfl
theorem r47_ok : cRes Try.prog Try.f47.results.toList = some r47 := by kernel_rfl

/-- given.example/pub-assaymark/impl.firstOf -/
def c48 : DC :=
  (.seq (.rg [⟨(some 2), .mov (.c (.p (.string ⟨#[]⟩))), none⟩])
    (.seq (.seq (.rg [⟨(some 3), .mov (.t 0), none⟩,
      ⟨(some 4), .lenl (.t 3), none⟩,
      ⟨(some 5), .bin .eql (.t 4) (.c (.p (.int .i64 0))), none⟩])
    (.cond (.t 5) (.seq (.rg [⟨(some 2), .mov (.c (.p (.string ⟨#[]⟩))), none⟩])
      .ret)
      .skip))
    (.seq (.rg [⟨(some 6), .mov (.t 0), none⟩,
      ⟨(some 7), .iaddr 1 (.t 6) (.c (.p (.int .i64 0))), none⟩,
      ⟨(some 8), .load false 1 (.t 7), none⟩,
      ⟨(some 2), .mov (.t 8), none⟩])
    .ret)))
def r48 : List DR := [.tmp 2]
theorem c48_ok : Try.f48.body.bind (cCode Try.prog) = some c48 := by kernel_rfl
theorem r48_ok : cRes Try.prog Try.f48.results.toList = some r48 := by kernel_rfl

/-- (*given.example/pub-assaymark/pub/miniogo/pkg/notification.Configuration).RemoveTopicByArnEventsPrefixSuffix -/
def c49 : DC :=
  (.seq (.rg [⟨(some 6), .box (.t 1), none⟩,
      ⟨(some 10), .mov (.c (.p .nilIface)), none⟩])
    (.seq (.rg [⟨(some 11), .mov (.c (.p (.int .i64 (-1)))), none⟩])
    (.seq (.seq (.rg [⟨(some 14), .mov (.t 0), none⟩,
      ⟨(some 15), .nilchk .ptr (.t 14), none⟩,
      ⟨(some 16), .faddr false 3 1 (.t 15), none⟩,
      ⟨(some 17), .load false 1 (.t 16), none⟩,
      ⟨(some 18), .lenl (.t 17), none⟩,
      ⟨(some 19), .mov (.c (.p (.int .i64 0))), none⟩])
    (.block 0 (.loop (.seq (.rg [⟨(some 20), .bin .lss (.t 19) (.t 18), none⟩])
      (.seq (.cond (.t 20) .skip
        (.exit 0))
      (.seq (.block 1 (.seq (.rg [⟨(some 21), .mov (.t 19), none⟩,
         ⟨(some 22), .iaddr 9 (.t 17) (.t 19), none⟩,
         ⟨(some 23), .load true 9 (.t 22), none⟩,
         ⟨(some 13), .alloc 9 (.agg [.p (.string ⟨#[]⟩), .p (.string ⟨#[]⟩), .p (.string ⟨#[]⟩), .p (.string ⟨#[]⟩), .p (.string ⟨#[]⟩), .p (.string ⟨#[]⟩), .p (.slice none 0 0), .p (.pointer none), .p (.string ⟨#[]⟩)]), none⟩,
         ⟨(some 12), .mov (.t 21), none⟩,
         ⟨none, .store 9 (.t 13) (.t 23), none⟩])
       (.seq (.rgd [⟨⟨(some 24), .faddr false 8 1 (.t 13), none⟩, 0, [0]⟩,
         ⟨⟨(some 25), .load false 1 (.t 24), none⟩, 0, [0]⟩,
         ⟨⟨(some 26), .load true 5 (.t 6), none⟩, 0, [0]⟩,
         ⟨⟨(some 27), .call 43 [(.t 26)], none⟩, 0, [0]⟩,
         ⟨⟨(some 28), .bin .eql (.t 25) (.t 27), none⟩, 1, []⟩,
         ⟨⟨(some 29), .mov (.t 28), none⟩, 1, []⟩,
         ⟨⟨(some 30), .faddr true 0 8 (.t 13), (some (29, true))⟩, 1, [1]⟩,
         ⟨⟨(some 31), .mov (.t 2), (some (29, true))⟩, 1, [1]⟩,
         ⟨⟨(some 32), .mov (.t 3), (some (29, true))⟩, 1, [1]⟩,
         ⟨⟨(some 33), .mov (.t 4), (some (29, true))⟩, 1, [1]⟩,
         ⟨⟨(some 34), .call 57 [(.t 30), (.t 31), (.t 32), (.t 33)], (some (29, true))⟩, 1, []⟩,
         ⟨⟨(some 35), .pick (.t 29) (.t 34) (.c (.p (.bool false))), none⟩, 2, []⟩])
       (.cond (.t 35) (.seq (.rg [⟨(some 36), .mov (.t 12), none⟩,
           ⟨(some 11), .mov (.t 36), none⟩])
         (.exit 0))
         .skip))))
      (.rg [⟨(some 37), .bin .add (.t 19) (.c (.p (.int .i64 1))), none⟩,
        ⟨(some 19), .mov (.t 37), none⟩])))))))
    (.seq (.seq (.rg [⟨(some 38), .mov (.t 11), none⟩,
      ⟨(some 39), .bin .geq (.t 38) (.c (.p (.int .i64 0))), none⟩])
    (.cond (.t 39) (.seq (.rgd [⟨⟨(some 40), .mov (.t 0), none⟩, 0, [0]⟩,
        ⟨⟨(some 41), .mov (.t 0), none⟩, 0, [0]⟩,
        ⟨⟨(some 42), .nilchk .ptr (.t 41), none⟩, 0, [0]⟩,
        ⟨⟨(some 43), .faddr false 3 1 (.t 42), none⟩, 0, [0]⟩,
        ⟨⟨(some 44), .load false 1 (.t 43), none⟩, 0, [0]⟩,
        ⟨⟨(some 45), .mov (.t 11), none⟩, 0, [0]⟩,
        ⟨⟨(some 46), .slcl 9 (.t 44) none (some (.t 45)), none⟩, 0, [0]⟩,
        ⟨⟨(some 47), .mov (.t 0), none⟩, 0, [0]⟩,
        ⟨⟨(some 48), .nilchk .ptr (.t 47), none⟩, 0, [0]⟩,
        ⟨⟨(some 49), .faddr false 3 1 (.t 48), none⟩, 0, [0]⟩,
        ⟨⟨(some 50), .load false 1 (.t 49), none⟩, 0, [0]⟩,
        ⟨⟨(some 51), .mov (.t 11), none⟩, 0, [0]⟩,
        ⟨⟨(some 52), .bin .add (.t 51) (.c (.p (.int .i64 1))), none⟩, 0, [0]⟩,
        ⟨⟨(some 53), .slcl 9 (.t 50) (some (.t 52)) none, none⟩, 0, [0]⟩,
        ⟨⟨(some 54), .app 9 144 (.t 46) (.t 53), none⟩, 0, []⟩,
        ⟨⟨(some 55), .nilchk .ptr (.t 40), none⟩, 1, [1]⟩,
        ⟨⟨(some 56), .faddr false 3 1 (.t 55), none⟩, 1, [1]⟩,
        ⟨⟨none, .store 1 (.t 56) (.t 54), none⟩, 1, []⟩])
      (.seq (.rg [⟨(some 10), .mov (.c (.p .nilIface)), none⟩])
      .ret))
      .skip))
    (.seq (.rg [⟨(some 57), .ifc 80 (.c (.p (.string ⟨#[110, 111, 32, 110, 111, 116, 105, 102, 105, 99, 97, 116, 105, 111, 110, 32, 99, 111, 110, 102, 105, 103, 117, 114, 97, 116, 105, 111, 110, 32, 109, 97, 116, 99, 104, 101, 100]⟩))), none⟩,
      ⟨(some 10), .mov (.t 57), none⟩])
    .ret)))))
def r49 : List DR := [.tmp 10]
theorem c49_ok : Try.f49.body.bind (cCode Try.prog) = some c49 := by kernel_rfl
theorem r49_ok : cRes Try.prog Try.f49.results.toList = some r49 := by kernel_rfl

/-- (*given.example/pub-assaymark/pub/miniogo/pkg/notification.Configuration).RemoveQueueByArnEventsPrefixSuffix -/
def c50 : DC :=
  (.seq (.rg [⟨(some 6), .box (.t 1), none⟩,
      ⟨(some 10), .mov (.c (.p .nilIface)), none⟩])
    (.seq (.rg [⟨(some 11), .mov (.c (.p (.int .i64 (-1)))), none⟩])
    (.seq (.seq (.rg [⟨(some 14), .mov (.t 0), none⟩,
      ⟨(some 15), .nilchk .ptr (.t 14), none⟩,
      ⟨(some 16), .faddr false 4 1 (.t 15), none⟩,
      ⟨(some 17), .load false 1 (.t 16), none⟩,
      ⟨(some 18), .lenl (.t 17), none⟩,
      ⟨(some 19), .mov (.c (.p (.int .i64 0))), none⟩])
    (.block 0 (.loop (.seq (.rg [⟨(some 20), .bin .lss (.t 19) (.t 18), none⟩])
      (.seq (.cond (.t 20) .skip
        (.exit 0))
      (.seq (.block 1 (.seq (.rg [⟨(some 21), .mov (.t 19), none⟩,
         ⟨(some 22), .iaddr 9 (.t 17) (.t 19), none⟩,
         ⟨(some 23), .load true 9 (.t 22), none⟩,
         ⟨(some 13), .alloc 9 (.agg [.p (.string ⟨#[]⟩), .p (.string ⟨#[]⟩), .p (.string ⟨#[]⟩), .p (.string ⟨#[]⟩), .p (.string ⟨#[]⟩), .p (.string ⟨#[]⟩), .p (.slice none 0 0), .p (.pointer none), .p (.string ⟨#[]⟩)]), none⟩,
         ⟨(some 12), .mov (.t 21), none⟩,
         ⟨none, .store 9 (.t 13) (.t 23), none⟩])
       (.seq (.rgd [⟨⟨(some 24), .faddr false 8 1 (.t 13), none⟩, 0, [0]⟩,
         ⟨⟨(some 25), .load false 1 (.t 24), none⟩, 0, [0]⟩,
         ⟨⟨(some 26), .load true 5 (.t 6), none⟩, 0, [0]⟩,
         ⟨⟨(some 27), .call 43 [(.t 26)], none⟩, 0, [0]⟩,
         ⟨⟨(some 28), .bin .eql (.t 25) (.t 27), none⟩, 1, []⟩,
         ⟨⟨(some 29), .mov (.t 28), none⟩, 1, []⟩,
         ⟨⟨(some 30), .faddr true 0 8 (.t 13), (some (29, true))⟩, 1, [1]⟩,
         ⟨⟨(some 31), .mov (.t 2), (some (29, true))⟩, 1, [1]⟩,
         ⟨⟨(some 32), .mov (.t 3), (some (29, true))⟩, 1, [1]⟩,
         ⟨⟨(some 33), .mov (.t 4), (some (29, true))⟩, 1, [1]⟩,
         ⟨⟨(some 34), .call 57 [(.t 30), (.t 31), (.t 32), (.t 33)], (some (29, true))⟩, 1, []⟩,
         ⟨⟨(some 35), .pick (.t 29) (.t 34) (.c (.p (.bool false))), none⟩, 2, []⟩])
       (.cond (.t 35) (.seq (.rg [⟨(some 36), .mov (.t 12), none⟩,
           ⟨(some 11), .mov (.t 36), none⟩])
         (.exit 0))
         .skip))))
      (.rg [⟨(some 37), .bin .add (.t 19) (.c (.p (.int .i64 1))), none⟩,
        ⟨(some 19), .mov (.t 37), none⟩])))))))
    (.seq (.seq (.rg [⟨(some 38), .mov (.t 11), none⟩,
      ⟨(some 39), .bin .geq (.t 38) (.c (.p (.int .i64 0))), none⟩])
    (.cond (.t 39) (.seq (.rgd [⟨⟨(some 40), .mov (.t 0), none⟩, 0, [0]⟩,
        ⟨⟨(some 41), .mov (.t 0), none⟩, 0, [0]⟩,
        ⟨⟨(some 42), .nilchk .ptr (.t 41), none⟩, 0, [0]⟩,
        ⟨⟨(some 43), .faddr false 4 1 (.t 42), none⟩, 0, [0]⟩,
        ⟨⟨(some 44), .load false 1 (.t 43), none⟩, 0, [0]⟩,
        ⟨⟨(some 45), .mov (.t 11), none⟩, 0, [0]⟩,
        ⟨⟨(some 46), .slcl 9 (.t 44) none (some (.t 45)), none⟩, 0, [0]⟩,
        ⟨⟨(some 47), .mov (.t 0), none⟩, 0, [0]⟩,
        ⟨⟨(some 48), .nilchk .ptr (.t 47), none⟩, 0, [0]⟩,
        ⟨⟨(some 49), .faddr false 4 1 (.t 48), none⟩, 0, [0]⟩,
        ⟨⟨(some 50), .load false 1 (.t 49), none⟩, 0, [0]⟩,
        ⟨⟨(some 51), .mov (.t 11), none⟩, 0, [0]⟩,
        ⟨⟨(some 52), .bin .add (.t 51) (.c (.p (.int .i64 1))), none⟩, 0, [0]⟩,
        ⟨⟨(some 53), .slcl 9 (.t 50) (some (.t 52)) none, none⟩, 0, [0]⟩,
        ⟨⟨(some 54), .app 9 144 (.t 46) (.t 53), none⟩, 0, []⟩,
        ⟨⟨(some 55), .nilchk .ptr (.t 40), none⟩, 1, [1]⟩,
        ⟨⟨(some 56), .faddr false 4 1 (.t 55), none⟩, 1, [1]⟩,
        ⟨⟨none, .store 1 (.t 56) (.t 54), none⟩, 1, []⟩])
      (.seq (.rg [⟨(some 10), .mov (.c (.p .nilIface)), none⟩])
      .ret))
      .skip))
    (.seq (.rg [⟨(some 57), .ifc 80 (.c (.p (.string ⟨#[110, 111, 32, 110, 111, 116, 105, 102, 105, 99, 97, 116, 105, 111, 110, 32, 99, 111, 110, 102, 105, 103, 117, 114, 97, 116, 105, 111, 110, 32, 109, 97, 116, 99, 104, 101, 100]⟩))), none⟩,
      ⟨(some 10), .mov (.t 57), none⟩])
    .ret)))))
def r50 : List DR := [.tmp 10]
theorem c50_ok : Try.f50.body.bind (cCode Try.prog) = some c50 := by kernel_rfl
theorem r50_ok : cRes Try.prog Try.f50.results.toList = some r50 := by kernel_rfl

/-- (*given.example/pub-assaymark/pub/miniogo/pkg/notification.Configuration).RemoveLambdaByArnEventsPrefixSuffix -/
def c51 : DC :=
  (.seq (.rg [⟨(some 6), .box (.t 1), none⟩,
      ⟨(some 10), .mov (.c (.p .nilIface)), none⟩])
    (.seq (.rg [⟨(some 11), .mov (.c (.p (.int .i64 (-1)))), none⟩])
    (.seq (.seq (.rg [⟨(some 14), .mov (.t 0), none⟩,
      ⟨(some 15), .nilchk .ptr (.t 14), none⟩,
      ⟨(some 16), .faddr false 2 1 (.t 15), none⟩,
      ⟨(some 17), .load false 1 (.t 16), none⟩,
      ⟨(some 18), .lenl (.t 17), none⟩,
      ⟨(some 19), .mov (.c (.p (.int .i64 0))), none⟩])
    (.block 0 (.loop (.seq (.rg [⟨(some 20), .bin .lss (.t 19) (.t 18), none⟩])
      (.seq (.cond (.t 20) .skip
        (.exit 0))
      (.seq (.block 1 (.seq (.rg [⟨(some 21), .mov (.t 19), none⟩,
         ⟨(some 22), .iaddr 9 (.t 17) (.t 19), none⟩,
         ⟨(some 23), .load true 9 (.t 22), none⟩,
         ⟨(some 13), .alloc 9 (.agg [.p (.string ⟨#[]⟩), .p (.string ⟨#[]⟩), .p (.string ⟨#[]⟩), .p (.string ⟨#[]⟩), .p (.string ⟨#[]⟩), .p (.string ⟨#[]⟩), .p (.slice none 0 0), .p (.pointer none), .p (.string ⟨#[]⟩)]), none⟩,
         ⟨(some 12), .mov (.t 21), none⟩,
         ⟨none, .store 9 (.t 13) (.t 23), none⟩])
       (.seq (.rgd [⟨⟨(some 24), .faddr false 8 1 (.t 13), none⟩, 0, [0]⟩,
         ⟨⟨(some 25), .load false 1 (.t 24), none⟩, 0, [0]⟩,
         ⟨⟨(some 26), .load true 5 (.t 6), none⟩, 0, [0]⟩,
         ⟨⟨(some 27), .call 43 [(.t 26)], none⟩, 0, [0]⟩,
         ⟨⟨(some 28), .bin .eql (.t 25) (.t 27), none⟩, 1, []⟩,
         ⟨⟨(some 29), .mov (.t 28), none⟩, 1, []⟩,
         ⟨⟨(some 30), .faddr true 0 8 (.t 13), (some (29, true))⟩, 1, [1]⟩,
         ⟨⟨(some 31), .mov (.t 2), (some (29, true))⟩, 1, [1]⟩,
         ⟨⟨(some 32), .mov (.t 3), (some (29, true))⟩, 1, [1]⟩,
         ⟨⟨(some 33), .mov (.t 4), (some (29, true))⟩, 1, [1]⟩,
         ⟨⟨(some 34), .call 57 [(.t 30), (.t 31), (.t 32), (.t 33)], (some (29, true))⟩, 1, []⟩,
         ⟨⟨(some 35), .pick (.t 29) (.t 34) (.c (.p (.bool false))), none⟩, 2, []⟩])
       (.cond (.t 35) (.seq (.rg [⟨(some 36), .mov (.t 12), none⟩,
           ⟨(some 11), .mov (.t 36), none⟩])
         (.exit 0))
         .skip))))
      (.rg [⟨(some 37), .bin .add (.t 19) (.c (.p (.int .i64 1))), none⟩,
        ⟨(some 19), .mov (.t 37), none⟩])))))))
    (.seq (.seq (.rg [⟨(some 38), .mov (.t 11), none⟩,
      ⟨(some 39), .bin .geq (.t 38) (.c (.p (.int .i64 0))), none⟩])
    (.cond (.t 39) (.seq (.rgd [⟨⟨(some 40), .mov (.t 0), none⟩, 0, [0]⟩,
        ⟨⟨(some 41), .mov (.t 0), none⟩, 0, [0]⟩,
        ⟨⟨(some 42), .nilchk .ptr (.t 41), none⟩, 0, [0]⟩,
        ⟨⟨(some 43), .faddr false 2 1 (.t 42), none⟩, 0, [0]⟩,
        ⟨⟨(some 44), .load false 1 (.t 43), none⟩, 0, [0]⟩,
        ⟨⟨(some 45), .mov (.t 11), none⟩, 0, [0]⟩,
        ⟨⟨(some 46), .slcl 9 (.t 44) none (some (.t 45)), none⟩, 0, [0]⟩,
        ⟨⟨(some 47), .mov (.t 0), none⟩, 0, [0]⟩,
        ⟨⟨(some 48), .nilchk .ptr (.t 47), none⟩, 0, [0]⟩,
        ⟨⟨(some 49), .faddr false 2 1 (.t 48), none⟩, 0, [0]⟩,
        ⟨⟨(some 50), .load false 1 (.t 49), none⟩, 0, [0]⟩,
        ⟨⟨(some 51), .mov (.t 11), none⟩, 0, [0]⟩,
        ⟨⟨(some 52), .bin .add (.t 51) (.c (.p (.int .i64 1))), none⟩, 0, [0]⟩,
        ⟨⟨(some 53), .slcl 9 (.t 50) (some (.t 52)) none, none⟩, 0, [0]⟩,
        ⟨⟨(some 54), .app 9 144 (.t 46) (.t 53), none⟩, 0, []⟩,
        ⟨⟨(some 55), .nilchk .ptr (.t 40), none⟩, 1, [1]⟩,
        ⟨⟨(some 56), .faddr false 2 1 (.t 55), none⟩, 1, [1]⟩,
        ⟨⟨none, .store 1 (.t 56) (.t 54), none⟩, 1, []⟩])
      (.seq (.rg [⟨(some 10), .mov (.c (.p .nilIface)), none⟩])
      .ret))
      .skip))
    (.seq (.rg [⟨(some 57), .ifc 80 (.c (.p (.string ⟨#[110, 111, 32, 110, 111, 116, 105, 102, 105, 99, 97, 116, 105, 111, 110, 32, 99, 111, 110, 102, 105, 103, 117, 114, 97, 116, 105, 111, 110, 32, 109, 97, 116, 99, 104, 101, 100]⟩))), none⟩,
      ⟨(some 10), .mov (.t 57), none⟩])
    .ret)))))
def r51 : List DR := [.tmp 10]
theorem c51_ok : Try.f51.body.bind (cCode Try.prog) = some c51 := by kernel_rfl
theorem r51_ok : cRes Try.prog Try.f51.results.toList = some r51 := by kernel_rfl

/-- given.example/pub-assaymark/pub/miniogo/pkg/notification.NewArn -/
def c52 : DC :=
  (.seq (.rg [⟨(some 10), .alloc 5 (.agg [.p (.string ⟨#[]⟩), .p (.string ⟨#[]⟩), .p (.string ⟨#[]⟩), .p (.string ⟨#[]⟩), .p (.string ⟨#[]⟩)]), none⟩])
    (.seq (.rg [⟨(some 11), .mov (.t 0), none⟩,
      ⟨(some 12), .mov (.t 1), none⟩,
      ⟨(some 13), .mov (.t 2), none⟩,
      ⟨(some 14), .mov (.t 3), none⟩,
      ⟨(some 15), .mov (.t 4), none⟩,
      ⟨(some 16), .bld [.p (.string ⟨#[]⟩), .p (.string ⟨#[]⟩), .p (.string ⟨#[]⟩), .p (.string ⟨#[]⟩), .p (.string ⟨#[]⟩)] [(0, 1, (.t 11)), (1, 1, (.t 12)), (2, 1, (.t 13)), (3, 1, (.t 14)), (4, 1, (.t 15))], none⟩,
      ⟨none, .store 5 (.t 10) (.t 16), none⟩])
    .ret))
def r52 : List DR := [.cell 10 true 5]
theorem c52_ok : Try.f52.body.bind (cCode Try.prog) = some c52 := by kernel_rfl
theorem r52_ok : cRes Try.prog Try.f52.results.toList = some r52 := by kernel_rfl

/-- given.example/pub-assaymark/pub/miniogo/pkg/set.New[string] -/
def c53 : DC :=
  (.seq (.rg [⟨(some 0), .mov (.c (.p (.map none))), none⟩])
    (.seq (.rg [⟨(some 1), .mkmap, none⟩,
      ⟨(some 0), .mov (.t 1), none⟩])
    .ret))
def r53 : List DR := [.tmp 0]
theorem c53_ok : Try.f53.body.bind (cCode Try.prog) = some c53 := by kernel_rfl
theorem r53_ok : cRes Try.prog Try.f53.results.toList = some r53 := by kernel_rfl

/-- (given.example/pub-assaymark/pub/miniogo/pkg/set.Set[string]).Add -/
def c54 : DC :=
  (.rg [⟨(some 4), .mov (.t 0), none⟩,
      ⟨(some 5), .mov (.t 1), none⟩,
      ⟨(some 6), .bld [] [], none⟩,
      ⟨none, .mupd .str (.t 4) (.t 5) (.t 6), none⟩])
def r54 : List DR := []
theorem c54_ok : Try.f54.body.bind (cCode Try.prog) = some c54 := by kernel_rfl
theorem r54_ok : cRes Try.prog Try.f54.results.toList = some r54 := by kernel_rfl

/-- (given.example/pub-assaymark/pub/miniogo/pkg/set.Set[string]).IsEmpty -/
def c56 : DC :=
  (.seq (.rg [⟨(some 2), .mov (.c (.p (.bool false))), none⟩])
    (.seq (.rg [⟨(some 3), .mov (.t 0), none⟩,
      ⟨(some 4), .lenm (.t 3), none⟩,
      ⟨(some 5), .bin .eql (.t 4) (.c (.p (.int .i64 0))), none⟩,
      ⟨(some 2), .mov (.t 5), none⟩])
    .ret))
def r56 : List DR := [.tmp 2]
theorem c56_ok : Try.f56.body.bind (cCode Try.prog) = some c56 := by kernel_rfl
theorem r56_ok : cRes Try.prog Try.f56.results.toList = some r56 := by kernel_rfl

/-- (*given.example/pub-assaymark/pub/miniogo/pkg/notification.Config).Equal -/
def c57 : DC :=
  (.seq (.rg [⟨(some 8), .mov (.c (.p (.bool false))), none⟩])
    (.seq (.seq (.rg [⟨(some 13), .mov (.t 0), none⟩,
      ⟨(some 14), .eqn false .ptr (.t 13), none⟩])
    (.cond (.t 14) (.seq (.rg [⟨(some 8), .mov (.c (.p (.bool false))), none⟩])
      .ret)
      .skip))
    (.seq (.rg [⟨(some 15), .mov (.t 0), none⟩,
      ⟨(some 16), .nilchk .ptr (.t 15), none⟩,
      ⟨(some 17), .faddr false 6 1 (.t 16), none⟩,
      ⟨(some 18), .load false 1 (.t 17), none⟩,
      ⟨(some 19), .mov (.t 1), none⟩,
      ⟨(some 20), .callr 58 [(.t 18), (.t 19)], none⟩,
      ⟨(some 9), .mov (.t 20), none⟩])
    (.seq (.rg [⟨(some 10), .mov (.c (.p (.slice none 0 0))), none⟩])
    (.seq (.seq (.rg [⟨(some 21), .mov (.t 2), none⟩,
      ⟨(some 22), .bin .neq (.t 21) (.c (.p (.string ⟨#[]⟩))), none⟩])
    (.cond (.t 22) (.rg [⟨(some 23), .mov (.t 10), none⟩,
        ⟨(some 24), .mov (.t 2), none⟩,
        ⟨(some 25), .bld [.p (.string ⟨#[]⟩), .p (.string ⟨#[]⟩)] [(0, 1, (.c (.p (.string ⟨#[112, 114, 101, 102, 105, 120]⟩)))), (1, 1, (.t 24))], none⟩,
        ⟨(some 26), .lit 2 [(.t 25)], none⟩,
        ⟨(some 27), .app 2 32 (.t 23) (.t 26), none⟩,
        ⟨(some 10), .mov (.t 27), none⟩])
      .skip))
    (.seq (.seq (.rg [⟨(some 28), .mov (.t 3), none⟩,
      ⟨(some 29), .bin .neq (.t 28) (.c (.p (.string ⟨#[]⟩))), none⟩])
    (.cond (.t 29) (.rg [⟨(some 30), .mov (.t 10), none⟩,
        ⟨(some 31), .mov (.t 3), none⟩,
        ⟨(some 32), .bld [.p (.string ⟨#[]⟩), .p (.string ⟨#[]⟩)] [(0, 1, (.c (.p (.string ⟨#[115, 117, 102, 102, 105, 120]⟩)))), (1, 1, (.t 31))], none⟩,
        ⟨(some 33), .lit 2 [(.t 32)], none⟩,
        ⟨(some 34), .app 2 32 (.t 30) (.t 33), none⟩,
        ⟨(some 10), .mov (.t 34), none⟩])
      .skip))
    (.seq (.rg [⟨(some 11), .mov (.c (.p (.slice none 0 0))), none⟩])
    (.seq (.seq (.rg [⟨(some 35), .mov (.t 0), none⟩,
      ⟨(some 36), .nilchk .ptr (.t 35), none⟩,
      ⟨(some 37), .faddr false 7 1 (.t 36), none⟩,
      ⟨(some 38), .load false 1 (.t 37), none⟩,
      ⟨(some 39), .eqn true .ptr (.t 38), none⟩])
    (.cond (.t 39) (.rg [⟨(some 40), .mov (.t 0), none⟩,
        ⟨(some 41), .nilchk .ptr (.t 40), none⟩,
        ⟨(some 42), .faddr false 7 1 (.t 41), none⟩,
        ⟨(some 43), .load false 1 (.t 42), none⟩,
        ⟨(some 44), .nilchk .ptr (.t 43), none⟩,
        ⟨(some 45), .faddr true 0 1 (.t 44), none⟩,
        ⟨(some 46), .faddr false 0 1 (.t 45), none⟩,
        ⟨(some 47), .load false 1 (.t 46), none⟩,
        ⟨(some 11), .mov (.t 47), none⟩])
      .skip))
    (.seq (.rg [⟨(some 48), .mov (.t 11), none⟩,
      ⟨(some 49), .mov (.t 10), none⟩,
      ⟨(some 50), .callr 59 [(.t 48), (.t 49)], none⟩,
      ⟨(some 12), .mov (.t 50), none⟩])
    (.seq (.rg [⟨(some 51), .mov (.t 9), none⟩,
      ⟨(some 52), .mov (.t 51), none⟩,
      ⟨(some 53), .mov (.t 12), (some (52, true))⟩,
      ⟨(some 54), .pick (.t 52) (.t 53) (.c (.p (.bool false))), none⟩,
      ⟨(some 8), .mov (.t 54), none⟩])
    .ret))))))))))
def r57 : List DR := [.tmp 8]
theorem c57_ok : Try.f57.body.bind (cCode Try.prog) = some c57 := by kernel_rfl
theorem r57_ok : cRes Try.prog Try.f57.results.toList = some r57 := by kernel_rfl

/-- given.example/pub-assaymark/pub/miniogo/pkg/notification.EqualEventTypeList -/
def c58 : DC :=
  (.seq (.rg [⟨(some 4), .mov (.c (.p (.bool false))), none⟩])
    (.seq (.seq (.rg [⟨(some 11), .mov (.t 0), none⟩,
      ⟨(some 12), .lenl (.t 11), none⟩,
      ⟨(some 13), .mov (.t 1), none⟩,
      ⟨(some 14), .lenl (.t 13), none⟩,
      ⟨(some 15), .bin .neq (.t 12) (.t 14), none⟩])
    (.cond (.t 15) (.seq (.rg [⟨(some 4), .mov (.c (.p (.bool false))), none⟩])
      .ret)
      .skip))
    (.seq (.rg [⟨(some 16), .callr 44 [], none⟩,
      ⟨(some 5), .mov (.t 16), none⟩])
    (.seq (.seq (.rg [⟨(some 17), .mov (.t 0), none⟩,
      ⟨(some 18), .lenl (.t 17), none⟩,
      ⟨(some 19), .mov (.c (.p (.int .i64 0))), none⟩])
    (.block 0 (.loop (.seq (.rg [⟨(some 20), .bin .lss (.t 19) (.t 18), none⟩])
      (.seq (.cond (.t 20) .skip
        (.exit 0))
      (.seq (.block 1 (.seq (.rg [⟨(some 21), .iaddr 1 (.t 17) (.t 19), none⟩,
         ⟨(some 22), .load false 1 (.t 21), none⟩,
         ⟨(some 7), .mov (.t 22), none⟩])
       (.rg [⟨(some 23), .mov (.t 5), none⟩,
         ⟨(some 24), .mov (.t 7), none⟩,
         ⟨(some 25), .callr 45 [(.t 23), (.t 24)], none⟩])))
      (.rg [⟨(some 26), .bin .add (.t 19) (.c (.p (.int .i64 1))), none⟩,
        ⟨(some 19), .mov (.t 26), none⟩])))))))
    (.seq (.rg [⟨(some 27), .callr 44 [], none⟩,
      ⟨(some 8), .mov (.t 27), none⟩])
    (.seq (.seq (.rg [⟨(some 28), .mov (.t 1), none⟩,
      ⟨(some 29), .lenl (.t 28), none⟩,
      ⟨(some 30), .mov (.c (.p (.int .i64 0))), none⟩])
    (.block 2 (.loop (.seq (.rg [⟨(some 31), .bin .lss (.t 30) (.t 29), none⟩])
      (.seq (.cond (.t 31) .skip
        (.exit 2))
      (.seq (.block 3 (.seq (.rg [⟨(some 32), .iaddr 1 (.t 28) (.t 30), none⟩,
         ⟨(some 33), .load false 1 (.t 32), none⟩,
         ⟨(some 10), .mov (.t 33), none⟩])
       (.rg [⟨(some 34), .mov (.t 8), none⟩,
         ⟨(some 35), .mov (.t 10), none⟩,
         ⟨(some 36), .callr 45 [(.t 34), (.t 35)], none⟩])))
      (.rg [⟨(some 37), .bin .add (.t 30) (.c (.p (.int .i64 1))), none⟩,
        ⟨(some 30), .mov (.t 37), none⟩])))))))
    (.seq (.rg [⟨(some 38), .mov (.t 5), none⟩,
      ⟨(some 39), .mov (.t 8), none⟩,
      ⟨(some 40), .callr 60 [(.t 38), (.t 39)], none⟩,
      ⟨(some 41), .callr 47 [(.t 40)], none⟩,
      ⟨(some 4), .mov (.t 41), none⟩])
    .ret)))))))
def r58 : List DR := [.tmp 4]
theorem c58_ok : Try.f58.body.bind (cCode Try.prog) = some c58 := by kernel_rfl
theorem r58_ok : cRes Try.prog Try.f58.results.toList = some r58 := by kernel_rfl

/-- given.example/pub-assaymark/pub/miniogo/pkg/notification.EqualFilterRuleList -/
def c59 : DC :=
  (.seq (.rg [⟨(some 4), .mov (.c (.p (.bool false))), none⟩])
    (.seq (.seq (.rg [⟨(some 11), .mov (.t 0), none⟩,
      ⟨(some 12), .lenl (.t 11), none⟩,
      ⟨(some 13), .mov (.t 1), none⟩,
      ⟨(some 14), .lenl (.t 13), none⟩,
      ⟨(some 15), .bin .neq (.t 12) (.t 14), none⟩])
    (.cond (.t 15) (.seq (.rg [⟨(some 4), .mov (.c (.p (.bool false))), none⟩])
      .ret)
      .skip))
    (.seq (.rg [⟨(some 16), .callr 44 [], none⟩,
      ⟨(some 5), .mov (.t 16), none⟩])
    (.seq (.seq (.rg [⟨(some 17), .mov (.t 0), none⟩,
      ⟨(some 18), .lenl (.t 17), none⟩,
      ⟨(some 19), .mov (.c (.p (.int .i64 0))), none⟩])
    (.block 0 (.loop (.seq (.rg [⟨(some 20), .bin .lss (.t 19) (.t 18), none⟩])
      (.seq (.cond (.t 20) .skip
        (.exit 0))
      (.seq (.block 1 (.seq (.rg [⟨(some 21), .iaddr 2 (.t 17) (.t 19), none⟩,
         ⟨(some 22), .load true 2 (.t 21), none⟩,
         ⟨(some 7), .alloc 2 (.agg [.p (.string ⟨#[]⟩), .p (.string ⟨#[]⟩)]), none⟩,
         ⟨none, .store 2 (.t 7) (.t 22), none⟩])
       (.rg [⟨(some 23), .mov (.t 5), none⟩,
         ⟨(some 24), .faddr false 0 1 (.t 7), none⟩,
         ⟨(some 25), .load false 1 (.t 24), none⟩,
         ⟨(some 26), .bin .add (.t 25) (.c (.p (.string ⟨#[45]⟩))), none⟩,
         ⟨(some 27), .faddr false 1 1 (.t 7), none⟩,
         ⟨(some 28), .load false 1 (.t 27), none⟩,
         ⟨(some 29), .bin .add (.t 26) (.t 28), none⟩,
         ⟨(some 30), .callr 45 [(.t 23), (.t 29)], none⟩])))
      (.rg [⟨(some 31), .bin .add (.t 19) (.c (.p (.int .i64 1))), none⟩,
        ⟨(some 19), .mov (.t 31), none⟩])))))))
    (.seq (.rg [⟨(some 32), .callr 44 [], none⟩,
      ⟨(some 8), .mov (.t 32), none⟩])
    (.seq (.seq (.rg [⟨(some 33), .mov (.t 1), none⟩,
      ⟨(some 34), .lenl (.t 33), none⟩,
      ⟨(some 35), .mov (.c (.p (.int .i64 0))), none⟩])
    (.block 2 (.loop (.seq (.rg [⟨(some 36), .bin .lss (.t 35) (.t 34), none⟩])
      (.seq (.cond (.t 36) .skip
        (.exit 2))
      (.seq (.block 3 (.seq (.rg [⟨(some 37), .iaddr 2 (.t 33) (.t 35), none⟩,
         ⟨(some 38), .load true 2 (.t 37), none⟩,
         ⟨(some 10), .alloc 2 (.agg [.p (.string ⟨#[]⟩), .p (.string ⟨#[]⟩)]), none⟩,
         ⟨none, .store 2 (.t 10) (.t 38), none⟩])
       (.rg [⟨(some 39), .mov (.t 8), none⟩,
         ⟨(some 40), .faddr false 0 1 (.t 10), none⟩,
         ⟨(some 41), .load false 1 (.t 40), none⟩,
         ⟨(some 42), .bin .add (.t 41) (.c (.p (.string ⟨#[45]⟩))), none⟩,
         ⟨(some 43), .faddr false 1 1 (.t 10), none⟩,
         ⟨(some 44), .load false 1 (.t 43), none⟩,
         ⟨(some 45), .bin .add (.t 42) (.t 44), none⟩,
         ⟨(some 46), .callr 45 [(.t 39), (.t 45)], none⟩])))
      (.rg [⟨(some 47), .bin .add (.t 35) (.c (.p (.int .i64 1))), none⟩,
        ⟨(some 35), .mov (.t 47), none⟩])))))))
    (.seq (.rg [⟨(some 48), .mov (.t 5), none⟩,
      ⟨(some 49), .mov (.t 8), none⟩,
      ⟨(some 50), .callr 60 [(.t 48), (.t 49)], none⟩,
      ⟨(some 51), .callr 47 [(.t 50)], none⟩,
      ⟨(some 4), .mov (.t 51), none⟩])
    .ret)))))))
def r59 : List DR := [.tmp 4]
theorem c59_ok : Try.f59.body.bind (cCode Try.prog) = some c59 := by kernel_rfl
theorem r59_ok : cRes Try.prog Try.f59.results.toList = some r59 := by kernel_rfl

/-- (given.example/pub-assaymark/pub/miniogo/pkg/set.StringSet).Difference -/
def c60 : DC :=
  (.seq (.rg [⟨(some 4), .mov (.c (.p (.map none))), none⟩])
    (.seq (.rg [⟨(some 5), .mov (.t 0), none⟩,
      ⟨(some 6), .mov (.t 1), none⟩,
      ⟨(some 7), .callr 61 [(.t 5), (.t 6)], none⟩,
      ⟨(some 4), .mov (.t 7), none⟩])
    .ret))
def r60 : List DR := [.tmp 4]
theorem c60_ok : Try.f60.body.bind (cCode Try.prog) = some c60 := by kernel_rfl
theorem r60_ok : cRes Try.prog Try.f60.results.toList = some r60 := by kernel_rfl

/-- (given.example/pub-assaymark/pub/miniogo/pkg/set.Set[string]).Difference -/
def c61 : DC :=
  (.seq (.rg [⟨(some 4), .mov (.c (.p (.map none))), none⟩])
    (.seq (.rg [⟨(some 9), .callr 53 [], none⟩,
      ⟨(some 5), .mov (.t 9), none⟩])
    (.seq (.seq (.rg [⟨(some 10), .mov (.t 0), none⟩,
      ⟨(some 11), .rngm (.t 10), none⟩])
    (.block 0 (.loop (.seq (.rg [⟨(some 12), .nxtm (.t 11), none⟩,
        ⟨(some 13), .ext (.t 12) 0, none⟩])
      (.seq (.cond (.t 13) .skip
        (.exit 0))
      (.block 1 (.seq (.rg [⟨(some 14), .ent (.t 11), none⟩,
         ⟨(some 15), .ext (.t 14) 0, none⟩,
         ⟨(some 6), .mov (.t 15), none⟩])
       (.seq (.rg [⟨(some 17), .mov (.t 1), none⟩,
         ⟨(some 18), .mov (.t 6), none⟩,
         ⟨(some 19), .look .str (.agg []) true (.t 17) (.t 18), none⟩,
         ⟨(some 16), .mov (.t 19), none⟩,
         ⟨(some 20), .ext (.t 16) 0, none⟩,
         ⟨(some 21), .ext (.t 16) 1, none⟩,
         ⟨(some 7), .alloc 0 (.agg []), none⟩,
         ⟨none, .store 0 (.t 7) (.t 20), none⟩,
         ⟨(some 8), .mov (.t 21), none⟩])
       (.seq (.rg [⟨(some 22), .mov (.t 8), none⟩,
         ⟨(some 23), .un .not (.t 22), none⟩])
       (.cond (.t 23) (.rg [⟨(some 24), .mov (.t 5), none⟩,
           ⟨(some 25), .mov (.t 6), none⟩,
           ⟨(some 26), .callr 54 [(.t 24), (.t 25)], none⟩])
         .skip))))))))))
    (.seq (.rg [⟨(some 27), .mov (.t 5), none⟩,
      ⟨(some 4), .mov (.t 27), none⟩])
    .ret))))
def r61 : List DR := [.tmp 4]
theorem c61_ok : Try.f61.body.bind (cCode Try.prog) = some c61 := by kernel_rfl
theorem r61_ok : cRes Try.prog Try.f61.results.toList = some r61 := by kernel_rfl

end Go.Proofs.Ythkgekkpnldbmaa
