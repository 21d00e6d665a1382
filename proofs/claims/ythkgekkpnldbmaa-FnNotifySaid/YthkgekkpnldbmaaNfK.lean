/- Codes in pieces (printed by gencut.py). -/
import Derived.Test.YthkgekkpnldbmaaNfJ
set_option linter.unusedVariables false
set_option linter.unusedSimpArgs false
set_option maxRecDepth 100000
set_option maxHeartbeats 4000000
namespace Go.Proofs.Ythkgekkpnldbmaa
open Go Go.Den Go.Proofs

/-- What follows the loop of block 4. -/
def c3T4 : DC :=
  (.seq (.rg [⟨(some 184), .mov (.t 20), none⟩,
      ⟨(some 185), .iaddra 3 1 false (.t 26) (.c (.p (.int .i64 0))), none⟩,
      ⟨(some 186), .load false 1 (.t 185), none⟩,
      ⟨(some 187), .callr 8 [(.t 184), (.t 186)], none⟩,
      ⟨(some 188), .mov (.t 187), none⟩,
      ⟨(some 189), .mov (.t 21), (some (188, true))⟩,
      ⟨(some 190), .iaddra 3 1 false (.t 26) (.c (.p (.int .i64 1))), (some (188, true))⟩,
      ⟨(some 191), .load false 1 (.t 190), (some (188, true))⟩,
      ⟨(some 192), .callr 8 [(.t 189), (.t 191)], (some (188, true))⟩,
      ⟨(some 193), .pick (.t 188) (.t 192) (.c (.p (.bool false))), none⟩,
      ⟨(some 194), .mov (.t 193), none⟩,
      ⟨(some 195), .mov (.t 22), (some (194, true))⟩,
      ⟨(some 196), .iaddra 3 1 false (.t 26) (.c (.p (.int .i64 2))), (some (194, true))⟩,
      ⟨(some 197), .load false 1 (.t 196), (some (194, true))⟩,
      ⟨(some 198), .callr 8 [(.t 195), (.t 197)], (some (194, true))⟩,
      ⟨(some 199), .pick (.t 194) (.t 198) (.c (.p (.bool false))), none⟩,
      ⟨(some 2), .mov (.t 199), none⟩]) .ret)
/-- What follows the loop of block 2. -/
def c3T2 : DC :=
  (.seq (.rg [⟨(some 26), .alloc 3 (.agg [.p (.slice none 0 0), .p (.slice none 0 0), .p (.slice none 0 0)]), none⟩]) (.seq (.seq (.rg [⟨(some 167), .mov (.t 4), none⟩,
      ⟨(some 168), .lenl (.t 167), none⟩,
      ⟨(some 169), .mov (.c (.p (.int .i64 0))), none⟩])
    (.block 4 (.loop (.seq (.rg [⟨(some 170), .bin .lss (.t 169) (.t 168), none⟩])
      (.seq (.cond (.t 170) .skip
        (.exit 4))
      (.seq (.block 5 (.seq (.rg [⟨(some 171), .iaddr 9 (.t 167) (.t 169), none⟩,
         ⟨(some 172), .load true 9 (.t 171), none⟩,
         ⟨(some 28), .alloc 9 (.agg [.p (.int .i64 0), .p (.string ⟨#[]⟩), .p (.string ⟨#[]⟩), .p (.string ⟨#[]⟩), .p (.string ⟨#[]⟩), .p (.string ⟨#[]⟩), .p (.slice none 0 0), .p (.slice none 0 0), .p (.slice none 0 0)]), none⟩,
         ⟨none, .store 9 (.t 28) (.t 172), none⟩])
       (.rgv [⟨⟨(some 173), .faddr false 0 1 (.t 28), none⟩, 0, [0]⟩,
         ⟨⟨(some 174), .load false 1 (.t 173), none⟩, 0, [0]⟩,
         ⟨⟨(some 175), .faddr false 0 1 (.t 28), none⟩, 0, [0]⟩,
         ⟨⟨(some 176), .load false 1 (.t 175), none⟩, 0, [0]⟩,
         ⟨⟨(some 177), .iaddra 3 1 false (.t 26) (.t 176), none⟩, 0, [0]⟩,
         ⟨⟨(some 178), .load false 1 (.t 177), none⟩, 0, [0]⟩,
         ⟨⟨(some 179), .load true 9 (.t 28), none⟩, 0, [0]⟩,
         ⟨⟨(some 180), .lit 9 [(.t 179)], none⟩, 0, [0]⟩,
         ⟨⟨(some 181), .app 9 160 (.t 178) (.t 180), none⟩, 1, [0]⟩,
         ⟨⟨(some 182), .iaddra 3 1 false (.t 26) (.t 174), none⟩, 2, [2]⟩,
         ⟨⟨none, .store 1 (.t 182) (.t 181), none⟩, 2, []⟩])))
      (.rg [⟨(some 183), .bin .add (.t 169) (.c (.p (.int .i64 1))), none⟩,
        ⟨(some 169), .mov (.t 183), none⟩]))))))) c3T4))
/-- What follows the test of (.t 80). -/
def c3R : DC :=
  (.seq (.rg [⟨(some 94), .mov (.t 3), none⟩,
      ⟨(some 95), .callr 7 [(.t 94)], none⟩,
      ⟨(some 93), .mov (.t 95), none⟩,
      ⟨(some 96), .ext (.t 93) 0, none⟩,
      ⟨(some 97), .ext (.t 93) 1, none⟩,
      ⟨(some 98), .ext (.t 93) 2, none⟩,
      ⟨(some 99), .ext (.t 93) 3, none⟩,
      ⟨(some 100), .ext (.t 93) 4, none⟩,
      ⟨(some 101), .ext (.t 93) 5, none⟩,
      ⟨(some 18), .mov (.t 96), none⟩,
      ⟨(some 19), .mov (.t 97), none⟩,
      ⟨(some 20), .mov (.t 98), none⟩,
      ⟨(some 21), .mov (.t 99), none⟩,
      ⟨(some 22), .mov (.t 100), none⟩,
      ⟨(some 23), .mov (.t 101), none⟩]) (.seq (.seq (.rg [⟨(some 102), .mov (.t 23), none⟩,
      ⟨(some 103), .un .not (.t 102), none⟩,
      ⟨(some 104), .mov (.t 103), none⟩,
      ⟨(some 105), .mov (.t 18), (some (104, false))⟩,
      ⟨(some 106), .lenl (.t 105), (some (104, false))⟩,
      ⟨(some 107), .mov (.t 3), (some (104, false))⟩,
      ⟨(some 108), .lenl (.t 107), (some (104, false))⟩,
      ⟨(some 109), .bin .neq (.t 106) (.t 108), (some (104, false))⟩,
      ⟨(some 110), .pick (.t 104) (.c (.p (.bool true))) (.t 109), none⟩,
      ⟨(some 111), .mov (.t 110), none⟩,
      ⟨(some 112), .mov (.t 19), (some (111, false))⟩,
      ⟨(some 113), .lenl (.t 112), (some (111, false))⟩,
      ⟨(some 114), .mov (.t 3), (some (111, false))⟩,
      ⟨(some 115), .lenl (.t 114), (some (111, false))⟩,
      ⟨(some 116), .bin .neq (.t 113) (.t 115), (some (111, false))⟩,
      ⟨(some 117), .pick (.t 111) (.c (.p (.bool true))) (.t 116), none⟩])
    (.cond (.t 117) (.seq (.rg [⟨(some 2), .mov (.c (.p (.bool false))), none⟩])
      .ret)
      .skip)) (.seq (.seq (.rg [⟨(some 118), .mov (.t 3), none⟩,
      ⟨(some 119), .lenl (.t 118), none⟩,
      ⟨(some 120), .mov (.c (.p (.int .i64 0))), none⟩])
    (.block 2 (.loop (.seq (.rg [⟨(some 121), .bin .lss (.t 120) (.t 119), none⟩])
      (.seq (.cond (.t 121) .skip
        (.exit 2))
      (.seq (.block 3 (.seq (.rg [⟨(some 122), .mov (.t 120), none⟩,
         ⟨(some 123), .iaddr 10 (.t 118) (.t 120), none⟩,
         ⟨(some 124), .load true 10 (.t 123), none⟩,
         ⟨(some 25), .alloc 10 (.agg [.p (.int .i64 0), .p (.int .i64 0), .p (.string ⟨#[]⟩), .p (.string ⟨#[]⟩), .p (.string ⟨#[]⟩), .p (.string ⟨#[]⟩), .p (.string ⟨#[]⟩), .p (.slice none 0 0), .p (.slice none 0 0), .p (.slice none 0 0)]), none⟩,
         ⟨(some 24), .mov (.t 122), none⟩,
         ⟨none, .store 10 (.t 25) (.t 124), none⟩])
       (.seq (.rgd [⟨⟨(some 125), .faddr false 0 1 (.t 25), none⟩, 0, [0]⟩,
         ⟨⟨(some 126), .load false 1 (.t 125), none⟩, 0, [0]⟩,
         ⟨⟨(some 127), .bin .eql (.t 126) (.c (.p (.int .i64 0))), none⟩, 0, []⟩,
         ⟨⟨(some 128), .mov (.t 127), none⟩, 0, []⟩,
         ⟨⟨(some 129), .mov (.t 18), (some (128, true))⟩, 0, [0]⟩,
         ⟨⟨(some 130), .mov (.t 24), (some (128, true))⟩, 0, [0]⟩,
         ⟨⟨(some 131), .iaddr 1 (.t 129) (.t 130), (some (128, true))⟩, 0, [0]⟩,
         ⟨⟨(some 132), .load false 1 (.t 131), (some (128, true))⟩, 0, [0]⟩,
         ⟨⟨(some 133), .mov (.t 5), (some (128, true))⟩, 0, [0]⟩,
         ⟨⟨(some 134), .mov (.t 24), (some (128, true))⟩, 0, [0]⟩,
         ⟨⟨(some 135), .iaddr 1 (.t 133) (.t 134), (some (128, true))⟩, 0, [0]⟩,
         ⟨⟨(some 136), .load false 1 (.t 135), (some (128, true))⟩, 0, [0]⟩,
         ⟨⟨(some 137), .eqb true (.t 132) (.t 136), (some (128, true))⟩, 0, []⟩,
         ⟨⟨(some 138), .pick (.t 128) (.t 137) (.c (.p (.bool false))), none⟩, 0, []⟩,
         ⟨⟨(some 139), .mov (.t 138), none⟩, 0, []⟩,
         ⟨⟨(some 140), .faddr false 0 1 (.t 25), (some (139, false))⟩, 0, [0]⟩,
         ⟨⟨(some 141), .load false 1 (.t 140), (some (139, false))⟩, 0, [0]⟩,
         ⟨⟨(some 142), .bin .eql (.t 141) (.c (.p (.int .i64 2))), (some (139, false))⟩, 0, []⟩,
         ⟨⟨(some 143), .mov (.t 142), (some (139, false))⟩, 0, []⟩,
         ⟨⟨(some 144), .mov (.t 18), (some (143, true))⟩, 0, [0]⟩,
         ⟨⟨(some 145), .mov (.t 24), (some (143, true))⟩, 0, [0]⟩,
         ⟨⟨(some 146), .iaddr 1 (.t 144) (.t 145), (some (143, true))⟩, 0, [0]⟩,
         ⟨⟨(some 147), .load false 1 (.t 146), (some (143, true))⟩, 0, [0]⟩,
         ⟨⟨(some 148), .mov (.t 5), (some (143, true))⟩, 0, [0]⟩,
         ⟨⟨(some 149), .mov (.t 24), (some (143, true))⟩, 0, [0]⟩,
         ⟨⟨(some 150), .iaddr 1 (.t 148) (.t 149), (some (143, true))⟩, 0, [0]⟩,
         ⟨⟨(some 151), .load false 1 (.t 150), (some (143, true))⟩, 0, [0]⟩,
         ⟨⟨(some 152), .eqb true (.t 147) (.t 151), (some (143, true))⟩, 0, []⟩,
         ⟨⟨(some 153), .mov (.t 152), (some (143, true))⟩, 0, []⟩,
         ⟨⟨(some 154), .mov (.t 19), (some (153, false))⟩, 0, [0]⟩,
         ⟨⟨(some 155), .mov (.t 24), (some (153, false))⟩, 0, [0]⟩,
         ⟨⟨(some 156), .iaddr 1 (.t 154) (.t 155), (some (153, false))⟩, 0, [0]⟩,
         ⟨⟨(some 157), .load false 1 (.t 156), (some (153, false))⟩, 0, [0]⟩,
         ⟨⟨(some 158), .mov (.t 6), (some (153, false))⟩, 0, [0]⟩,
         ⟨⟨(some 159), .mov (.t 24), (some (153, false))⟩, 0, [0]⟩,
         ⟨⟨(some 160), .iaddr 1 (.t 158) (.t 159), (some (153, false))⟩, 0, [0]⟩,
         ⟨⟨(some 161), .load false 1 (.t 160), (some (153, false))⟩, 0, [0]⟩,
         ⟨⟨(some 162), .eqb true (.t 157) (.t 161), (some (153, false))⟩, 0, []⟩,
         ⟨⟨(some 163), .pick (.t 153) (.c (.p (.bool true))) (.t 162), (some (143, true))⟩, 0, []⟩,
         ⟨⟨(some 164), .pick (.t 143) (.t 163) (.c (.p (.bool false))), (some (139, false))⟩, 0, []⟩,
         ⟨⟨(some 165), .pick (.t 139) (.c (.p (.bool true))) (.t 164), none⟩, 0, []⟩])
       (.cond (.t 165) (.seq (.rg [⟨(some 2), .mov (.c (.p (.bool false))), none⟩])
         .ret)
         .skip))))
      (.rg [⟨(some 166), .bin .add (.t 120) (.c (.p (.int .i64 1))), none⟩,
        ⟨(some 120), .mov (.t 166), none⟩]))))))) c3T2)))
/-- What follows the loop of block 0. -/
def c3T0 : DC :=
  (.seq (.rg [⟨(some 74), .bld [.p (.string ⟨#[]⟩), .p (.string ⟨#[]⟩), .p (.string ⟨#[]⟩), .p (.string ⟨#[]⟩), .p (.string ⟨#[]⟩)] [(1, 1, (.c (.p (.string ⟨#[111, 119, 110]⟩))))], none⟩,
      ⟨(some 75), .lit 1 [(.c (.p (.string ⟨#[102, 105, 114, 115, 116]⟩)))], none⟩,
      ⟨(some 76), .bld [.p (.int .i64 0), .p (.string ⟨#[]⟩), .p (.string ⟨#[]⟩), .p (.string ⟨#[]⟩), .p (.string ⟨#[]⟩), .p (.string ⟨#[]⟩), .p (.slice none 0 0), .p (.slice none 0 0), .p (.slice none 0 0)] [(0, 1, (.c (.p (.int .i64 0)))), (1, 5, (.t 74)), (6, 1, (.t 75))], none⟩,
      ⟨(some 77), .bld [.p (.int .i64 0), .p (.int .i64 0), .p (.string ⟨#[]⟩), .p (.string ⟨#[]⟩), .p (.string ⟨#[]⟩), .p (.string ⟨#[]⟩), .p (.string ⟨#[]⟩), .p (.slice none 0 0), .p (.slice none 0 0), .p (.slice none 0 0)] [(0, 1, (.c (.p (.int .i64 0)))), (1, 9, (.t 76))], none⟩,
      ⟨(some 13), .alloc 10 (.agg [.p (.int .i64 0), .p (.int .i64 0), .p (.string ⟨#[]⟩), .p (.string ⟨#[]⟩), .p (.string ⟨#[]⟩), .p (.string ⟨#[]⟩), .p (.string ⟨#[]⟩), .p (.slice none 0 0), .p (.slice none 0 0), .p (.slice none 0 0)]), none⟩,
      ⟨none, .store 10 (.t 13) (.t 77), none⟩]) (.seq (.seq (.rg [⟨(some 78), .mov (.t 3), none⟩,
      ⟨(some 79), .lenl (.t 78), none⟩,
      ⟨(some 80), .bin .eql (.t 79) (.c (.p (.int .i64 0))), none⟩])
    (.cond (.t 80) (.seq (.rg [⟨(some 82), .load true 10 (.t 13), none⟩,
        ⟨(some 83), .callr 6 [(.c (.p (.slice none 0 0))), (.t 82)], none⟩,
        ⟨(some 81), .mov (.t 83), none⟩,
        ⟨(some 84), .ext (.t 81) 0, none⟩,
        ⟨(some 85), .ext (.t 81) 1, none⟩,
        ⟨(some 86), .ext (.t 81) 2, none⟩,
        ⟨(some 87), .ext (.t 81) 3, none⟩,
        ⟨(some 14), .mov (.t 84), none⟩,
        ⟨(some 15), .mov (.t 85), none⟩,
        ⟨(some 16), .mov (.t 86), none⟩,
        ⟨(some 17), .mov (.t 87), none⟩])
      (.rg [⟨(some 88), .load true 10 (.t 13), none⟩,
        ⟨(some 89), .lit 10 [(.t 88)], none⟩,
        ⟨(some 90), .mov (.t 14), none⟩,
        ⟨(some 91), .lit 1 [(.c (.p (.bool true)))], none⟩,
        ⟨(some 92), .lit 1 [(.c (.p (.bool false)))], none⟩,
        ⟨(some 3), .mov (.t 89), none⟩,
        ⟨(some 4), .mov (.t 90), none⟩,
        ⟨(some 5), .mov (.t 91), none⟩,
        ⟨(some 6), .mov (.t 92), none⟩]))
      .skip)) c3R))
theorem c3_cut : c3 =
  (.seq (.rg [⟨(some 2), .mov (.c (.p (.bool false))), none⟩]) (.seq (.seq (.rg [⟨(some 29), .mov (.t 0), none⟩,
      ⟨(some 30), .callr 4 [(.t 29)], none⟩,
      ⟨(some 31), .un .not (.t 30), none⟩])
    (.cond (.t 31) (.seq (.rg [⟨(some 2), .mov (.c (.p (.bool true))), none⟩])
      .ret)
      .skip)) (.seq (.rg [⟨(some 3), .mov (.c (.p (.slice none 0 0))), none⟩]) (.seq (.rg [⟨(some 4), .mov (.c (.p (.slice none 0 0))), none⟩]) (.seq (.rg [⟨(some 5), .mov (.c (.p (.slice none 0 0))), none⟩,
      ⟨(some 6), .mov (.c (.p (.slice none 0 0))), none⟩]) (.seq (.seq (.rg [⟨(some 32), .mov (.t 0), none⟩,
      ⟨(some 33), .mov (.t 0), none⟩,
      ⟨(some 34), .lenl (.t 33), none⟩,
      ⟨(some 35), .mm false (.t 34) (.c (.p (.int .i64 14))), none⟩,
      ⟨(some 36), .slcl 10 (.t 32) none (some (.t 35)), none⟩,
      ⟨(some 37), .lenl (.t 36), none⟩,
      ⟨(some 38), .mov (.c (.p (.int .i64 0))), none⟩])
    (.block 0 (.loop (.seq (.rg [⟨(some 39), .bin .lss (.t 38) (.t 37), none⟩])
      (.seq (.cond (.t 39) .skip
        (.exit 0))
      (.seq (.block 1 (.seq (.rg [⟨(some 40), .iaddr 10 (.t 36) (.t 38), none⟩,
         ⟨(some 41), .load true 10 (.t 40), none⟩,
         ⟨(some 8), .alloc 10 (.agg [.p (.int .i64 0), .p (.int .i64 0), .p (.string ⟨#[]⟩), .p (.string ⟨#[]⟩), .p (.string ⟨#[]⟩), .p (.string ⟨#[]⟩), .p (.string ⟨#[]⟩), .p (.slice none 0 0), .p (.slice none 0 0), .p (.slice none 0 0)]), none⟩,
         ⟨none, .store 10 (.t 8) (.t 41), none⟩])
       (.seq (.rgd [⟨⟨(some 42), .faddr false 0 1 (.t 8), none⟩, 0, [0]⟩,
         ⟨⟨(some 43), .load false 1 (.t 42), none⟩, 0, [0]⟩,
         ⟨⟨(some 44), .cint .u64 (.t 43), none⟩, 0, [0]⟩,
         ⟨⟨(some 45), .bin .rem (.t 44) (.c (.p (.int .u64 3))), none⟩, 0, [0]⟩,
         ⟨⟨(some 46), .cint .i64 (.t 45), none⟩, 0, [0]⟩,
         ⟨⟨(some 47), .faddr true 1 9 (.t 8), none⟩, 0, [0]⟩,
         ⟨⟨(some 48), .load true 9 (.t 47), none⟩, 0, [0]⟩,
         ⟨⟨(some 49), .call 5 [(.t 48)], none⟩, 0, [0]⟩,
         ⟨⟨(some 50), .bld [.p (.int .i64 0), .p (.int .i64 0), .p (.string ⟨#[]⟩), .p (.string ⟨#[]⟩), .p (.string ⟨#[]⟩), .p (.string ⟨#[]⟩), .p (.string ⟨#[]⟩), .p (.slice none 0 0), .p (.slice none 0 0), .p (.slice none 0 0)] [(0, 1, (.t 46)), (1, 9, (.t 49))], none⟩, 1, []⟩,
         ⟨⟨none, .store 10 (.t 8) (.t 50), none⟩, 1, []⟩])
       (.seq (.rg [⟨(some 52), .mov (.t 4), none⟩,
         ⟨(some 53), .load true 10 (.t 8), none⟩,
         ⟨(some 54), .callr 6 [(.t 52), (.t 53)], none⟩,
         ⟨(some 51), .mov (.t 54), none⟩,
         ⟨(some 55), .ext (.t 51) 0, none⟩,
         ⟨(some 56), .ext (.t 51) 1, none⟩,
         ⟨(some 57), .ext (.t 51) 2, none⟩,
         ⟨(some 58), .ext (.t 51) 3, none⟩,
         ⟨(some 9), .mov (.t 55), none⟩,
         ⟨(some 10), .mov (.t 56), none⟩,
         ⟨(some 11), .mov (.t 57), none⟩,
         ⟨(some 12), .mov (.t 58), none⟩])
       (.seq (.rg [⟨(some 59), .mov (.t 12), none⟩])
       (.cond (.t 59) (.rg [⟨(some 60), .mov (.t 3), none⟩,
           ⟨(some 61), .load true 10 (.t 8), none⟩,
           ⟨(some 62), .lit 10 [(.t 61)], none⟩,
           ⟨(some 63), .app 10 168 (.t 60) (.t 62), none⟩,
           ⟨(some 64), .mov (.t 9), none⟩,
           ⟨(some 65), .mov (.t 5), none⟩,
           ⟨(some 66), .mov (.t 10), none⟩,
           ⟨(some 67), .lit 1 [(.t 66)], none⟩,
           ⟨(some 68), .app 1 1 (.t 65) (.t 67), none⟩,
           ⟨(some 69), .mov (.t 6), none⟩,
           ⟨(some 70), .mov (.t 11), none⟩,
           ⟨(some 71), .lit 1 [(.t 70)], none⟩,
           ⟨(some 72), .app 1 1 (.t 69) (.t 71), none⟩,
           ⟨(some 3), .mov (.t 63), none⟩,
           ⟨(some 4), .mov (.t 64), none⟩,
           ⟨(some 5), .mov (.t 68), none⟩,
           ⟨(some 6), .mov (.t 72), none⟩])
         .skip))))))
      (.rg [⟨(some 73), .bin .add (.t 38) (.c (.p (.int .i64 1))), none⟩,
        ⟨(some 38), .mov (.t 73), none⟩]))))))) c3T0)))))) := rfl
/-- What follows the loop of block 6. -/
def c7T6 : DC :=
  (.seq (.rg [⟨(some 115), .mov (.t 2), none⟩,
      ⟨(some 116), .mov (.t 3), none⟩,
      ⟨(some 117), .mov (.t 4), none⟩,
      ⟨(some 118), .mov (.t 5), none⟩,
      ⟨(some 119), .mov (.t 6), none⟩,
      ⟨(some 2), .mov (.t 115), none⟩,
      ⟨(some 3), .mov (.t 116), none⟩,
      ⟨(some 4), .mov (.t 117), none⟩,
      ⟨(some 5), .mov (.t 118), none⟩,
      ⟨(some 6), .mov (.t 119), none⟩,
      ⟨(some 7), .mov (.c (.p (.bool true))), none⟩]) .ret)
/-- What follows the loop of block 4. -/
def c7T4 : DC :=
  (.seq (.seq (.rg [⟨(some 99), .mov (.t 8), none⟩,
      ⟨(some 100), .nilchk .ptr (.t 99), none⟩,
      ⟨(some 101), .faddr false 2 1 (.t 100), none⟩,
      ⟨(some 102), .load false 1 (.t 101), none⟩,
      ⟨(some 103), .lenl (.t 102), none⟩,
      ⟨(some 104), .mov (.c (.p (.int .i64 0))), none⟩])
    (.block 6 (.loop (.seq (.rg [⟨(some 105), .bin .lss (.t 104) (.t 103), none⟩])
      (.seq (.cond (.t 105) .skip
        (.exit 6))
      (.seq (.block 7 (.seq (.rg [⟨(some 106), .iaddr 9 (.t 102) (.t 104), none⟩,
         ⟨(some 107), .load true 9 (.t 106), none⟩,
         ⟨(some 18), .alloc 9 (.agg [.p (.string ⟨#[]⟩), .p (.string ⟨#[]⟩), .p (.string ⟨#[]⟩), .p (.string ⟨#[]⟩), .p (.string ⟨#[]⟩), .p (.string ⟨#[]⟩), .p (.slice none 0 0), .p (.pointer none), .p (.string ⟨#[]⟩)]), none⟩,
         ⟨none, .store 9 (.t 18) (.t 107), none⟩])
       (.rg [⟨(some 108), .mov (.t 6), none⟩,
         ⟨(some 109), .faddr true 0 8 (.t 18), none⟩,
         ⟨(some 110), .load true 8 (.t 109), none⟩,
         ⟨(some 111), .callr 17 [(.c (.p (.int .i64 2))), (.t 110)], none⟩,
         ⟨(some 112), .lit 9 [(.t 111)], none⟩,
         ⟨(some 113), .app 9 160 (.t 108) (.t 112), none⟩,
         ⟨(some 6), .mov (.t 113), none⟩])))
      (.rg [⟨(some 114), .bin .add (.t 104) (.c (.p (.int .i64 1))), none⟩,
        ⟨(some 104), .mov (.t 114), none⟩]))))))) c7T6)
/-- What follows the loop of block 2. -/
def c7T2 : DC :=
  (.seq (.seq (.rg [⟨(some 83), .mov (.t 8), none⟩,
      ⟨(some 84), .nilchk .ptr (.t 83), none⟩,
      ⟨(some 85), .faddr false 4 1 (.t 84), none⟩,
      ⟨(some 86), .load false 1 (.t 85), none⟩,
      ⟨(some 87), .lenl (.t 86), none⟩,
      ⟨(some 88), .mov (.c (.p (.int .i64 0))), none⟩])
    (.block 4 (.loop (.seq (.rg [⟨(some 89), .bin .lss (.t 88) (.t 87), none⟩])
      (.seq (.cond (.t 89) .skip
        (.exit 4))
      (.seq (.block 5 (.seq (.rg [⟨(some 90), .iaddr 9 (.t 86) (.t 88), none⟩,
         ⟨(some 91), .load true 9 (.t 90), none⟩,
         ⟨(some 16), .alloc 9 (.agg [.p (.string ⟨#[]⟩), .p (.string ⟨#[]⟩), .p (.string ⟨#[]⟩), .p (.string ⟨#[]⟩), .p (.string ⟨#[]⟩), .p (.string ⟨#[]⟩), .p (.slice none 0 0), .p (.pointer none), .p (.string ⟨#[]⟩)]), none⟩,
         ⟨none, .store 9 (.t 16) (.t 91), none⟩])
       (.rg [⟨(some 92), .mov (.t 5), none⟩,
         ⟨(some 93), .faddr true 0 8 (.t 16), none⟩,
         ⟨(some 94), .load true 8 (.t 93), none⟩,
         ⟨(some 95), .callr 17 [(.c (.p (.int .i64 1))), (.t 94)], none⟩,
         ⟨(some 96), .lit 9 [(.t 95)], none⟩,
         ⟨(some 97), .app 9 160 (.t 92) (.t 96), none⟩,
         ⟨(some 5), .mov (.t 97), none⟩])))
      (.rg [⟨(some 98), .bin .add (.t 88) (.c (.p (.int .i64 1))), none⟩,
        ⟨(some 88), .mov (.t 98), none⟩]))))))) c7T4)
/-- What follows the loop of block 0. -/
def c7T0 : DC :=
  (.seq (.seq (.rg [⟨(some 67), .mov (.t 8), none⟩,
      ⟨(some 68), .nilchk .ptr (.t 67), none⟩,
      ⟨(some 69), .faddr false 3 1 (.t 68), none⟩,
      ⟨(some 70), .load false 1 (.t 69), none⟩,
      ⟨(some 71), .lenl (.t 70), none⟩,
      ⟨(some 72), .mov (.c (.p (.int .i64 0))), none⟩])
    (.block 2 (.loop (.seq (.rg [⟨(some 73), .bin .lss (.t 72) (.t 71), none⟩])
      (.seq (.cond (.t 73) .skip
        (.exit 2))
      (.seq (.block 3 (.seq (.rg [⟨(some 74), .iaddr 9 (.t 70) (.t 72), none⟩,
         ⟨(some 75), .load true 9 (.t 74), none⟩,
         ⟨(some 14), .alloc 9 (.agg [.p (.string ⟨#[]⟩), .p (.string ⟨#[]⟩), .p (.string ⟨#[]⟩), .p (.string ⟨#[]⟩), .p (.string ⟨#[]⟩), .p (.string ⟨#[]⟩), .p (.slice none 0 0), .p (.pointer none), .p (.string ⟨#[]⟩)]), none⟩,
         ⟨none, .store 9 (.t 14) (.t 75), none⟩])
       (.rg [⟨(some 76), .mov (.t 4), none⟩,
         ⟨(some 77), .faddr true 0 8 (.t 14), none⟩,
         ⟨(some 78), .load true 8 (.t 77), none⟩,
         ⟨(some 79), .callr 17 [(.c (.p (.int .i64 0))), (.t 78)], none⟩,
         ⟨(some 80), .lit 9 [(.t 79)], none⟩,
         ⟨(some 81), .app 9 160 (.t 76) (.t 80), none⟩,
         ⟨(some 4), .mov (.t 81), none⟩])))
      (.rg [⟨(some 82), .bin .add (.t 72) (.c (.p (.int .i64 1))), none⟩,
        ⟨(some 72), .mov (.t 82), none⟩]))))))) c7T2)
theorem c7_cut : c7 =
  (.seq (.rg [⟨(some 2), .mov (.c (.p (.slice none 0 0))), none⟩,
      ⟨(some 3), .mov (.c (.p (.slice none 0 0))), none⟩,
      ⟨(some 4), .mov (.c (.p (.slice none 0 0))), none⟩,
      ⟨(some 5), .mov (.c (.p (.slice none 0 0))), none⟩,
      ⟨(some 6), .mov (.c (.p (.slice none 0 0))), none⟩,
      ⟨(some 7), .mov (.c (.p (.bool false))), none⟩]) (.seq (.rg [⟨(some 19), .bld [.p (.string ⟨#[]⟩), .p (.string ⟨#[]⟩), .p (.slice none 0 0), .p (.slice none 0 0), .p (.slice none 0 0)] [], none⟩,
      ⟨(some 20), .box (.t 19), none⟩,
      ⟨(some 8), .mov (.t 20), none⟩]) (.seq (.seq (.rg [⟨(some 21), .mov (.t 0), none⟩,
      ⟨(some 22), .lenl (.t 21), none⟩,
      ⟨(some 23), .mov (.c (.p (.int .i64 0))), none⟩])
    (.block 0 (.loop (.seq (.rg [⟨(some 24), .bin .lss (.t 23) (.t 22), none⟩])
      (.seq (.cond (.t 24) .skip
        (.exit 0))
      (.seq (.block 1 (.seq (.rg [⟨(some 25), .iaddr 10 (.t 21) (.t 23), none⟩,
         ⟨(some 26), .load true 10 (.t 25), none⟩,
         ⟨(some 10), .alloc 10 (.agg [.p (.int .i64 0), .p (.int .i64 0), .p (.string ⟨#[]⟩), .p (.string ⟨#[]⟩), .p (.string ⟨#[]⟩), .p (.string ⟨#[]⟩), .p (.string ⟨#[]⟩), .p (.slice none 0 0), .p (.slice none 0 0), .p (.slice none 0 0)]), none⟩,
         ⟨none, .store 10 (.t 10) (.t 26), none⟩])
       (.seq (.seq (.rg [⟨(some 27), .faddr false 0 1 (.t 10), none⟩,
         ⟨(some 28), .load false 1 (.t 27), none⟩,
         ⟨(some 29), .bin .lss (.t 28) (.c (.p (.int .i64 0))), none⟩,
         ⟨(some 30), .mov (.t 29), none⟩,
         ⟨(some 31), .faddr false 0 1 (.t 10), (some (30, false))⟩,
         ⟨(some 32), .load false 1 (.t 31), (some (30, false))⟩,
         ⟨(some 33), .bin .gtr (.t 32) (.c (.p (.int .i64 2))), (some (30, false))⟩,
         ⟨(some 34), .pick (.t 30) (.c (.p (.bool true))) (.t 33), none⟩,
         ⟨(some 35), .mov (.t 34), none⟩,
         ⟨(some 36), .faddr true 1 9 (.t 10), (some (35, false))⟩,
         ⟨(some 37), .faddr false 0 1 (.t 36), (some (35, false))⟩,
         ⟨(some 38), .load false 1 (.t 37), (some (35, false))⟩,
         ⟨(some 39), .bin .lss (.t 38) (.c (.p (.int .i64 0))), (some (35, false))⟩,
         ⟨(some 40), .pick (.t 35) (.c (.p (.bool true))) (.t 39), none⟩,
         ⟨(some 41), .mov (.t 40), none⟩,
         ⟨(some 42), .faddr true 1 9 (.t 10), (some (41, false))⟩,
         ⟨(some 43), .faddr false 0 1 (.t 42), (some (41, false))⟩,
         ⟨(some 44), .load false 1 (.t 43), (some (41, false))⟩,
         ⟨(some 45), .bin .gtr (.t 44) (.c (.p (.int .i64 2))), (some (41, false))⟩,
         ⟨(some 46), .pick (.t 41) (.c (.p (.bool true))) (.t 45), none⟩,
         ⟨(some 47), .mov (.t 46), none⟩,
         ⟨(some 48), .mov (.t 0), (some (47, false))⟩,
         ⟨(some 49), .lenl (.t 48), (some (47, false))⟩,
         ⟨(some 50), .bin .gtr (.t 49) (.c (.p (.int .i64 200))), (some (47, false))⟩,
         ⟨(some 51), .pick (.t 47) (.c (.p (.bool true))) (.t 50), none⟩])
       (.cond (.t 51) (.seq (.rg [⟨(some 2), .mov (.c (.p (.slice none 0 0))), none⟩,
           ⟨(some 3), .mov (.c (.p (.slice none 0 0))), none⟩,
           ⟨(some 4), .mov (.c (.p (.slice none 0 0))), none⟩,
           ⟨(some 5), .mov (.c (.p (.slice none 0 0))), none⟩,
           ⟨(some 6), .mov (.c (.p (.slice none 0 0))), none⟩,
           ⟨(some 7), .mov (.c (.p (.bool false))), none⟩])
         .ret)
         .skip))
       (.seq (.rg [⟨(some 53), .mov (.t 8), none⟩,
         ⟨(some 54), .load true 10 (.t 10), none⟩,
         ⟨(some 55), .callr 16 [(.t 53), (.t 54)], none⟩,
         ⟨(some 52), .mov (.t 55), none⟩,
         ⟨(some 56), .ext (.t 52) 0, none⟩,
         ⟨(some 57), .ext (.t 52) 1, none⟩,
         ⟨(some 11), .mov (.t 56), none⟩,
         ⟨(some 12), .mov (.t 57), none⟩])
       (.rg [⟨(some 58), .mov (.t 2), none⟩,
         ⟨(some 59), .mov (.t 11), none⟩,
         ⟨(some 60), .lit 1 [(.t 59)], none⟩,
         ⟨(some 61), .app 1 1 (.t 58) (.t 60), none⟩,
         ⟨(some 62), .mov (.t 3), none⟩,
         ⟨(some 63), .mov (.t 12), none⟩,
         ⟨(some 64), .lit 1 [(.t 63)], none⟩,
         ⟨(some 65), .app 1 1 (.t 62) (.t 64), none⟩,
         ⟨(some 2), .mov (.t 61), none⟩,
         ⟨(some 3), .mov (.t 65), none⟩])))))
      (.rg [⟨(some 66), .bin .add (.t 23) (.c (.p (.int .i64 1))), none⟩,
        ⟨(some 23), .mov (.t 66), none⟩]))))))) c7T0))) := rfl
/-- What follows the loop of block 2. -/
def c17T2 : DC :=
  (.seq (.rg [⟨(some 65), .load true 9 (.t 5), none⟩,
      ⟨none, .store 9 (.t 4) (.t 65), none⟩]) .ret)
/-- What follows the loop of block 0. -/
def c17T0 : DC :=
  (.seq (.seq (.rg [⟨(some 29), .faddr false 7 1 (.t 3), none⟩,
      ⟨(some 30), .load false 1 (.t 29), none⟩,
      ⟨(some 31), .eqn false .ptr (.t 30), none⟩])
    (.cond (.t 31) (.seq (.rg [⟨(some 32), .load true 9 (.t 5), none⟩,
        ⟨none, .store 9 (.t 4) (.t 32), none⟩])
      .ret)
      .skip)) (.seq (.seq (.rg [⟨(some 33), .faddr false 7 1 (.t 3), none⟩,
      ⟨(some 34), .load false 1 (.t 33), none⟩,
      ⟨(some 35), .nilchk .ptr (.t 34), none⟩,
      ⟨(some 36), .faddr true 0 1 (.t 35), none⟩,
      ⟨(some 37), .faddr false 0 1 (.t 36), none⟩,
      ⟨(some 38), .load false 1 (.t 37), none⟩,
      ⟨(some 39), .lenl (.t 38), none⟩,
      ⟨(some 40), .mov (.c (.p (.int .i64 0))), none⟩])
    (.block 2 (.loop (.seq (.rg [⟨(some 41), .bin .lss (.t 40) (.t 39), none⟩])
      (.seq (.cond (.t 41) .skip
        (.exit 2))
      (.seq (.block 3 (.seq (.rg [⟨(some 42), .iaddr 2 (.t 38) (.t 40), none⟩,
         ⟨(some 43), .load true 2 (.t 42), none⟩,
         ⟨(some 9), .alloc 2 (.agg [.p (.string ⟨#[]⟩), .p (.string ⟨#[]⟩)]), none⟩,
         ⟨none, .store 2 (.t 9) (.t 43), none⟩])
       (.seq (.rg [⟨(some 44), .faddr false 0 1 (.t 9), none⟩,
         ⟨(some 45), .load false 1 (.t 44), none⟩])
       (.block 4 (.seq (.rg [⟨(some 47), .bin .eql (.t 45) (.c (.p (.string ⟨#[112, 114, 101, 102, 105, 120]⟩))), none⟩,
          ⟨(some 46), .mov (.t 47), none⟩])
        (.cond (.t 46) (.rg [⟨(some 48), .faddr false 7 1 (.t 5), none⟩,
            ⟨(some 49), .load false 1 (.t 48), none⟩,
            ⟨(some 50), .faddr false 1 1 (.t 9), none⟩,
            ⟨(some 51), .load false 1 (.t 50), none⟩,
            ⟨(some 52), .lit 1 [(.t 51)], none⟩,
            ⟨(some 53), .app 1 16 (.t 49) (.t 52), none⟩,
            ⟨(some 54), .faddr false 7 1 (.t 5), none⟩,
            ⟨none, .store 1 (.t 54) (.t 53), none⟩])
          (.seq (.rg [⟨(some 56), .bin .eql (.t 45) (.c (.p (.string ⟨#[115, 117, 102, 102, 105, 120]⟩))), none⟩,
            ⟨(some 55), .mov (.t 56), none⟩])
          (.cond (.t 55) (.rg [⟨(some 57), .faddr false 8 1 (.t 5), none⟩,
              ⟨(some 58), .load false 1 (.t 57), none⟩,
              ⟨(some 59), .faddr false 1 1 (.t 9), none⟩,
              ⟨(some 60), .load false 1 (.t 59), none⟩,
              ⟨(some 61), .lit 1 [(.t 60)], none⟩,
              ⟨(some 62), .app 1 16 (.t 58) (.t 61), none⟩,
              ⟨(some 63), .faddr false 8 1 (.t 5), none⟩,
              ⟨none, .store 1 (.t 63) (.t 62), none⟩])
            .skip))))))))
      (.rg [⟨(some 64), .bin .add (.t 40) (.c (.p (.int .i64 1))), none⟩,
        ⟨(some 40), .mov (.t 64), none⟩]))))))) c17T2))
theorem c17_cut : c17 =
  (.seq (.rg [⟨(some 3), .box (.t 1), none⟩,
      ⟨(some 4), .alloc 9 (.agg [.p (.int .i64 0), .p (.string ⟨#[]⟩), .p (.string ⟨#[]⟩), .p (.string ⟨#[]⟩), .p (.string ⟨#[]⟩), .p (.string ⟨#[]⟩), .p (.slice none 0 0), .p (.slice none 0 0), .p (.slice none 0 0)]), none⟩]) (.seq (.rg [⟨(some 10), .mov (.t 0), none⟩,
      ⟨(some 11), .faddr true 1 5 (.t 3), none⟩,
      ⟨(some 12), .load true 5 (.t 11), none⟩,
      ⟨(some 13), .callr 33 [(.t 12)], none⟩,
      ⟨(some 14), .bld [.p (.int .i64 0), .p (.string ⟨#[]⟩), .p (.string ⟨#[]⟩), .p (.string ⟨#[]⟩), .p (.string ⟨#[]⟩), .p (.string ⟨#[]⟩), .p (.slice none 0 0), .p (.slice none 0 0), .p (.slice none 0 0)] [(0, 1, (.t 10)), (1, 5, (.t 13))], none⟩,
      ⟨(some 5), .alloc 9 (.agg [.p (.int .i64 0), .p (.string ⟨#[]⟩), .p (.string ⟨#[]⟩), .p (.string ⟨#[]⟩), .p (.string ⟨#[]⟩), .p (.string ⟨#[]⟩), .p (.slice none 0 0), .p (.slice none 0 0), .p (.slice none 0 0)]), none⟩,
      ⟨none, .store 9 (.t 5) (.t 14), none⟩]) (.seq (.seq (.rg [⟨(some 15), .faddr false 6 1 (.t 3), none⟩,
      ⟨(some 16), .load false 1 (.t 15), none⟩,
      ⟨(some 17), .lenl (.t 16), none⟩,
      ⟨(some 18), .mov (.c (.p (.int .i64 0))), none⟩])
    (.block 0 (.loop (.seq (.rg [⟨(some 19), .bin .lss (.t 18) (.t 17), none⟩])
      (.seq (.cond (.t 19) .skip
        (.exit 0))
      (.seq (.block 1 (.seq (.rg [⟨(some 20), .iaddr 1 (.t 16) (.t 18), none⟩,
         ⟨(some 21), .load false 1 (.t 20), none⟩,
         ⟨(some 7), .mov (.t 21), none⟩])
       (.rg [⟨(some 22), .faddr false 6 1 (.t 5), none⟩,
         ⟨(some 23), .load false 1 (.t 22), none⟩,
         ⟨(some 24), .mov (.t 7), none⟩,
         ⟨(some 25), .lit 1 [(.t 24)], none⟩,
         ⟨(some 26), .app 1 16 (.t 23) (.t 25), none⟩,
         ⟨(some 27), .faddr false 6 1 (.t 5), none⟩,
         ⟨none, .store 1 (.t 27) (.t 26), none⟩])))
      (.rg [⟨(some 28), .bin .add (.t 18) (.c (.p (.int .i64 1))), none⟩,
        ⟨(some 18), .mov (.t 28), none⟩]))))))) c17T0))) := rfl
end Go.Proofs.Ythkgekkpnldbmaa
