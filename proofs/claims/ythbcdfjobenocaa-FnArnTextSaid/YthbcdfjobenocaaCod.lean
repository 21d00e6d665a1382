/- The codes of the functions, in the small language of Den. -/
import Derived.Test.YthbcdfjobenocaaDenXc
import Derived.Test.YthbcdfjobenocaaProg
set_option linter.unusedVariables false
set_option linter.unusedSimpArgs false
set_option maxRecDepth 100000
namespace Go.Proofs.Ythbcdfjobenocaa
open Go Go.Den Go.Proofs

/-- given.example/pub-assaymark/laws.FnPolValid -/
def c3 : DC :=
  (.seq (.rg [⟨(some 4), .mov (.c (.p (.bool false))), none⟩])
    (.seq (.seq (.rg [⟨(some 7), .mov (.t 1), none⟩,
      ⟨(some 8), .lens (.t 7), none⟩,
      ⟨(some 9), .bin .gtr (.t 8) (.c (.p (.int .i64 2147483647))), none⟩])
    (.cond (.t 9) (.seq (.rg [⟨(some 4), .mov (.c (.p (.bool true))), none⟩])
      .ret)
      .skip))
    (.seq (.rg [⟨(some 5), .mov (.c (.p (.bool false))), none⟩])
    (.seq (.seq (.rg [⟨(some 10), .mov (.c (.p (.int .i64 0))), none⟩])
    (.block 0 (.loop (.seq (.rg [⟨(some 11), .bin .lss (.t 10) (.c (.p (.int .i64 4))), none⟩])
      (.seq (.cond (.t 11) .skip
        (.exit 0))
      (.seq (.block 1 (.seq (.rg [⟨(some 12), .mov (.t 10), none⟩,
         ⟨(some 6), .mov (.t 12), none⟩])
       (.rg [⟨(some 13), .mov (.t 5), none⟩,
         ⟨(some 14), .mov (.t 13), none⟩,
         ⟨(some 15), .mov (.t 1), (some (14, false))⟩,
         ⟨(some 16), .mov (.t 6), (some (14, false))⟩,
         ⟨(some 17), .callr 9 [(.t 16)], (some (14, false))⟩,
         ⟨(some 18), .bin .eql (.t 15) (.t 17), (some (14, false))⟩,
         ⟨(some 19), .pick (.t 14) (.c (.p (.bool true))) (.t 18), none⟩,
         ⟨(some 5), .mov (.t 19), none⟩])))
      (.rg [⟨(some 20), .bin .add (.t 10) (.c (.p (.int .i64 1))), none⟩,
        ⟨(some 10), .mov (.t 20), none⟩])))))))
    (.seq (.rg [⟨(some 21), .mov (.t 0), none⟩,
      ⟨(some 22), .cint .i64 (.t 21), none⟩,
      ⟨(some 23), .callr 9 [(.t 22)], none⟩,
      ⟨(some 24), .callr 10 [(.t 23)], none⟩,
      ⟨(some 25), .mov (.t 24), none⟩,
      ⟨(some 26), .mov (.t 1), (some (25, true))⟩,
      ⟨(some 27), .callr 10 [(.t 26)], (some (25, true))⟩,
      ⟨(some 28), .mov (.t 5), (some (25, true))⟩,
      ⟨(some 29), .eqb false (.t 27) (.t 28), (some (25, true))⟩,
      ⟨(some 30), .pick (.t 25) (.t 29) (.c (.p (.bool false))), none⟩,
      ⟨(some 4), .mov (.t 30), none⟩])
    .ret)))))
def r3 : List DR := [.tmp 4]
theorem c3_ok : Try.f3.body.bind (cCode Try.prog) = some c3 := by kernel_rfl
theorem r3_ok : cRes Try.prog Try.f3.results.toList = some r3 := by kernel_rfl

/-- given.example/pub-assaymark/laws.FnEventsEqual -/
def c4 : DC :=
  (.seq (.rg [⟨(some 4), .mov (.c (.p (.bool false))), none⟩])
    (.seq (.seq (.rg [⟨(some 5), .mov (.t 0), none⟩,
      ⟨(some 6), .callr 11 [(.t 5)], none⟩,
      ⟨(some 7), .un .not (.t 6), none⟩,
      ⟨(some 8), .mov (.t 7), none⟩,
      ⟨(some 9), .mov (.t 1), (some (8, false))⟩,
      ⟨(some 10), .callr 11 [(.t 9)], (some (8, false))⟩,
      ⟨(some 11), .un .not (.t 10), (some (8, false))⟩,
      ⟨(some 12), .pick (.t 8) (.c (.p (.bool true))) (.t 11), none⟩])
    (.cond (.t 12) (.seq (.rg [⟨(some 4), .mov (.c (.p (.bool true))), none⟩])
      .ret)
      .skip))
    (.seq (.rg [⟨(some 13), .mov (.t 0), none⟩,
      ⟨(some 14), .callr 12 [(.t 13)], none⟩,
      ⟨(some 15), .mov (.t 1), none⟩,
      ⟨(some 16), .callr 12 [(.t 15)], none⟩,
      ⟨(some 0), .mov (.t 14), none⟩,
      ⟨(some 1), .mov (.t 16), none⟩])
    (.seq (.rg [⟨(some 17), .mov (.t 0), none⟩,
      ⟨(some 18), .mov (.t 1), none⟩,
      ⟨(some 19), .callr 13 [(.t 17), (.t 18)], none⟩,
      ⟨(some 20), .mov (.t 0), none⟩,
      ⟨(some 21), .mov (.t 1), none⟩,
      ⟨(some 22), .callr 14 [(.t 20), (.t 21)], none⟩,
      ⟨(some 23), .eqb false (.t 19) (.t 22), none⟩,
      ⟨(some 24), .mov (.t 23), none⟩,
      ⟨(some 25), .mov (.t 0), (some (24, true))⟩,
      ⟨(some 26), .mov (.t 0), (some (24, true))⟩,
      ⟨(some 27), .callr 13 [(.t 25), (.t 26)], (some (24, true))⟩,
      ⟨(some 28), .pick (.t 24) (.t 27) (.c (.p (.bool false))), none⟩,
      ⟨(some 4), .mov (.t 28), none⟩])
    .ret))))
def r4 : List DR := [.tmp 4]
theorem c4_ok : Try.f4.body.bind (cCode Try.prog) = some c4 := by kernel_rfl
theorem r4_ok : cRes Try.prog Try.f4.results.toList = some r4 := by kernel_rfl

/-- given.example/pub-assaymark/laws.FnRulesEqual -/
def c5 : DC :=
  (.seq (.rg [⟨(some 4), .mov (.c (.p (.bool false))), none⟩])
    (.seq (.seq (.rg [⟨(some 7), .mov (.t 0), none⟩,
      ⟨(some 8), .lenl (.t 7), none⟩,
      ⟨(some 9), .bin .gtr (.t 8) (.c (.p (.int .i64 2147483647))), none⟩,
      ⟨(some 10), .mov (.t 9), none⟩,
      ⟨(some 11), .mov (.t 1), (some (10, false))⟩,
      ⟨(some 12), .lenl (.t 11), (some (10, false))⟩,
      ⟨(some 13), .bin .gtr (.t 12) (.c (.p (.int .i64 2147483647))), (some (10, false))⟩,
      ⟨(some 14), .pick (.t 10) (.c (.p (.bool true))) (.t 13), none⟩])
    (.cond (.t 14) (.seq (.rg [⟨(some 4), .mov (.c (.p (.bool true))), none⟩])
      .ret)
      .skip))
    (.seq (.rg [⟨(some 15), .mov (.t 0), none⟩,
      ⟨(some 16), .callr 15 [(.t 15)], none⟩,
      ⟨(some 17), .mov (.t 1), none⟩,
      ⟨(some 18), .callr 15 [(.t 17)], none⟩,
      ⟨(some 5), .mov (.t 16), none⟩,
      ⟨(some 6), .mov (.t 18), none⟩])
    (.seq (.rg [⟨(some 19), .mov (.t 5), none⟩,
      ⟨(some 20), .mov (.t 6), none⟩,
      ⟨(some 21), .callr 16 [(.t 19), (.t 20)], none⟩,
      ⟨(some 22), .mov (.t 5), none⟩,
      ⟨(some 23), .callr 17 [(.t 22)], none⟩,
      ⟨(some 24), .mov (.t 6), none⟩,
      ⟨(some 25), .callr 17 [(.t 24)], none⟩,
      ⟨(some 26), .callr 14 [(.t 23), (.t 25)], none⟩,
      ⟨(some 27), .eqb false (.t 21) (.t 26), none⟩,
      ⟨(some 28), .mov (.t 27), none⟩,
      ⟨(some 29), .mov (.t 5), (some (28, true))⟩,
      ⟨(some 30), .mov (.t 5), (some (28, true))⟩,
      ⟨(some 31), .callr 16 [(.t 29), (.t 30)], (some (28, true))⟩,
      ⟨(some 32), .pick (.t 28) (.t 31) (.c (.p (.bool false))), none⟩,
      ⟨(some 4), .mov (.t 32), none⟩])
    .ret))))
def r5 : List DR := [.tmp 4]
theorem c5_ok : Try.f5.body.bind (cCode Try.prog) = some c5 := by kernel_rfl
theorem r5_ok : cRes Try.prog Try.f5.results.toList = some r5 := by kernel_rfl

/-- given.example/pub-assaymark/laws.FnArnRead -/
def c6 : DC :=
  (.seq (.rg [⟨(some 2), .mov (.c (.p (.bool false))), none⟩])
    (.seq (.seq (.rg [⟨(some 10), .mov (.t 0), none⟩,
      ⟨(some 11), .lens (.t 10), none⟩,
      ⟨(some 12), .bin .gtr (.t 11) (.c (.p (.int .i64 2147483647))), none⟩])
    (.cond (.t 12) (.seq (.rg [⟨(some 2), .mov (.c (.p (.bool true))), none⟩])
      .ret)
      .skip))
    (.seq (.rg [⟨(some 13), .mov (.t 0), none⟩,
      ⟨(some 14), .mov (.t 0), none⟩,
      ⟨(some 15), .lens (.t 14), none⟩,
      ⟨(some 16), .mm false (.t 15) (.c (.p (.int .i64 60))), none⟩,
      ⟨(some 17), .slcs (.t 13) none (some (.t 16)), none⟩,
      ⟨(some 0), .mov (.t 17), none⟩])
    (.seq (.rg [⟨(some 19), .mov (.t 0), none⟩,
      ⟨(some 20), .callr 18 [(.t 19)], none⟩,
      ⟨(some 18), .mov (.t 20), none⟩,
      ⟨(some 21), .ext (.t 18) 0, none⟩,
      ⟨(some 22), .ext (.t 18) 1, none⟩,
      ⟨(some 23), .ext (.t 18) 2, none⟩,
      ⟨(some 3), .alloc 5 (.agg [.p (.string ⟨#[]⟩), .p (.string ⟨#[]⟩), .p (.string ⟨#[]⟩), .p (.string ⟨#[]⟩), .p (.string ⟨#[]⟩)]), none⟩,
      ⟨none, .store 5 (.t 3) (.t 21), none⟩,
      ⟨(some 4), .mov (.t 22), none⟩,
      ⟨(some 5), .mov (.t 23), none⟩])
    (.seq (.rg [⟨(some 25), .callr 18 [(.c (.p (.string ⟨#[97, 114, 110, 58, 97, 58, 98, 58, 99, 58, 100, 58, 101]⟩)))], none⟩,
      ⟨(some 24), .mov (.t 25), none⟩,
      ⟨(some 26), .ext (.t 24) 0, none⟩,
      ⟨(some 27), .ext (.t 24) 1, none⟩,
      ⟨(some 28), .ext (.t 24) 2, none⟩,
      ⟨(some 6), .alloc 5 (.agg [.p (.string ⟨#[]⟩), .p (.string ⟨#[]⟩), .p (.string ⟨#[]⟩), .p (.string ⟨#[]⟩), .p (.string ⟨#[]⟩)]), none⟩,
      ⟨none, .store 5 (.t 6) (.t 26), none⟩,
      ⟨(some 7), .mov (.t 27), none⟩,
      ⟨(some 8), .mov (.t 28), none⟩])
    (.seq (.seq (.rg [⟨(some 29), .mov (.t 7), none⟩,
      ⟨(some 30), .un .not (.t 29), none⟩,
      ⟨(some 31), .mov (.t 30), none⟩,
      ⟨(some 32), .faddr false 4 1 (.t 6), (some (31, false))⟩,
      ⟨(some 33), .load false 1 (.t 32), (some (31, false))⟩,
      ⟨(some 34), .bin .neq (.t 33) (.c (.p (.string ⟨#[101]⟩))), (some (31, false))⟩,
      ⟨(some 35), .pick (.t 31) (.c (.p (.bool true))) (.t 34), none⟩])
    (.cond (.t 35) (.seq (.rg [⟨(some 2), .mov (.c (.p (.bool false))), none⟩])
      .ret)
      .skip))
    (.seq (.rg [⟨(some 36), .mov (.t 0), none⟩,
      ⟨(some 37), .callr 19 [(.t 36)], none⟩,
      ⟨(some 9), .mov (.t 37), none⟩])
    (.seq (.seq (.rg [⟨(some 38), .mov (.t 0), none⟩,
      ⟨(some 39), .lens (.t 38), none⟩,
      ⟨(some 40), .bin .lss (.t 39) (.c (.p (.int .i64 4))), none⟩,
      ⟨(some 41), .mov (.t 40), none⟩,
      ⟨(some 42), .mov (.t 0), (some (41, false))⟩,
      ⟨(some 43), .slcs (.t 42) none (some (.c (.p (.int .i64 4)))), (some (41, false))⟩,
      ⟨(some 44), .bin .neq (.t 43) (.c (.p (.string ⟨#[97, 114, 110, 58]⟩))), (some (41, false))⟩,
      ⟨(some 45), .pick (.t 41) (.c (.p (.bool true))) (.t 44), none⟩])
    (.cond (.t 45) (.seq (.rg [⟨(some 46), .mov (.t 0), none⟩,
        ⟨(some 47), .lens (.t 46), none⟩,
        ⟨(some 48), .bin .geq (.t 47) (.c (.p (.int .i64 3))), none⟩,
        ⟨(some 49), .mov (.t 48), none⟩,
        ⟨(some 50), .mov (.t 0), (some (49, true))⟩,
        ⟨(some 51), .slcs (.t 50) none (some (.c (.p (.int .i64 3)))), (some (49, true))⟩,
        ⟨(some 52), .bin .eql (.t 51) (.c (.p (.string ⟨#[97, 114, 110]⟩))), (some (49, true))⟩,
        ⟨(some 53), .pick (.t 49) (.t 52) (.c (.p (.bool false))), none⟩,
        ⟨(some 54), .mov (.t 53), none⟩,
        ⟨(some 55), .mov (.t 4), (some (54, false))⟩,
        ⟨(some 56), .un .not (.t 55), (some (54, false))⟩,
        ⟨(some 57), .mov (.t 56), (some (54, false))⟩,
        ⟨(some 58), .mov (.t 5), (some (57, true))⟩,
        ⟨(some 59), .mov (.t 58), (some (57, true))⟩,
        ⟨(some 60), .mov (.t 9), (some (59, false))⟩,
        ⟨(some 61), .lenl (.t 60), (some (59, false))⟩,
        ⟨(some 62), .bin .neq (.t 61) (.c (.p (.int .i64 6))), (some (59, false))⟩,
        ⟨(some 63), .pick (.t 59) (.c (.p (.bool true))) (.t 62), (some (57, true))⟩,
        ⟨(some 64), .pick (.t 57) (.t 63) (.c (.p (.bool false))), (some (54, false))⟩,
        ⟨(some 65), .pick (.t 54) (.c (.p (.bool true))) (.t 64), none⟩,
        ⟨(some 2), .mov (.t 65), none⟩])
      .ret)
      .skip))
    (.seq (.seq (.rg [⟨(some 66), .mov (.t 9), none⟩,
      ⟨(some 67), .lenl (.t 66), none⟩,
      ⟨(some 68), .bin .gtr (.t 67) (.c (.p (.int .i64 6))), none⟩])
    (.cond (.t 68) (.seq (.rg [⟨(some 2), .mov (.c (.p (.bool true))), none⟩])
      .ret)
      .skip))
    (.seq (.seq (.rg [⟨(some 69), .mov (.t 9), none⟩,
      ⟨(some 70), .lenl (.t 69), none⟩,
      ⟨(some 71), .bin .lss (.t 70) (.c (.p (.int .i64 6))), none⟩])
    (.cond (.t 71) (.seq (.rg [⟨(some 72), .mov (.t 4), none⟩,
        ⟨(some 73), .un .not (.t 72), none⟩,
        ⟨(some 74), .mov (.t 73), none⟩,
        ⟨(some 75), .mov (.t 5), (some (74, true))⟩,
        ⟨(some 76), .un .not (.t 75), (some (74, true))⟩,
        ⟨(some 77), .pick (.t 74) (.t 76) (.c (.p (.bool false))), none⟩,
        ⟨(some 2), .mov (.t 77), none⟩])
      .ret)
      .skip))
    (.seq (.rgd [⟨⟨(some 78), .mov (.t 4), none⟩, 0, []⟩,
      ⟨⟨(some 79), .mov (.t 78), none⟩, 0, []⟩,
      ⟨⟨(some 80), .load true 5 (.t 3), (some (79, true))⟩, 0, [0]⟩,
      ⟨⟨(some 81), .mov (.t 9), (some (79, true))⟩, 0, [0]⟩,
      ⟨⟨(some 82), .iaddr 1 (.t 81) (.c (.p (.int .i64 1))), (some (79, true))⟩, 0, [0]⟩,
      ⟨⟨(some 83), .load false 1 (.t 82), (some (79, true))⟩, 0, [0]⟩,
      ⟨⟨(some 84), .mov (.t 9), (some (79, true))⟩, 0, [0]⟩,
      ⟨⟨(some 85), .iaddr 1 (.t 84) (.c (.p (.int .i64 2))), (some (79, true))⟩, 0, [0]⟩,
      ⟨⟨(some 86), .load false 1 (.t 85), (some (79, true))⟩, 0, [0]⟩,
      ⟨⟨(some 87), .mov (.t 9), (some (79, true))⟩, 0, [0]⟩,
      ⟨⟨(some 88), .iaddr 1 (.t 87) (.c (.p (.int .i64 3))), (some (79, true))⟩, 0, [0]⟩,
      ⟨⟨(some 89), .load false 1 (.t 88), (some (79, true))⟩, 0, [0]⟩,
      ⟨⟨(some 90), .mov (.t 9), (some (79, true))⟩, 0, [0]⟩,
      ⟨⟨(some 91), .iaddr 1 (.t 90) (.c (.p (.int .i64 4))), (some (79, true))⟩, 0, [0]⟩,
      ⟨⟨(some 92), .load false 1 (.t 91), (some (79, true))⟩, 0, [0]⟩,
      ⟨⟨(some 93), .mov (.t 9), (some (79, true))⟩, 0, [0]⟩,
      ⟨⟨(some 94), .iaddr 1 (.t 93) (.c (.p (.int .i64 5))), (some (79, true))⟩, 0, [0]⟩,
      ⟨⟨(some 95), .load false 1 (.t 94), (some (79, true))⟩, 0, [0]⟩,
      ⟨⟨(some 96), .bld [.p (.string ⟨#[]⟩), .p (.string ⟨#[]⟩), .p (.string ⟨#[]⟩), .p (.string ⟨#[]⟩), .p (.string ⟨#[]⟩)] [(0, 1, (.t 83)), (1, 1, (.t 86)), (2, 1, (.t 89)), (3, 1, (.t 92)), (4, 1, (.t 95))], (some (79, true))⟩, 0, [0]⟩,
      ⟨⟨(some 97), .eqs false [.str, .str, .str, .str, .str] (.t 80) (.t 96), (some (79, true))⟩, 0, []⟩,
      ⟨⟨(some 98), .pick (.t 79) (.t 97) (.c (.p (.bool false))), none⟩, 0, []⟩,
      ⟨⟨(some 2), .mov (.t 98), none⟩, 0, []⟩])
    .ret)))))))))))
def r6 : List DR := [.tmp 2]
theorem c6_ok : Try.f6.body.bind (cCode Try.prog) = some c6 := by kernel_rfl
theorem r6_ok : cRes Try.prog Try.f6.results.toList = some r6 := by kernel_rfl

/-- given.example/pub-assaymark/laws.FnArnText -/
def c7 : DC :=
  (.seq (.rg [⟨(some 1), .box (.t 0), none⟩,
      ⟨(some 2), .mov (.c (.p (.bool false))), none⟩])
    (.seq (.seq (.rg [⟨(some 7), .load true 5 (.t 1), none⟩,
      ⟨(some 8), .callr 20 [(.t 7)], none⟩,
      ⟨(some 9), .un .not (.t 8), none⟩])
    (.cond (.t 9) (.seq (.rg [⟨(some 2), .mov (.c (.p (.bool true))), none⟩])
      .ret)
      .skip))
    (.seq (.rg [⟨(some 10), .load true 5 (.t 1), none⟩,
      ⟨(some 11), .callr 21 [(.t 10)], none⟩,
      ⟨none, .store 5 (.t 1) (.t 11), none⟩])
    (.seq (.rg [⟨(some 12), .load true 5 (.t 1), none⟩,
      ⟨(some 13), .callr 22 [(.t 12)], none⟩,
      ⟨(some 3), .mov (.t 13), none⟩])
    (.seq (.rg [⟨(some 15), .mov (.t 3), none⟩,
      ⟨(some 16), .callr 18 [(.t 15)], none⟩,
      ⟨(some 14), .mov (.t 16), none⟩,
      ⟨(some 17), .ext (.t 14) 0, none⟩,
      ⟨(some 18), .ext (.t 14) 1, none⟩,
      ⟨(some 19), .ext (.t 14) 2, none⟩,
      ⟨(some 4), .alloc 5 (.agg [.p (.string ⟨#[]⟩), .p (.string ⟨#[]⟩), .p (.string ⟨#[]⟩), .p (.string ⟨#[]⟩), .p (.string ⟨#[]⟩)]), none⟩,
      ⟨none, .store 5 (.t 4) (.t 17), none⟩,
      ⟨(some 5), .mov (.t 18), none⟩,
      ⟨(some 6), .mov (.t 19), none⟩])
    (.seq (.rg [⟨(some 20), .mov (.t 3), none⟩,
      ⟨(some 21), .load true 5 (.t 1), none⟩,
      ⟨(some 22), .callr 23 [(.t 21)], none⟩,
      ⟨(some 23), .bin .eql (.t 20) (.t 22), none⟩,
      ⟨(some 24), .mov (.t 23), none⟩,
      ⟨(some 25), .mov (.t 5), (some (24, true))⟩,
      ⟨(some 26), .pick (.t 24) (.t 25) (.c (.p (.bool false))), none⟩,
      ⟨(some 27), .mov (.t 26), none⟩,
      ⟨(some 28), .load true 5 (.t 4), (some (27, true))⟩,
      ⟨(some 29), .load true 5 (.t 1), (some (27, true))⟩,
      ⟨(some 30), .eqs false [.str, .str, .str, .str, .str] (.t 28) (.t 29), (some (27, true))⟩,
      ⟨(some 31), .pick (.t 27) (.t 30) (.c (.p (.bool false))), none⟩,
      ⟨(some 2), .mov (.t 31), none⟩])
    .ret))))))
def r7 : List DR := [.tmp 2]
theorem c7_ok : Try.f7.body.bind (cCode Try.prog) = some c7 := by kernel_rfl
theorem r7_ok : cRes Try.prog Try.f7.results.toList = some r7 := by kernel_rfl

/-- given.example/pub-assaymark/spec.PolWord -/
def c9 : DC :=
  (.seq (.rg [⟨(some 2), .mov (.c (.p (.string ⟨#[]⟩))), none⟩])
    (.seq (.rg [⟨(some 3), .bld [.p (.string ⟨#[]⟩), .p (.string ⟨#[]⟩), .p (.string ⟨#[]⟩), .p (.string ⟨#[]⟩)] [(0, 1, (.c (.p (.string ⟨#[110, 111, 110, 101]⟩)))), (1, 1, (.c (.p (.string ⟨#[114, 101, 97, 100, 111, 110, 108, 121]⟩)))), (2, 1, (.c (.p (.string ⟨#[119, 114, 105, 116, 101, 111, 110, 108, 121]⟩)))), (3, 1, (.c (.p (.string ⟨#[114, 101, 97, 100, 119, 114, 105, 116, 101]⟩))))], none⟩,
      ⟨(some 4), .mov (.t 0), none⟩,
      ⟨(some 5), .bin .and (.t 4) (.c (.p (.int .i64 3))), none⟩,
      ⟨(some 6), .idxa 4 1 false (.t 3) (.t 5), none⟩,
      ⟨(some 2), .mov (.t 6), none⟩])
    .ret))
def r9 : List DR := [.tmp 2]
theorem c9_ok : Try.f9.body.bind (cCode Try.prog) = some c9 := by kernel_rfl
theorem r9_ok : cRes Try.prog Try.f9.results.toList = some r9 := by kernel_rfl

/-- given.example/pub-assaymark/impl.PolValid -/
def c10 : DC :=
  (.seq (.rg [⟨(some 2), .mov (.c (.p (.bool false))), none⟩])
    (.seq (.rg [⟨(some 3), .mov (.t 0), none⟩,
      ⟨(some 4), .callr 30 [(.t 3)], none⟩,
      ⟨(some 2), .mov (.t 4), none⟩])
    .ret))
def r10 : List DR := [.tmp 2]
theorem c10_ok : Try.f10.body.bind (cCode Try.prog) = some c10 := by kernel_rfl
theorem r10_ok : cRes Try.prog Try.f10.results.toList = some r10 := by kernel_rfl

/-- given.example/pub-assaymark/laws.zzFits8 -/
def c11 : DC :=
  (.seq (.rg [⟨(some 2), .mov (.c (.p (.bool false))), none⟩])
    (.seq (.seq (.rg [⟨(some 5), .mov (.t 0), none⟩,
      ⟨(some 6), .lenl (.t 5), none⟩,
      ⟨(some 7), .bin .gtr (.t 6) (.c (.p (.int .i64 2147483647))), none⟩])
    (.cond (.t 7) (.seq (.rg [⟨(some 2), .mov (.c (.p (.bool false))), none⟩])
      .ret)
      .skip))
    (.seq (.seq (.rg [⟨(some 8), .mov (.t 0), none⟩,
      ⟨(some 9), .lenl (.t 8), none⟩,
      ⟨(some 10), .mov (.c (.p (.int .i64 0))), none⟩])
    (.block 0 (.loop (.seq (.rg [⟨(some 11), .bin .lss (.t 10) (.t 9), none⟩])
      (.seq (.cond (.t 11) .skip
        (.exit 0))
      (.seq (.block 1 (.seq (.rg [⟨(some 12), .iaddr 1 (.t 8) (.t 10), none⟩,
         ⟨(some 13), .load false 1 (.t 12), none⟩,
         ⟨(some 4), .mov (.t 13), none⟩])
       (.seq (.rg [⟨(some 14), .mov (.t 4), none⟩,
         ⟨(some 15), .lens (.t 14), none⟩,
         ⟨(some 16), .bin .gtr (.t 15) (.c (.p (.int .i64 2147483647))), none⟩])
       (.cond (.t 16) (.seq (.rg [⟨(some 2), .mov (.c (.p (.bool false))), none⟩])
         .ret)
         .skip))))
      (.rg [⟨(some 17), .bin .add (.t 10) (.c (.p (.int .i64 1))), none⟩,
        ⟨(some 10), .mov (.t 17), none⟩])))))))
    (.seq (.rg [⟨(some 2), .mov (.c (.p (.bool true))), none⟩])
    .ret))))
def r11 : List DR := [.tmp 2]
theorem c11_ok : Try.f11.body.bind (cCode Try.prog) = some c11 := by kernel_rfl
theorem r11_ok : cRes Try.prog Try.f11.results.toList = some r11 := by kernel_rfl

/-- given.example/pub-assaymark/laws.ntEvents -/
def c12 : DC :=
  (.seq (.rg [⟨(some 2), .mov (.c (.p (.slice none 0 0))), none⟩])
    (.seq (.rg [⟨(some 3), .mov (.c (.p (.slice none 0 0))), none⟩])
    (.seq (.seq (.rg [⟨(some 6), .mov (.t 0), none⟩,
      ⟨(some 7), .callr 31 [(.t 6)], none⟩,
      ⟨(some 8), .mov (.t 0), none⟩,
      ⟨(some 9), .lenl (.t 8), none⟩,
      ⟨(some 10), .mm false (.t 9) (.c (.p (.int .i64 4))), none⟩,
      ⟨(some 11), .slcl 1 (.t 7) none (some (.t 10)), none⟩,
      ⟨(some 12), .lenl (.t 11), none⟩,
      ⟨(some 13), .mov (.c (.p (.int .i64 0))), none⟩])
    (.block 0 (.loop (.seq (.rg [⟨(some 14), .bin .lss (.t 13) (.t 12), none⟩])
      (.seq (.cond (.t 14) .skip
        (.exit 0))
      (.seq (.block 1 (.seq (.rg [⟨(some 15), .iaddr 1 (.t 11) (.t 13), none⟩,
         ⟨(some 16), .load false 1 (.t 15), none⟩,
         ⟨(some 5), .mov (.t 16), none⟩])
       (.seq (.rg [⟨(some 17), .mov (.t 3), none⟩,
         ⟨(some 18), .mov (.t 5), none⟩,
         ⟨(some 19), .callr 32 [(.t 17), (.t 18)], none⟩,
         ⟨(some 20), .un .not (.t 19), none⟩])
       (.cond (.t 20) (.rg [⟨(some 21), .mov (.t 3), none⟩,
           ⟨(some 22), .mov (.t 5), none⟩,
           ⟨(some 23), .lit 1 [(.t 22)], none⟩,
           ⟨(some 24), .app 1 16 (.t 21) (.t 23), none⟩,
           ⟨(some 3), .mov (.t 24), none⟩])
         .skip))))
      (.rg [⟨(some 25), .bin .add (.t 13) (.c (.p (.int .i64 1))), none⟩,
        ⟨(some 13), .mov (.t 25), none⟩])))))))
    (.seq (.rg [⟨(some 26), .mov (.t 3), none⟩,
      ⟨(some 2), .mov (.t 26), none⟩])
    .ret))))
def r12 : List DR := [.tmp 2]
theorem c12_ok : Try.f12.body.bind (cCode Try.prog) = some c12 := by kernel_rfl
theorem r12_ok : cRes Try.prog Try.f12.results.toList = some r12 := by kernel_rfl

/-- given.example/pub-assaymark/impl.EventsEqual -/
def c13 : DC :=
  (.seq (.rg [⟨(some 4), .mov (.c (.p (.bool false))), none⟩])
    (.seq (.rg [⟨(some 5), .mov (.t 0), none⟩,
      ⟨(some 6), .callr 34 [(.t 5)], none⟩,
      ⟨(some 7), .mov (.t 1), none⟩,
      ⟨(some 8), .callr 34 [(.t 7)], none⟩,
      ⟨(some 9), .callr 33 [(.t 6), (.t 8)], none⟩,
      ⟨(some 4), .mov (.t 9), none⟩])
    .ret))
def r13 : List DR := [.tmp 4]
theorem c13_ok : Try.f13.body.bind (cCode Try.prog) = some c13 := by kernel_rfl
theorem r13_ok : cRes Try.prog Try.f13.results.toList = some r13 := by kernel_rfl

/-- given.example/pub-assaymark/spec.SameEvents -/
def c14 : DC :=
  (.seq (.rg [⟨(some 4), .mov (.c (.p (.bool false))), none⟩])
    (.seq (.rg [⟨(some 5), .mov (.t 0), none⟩,
      ⟨(some 6), .callr 36 [(.t 5)], none⟩,
      ⟨(some 7), .mov (.t 1), none⟩,
      ⟨(some 8), .callr 36 [(.t 7)], none⟩,
      ⟨(some 9), .callr 35 [(.t 6), (.t 8)], none⟩,
      ⟨(some 4), .mov (.t 9), none⟩])
    .ret))
def r14 : List DR := [.tmp 4]
theorem c14_ok : Try.f14.body.bind (cCode Try.prog) = some c14 := by kernel_rfl
theorem r14_ok : cRes Try.prog Try.f14.results.toList = some r14 := by kernel_rfl

/-- given.example/pub-assaymark/laws.ntRules -/
def c15 : DC :=
  (.seq (.rg [⟨(some 2), .mov (.c (.p (.slice none 0 0))), none⟩])
    (.seq (.rg [⟨(some 3), .mov (.c (.p (.slice none 0 0))), none⟩,
      ⟨(some 4), .mov (.c (.p (.slice none 0 0))), none⟩])
    (.seq (.seq (.rg [⟨(some 9), .mov (.t 0), none⟩,
      ⟨(some 10), .mov (.t 0), none⟩,
      ⟨(some 11), .lenl (.t 10), none⟩,
      ⟨(some 12), .mm false (.t 11) (.c (.p (.int .i64 4))), none⟩,
      ⟨(some 13), .slcl 1 (.t 9) none (some (.t 12)), none⟩,
      ⟨(some 14), .lenl (.t 13), none⟩,
      ⟨(some 15), .mov (.c (.p (.int .i64 0))), none⟩])
    (.block 0 (.loop (.seq (.rg [⟨(some 16), .bin .lss (.t 15) (.t 14), none⟩])
      (.seq (.cond (.t 16) .skip
        (.exit 0))
      (.seq (.block 1 (.seq (.rg [⟨(some 17), .iaddr 1 (.t 13) (.t 15), none⟩,
         ⟨(some 18), .load false 1 (.t 17), none⟩,
         ⟨(some 6), .mov (.t 18), none⟩])
       (.seq (.rgd [⟨⟨(some 19), .litz 1 [(.c (.p (.string ⟨#[112, 114, 101, 102, 105, 120]⟩))), (.c (.p (.string ⟨#[115, 117, 102, 102, 105, 120]⟩)))], none⟩, 0, [0]⟩,
         ⟨⟨(some 20), .mov (.t 6), none⟩, 0, [0]⟩,
         ⟨⟨(some 21), .bin .rem (.t 20) (.c (.p (.int .u8 2))), none⟩, 0, [0]⟩,
         ⟨⟨(some 22), .iaddr 1 (.t 19) (.t 21), none⟩, 0, [0]⟩,
         ⟨⟨(some 23), .load false 1 (.t 22), none⟩, 0, [0]⟩,
         ⟨⟨(some 24), .litz 1 [(.c (.p (.string ⟨#[]⟩))), (.c (.p (.string ⟨#[97]⟩))), (.c (.p (.string ⟨#[98, 47]⟩))), (.c (.p (.string ⟨#[46, 106, 112, 103]⟩)))], none⟩, 0, [0]⟩,
         ⟨⟨(some 25), .mov (.t 6), none⟩, 0, [0]⟩,
         ⟨⟨(some 26), .bin .shr (.t 25) (.c (.p (.int .u64 1))), none⟩, 0, [0]⟩,
         ⟨⟨(some 27), .bin .rem (.t 26) (.c (.p (.int .u8 4))), none⟩, 0, [0]⟩,
         ⟨⟨(some 28), .iaddr 1 (.t 24) (.t 27), none⟩, 0, [0]⟩,
         ⟨⟨(some 29), .load false 1 (.t 28), none⟩, 0, [0]⟩,
         ⟨⟨(some 7), .mov (.t 23), none⟩, 0, [0]⟩,
         ⟨⟨(some 8), .mov (.t 29), none⟩, 0, []⟩])
       (.seq (.rg [⟨(some 30), .mov (.t 4), none⟩,
         ⟨(some 31), .mov (.t 7), none⟩,
         ⟨(some 32), .bin .add (.t 31) (.c (.p (.string ⟨#[32]⟩))), none⟩,
         ⟨(some 33), .mov (.t 8), none⟩,
         ⟨(some 34), .bin .add (.t 32) (.t 33), none⟩,
         ⟨(some 35), .callr 32 [(.t 30), (.t 34)], none⟩,
         ⟨(some 36), .un .not (.t 35), none⟩])
       (.cond (.t 36) (.rg [⟨(some 37), .mov (.t 4), none⟩,
           ⟨(some 38), .mov (.t 7), none⟩,
           ⟨(some 39), .bin .add (.t 38) (.c (.p (.string ⟨#[32]⟩))), none⟩,
           ⟨(some 40), .mov (.t 8), none⟩,
           ⟨(some 41), .bin .add (.t 39) (.t 40), none⟩,
           ⟨(some 42), .lit 1 [(.t 41)], none⟩,
           ⟨(some 43), .app 1 16 (.t 37) (.t 42), none⟩,
           ⟨(some 44), .mov (.t 3), none⟩,
           ⟨(some 45), .mov (.t 7), none⟩,
           ⟨(some 46), .mov (.t 8), none⟩,
           ⟨(some 47), .lit 1 [(.t 45), (.t 46)], none⟩,
           ⟨(some 48), .app 1 16 (.t 44) (.t 47), none⟩,
           ⟨(some 4), .mov (.t 43), none⟩,
           ⟨(some 3), .mov (.t 48), none⟩])
         .skip)))))
      (.rg [⟨(some 49), .bin .add (.t 15) (.c (.p (.int .i64 1))), none⟩,
        ⟨(some 15), .mov (.t 49), none⟩])))))))
    (.seq (.rg [⟨(some 50), .mov (.t 3), none⟩,
      ⟨(some 2), .mov (.t 50), none⟩])
    .ret))))
def r15 : List DR := [.tmp 2]
theorem c15_ok : Try.f15.body.bind (cCode Try.prog) = some c15 := by kernel_rfl
theorem r15_ok : cRes Try.prog Try.f15.results.toList = some r15 := by kernel_rfl

/-- given.example/pub-assaymark/impl.RulesEqual -/
def c16 : DC :=
  (.seq (.rg [⟨(some 4), .mov (.c (.p (.bool false))), none⟩])
    (.seq (.rg [⟨(some 5), .mov (.t 0), none⟩,
      ⟨(some 6), .callr 38 [(.t 5)], none⟩,
      ⟨(some 7), .mov (.t 1), none⟩,
      ⟨(some 8), .callr 38 [(.t 7)], none⟩,
      ⟨(some 9), .callr 37 [(.t 6), (.t 8)], none⟩,
      ⟨(some 4), .mov (.t 9), none⟩])
    .ret))
def r16 : List DR := [.tmp 4]
theorem c16_ok : Try.f16.body.bind (cCode Try.prog) = some c16 := by kernel_rfl
theorem r16_ok : cRes Try.prog Try.f16.results.toList = some r16 := by kernel_rfl

/-- given.example/pub-assaymark/laws.ntPairs -/
def c17 : DC :=
  (.seq (.rg [⟨(some 2), .mov (.c (.p (.slice none 0 0))), none⟩])
    (.seq (.rg [⟨(some 3), .mov (.c (.p (.slice none 0 0))), none⟩])
    (.seq (.seq (.rg [⟨(some 4), .mov (.c (.p (.int .i64 0))), none⟩])
    (.block 0 (.loop (.seq (.seq (.rg [⟨(some 5), .mov (.t 4), none⟩,
        ⟨(some 6), .bin .add (.t 5) (.c (.p (.int .i64 1))), none⟩,
        ⟨(some 7), .mov (.t 0), none⟩,
        ⟨(some 8), .lenl (.t 7), none⟩,
        ⟨(some 9), .bin .lss (.t 6) (.t 8), none⟩])
      (.cond (.t 9) .skip
        (.exit 0)))
      (.seq (.block 1 (.rgd [⟨⟨(some 12), .mov (.t 3), none⟩, 0, [0]⟩,
         ⟨⟨(some 13), .mov (.t 0), none⟩, 0, [0]⟩,
         ⟨⟨(some 14), .mov (.t 4), none⟩, 0, [0]⟩,
         ⟨⟨(some 15), .iaddr 1 (.t 13) (.t 14), none⟩, 0, [0]⟩,
         ⟨⟨(some 16), .load false 1 (.t 15), none⟩, 0, [0]⟩,
         ⟨⟨(some 17), .bin .add (.t 16) (.c (.p (.string ⟨#[32]⟩))), none⟩, 0, [0]⟩,
         ⟨⟨(some 18), .mov (.t 0), none⟩, 0, [0]⟩,
         ⟨⟨(some 19), .mov (.t 4), none⟩, 0, [0]⟩,
         ⟨⟨(some 20), .bin .add (.t 19) (.c (.p (.int .i64 1))), none⟩, 0, [0]⟩,
         ⟨⟨(some 21), .iaddr 1 (.t 18) (.t 20), none⟩, 0, [0]⟩,
         ⟨⟨(some 22), .load false 1 (.t 21), none⟩, 0, [0]⟩,
         ⟨⟨(some 23), .bin .add (.t 17) (.t 22), none⟩, 0, []⟩,
         ⟨⟨(some 24), .lit 1 [(.t 23)], none⟩, 0, []⟩,
         ⟨⟨(some 25), .app 1 16 (.t 12) (.t 24), none⟩, 1, []⟩,
         ⟨⟨(some 3), .mov (.t 25), none⟩, 2, []⟩]))
      (.rg [⟨(some 10), .mov (.t 4), none⟩,
        ⟨(some 11), .bin .add (.t 10) (.c (.p (.int .i64 2))), none⟩,
        ⟨(some 4), .mov (.t 11), none⟩]))))))
    (.seq (.rg [⟨(some 26), .mov (.t 3), none⟩,
      ⟨(some 2), .mov (.t 26), none⟩])
    .ret))))
def r17 : List DR := [.tmp 2]
theorem c17_ok : Try.f17.body.bind (cCode Try.prog) = some c17 := by kernel_rfl
theorem r17_ok : cRes Try.prog Try.f17.results.toList = some r17 := by kernel_rfl

/-- given.example/pub-assaymark/impl.ArnRead -/
def c18 : DC :=
  (.seq (.rg [⟨(some 2), .alloc 5 (.agg [.p (.string ⟨#[]⟩), .p (.string ⟨#[]⟩), .p (.string ⟨#[]⟩), .p (.string ⟨#[]⟩), .p (.string ⟨#[]⟩)]), none⟩,
      ⟨(some 3), .mov (.c (.p (.bool false))), none⟩,
      ⟨(some 4), .mov (.c (.p (.bool false))), none⟩])
    (.seq (.rg [⟨(some 8), .mov (.t 0), none⟩,
      ⟨(some 9), .callr 39 [(.t 8)], none⟩,
      ⟨(some 7), .mov (.t 9), none⟩,
      ⟨(some 10), .ext (.t 7) 0, none⟩,
      ⟨(some 11), .ext (.t 7) 1, none⟩,
      ⟨(some 5), .alloc 5 (.agg [.p (.string ⟨#[]⟩), .p (.string ⟨#[]⟩), .p (.string ⟨#[]⟩), .p (.string ⟨#[]⟩), .p (.string ⟨#[]⟩)]), none⟩,
      ⟨none, .store 5 (.t 5) (.t 10), none⟩,
      ⟨(some 6), .mov (.t 11), none⟩])
    (.seq (.rgd [⟨⟨(some 12), .load true 5 (.t 5), none⟩, 0, [0]⟩,
      ⟨⟨(some 13), .call 40 [(.t 12)], none⟩, 0, []⟩,
      ⟨⟨(some 14), .mov (.t 6), none⟩, 0, [0]⟩,
      ⟨⟨(some 15), .eqn false .iface (.t 14), none⟩, 0, [0]⟩,
      ⟨⟨(some 16), .mov (.t 6), none⟩, 0, [0]⟩,
      ⟨⟨(some 17), .ifc 65 (.c (.p (.string ⟨#[105, 110, 118, 97, 108, 105, 100, 32, 65, 82, 78, 32, 102, 111, 114, 109, 97, 116, 44, 32, 109, 117, 115, 116, 32, 115, 116, 97, 114, 116, 32, 119, 105, 116, 104, 32, 39, 97, 114, 110, 58, 39]⟩))), none⟩, 0, [0]⟩,
      ⟨⟨(some 18), .eqi false (.t 16) (.t 17), none⟩, 0, [0]⟩,
      ⟨⟨none, .store 5 (.t 2) (.t 13), none⟩, 1, []⟩,
      ⟨⟨(some 3), .mov (.t 15), none⟩, 2, []⟩,
      ⟨⟨(some 4), .mov (.t 18), none⟩, 2, []⟩])
    .ret)))
def r18 : List DR := [.cell 2 true 5, .tmp 3, .tmp 4]
theorem c18_ok : Try.f18.body.bind (cCode Try.prog) = some c18 := by kernel_rfl
theorem r18_ok : cRes Try.prog Try.f18.results.toList = some r18 := by kernel_rfl

/-- given.example/pub-assaymark/spec.ArnParts -/
def c19 : DC :=
  (.seq (.rg [⟨(some 2), .mov (.c (.p (.slice none 0 0))), none⟩])
    (.seq (.rg [⟨(some 5), .lit 1 [(.c (.p (.string ⟨#[]⟩)))], none⟩,
      ⟨(some 3), .mov (.t 5), none⟩])
    (.seq (.seq (.rg [⟨(some 6), .mov (.t 0), none⟩,
      ⟨(some 7), .lens (.t 6), none⟩,
      ⟨(some 8), .mov (.c (.p (.int .i64 0))), none⟩])
    (.block 0 (.loop (.seq (.rg [⟨(some 9), .bin .lss (.t 8) (.t 7), none⟩])
      (.seq (.cond (.t 9) .skip
        (.exit 0))
      (.seq (.block 1 (.seq (.rg [⟨(some 10), .mov (.t 8), none⟩,
         ⟨(some 4), .mov (.t 10), none⟩])
       (.seq (.rg [⟨(some 11), .mov (.t 0), none⟩,
         ⟨(some 12), .mov (.t 4), none⟩,
         ⟨(some 13), .idxs (.t 11) (.t 12), none⟩,
         ⟨(some 14), .bin .eql (.t 13) (.c (.p (.int .u8 58))), none⟩])
       (.cond (.t 14) (.rg [⟨(some 15), .mov (.t 3), none⟩,
           ⟨(some 16), .lit 1 [(.c (.p (.string ⟨#[]⟩)))], none⟩,
           ⟨(some 17), .app 1 16 (.t 15) (.t 16), none⟩,
           ⟨(some 3), .mov (.t 17), none⟩])
         (.rgd [⟨⟨(some 18), .mov (.t 3), none⟩, 0, []⟩,
           ⟨⟨(some 19), .mov (.t 3), none⟩, 0, []⟩,
           ⟨⟨(some 20), .lenl (.t 19), none⟩, 0, []⟩,
           ⟨⟨(some 21), .bin .sub (.t 20) (.c (.p (.int .i64 1))), none⟩, 0, []⟩,
           ⟨⟨(some 22), .iaddr 1 (.t 18) (.t 21), none⟩, 0, [0]⟩,
           ⟨⟨(some 23), .load false 1 (.t 22), none⟩, 0, [0]⟩,
           ⟨⟨(some 24), .mov (.t 0), none⟩, 0, [0]⟩,
           ⟨⟨(some 25), .mov (.t 4), none⟩, 0, [0]⟩,
           ⟨⟨(some 26), .mov (.t 4), none⟩, 0, [0]⟩,
           ⟨⟨(some 27), .bin .add (.t 26) (.c (.p (.int .i64 1))), none⟩, 0, [0]⟩,
           ⟨⟨(some 28), .slcs (.t 24) (some (.t 25)) (some (.t 27)), none⟩, 0, [0]⟩,
           ⟨⟨(some 29), .bin .add (.t 23) (.t 28), none⟩, 0, []⟩,
           ⟨⟨(some 30), .iaddr 1 (.t 18) (.t 21), none⟩, 0, [0]⟩,
           ⟨⟨none, .store 1 (.t 30) (.t 29), none⟩, 0, []⟩])))))
      (.rg [⟨(some 31), .bin .add (.t 8) (.c (.p (.int .i64 1))), none⟩,
        ⟨(some 8), .mov (.t 31), none⟩])))))))
    (.seq (.rg [⟨(some 32), .mov (.t 3), none⟩,
      ⟨(some 2), .mov (.t 32), none⟩])
    .ret))))
def r19 : List DR := [.tmp 2]
theorem c19_ok : Try.f19.body.bind (cCode Try.prog) = some c19 := by kernel_rfl
theorem r19_ok : cRes Try.prog Try.f19.results.toList = some r19 := by kernel_rfl

/-- given.example/pub-assaymark/laws.zzFits9 -/
def c20 : DC :=
  (.seq (.rg [⟨(some 1), .box (.t 0), none⟩,
      ⟨(some 2), .mov (.c (.p (.bool false))), none⟩])
    (.seq (.seq (.rg [⟨(some 3), .faddr false 0 1 (.t 1), none⟩,
      ⟨(some 4), .load false 1 (.t 3), none⟩,
      ⟨(some 5), .lens (.t 4), none⟩,
      ⟨(some 6), .bin .gtr (.t 5) (.c (.p (.int .i64 2147483647))), none⟩])
    (.cond (.t 6) (.seq (.rg [⟨(some 2), .mov (.c (.p (.bool false))), none⟩])
      .ret)
      .skip))
    (.seq (.seq (.rg [⟨(some 7), .faddr false 1 1 (.t 1), none⟩,
      ⟨(some 8), .load false 1 (.t 7), none⟩,
      ⟨(some 9), .lens (.t 8), none⟩,
      ⟨(some 10), .bin .gtr (.t 9) (.c (.p (.int .i64 2147483647))), none⟩])
    (.cond (.t 10) (.seq (.rg [⟨(some 2), .mov (.c (.p (.bool false))), none⟩])
      .ret)
      .skip))
    (.seq (.seq (.rg [⟨(some 11), .faddr false 2 1 (.t 1), none⟩,
      ⟨(some 12), .load false 1 (.t 11), none⟩,
      ⟨(some 13), .lens (.t 12), none⟩,
      ⟨(some 14), .bin .gtr (.t 13) (.c (.p (.int .i64 2147483647))), none⟩])
    (.cond (.t 14) (.seq (.rg [⟨(some 2), .mov (.c (.p (.bool false))), none⟩])
      .ret)
      .skip))
    (.seq (.seq (.rg [⟨(some 15), .faddr false 3 1 (.t 1), none⟩,
      ⟨(some 16), .load false 1 (.t 15), none⟩,
      ⟨(some 17), .lens (.t 16), none⟩,
      ⟨(some 18), .bin .gtr (.t 17) (.c (.p (.int .i64 2147483647))), none⟩])
    (.cond (.t 18) (.seq (.rg [⟨(some 2), .mov (.c (.p (.bool false))), none⟩])
      .ret)
      .skip))
    (.seq (.seq (.rg [⟨(some 19), .faddr false 4 1 (.t 1), none⟩,
      ⟨(some 20), .load false 1 (.t 19), none⟩,
      ⟨(some 21), .lens (.t 20), none⟩,
      ⟨(some 22), .bin .gtr (.t 21) (.c (.p (.int .i64 2147483647))), none⟩])
    (.cond (.t 22) (.seq (.rg [⟨(some 2), .mov (.c (.p (.bool false))), none⟩])
      .ret)
      .skip))
    (.seq (.rg [⟨(some 2), .mov (.c (.p (.bool true))), none⟩])
    .ret)))))))
def r20 : List DR := [.tmp 2]
theorem c20_ok : Try.f20.body.bind (cCode Try.prog) = some c20 := by kernel_rfl
theorem r20_ok : cRes Try.prog Try.f20.results.toList = some r20 := by kernel_rfl

/-- given.example/pub-assaymark/laws.arnPlain -/
def c21 : DC :=
  (.seq (.rg [⟨(some 1), .box (.t 0), none⟩,
      ⟨(some 2), .alloc 5 (.agg [.p (.string ⟨#[]⟩), .p (.string ⟨#[]⟩), .p (.string ⟨#[]⟩), .p (.string ⟨#[]⟩), .p (.string ⟨#[]⟩)]), none⟩])
    (.seq (.rgd [⟨⟨(some 3), .faddr false 0 1 (.t 1), none⟩, 0, [0]⟩,
      ⟨⟨(some 4), .load false 1 (.t 3), none⟩, 0, [0]⟩,
      ⟨⟨(some 5), .call 41 [(.t 4)], none⟩, 0, [0]⟩,
      ⟨⟨(some 6), .faddr false 1 1 (.t 1), none⟩, 0, [0]⟩,
      ⟨⟨(some 7), .load false 1 (.t 6), none⟩, 0, [0]⟩,
      ⟨⟨(some 8), .call 41 [(.t 7)], none⟩, 1, [0]⟩,
      ⟨⟨(some 9), .faddr false 2 1 (.t 1), none⟩, 0, [0]⟩,
      ⟨⟨(some 10), .load false 1 (.t 9), none⟩, 0, [0]⟩,
      ⟨⟨(some 11), .call 41 [(.t 10)], none⟩, 2, [0]⟩,
      ⟨⟨(some 12), .faddr false 3 1 (.t 1), none⟩, 0, [0]⟩,
      ⟨⟨(some 13), .load false 1 (.t 12), none⟩, 0, [0]⟩,
      ⟨⟨(some 14), .call 41 [(.t 13)], none⟩, 3, [0]⟩,
      ⟨⟨(some 15), .faddr false 4 1 (.t 1), none⟩, 0, [0]⟩,
      ⟨⟨(some 16), .load false 1 (.t 15), none⟩, 0, [0]⟩,
      ⟨⟨(some 17), .call 41 [(.t 16)], none⟩, 4, []⟩,
      ⟨⟨(some 18), .bld [.p (.string ⟨#[]⟩), .p (.string ⟨#[]⟩), .p (.string ⟨#[]⟩), .p (.string ⟨#[]⟩), .p (.string ⟨#[]⟩)] [(0, 1, (.t 5)), (1, 1, (.t 8)), (2, 1, (.t 11)), (3, 1, (.t 14)), (4, 1, (.t 17))], none⟩, 5, []⟩,
      ⟨⟨none, .store 5 (.t 2) (.t 18), none⟩, 5, []⟩])
    .ret))
def r21 : List DR := [.cell 2 true 5]
theorem c21_ok : Try.f21.body.bind (cCode Try.prog) = some c21 := by kernel_rfl
theorem r21_ok : cRes Try.prog Try.f21.results.toList = some r21 := by kernel_rfl

/-- given.example/pub-assaymark/impl.ArnText -/
def c22 : DC :=
  (.seq (.rg [⟨(some 1), .box (.t 0), none⟩,
      ⟨(some 2), .mov (.c (.p (.string ⟨#[]⟩))), none⟩])
    (.seq (.rg [⟨(some 3), .load true 5 (.t 1), none⟩,
      ⟨(some 4), .callr 42 [(.t 3)], none⟩,
      ⟨(some 5), .callr 43 [(.t 4)], none⟩,
      ⟨(some 2), .mov (.t 5), none⟩])
    .ret))
def r22 : List DR := [.tmp 2]
theorem c22_ok : Try.f22.body.bind (cCode Try.prog) = some c22 := by kernel_rfl
theorem r22_ok : cRes Try.prog Try.f22.results.toList = some r22 := by kernel_rfl

/-- given.example/pub-assaymark/spec.ArnText -/
def c23 : DC :=
  (.seq (.rg [⟨(some 1), .box (.t 0), none⟩,
      ⟨(some 2), .mov (.c (.p (.string ⟨#[]⟩))), none⟩])
    (.seq (.rg [⟨(some 3), .faddr false 0 1 (.t 1), none⟩,
      ⟨(some 4), .load false 1 (.t 3), none⟩,
      ⟨(some 5), .bin .add (.c (.p (.string ⟨#[97, 114, 110, 58]⟩))) (.t 4), none⟩,
      ⟨(some 6), .bin .add (.t 5) (.c (.p (.string ⟨#[58]⟩))), none⟩,
      ⟨(some 7), .faddr false 1 1 (.t 1), none⟩,
      ⟨(some 8), .load false 1 (.t 7), none⟩,
      ⟨(some 9), .bin .add (.t 6) (.t 8), none⟩,
      ⟨(some 10), .bin .add (.t 9) (.c (.p (.string ⟨#[58]⟩))), none⟩,
      ⟨(some 11), .faddr false 2 1 (.t 1), none⟩,
      ⟨(some 12), .load false 1 (.t 11), none⟩,
      ⟨(some 13), .bin .add (.t 10) (.t 12), none⟩,
      ⟨(some 14), .bin .add (.t 13) (.c (.p (.string ⟨#[58]⟩))), none⟩,
      ⟨(some 15), .faddr false 3 1 (.t 1), none⟩,
      ⟨(some 16), .load false 1 (.t 15), none⟩,
      ⟨(some 17), .bin .add (.t 14) (.t 16), none⟩,
      ⟨(some 18), .bin .add (.t 17) (.c (.p (.string ⟨#[58]⟩))), none⟩,
      ⟨(some 19), .faddr false 4 1 (.t 1), none⟩,
      ⟨(some 20), .load false 1 (.t 19), none⟩,
      ⟨(some 21), .bin .add (.t 18) (.t 20), none⟩,
      ⟨(some 2), .mov (.t 21), none⟩])
    .ret))
def r23 : List DR := [.tmp 2]
theorem c23_ok : Try.f23.body.bind (cCode Try.prog) = some c23 := by kernel_rfl
theorem r23_ok : cRes Try.prog Try.f23.results.toList = some r23 := by kernel_rfl

/-- given.example/pub-assaymark/laws.zzFits12 -/
def c24 : DC :=
  (.seq (.rg [⟨(some 1), .box (.t 0), none⟩,
      ⟨(some 2), .mov (.c (.p (.bool false))), none⟩])
    (.seq (.seq (.rg [⟨(some 3), .faddr true 1 5 (.t 1), none⟩,
      ⟨(some 4), .load true 5 (.t 3), none⟩,
      ⟨(some 5), .callr 20 [(.t 4)], none⟩,
      ⟨(some 6), .un .not (.t 5), none⟩])
    (.cond (.t 6) (.seq (.rg [⟨(some 2), .mov (.c (.p (.bool false))), none⟩])
      .ret)
      .skip))
    (.seq (.seq (.rg [⟨(some 7), .faddr false 6 1 (.t 1), none⟩,
      ⟨(some 8), .load false 1 (.t 7), none⟩,
      ⟨(some 9), .callr 11 [(.t 8)], none⟩,
      ⟨(some 10), .un .not (.t 9), none⟩])
    (.cond (.t 10) (.seq (.rg [⟨(some 2), .mov (.c (.p (.bool false))), none⟩])
      .ret)
      .skip))
    (.seq (.seq (.rg [⟨(some 11), .faddr false 7 1 (.t 1), none⟩,
      ⟨(some 12), .load false 1 (.t 11), none⟩,
      ⟨(some 13), .callr 11 [(.t 12)], none⟩,
      ⟨(some 14), .un .not (.t 13), none⟩])
    (.cond (.t 14) (.seq (.rg [⟨(some 2), .mov (.c (.p (.bool false))), none⟩])
      .ret)
      .skip))
    (.seq (.seq (.rg [⟨(some 15), .faddr false 8 1 (.t 1), none⟩,
      ⟨(some 16), .load false 1 (.t 15), none⟩,
      ⟨(some 17), .callr 11 [(.t 16)], none⟩,
      ⟨(some 18), .un .not (.t 17), none⟩])
    (.cond (.t 18) (.seq (.rg [⟨(some 2), .mov (.c (.p (.bool false))), none⟩])
      .ret)
      .skip))
    (.seq (.rg [⟨(some 2), .mov (.c (.p (.bool true))), none⟩])
    .ret))))))
def r24 : List DR := [.tmp 2]
theorem c24_ok : Try.f24.body.bind (cCode Try.prog) = some c24 := by kernel_rfl
theorem r24_ok : cRes Try.prog Try.f24.results.toList = some r24 := by kernel_rfl

/-- given.example/pub-assaymark/laws.ntPlain -/
def c25 : DC :=
  (.seq (.rg [⟨(some 1), .box (.t 0), none⟩,
      ⟨(some 2), .alloc 9 (.agg [.p (.int .i64 0), .p (.string ⟨#[]⟩), .p (.string ⟨#[]⟩), .p (.string ⟨#[]⟩), .p (.string ⟨#[]⟩), .p (.string ⟨#[]⟩), .p (.slice none 0 0), .p (.slice none 0 0), .p (.slice none 0 0)]), none⟩])
    (.seq (.rgd [⟨⟨(some 3), .faddr false 0 1 (.t 1), none⟩, 0, [0]⟩,
      ⟨⟨(some 4), .load false 1 (.t 3), none⟩, 0, [0]⟩,
      ⟨⟨(some 5), .cint .u64 (.t 4), none⟩, 0, [0]⟩,
      ⟨⟨(some 6), .bin .rem (.t 5) (.c (.p (.int .u64 3))), none⟩, 0, [0]⟩,
      ⟨⟨(some 7), .cint .i64 (.t 6), none⟩, 0, [0]⟩,
      ⟨⟨(some 8), .faddr true 1 5 (.t 1), none⟩, 0, [0]⟩,
      ⟨⟨(some 9), .load true 5 (.t 8), none⟩, 0, [0]⟩,
      ⟨⟨(some 10), .call 21 [(.t 9)], none⟩, 0, [0]⟩,
      ⟨⟨(some 11), .faddr false 6 1 (.t 1), none⟩, 0, [0]⟩,
      ⟨⟨(some 12), .load false 1 (.t 11), none⟩, 0, [0]⟩,
      ⟨⟨(some 13), .call 12 [(.t 12)], none⟩, 1, [0]⟩,
      ⟨⟨(some 14), .faddr false 7 1 (.t 1), none⟩, 0, [0]⟩,
      ⟨⟨(some 15), .load false 1 (.t 14), none⟩, 0, [0]⟩,
      ⟨⟨(some 16), .call 26 [(.t 15)], none⟩, 2, [0]⟩,
      ⟨⟨(some 17), .faddr false 8 1 (.t 1), none⟩, 0, [0]⟩,
      ⟨⟨(some 18), .load false 1 (.t 17), none⟩, 0, [0]⟩,
      ⟨⟨(some 19), .call 26 [(.t 18)], none⟩, 3, [0]⟩,
      ⟨⟨(some 20), .bld [.p (.int .i64 0), .p (.string ⟨#[]⟩), .p (.string ⟨#[]⟩), .p (.string ⟨#[]⟩), .p (.string ⟨#[]⟩), .p (.string ⟨#[]⟩), .p (.slice none 0 0), .p (.slice none 0 0), .p (.slice none 0 0)] [(0, 1, (.t 7)), (1, 5, (.t 10)), (6, 1, (.t 13)), (7, 1, (.t 16)), (8, 1, (.t 19))], none⟩, 4, []⟩,
      ⟨⟨none, .store 9 (.t 2) (.t 20), none⟩, 4, []⟩])
    .ret))
def r25 : List DR := [.cell 2 true 9]
theorem c25_ok : Try.f25.body.bind (cCode Try.prog) = some c25 := by kernel_rfl
theorem r25_ok : cRes Try.prog Try.f25.results.toList = some r25 := by kernel_rfl

/-- given.example/pub-assaymark/laws.ntOne -/
def c26 : DC :=
  (.seq (.rg [⟨(some 2), .mov (.c (.p (.slice none 0 0))), none⟩])
    (.seq (.seq (.rg [⟨(some 4), .mov (.t 0), none⟩,
      ⟨(some 5), .mov (.t 0), none⟩,
      ⟨(some 6), .lenl (.t 5), none⟩,
      ⟨(some 7), .mm false (.t 6) (.c (.p (.int .i64 1))), none⟩,
      ⟨(some 8), .slcl 1 (.t 4) none (some (.t 7)), none⟩,
      ⟨(some 9), .callr 31 [(.t 8)], none⟩,
      ⟨(some 3), .mov (.t 9), none⟩])
    (.seq (.rg [⟨(some 10), .mov (.t 3), none⟩,
      ⟨(some 11), .lenl (.t 10), none⟩,
      ⟨(some 12), .bin .gtr (.t 11) (.c (.p (.int .i64 0))), none⟩,
      ⟨(some 13), .mov (.t 12), none⟩,
      ⟨(some 14), .mov (.t 3), (some (13, true))⟩,
      ⟨(some 15), .iaddr 1 (.t 14) (.c (.p (.int .i64 0))), (some (13, true))⟩,
      ⟨(some 16), .load false 1 (.t 15), (some (13, true))⟩,
      ⟨(some 17), .bin .neq (.t 16) (.c (.p (.string ⟨#[]⟩))), (some (13, true))⟩,
      ⟨(some 18), .pick (.t 13) (.t 17) (.c (.p (.bool false))), none⟩])
    (.cond (.t 18) (.seq (.rg [⟨(some 19), .mov (.t 3), none⟩,
        ⟨(some 2), .mov (.t 19), none⟩])
      .ret)
      .skip)))
    (.seq (.rg [⟨(some 2), .mov (.c (.p (.slice none 0 0))), none⟩])
    .ret)))
def r26 : List DR := [.tmp 2]
theorem c26_ok : Try.f26.body.bind (cCode Try.prog) = some c26 := by kernel_rfl
theorem r26_ok : cRes Try.prog Try.f26.results.toList = some r26 := by kernel_rfl

/-- given.example/pub-assaymark/laws.FnNoticeEqual$1 -/
def c27 : DC :=
  (.seq (.rg [⟨(some 2), .mov (.c (.p (.string ⟨#[]⟩))), none⟩])
    (.seq (.seq (.rg [⟨(some 3), .mov (.t 0), none⟩,
      ⟨(some 4), .lenl (.t 3), none⟩,
      ⟨(some 5), .bin .eql (.t 4) (.c (.p (.int .i64 0))), none⟩])
    (.cond (.t 5) (.seq (.rg [⟨(some 2), .mov (.c (.p (.string ⟨#[]⟩))), none⟩])
      .ret)
      .skip))
    (.seq (.rg [⟨(some 6), .mov (.t 0), none⟩,
      ⟨(some 7), .iaddr 1 (.t 6) (.c (.p (.int .i64 0))), none⟩,
      ⟨(some 8), .load false 1 (.t 7), none⟩,
      ⟨(some 2), .mov (.t 8), none⟩])
    .ret)))
def r27 : List DR := [.tmp 2]
theorem c27_ok : Try.f27.body.bind (cCode Try.prog) = some c27 := by kernel_rfl
theorem r27_ok : cRes Try.prog Try.f27.results.toList = some r27 := by kernel_rfl

/-- given.example/pub-assaymark/impl.NoticeEqual -/
def c28 : DC :=
  (.seq (.rg [⟨(some 4), .box (.t 0), none⟩,
      ⟨(some 8), .mov (.c (.p (.bool false))), none⟩])
    (.seq (.rg [⟨(some 10), .load true 9 (.t 4), none⟩,
      ⟨(some 11), .callr 44 [(.t 10)], none⟩,
      ⟨(some 9), .alloc 8 (.agg [.p (.string ⟨#[]⟩), .p (.string ⟨#[]⟩), .p (.string ⟨#[]⟩), .p (.string ⟨#[]⟩), .p (.string ⟨#[]⟩), .p (.string ⟨#[]⟩), .p (.slice none 0 0), .p (.pointer none)]), none⟩,
      ⟨none, .store 8 (.t 9) (.t 11), none⟩])
    (.seq (.rg [⟨(some 12), .mov (.t 1), none⟩,
      ⟨(some 13), .callr 34 [(.t 12)], none⟩,
      ⟨(some 14), .mov (.t 2), none⟩,
      ⟨(some 15), .mov (.t 3), none⟩,
      ⟨(some 16), .callr 45 [(.t 9), (.t 13), (.t 14), (.t 15)], none⟩,
      ⟨(some 8), .mov (.t 16), none⟩])
    .ret)))
def r28 : List DR := [.tmp 8]
theorem c28_ok : Try.f28.body.bind (cCode Try.prog) = some c28 := by kernel_rfl
theorem r28_ok : cRes Try.prog Try.f28.results.toList = some r28 := by kernel_rfl

/-- given.example/pub-assaymark/spec.NoticeIs -/
def c29 : DC :=
  (.seq (.rg [⟨(some 4), .box (.t 0), none⟩,
      ⟨(some 8), .mov (.c (.p (.bool false))), none⟩])
    (.seq (.rg [⟨(some 9), .faddr false 6 1 (.t 4), none⟩,
      ⟨(some 10), .load false 1 (.t 9), none⟩,
      ⟨(some 11), .mov (.t 1), none⟩,
      ⟨(some 12), .callr 14 [(.t 10), (.t 11)], none⟩,
      ⟨(some 13), .mov (.t 12), none⟩,
      ⟨(some 14), .faddr false 7 1 (.t 4), (some (13, true))⟩,
      ⟨(some 15), .load false 1 (.t 14), (some (13, true))⟩,
      ⟨(some 16), .callr 46 [(.t 15)], (some (13, true))⟩,
      ⟨(some 17), .mov (.t 2), (some (13, true))⟩,
      ⟨(some 18), .bin .eql (.t 16) (.t 17), (some (13, true))⟩,
      ⟨(some 19), .pick (.t 13) (.t 18) (.c (.p (.bool false))), none⟩,
      ⟨(some 20), .mov (.t 19), none⟩,
      ⟨(some 21), .faddr false 8 1 (.t 4), (some (20, true))⟩,
      ⟨(some 22), .load false 1 (.t 21), (some (20, true))⟩,
      ⟨(some 23), .callr 46 [(.t 22)], (some (20, true))⟩,
      ⟨(some 24), .mov (.t 3), (some (20, true))⟩,
      ⟨(some 25), .bin .eql (.t 23) (.t 24), (some (20, true))⟩,
      ⟨(some 26), .pick (.t 20) (.t 25) (.c (.p (.bool false))), none⟩,
      ⟨(some 8), .mov (.t 26), none⟩])
    .ret))
def r29 : List DR := [.tmp 8]
theorem c29_ok : Try.f29.body.bind (cCode Try.prog) = some c29 := by kernel_rfl
theorem r29_ok : cRes Try.prog Try.f29.results.toList = some r29 := by kernel_rfl

/-- (given.example/pub-assaymark/pub/miniogo/pkg/policy.BucketPolicy).IsValidBucketPolicy -/
def c30 : DC :=
  (.seq (.rg [⟨(some 2), .mov (.c (.p (.bool false))), none⟩])
    (.seq (.seq (.rg [⟨(some 3), .mov (.t 0), none⟩])
    (.block 0 (.seq (.seq (.rg [⟨(some 5), .bin .eql (.t 3) (.c (.p (.string ⟨#[110, 111, 110, 101]⟩))), none⟩,
       ⟨(some 4), .mov (.t 5), none⟩])
     (.cond (.t 4) .skip
       (.seq (.rg [⟨(some 6), .bin .eql (.t 3) (.c (.p (.string ⟨#[114, 101, 97, 100, 111, 110, 108, 121]⟩))), none⟩,
         ⟨(some 4), .mov (.t 6), none⟩])
       (.cond (.t 4) .skip
         (.seq (.rg [⟨(some 7), .bin .eql (.t 3) (.c (.p (.string ⟨#[114, 101, 97, 100, 119, 114, 105, 116, 101]⟩))), none⟩,
           ⟨(some 4), .mov (.t 7), none⟩])
         (.cond (.t 4) .skip
           (.rg [⟨(some 8), .bin .eql (.t 3) (.c (.p (.string ⟨#[119, 114, 105, 116, 101, 111, 110, 108, 121]⟩))), none⟩,
             ⟨(some 4), .mov (.t 8), none⟩])))))))
     (.cond (.t 4) (.seq (.rg [⟨(some 2), .mov (.c (.p (.bool true))), none⟩])
       .ret)
       .skip))))
    (.seq (.rg [⟨(some 2), .mov (.c (.p (.bool false))), none⟩])
    .ret)))
def r30 : List DR := [.tmp 2]
theorem c30_ok : Try.f30.body.bind (cCode Try.prog) = some c30 := by kernel_rfl
theorem r30_ok : cRes Try.prog Try.f30.results.toList = some r30 := by kernel_rfl

/-- given.example/pub-assaymark/laws.setPlain -/
def c31 : DC :=
  (.seq (.rg [⟨(some 2), .mov (.c (.p (.slice none 0 0))), none⟩])
    (.seq (.rg [⟨(some 3), .mov (.c (.p (.slice none 0 0))), none⟩])
    (.seq (.seq (.rg [⟨(some 9), .mov (.t 0), none⟩,
      ⟨(some 10), .callr 47 [(.t 9)], none⟩,
      ⟨(some 11), .lenl (.t 10), none⟩,
      ⟨(some 12), .mov (.c (.p (.int .i64 0))), none⟩])
    (.block 0 (.loop (.seq (.rg [⟨(some 13), .bin .lss (.t 12) (.t 11), none⟩])
      (.seq (.cond (.t 13) .skip
        (.exit 0))
      (.seq (.block 1 (.seq (.rg [⟨(some 14), .iaddr 1 (.t 10) (.t 12), none⟩,
         ⟨(some 15), .load false 1 (.t 14), none⟩,
         ⟨(some 5), .mov (.t 15), none⟩])
       (.seq (.rg [⟨(some 6), .mov (.c (.p (.slice none 0 0))), none⟩])
       (.seq (.seq (.rg [⟨(some 16), .mov (.t 5), none⟩,
         ⟨(some 17), .s2b (.t 16), none⟩,
         ⟨(some 18), .lenl (.t 17), none⟩,
         ⟨(some 19), .mov (.c (.p (.int .i64 0))), none⟩])
       (.block 2 (.loop (.seq (.rg [⟨(some 20), .bin .lss (.t 19) (.t 18), none⟩])
         (.seq (.cond (.t 20) .skip
           (.exit 2))
         (.seq (.block 3 (.seq (.rg [⟨(some 21), .iaddr 1 (.t 17) (.t 19), none⟩,
            ⟨(some 22), .load false 1 (.t 21), none⟩,
            ⟨(some 8), .mov (.t 22), none⟩])
          (.seq (.rg [⟨(some 23), .mov (.t 8), none⟩,
            ⟨(some 24), .bin .geq (.t 23) (.c (.p (.int .u8 32))), none⟩,
            ⟨(some 25), .mov (.t 24), none⟩,
            ⟨(some 26), .mov (.t 8), (some (25, true))⟩,
            ⟨(some 27), .bin .leq (.t 26) (.c (.p (.int .u8 126))), (some (25, true))⟩,
            ⟨(some 28), .pick (.t 25) (.t 27) (.c (.p (.bool false))), none⟩])
          (.cond (.t 28) (.rg [⟨(some 29), .mov (.t 6), none⟩,
              ⟨(some 30), .mov (.t 8), none⟩,
              ⟨(some 31), .lit 1 [(.t 30)], none⟩,
              ⟨(some 32), .app 1 1 (.t 29) (.t 31), none⟩,
              ⟨(some 6), .mov (.t 32), none⟩])
            .skip))))
         (.rg [⟨(some 33), .bin .add (.t 19) (.c (.p (.int .i64 1))), none⟩,
           ⟨(some 19), .mov (.t 33), none⟩])))))))
       (.rg [⟨(some 34), .mov (.t 3), none⟩,
         ⟨(some 35), .mov (.t 6), none⟩,
         ⟨(some 36), .b2s (.t 35), none⟩,
         ⟨(some 37), .lit 1 [(.t 36)], none⟩,
         ⟨(some 38), .app 1 16 (.t 34) (.t 37), none⟩,
         ⟨(some 3), .mov (.t 38), none⟩])))))
      (.rg [⟨(some 39), .bin .add (.t 12) (.c (.p (.int .i64 1))), none⟩,
        ⟨(some 12), .mov (.t 39), none⟩])))))))
    (.seq (.rg [⟨(some 40), .mov (.t 3), none⟩,
      ⟨(some 2), .mov (.t 40), none⟩])
    .ret))))
def r31 : List DR := [.tmp 2]
theorem c31_ok : Try.f31.body.bind (cCode Try.prog) = some c31 := by kernel_rfl
theorem r31_ok : cRes Try.prog Try.f31.results.toList = some r31 := by kernel_rfl

/-- given.example/pub-assaymark/spec.SetHas -/
def c32 : DC :=
  (.seq (.rg [⟨(some 4), .mov (.c (.p (.bool false))), none⟩])
    (.seq (.seq (.rg [⟨(some 7), .mov (.t 0), none⟩,
      ⟨(some 8), .lenl (.t 7), none⟩,
      ⟨(some 9), .mov (.c (.p (.int .i64 0))), none⟩])
    (.block 0 (.loop (.seq (.rg [⟨(some 10), .bin .lss (.t 9) (.t 8), none⟩])
      (.seq (.cond (.t 10) .skip
        (.exit 0))
      (.seq (.block 1 (.seq (.rg [⟨(some 11), .iaddr 1 (.t 7) (.t 9), none⟩,
         ⟨(some 12), .load false 1 (.t 11), none⟩,
         ⟨(some 6), .mov (.t 12), none⟩])
       (.seq (.rg [⟨(some 13), .mov (.t 6), none⟩,
         ⟨(some 14), .mov (.t 1), none⟩,
         ⟨(some 15), .bin .eql (.t 13) (.t 14), none⟩])
       (.cond (.t 15) (.seq (.rg [⟨(some 4), .mov (.c (.p (.bool true))), none⟩])
         .ret)
         .skip))))
      (.rg [⟨(some 16), .bin .add (.t 9) (.c (.p (.int .i64 1))), none⟩,
        ⟨(some 9), .mov (.t 16), none⟩])))))))
    (.seq (.rg [⟨(some 4), .mov (.c (.p (.bool false))), none⟩])
    .ret)))
def r32 : List DR := [.tmp 4]
theorem c32_ok : Try.f32.body.bind (cCode Try.prog) = some c32 := by kernel_rfl
theorem r32_ok : cRes Try.prog Try.f32.results.toList = some r32 := by kernel_rfl

/-- given.example/pub-assaymark/pub/miniogo/pkg/notification.EqualEventTypeList -/
def c33 : DC :=
  (.seq (.rg [⟨(some 4), .mov (.c (.p (.bool false))), none⟩])
    (.seq (.seq (.rg [⟨(some 11), .mov (.t 0), none⟩,
      ⟨(some 12), .lenl (.t 11), none⟩,
      ⟨(some 13), .mov (.t 1), none⟩,
      ⟨(some 14), .lenl (.t 13), none⟩,
      ⟨(some 15), .bin .neq (.t 12) (.t 14), none⟩])
    (.cond (.t 15) (.seq (.rg [⟨(some 4), .mov (.c (.p (.bool false))), none⟩])
      .ret)
      .skip))
    (.seq (.rg [⟨(some 16), .callr 48 [], none⟩,
      ⟨(some 5), .mov (.t 16), none⟩])
    (.seq (.seq (.rg [⟨(some 17), .mov (.t 0), none⟩,
      ⟨(some 18), .lenl (.t 17), none⟩,
      ⟨(some 19), .mov (.c (.p (.int .i64 0))), none⟩])
    (.block 0 (.loop (.seq (.rg [⟨(some 20), .bin .lss (.t 19) (.t 18), none⟩])
      (.seq (.cond (.t 20) .skip
        (.exit 0))
      (.seq (.block 1 (.seq (.rg [⟨(some 21), .iaddr 1 (.t 17) (.t 19), none⟩,
         ⟨(some 22), .load false 1 (.t 21), none⟩,
         ⟨(some 7), .mov (.t 22), none⟩])
       (.rg [⟨(some 23), .mov (.t 5), none⟩,
         ⟨(some 24), .mov (.t 7), none⟩,
         ⟨(some 25), .callr 49 [(.t 23), (.t 24)], none⟩])))
      (.rg [⟨(some 26), .bin .add (.t 19) (.c (.p (.int .i64 1))), none⟩,
        ⟨(some 19), .mov (.t 26), none⟩])))))))
    (.seq (.rg [⟨(some 27), .callr 48 [], none⟩,
      ⟨(some 8), .mov (.t 27), none⟩])
    (.seq (.seq (.rg [⟨(some 28), .mov (.t 1), none⟩,
      ⟨(some 29), .lenl (.t 28), none⟩,
      ⟨(some 30), .mov (.c (.p (.int .i64 0))), none⟩])
    (.block 2 (.loop (.seq (.rg [⟨(some 31), .bin .lss (.t 30) (.t 29), none⟩])
      (.seq (.cond (.t 31) .skip
        (.exit 2))
      (.seq (.block 3 (.seq (.rg [⟨(some 32), .iaddr 1 (.t 28) (.t 30), none⟩,
         ⟨(some 33), .load false 1 (.t 32), none⟩,
         ⟨(some 10), .mov (.t 33), none⟩])
       (.rg [⟨(some 34), .mov (.t 8), none⟩,
         ⟨(some 35), .mov (.t 10), none⟩,
         ⟨(some 36), .callr 49 [(.t 34), (.t 35)], none⟩])))
      (.rg [⟨(some 37), .bin .add (.t 30) (.c (.p (.int .i64 1))), none⟩,
        ⟨(some 30), .mov (.t 37), none⟩])))))))
    (.seq (.rg [⟨(some 38), .mov (.t 5), none⟩,
      ⟨(some 39), .mov (.t 8), none⟩,
      ⟨(some 40), .callr 50 [(.t 38), (.t 39)], none⟩,
      ⟨(some 41), .callr 51 [(.t 40)], none⟩,
      ⟨(some 4), .mov (.t 41), none⟩])
    .ret)))))))
def r33 : List DR := [.tmp 4]
theorem c33_ok : Try.f33.body.bind (cCode Try.prog) = some c33 := by kernel_rfl
theorem r33_ok : cRes Try.prog Try.f33.results.toList = some r33 := by kernel_rfl

/-- given.example/pub-assaymark/impl.events -/
def c34 : DC :=
  (.seq (.rg [⟨(some 2), .mov (.c (.p (.slice none 0 0))), none⟩])
    (.seq (.seq (.rg [⟨(some 5), .mov (.t 0), none⟩,
      ⟨(some 6), .lenl (.t 5), none⟩,
      ⟨(some 7), .mov (.c (.p (.int .i64 0))), none⟩])
    (.block 0 (.loop (.seq (.rg [⟨(some 8), .bin .lss (.t 7) (.t 6), none⟩])
      (.seq (.cond (.t 8) .skip
        (.exit 0))
      (.seq (.block 1 (.seq (.rg [⟨(some 9), .iaddr 1 (.t 5) (.t 7), none⟩,
         ⟨(some 10), .load false 1 (.t 9), none⟩,
         ⟨(some 4), .mov (.t 10), none⟩])
       (.rg [⟨(some 11), .mov (.t 2), none⟩,
         ⟨(some 12), .mov (.t 4), none⟩,
         ⟨(some 13), .lit 1 [(.t 12)], none⟩,
         ⟨(some 14), .app 1 16 (.t 11) (.t 13), none⟩,
         ⟨(some 2), .mov (.t 14), none⟩])))
      (.rg [⟨(some 15), .bin .add (.t 7) (.c (.p (.int .i64 1))), none⟩,
        ⟨(some 7), .mov (.t 15), none⟩])))))))
    (.seq (.rg [⟨(some 16), .mov (.t 2), none⟩,
      ⟨(some 2), .mov (.t 16), none⟩])
    .ret)))
def r34 : List DR := [.tmp 2]
theorem c34_ok : Try.f34.body.bind (cCode Try.prog) = some c34 := by kernel_rfl
theorem r34_ok : cRes Try.prog Try.f34.results.toList = some r34 := by kernel_rfl

/-- given.example/pub-assaymark/spec.SetSame -/
def c35 : DC :=
  (.seq (.rg [⟨(some 4), .mov (.c (.p (.bool false))), none⟩])
    (.seq (.seq (.rg [⟨(some 7), .mov (.t 0), none⟩,
      ⟨(some 8), .lenl (.t 7), none⟩,
      ⟨(some 9), .mov (.t 1), none⟩,
      ⟨(some 10), .lenl (.t 9), none⟩,
      ⟨(some 11), .bin .neq (.t 8) (.t 10), none⟩])
    (.cond (.t 11) (.seq (.rg [⟨(some 4), .mov (.c (.p (.bool false))), none⟩])
      .ret)
      .skip))
    (.seq (.seq (.rg [⟨(some 12), .mov (.t 0), none⟩,
      ⟨(some 13), .lenl (.t 12), none⟩,
      ⟨(some 14), .mov (.c (.p (.int .i64 0))), none⟩])
    (.block 0 (.loop (.seq (.rg [⟨(some 15), .bin .lss (.t 14) (.t 13), none⟩])
      (.seq (.cond (.t 15) .skip
        (.exit 0))
      (.seq (.block 1 (.seq (.rg [⟨(some 16), .mov (.t 14), none⟩,
         ⟨(some 17), .iaddr 1 (.t 12) (.t 14), none⟩,
         ⟨(some 18), .load false 1 (.t 17), none⟩,
         ⟨(some 5), .mov (.t 16), none⟩,
         ⟨(some 6), .mov (.t 18), none⟩])
       (.seq (.rg [⟨(some 19), .mov (.t 6), none⟩,
         ⟨(some 20), .mov (.t 1), none⟩,
         ⟨(some 21), .mov (.t 5), none⟩,
         ⟨(some 22), .iaddr 1 (.t 20) (.t 21), none⟩,
         ⟨(some 23), .load false 1 (.t 22), none⟩,
         ⟨(some 24), .bin .neq (.t 19) (.t 23), none⟩])
       (.cond (.t 24) (.seq (.rg [⟨(some 4), .mov (.c (.p (.bool false))), none⟩])
         .ret)
         .skip))))
      (.rg [⟨(some 25), .bin .add (.t 14) (.c (.p (.int .i64 1))), none⟩,
        ⟨(some 14), .mov (.t 25), none⟩])))))))
    (.seq (.rg [⟨(some 4), .mov (.c (.p (.bool true))), none⟩])
    .ret))))
def r35 : List DR := [.tmp 4]
theorem c35_ok : Try.f35.body.bind (cCode Try.prog) = some c35 := by kernel_rfl
theorem r35_ok : cRes Try.prog Try.f35.results.toList = some r35 := by kernel_rfl

/-- given.example/pub-assaymark/spec.SetOf -/
def c36 : DC :=
  (.seq (.rg [⟨(some 2), .mov (.c (.p (.slice none 0 0))), none⟩])
    (.seq (.rg [⟨(some 3), .mov (.c (.p (.slice none 0 0))), none⟩])
    (.seq (.seq (.rg [⟨(some 7), .mov (.t 0), none⟩,
      ⟨(some 8), .lenl (.t 7), none⟩,
      ⟨(some 9), .mov (.c (.p (.int .i64 0))), none⟩])
    (.block 0 (.loop (.seq (.rg [⟨(some 10), .bin .lss (.t 9) (.t 8), none⟩])
      (.seq (.cond (.t 10) .skip
        (.exit 0))
      (.seq (.block 1 (.seq (.rg [⟨(some 11), .iaddr 1 (.t 7) (.t 9), none⟩,
         ⟨(some 12), .load false 1 (.t 11), none⟩,
         ⟨(some 5), .mov (.t 12), none⟩])
       (.seq (.rg [⟨(some 6), .mov (.c (.p (.int .i64 0))), none⟩])
       (.seq (.block 2 (.loop (.seq (.seq (.rg [⟨(some 13), .mov (.t 6), none⟩,
           ⟨(some 14), .mov (.t 3), none⟩,
           ⟨(some 15), .lenl (.t 14), none⟩,
           ⟨(some 16), .bin .lss (.t 13) (.t 15), none⟩,
           ⟨(some 17), .mov (.t 16), none⟩,
           ⟨(some 18), .mov (.t 3), (some (17, true))⟩,
           ⟨(some 19), .mov (.t 6), (some (17, true))⟩,
           ⟨(some 20), .iaddr 1 (.t 18) (.t 19), (some (17, true))⟩,
           ⟨(some 21), .load false 1 (.t 20), (some (17, true))⟩,
           ⟨(some 22), .mov (.t 5), (some (17, true))⟩,
           ⟨(some 23), .bin .lss (.t 21) (.t 22), (some (17, true))⟩,
           ⟨(some 24), .pick (.t 17) (.t 23) (.c (.p (.bool false))), none⟩])
         (.cond (.t 24) .skip
           (.exit 2)))
         (.block 3 (.rg [⟨(some 25), .mov (.t 6), none⟩,
            ⟨(some 26), .bin .add (.t 25) (.c (.p (.int .i64 1))), none⟩,
            ⟨(some 6), .mov (.t 26), none⟩])))))
       (.seq (.rg [⟨(some 27), .mov (.t 6), none⟩,
         ⟨(some 28), .mov (.t 3), none⟩,
         ⟨(some 29), .lenl (.t 28), none⟩,
         ⟨(some 30), .bin .eql (.t 27) (.t 29), none⟩,
         ⟨(some 31), .mov (.t 30), none⟩,
         ⟨(some 32), .mov (.t 3), (some (31, false))⟩,
         ⟨(some 33), .mov (.t 6), (some (31, false))⟩,
         ⟨(some 34), .iaddr 1 (.t 32) (.t 33), (some (31, false))⟩,
         ⟨(some 35), .load false 1 (.t 34), (some (31, false))⟩,
         ⟨(some 36), .mov (.t 5), (some (31, false))⟩,
         ⟨(some 37), .bin .neq (.t 35) (.t 36), (some (31, false))⟩,
         ⟨(some 38), .pick (.t 31) (.c (.p (.bool true))) (.t 37), none⟩])
       (.cond (.t 38) (.rgd [⟨⟨(some 39), .mov (.t 3), none⟩, 0, [0]⟩,
           ⟨⟨(some 40), .mov (.t 6), none⟩, 0, [0]⟩,
           ⟨⟨(some 41), .slcl 1 (.t 39) none (some (.t 40)), none⟩, 0, [0]⟩,
           ⟨⟨(some 42), .mov (.t 5), none⟩, 0, [0]⟩,
           ⟨⟨(some 43), .lit 1 [(.t 42)], none⟩, 0, [0]⟩,
           ⟨⟨(some 44), .mov (.t 3), none⟩, 0, [0]⟩,
           ⟨⟨(some 45), .mov (.t 6), none⟩, 0, [0]⟩,
           ⟨⟨(some 46), .slcl 1 (.t 44) (some (.t 45)) none, none⟩, 0, [0]⟩,
           ⟨⟨(some 47), .app 1 16 (.t 43) (.t 46), none⟩, 1, [0]⟩,
           ⟨⟨(some 48), .app 1 16 (.t 41) (.t 47), none⟩, 2, []⟩,
           ⟨⟨(some 3), .mov (.t 48), none⟩, 3, []⟩])
         .skip))))))
      (.rg [⟨(some 49), .bin .add (.t 9) (.c (.p (.int .i64 1))), none⟩,
        ⟨(some 9), .mov (.t 49), none⟩])))))))
    (.seq (.rg [⟨(some 50), .mov (.t 3), none⟩,
      ⟨(some 2), .mov (.t 50), none⟩])
    .ret))))
def r36 : List DR := [.tmp 2]
theorem c36_ok : Try.f36.body.bind (cCode Try.prog) = some c36 := by kernel_rfl
theorem r36_ok : cRes Try.prog Try.f36.results.toList = some r36 := by kernel_rfl

/-- given.example/pub-assaymark/pub/miniogo/pkg/notification.EqualFilterRuleList -/
def c37 : DC :=
  (.seq (.rg [⟨(some 4), .mov (.c (.p (.bool false))), none⟩])
    (.seq (.seq (.rg [⟨(some 11), .mov (.t 0), none⟩,
      ⟨(some 12), .lenl (.t 11), none⟩,
      ⟨(some 13), .mov (.t 1), none⟩,
      ⟨(some 14), .lenl (.t 13), none⟩,
      ⟨(some 15), .bin .neq (.t 12) (.t 14), none⟩])
    (.cond (.t 15) (.seq (.rg [⟨(some 4), .mov (.c (.p (.bool false))), none⟩])
      .ret)
      .skip))
    (.seq (.rg [⟨(some 16), .callr 48 [], none⟩,
      ⟨(some 5), .mov (.t 16), none⟩])
    (.seq (.seq (.rg [⟨(some 17), .mov (.t 0), none⟩,
      ⟨(some 18), .lenl (.t 17), none⟩,
      ⟨(some 19), .mov (.c (.p (.int .i64 0))), none⟩])
    (.block 0 (.loop (.seq (.rg [⟨(some 20), .bin .lss (.t 19) (.t 18), none⟩])
      (.seq (.cond (.t 20) .skip
        (.exit 0))
      (.seq (.block 1 (.seq (.rg [⟨(some 21), .iaddr 2 (.t 17) (.t 19), none⟩,
         ⟨(some 22), .load true 2 (.t 21), none⟩,
         ⟨(some 7), .alloc 2 (.agg [.p (.string ⟨#[]⟩), .p (.string ⟨#[]⟩)]), none⟩,
         ⟨none, .store 2 (.t 7) (.t 22), none⟩])
       (.rg [⟨(some 23), .mov (.t 5), none⟩,
         ⟨(some 24), .faddr false 0 1 (.t 7), none⟩,
         ⟨(some 25), .load false 1 (.t 24), none⟩,
         ⟨(some 26), .bin .add (.t 25) (.c (.p (.string ⟨#[45]⟩))), none⟩,
         ⟨(some 27), .faddr false 1 1 (.t 7), none⟩,
         ⟨(some 28), .load false 1 (.t 27), none⟩,
         ⟨(some 29), .bin .add (.t 26) (.t 28), none⟩,
         ⟨(some 30), .callr 49 [(.t 23), (.t 29)], none⟩])))
      (.rg [⟨(some 31), .bin .add (.t 19) (.c (.p (.int .i64 1))), none⟩,
        ⟨(some 19), .mov (.t 31), none⟩])))))))
    (.seq (.rg [⟨(some 32), .callr 48 [], none⟩,
      ⟨(some 8), .mov (.t 32), none⟩])
    (.seq (.seq (.rg [⟨(some 33), .mov (.t 1), none⟩,
      ⟨(some 34), .lenl (.t 33), none⟩,
      ⟨(some 35), .mov (.c (.p (.int .i64 0))), none⟩])
    (.block 2 (.loop (.seq (.rg [⟨(some 36), .bin .lss (.t 35) (.t 34), none⟩])
      (.seq (.cond (.t 36) .skip
        (.exit 2))
      (.seq (.block 3 (.seq (.rg [⟨(some 37), .iaddr 2 (.t 33) (.t 35), none⟩,
         ⟨(some 38), .load true 2 (.t 37), none⟩,
         ⟨(some 10), .alloc 2 (.agg [.p (.string ⟨#[]⟩), .p (.string ⟨#[]⟩)]), none⟩,
         ⟨none, .store 2 (.t 10) (.t 38), none⟩])
       (.rg [⟨(some 39), .mov (.t 8), none⟩,
         ⟨(some 40), .faddr false 0 1 (.t 10), none⟩,
         ⟨(some 41), .load false 1 (.t 40), none⟩,
         ⟨(some 42), .bin .add (.t 41) (.c (.p (.string ⟨#[45]⟩))), none⟩,
         ⟨(some 43), .faddr false 1 1 (.t 10), none⟩,
         ⟨(some 44), .load false 1 (.t 43), none⟩,
         ⟨(some 45), .bin .add (.t 42) (.t 44), none⟩,
         ⟨(some 46), .callr 49 [(.t 39), (.t 45)], none⟩])))
      (.rg [⟨(some 47), .bin .add (.t 35) (.c (.p (.int .i64 1))), none⟩,
        ⟨(some 35), .mov (.t 47), none⟩])))))))
    (.seq (.rg [⟨(some 48), .mov (.t 5), none⟩,
      ⟨(some 49), .mov (.t 8), none⟩,
      ⟨(some 50), .callr 50 [(.t 48), (.t 49)], none⟩,
      ⟨(some 51), .callr 51 [(.t 50)], none⟩,
      ⟨(some 4), .mov (.t 51), none⟩])
    .ret)))))))
def r37 : List DR := [.tmp 4]
theorem c37_ok : Try.f37.body.bind (cCode Try.prog) = some c37 := by kernel_rfl
theorem r37_ok : cRes Try.prog Try.f37.results.toList = some r37 := by kernel_rfl

/-- given.example/pub-assaymark/impl.ntRules -/
def c38 : DC :=
  (.seq (.rg [⟨(some 2), .mov (.c (.p (.slice none 0 0))), none⟩])
    (.seq (.seq (.rg [⟨(some 3), .mov (.c (.p (.int .i64 0))), none⟩])
    (.block 0 (.loop (.seq (.seq (.rg [⟨(some 4), .mov (.t 3), none⟩,
        ⟨(some 5), .bin .add (.t 4) (.c (.p (.int .i64 1))), none⟩,
        ⟨(some 6), .mov (.t 0), none⟩,
        ⟨(some 7), .lenl (.t 6), none⟩,
        ⟨(some 8), .bin .lss (.t 5) (.t 7), none⟩])
      (.cond (.t 8) .skip
        (.exit 0)))
      (.seq (.block 1 (.rgd [⟨⟨(some 11), .mov (.t 2), none⟩, 0, [0]⟩,
         ⟨⟨(some 12), .mov (.t 0), none⟩, 0, [0]⟩,
         ⟨⟨(some 13), .mov (.t 3), none⟩, 0, [0]⟩,
         ⟨⟨(some 14), .iaddr 1 (.t 12) (.t 13), none⟩, 0, [0]⟩,
         ⟨⟨(some 15), .load false 1 (.t 14), none⟩, 0, [0]⟩,
         ⟨⟨(some 16), .mov (.t 0), none⟩, 0, [0]⟩,
         ⟨⟨(some 17), .mov (.t 3), none⟩, 0, [0]⟩,
         ⟨⟨(some 18), .bin .add (.t 17) (.c (.p (.int .i64 1))), none⟩, 0, [0]⟩,
         ⟨⟨(some 19), .iaddr 1 (.t 16) (.t 18), none⟩, 0, [0]⟩,
         ⟨⟨(some 20), .load false 1 (.t 19), none⟩, 0, [0]⟩,
         ⟨⟨(some 21), .bld [.p (.string ⟨#[]⟩), .p (.string ⟨#[]⟩)] [(0, 1, (.t 15)), (1, 1, (.t 20))], none⟩, 0, []⟩,
         ⟨⟨(some 22), .lit 2 [(.t 21)], none⟩, 0, []⟩,
         ⟨⟨(some 23), .app 2 32 (.t 11) (.t 22), none⟩, 1, []⟩,
         ⟨⟨(some 2), .mov (.t 23), none⟩, 2, []⟩]))
      (.rg [⟨(some 9), .mov (.t 3), none⟩,
        ⟨(some 10), .bin .add (.t 9) (.c (.p (.int .i64 2))), none⟩,
        ⟨(some 3), .mov (.t 10), none⟩]))))))
    (.seq (.rg [⟨(some 24), .mov (.t 2), none⟩,
      ⟨(some 2), .mov (.t 24), none⟩])
    .ret)))
def r38 : List DR := [.tmp 2]
theorem c38_ok : Try.f38.body.bind (cCode Try.prog) = some c38 := by kernel_rfl
theorem r38_ok : cRes Try.prog Try.f38.results.toList = some r38 := by kernel_rfl

/-- given.example/pub-assaymark/pub/miniogo/pkg/notification.NewArnFromString -/
def c39 : DC :=
  (.seq (.rg [⟨(some 2), .alloc 5 (.agg [.p (.string ⟨#[]⟩), .p (.string ⟨#[]⟩), .p (.string ⟨#[]⟩), .p (.string ⟨#[]⟩), .p (.string ⟨#[]⟩)]), none⟩,
      ⟨(some 3), .mov (.c (.p .nilIface)), none⟩])
    (.seq (.rg [⟨(some 5), .mov (.t 0), none⟩,
      ⟨(some 6), .callr 52 [(.t 5), (.c (.p (.string ⟨#[58]⟩)))], none⟩,
      ⟨(some 4), .mov (.t 6), none⟩])
    (.seq (.seq (.rg [⟨(some 7), .mov (.t 4), none⟩,
      ⟨(some 8), .lenl (.t 7), none⟩,
      ⟨(some 9), .bin .neq (.t 8) (.c (.p (.int .i64 6))), none⟩])
    (.cond (.t 9) (.seq (.rg [⟨(some 10), .bld [.p (.string ⟨#[]⟩), .p (.string ⟨#[]⟩), .p (.string ⟨#[]⟩), .p (.string ⟨#[]⟩), .p (.string ⟨#[]⟩)] [], none⟩,
        ⟨(some 11), .ifc 65 (.c (.p (.string ⟨#[105, 110, 118, 97, 108, 105, 100, 32, 65, 82, 78, 32, 102, 111, 114, 109, 97, 116, 44, 32, 109, 117, 115, 116, 32, 98, 101, 32, 39, 97, 114, 110, 58, 60, 112, 97, 114, 116, 105, 116, 105, 111, 110, 62, 58, 60, 115, 101, 114, 118, 105, 99, 101, 62, 58, 60, 114, 101, 103, 105, 111, 110, 62, 58, 60, 97, 99, 99, 111, 117, 110, 116, 73, 68, 62, 58, 60, 114, 101, 115, 111, 117, 114, 99, 101, 62, 39]⟩))), none⟩,
        ⟨none, .store 5 (.t 2) (.t 10), none⟩,
        ⟨(some 3), .mov (.t 11), none⟩])
      .ret)
      .skip))
    (.seq (.seq (.rg [⟨(some 12), .mov (.t 4), none⟩,
      ⟨(some 13), .iaddr 1 (.t 12) (.c (.p (.int .i64 0))), none⟩,
      ⟨(some 14), .load false 1 (.t 13), none⟩,
      ⟨(some 15), .bin .neq (.t 14) (.c (.p (.string ⟨#[97, 114, 110]⟩))), none⟩])
    (.cond (.t 15) (.seq (.rg [⟨(some 16), .bld [.p (.string ⟨#[]⟩), .p (.string ⟨#[]⟩), .p (.string ⟨#[]⟩), .p (.string ⟨#[]⟩), .p (.string ⟨#[]⟩)] [], none⟩,
        ⟨(some 17), .ifc 65 (.c (.p (.string ⟨#[105, 110, 118, 97, 108, 105, 100, 32, 65, 82, 78, 32, 102, 111, 114, 109, 97, 116, 44, 32, 109, 117, 115, 116, 32, 115, 116, 97, 114, 116, 32, 119, 105, 116, 104, 32, 39, 97, 114, 110, 58, 39]⟩))), none⟩,
        ⟨none, .store 5 (.t 2) (.t 16), none⟩,
        ⟨(some 3), .mov (.t 17), none⟩])
      .ret)
      .skip))
    (.seq (.rgd [⟨⟨(some 18), .mov (.t 4), none⟩, 0, [0]⟩,
      ⟨⟨(some 19), .iaddr 1 (.t 18) (.c (.p (.int .i64 1))), none⟩, 0, [0]⟩,
      ⟨⟨(some 20), .load false 1 (.t 19), none⟩, 0, [0]⟩,
      ⟨⟨(some 21), .mov (.t 4), none⟩, 0, [0]⟩,
      ⟨⟨(some 22), .iaddr 1 (.t 21) (.c (.p (.int .i64 2))), none⟩, 0, [0]⟩,
      ⟨⟨(some 23), .load false 1 (.t 22), none⟩, 0, [0]⟩,
      ⟨⟨(some 24), .mov (.t 4), none⟩, 0, [0]⟩,
      ⟨⟨(some 25), .iaddr 1 (.t 24) (.c (.p (.int .i64 3))), none⟩, 0, [0]⟩,
      ⟨⟨(some 26), .load false 1 (.t 25), none⟩, 0, [0]⟩,
      ⟨⟨(some 27), .mov (.t 4), none⟩, 0, [0]⟩,
      ⟨⟨(some 28), .iaddr 1 (.t 27) (.c (.p (.int .i64 4))), none⟩, 0, [0]⟩,
      ⟨⟨(some 29), .load false 1 (.t 28), none⟩, 0, [0]⟩,
      ⟨⟨(some 30), .mov (.t 4), none⟩, 0, [0]⟩,
      ⟨⟨(some 31), .iaddr 1 (.t 30) (.c (.p (.int .i64 5))), none⟩, 0, [0]⟩,
      ⟨⟨(some 32), .load false 1 (.t 31), none⟩, 0, [0]⟩,
      ⟨⟨(some 33), .call 53 [(.t 20), (.t 23), (.t 26), (.t 29), (.t 32)], none⟩, 0, []⟩,
      ⟨⟨none, .store 5 (.t 2) (.t 33), none⟩, 1, []⟩,
      ⟨⟨(some 3), .mov (.c (.p .nilIface)), none⟩, 2, []⟩])
    .ret)))))
def r39 : List DR := [.cell 2 true 5, .tmp 3]
theorem c39_ok : Try.f39.body.bind (cCode Try.prog) = some c39 := by kernel_rfl
theorem r39_ok : cRes Try.prog Try.f39.results.toList = some r39 := by kernel_rfl

/-- given.example/pub-assaymark/impl.arnTold -/
def c40 : DC :=
  (.seq (.rg [⟨(some 1), .box (.t 0), none⟩,
      ⟨(some 2), .alloc 5 (.agg [.p (.string ⟨#[]⟩), .p (.string ⟨#[]⟩), .p (.string ⟨#[]⟩), .p (.string ⟨#[]⟩), .p (.string ⟨#[]⟩)]), none⟩])
    (.seq (.rg [⟨(some 3), .faddr false 0 1 (.t 1), none⟩,
      ⟨(some 4), .load false 1 (.t 3), none⟩,
      ⟨(some 5), .faddr false 1 1 (.t 1), none⟩,
      ⟨(some 6), .load false 1 (.t 5), none⟩,
      ⟨(some 7), .faddr false 2 1 (.t 1), none⟩,
      ⟨(some 8), .load false 1 (.t 7), none⟩,
      ⟨(some 9), .faddr false 3 1 (.t 1), none⟩,
      ⟨(some 10), .load false 1 (.t 9), none⟩,
      ⟨(some 11), .faddr false 4 1 (.t 1), none⟩,
      ⟨(some 12), .load false 1 (.t 11), none⟩,
      ⟨(some 13), .bld [.p (.string ⟨#[]⟩), .p (.string ⟨#[]⟩), .p (.string ⟨#[]⟩), .p (.string ⟨#[]⟩), .p (.string ⟨#[]⟩)] [(0, 1, (.t 4)), (1, 1, (.t 6)), (2, 1, (.t 8)), (3, 1, (.t 10)), (4, 1, (.t 12))], none⟩,
      ⟨none, .store 5 (.t 2) (.t 13), none⟩])
    .ret))
def r40 : List DR := [.cell 2 true 5]
theorem c40_ok : Try.f40.body.bind (cCode Try.prog) = some c40 := by kernel_rfl
theorem r40_ok : cRes Try.prog Try.f40.results.toList = some r40 := by kernel_rfl

/-- given.example/pub-assaymark/laws.arnPart -/
def c41 : DC :=
  (.seq (.rg [⟨(some 2), .mov (.c (.p (.string ⟨#[]⟩))), none⟩])
    (.seq (.rg [⟨(some 3), .mov (.c (.p (.slice none 0 0))), none⟩])
    (.seq (.seq (.rg [⟨(some 6), .mov (.t 0), none⟩,
      ⟨(some 7), .mov (.t 0), none⟩,
      ⟨(some 8), .lens (.t 7), none⟩,
      ⟨(some 9), .mm false (.t 8) (.c (.p (.int .i64 20))), none⟩,
      ⟨(some 10), .slcs (.t 6) none (some (.t 9)), none⟩,
      ⟨(some 11), .s2b (.t 10), none⟩,
      ⟨(some 12), .lenl (.t 11), none⟩,
      ⟨(some 13), .mov (.c (.p (.int .i64 0))), none⟩])
    (.block 0 (.loop (.seq (.rg [⟨(some 14), .bin .lss (.t 13) (.t 12), none⟩])
      (.seq (.cond (.t 14) .skip
        (.exit 0))
      (.seq (.block 1 (.seq (.rg [⟨(some 15), .iaddr 1 (.t 11) (.t 13), none⟩,
         ⟨(some 16), .load false 1 (.t 15), none⟩,
         ⟨(some 5), .mov (.t 16), none⟩])
       (.seq (.rg [⟨(some 17), .mov (.t 5), none⟩,
         ⟨(some 18), .bin .neq (.t 17) (.c (.p (.int .u8 58))), none⟩])
       (.cond (.t 18) (.rg [⟨(some 19), .mov (.t 3), none⟩,
           ⟨(some 20), .mov (.t 5), none⟩,
           ⟨(some 21), .lit 1 [(.t 20)], none⟩,
           ⟨(some 22), .app 1 1 (.t 19) (.t 21), none⟩,
           ⟨(some 3), .mov (.t 22), none⟩])
         .skip))))
      (.rg [⟨(some 23), .bin .add (.t 13) (.c (.p (.int .i64 1))), none⟩,
        ⟨(some 13), .mov (.t 23), none⟩])))))))
    (.seq (.rg [⟨(some 24), .mov (.t 3), none⟩,
      ⟨(some 25), .b2s (.t 24), none⟩,
      ⟨(some 2), .mov (.t 25), none⟩])
    .ret))))
def r41 : List DR := [.tmp 2]
theorem c41_ok : Try.f41.body.bind (cCode Try.prog) = some c41 := by kernel_rfl
theorem r41_ok : cRes Try.prog Try.f41.results.toList = some r41 := by kernel_rfl

/-- given.example/pub-assaymark/impl.arnOf -/
def c42 : DC :=
  (.seq (.rg [⟨(some 1), .box (.t 0), none⟩,
      ⟨(some 2), .alloc 5 (.agg [.p (.string ⟨#[]⟩), .p (.string ⟨#[]⟩), .p (.string ⟨#[]⟩), .p (.string ⟨#[]⟩), .p (.string ⟨#[]⟩)]), none⟩])
    (.seq (.rg [⟨(some 3), .faddr false 0 1 (.t 1), none⟩,
      ⟨(some 4), .load false 1 (.t 3), none⟩,
      ⟨(some 5), .faddr false 1 1 (.t 1), none⟩,
      ⟨(some 6), .load false 1 (.t 5), none⟩,
      ⟨(some 7), .faddr false 2 1 (.t 1), none⟩,
      ⟨(some 8), .load false 1 (.t 7), none⟩,
      ⟨(some 9), .faddr false 3 1 (.t 1), none⟩,
      ⟨(some 10), .load false 1 (.t 9), none⟩,
      ⟨(some 11), .faddr false 4 1 (.t 1), none⟩,
      ⟨(some 12), .load false 1 (.t 11), none⟩,
      ⟨(some 13), .callr 53 [(.t 4), (.t 6), (.t 8), (.t 10), (.t 12)], none⟩,
      ⟨none, .store 5 (.t 2) (.t 13), none⟩])
    .ret))
def r42 : List DR := [.cell 2 true 5]
theorem c42_ok : Try.f42.body.bind (cCode Try.prog) = some c42 := by kernel_rfl
theorem r42_ok : cRes Try.prog Try.f42.results.toList = some r42 := by kernel_rfl

/-- (given.example/pub-assaymark/pub/miniogo/pkg/notification.Arn).String -/
def c43 : DC :=
  (.seq (.rg [⟨(some 1), .box (.t 0), none⟩,
      ⟨(some 2), .mov (.c (.p (.string ⟨#[]⟩))), none⟩])
    (.seq (.rg [⟨(some 3), .faddr false 0 1 (.t 1), none⟩,
      ⟨(some 4), .load false 1 (.t 3), none⟩,
      ⟨(some 5), .bin .add (.c (.p (.string ⟨#[97, 114, 110, 58]⟩))) (.t 4), none⟩,
      ⟨(some 6), .bin .add (.t 5) (.c (.p (.string ⟨#[58]⟩))), none⟩,
      ⟨(some 7), .faddr false 1 1 (.t 1), none⟩,
      ⟨(some 8), .load false 1 (.t 7), none⟩,
      ⟨(some 9), .bin .add (.t 6) (.t 8), none⟩,
      ⟨(some 10), .bin .add (.t 9) (.c (.p (.string ⟨#[58]⟩))), none⟩,
      ⟨(some 11), .faddr false 2 1 (.t 1), none⟩,
      ⟨(some 12), .load false 1 (.t 11), none⟩,
      ⟨(some 13), .bin .add (.t 10) (.t 12), none⟩,
      ⟨(some 14), .bin .add (.t 13) (.c (.p (.string ⟨#[58]⟩))), none⟩,
      ⟨(some 15), .faddr false 3 1 (.t 1), none⟩,
      ⟨(some 16), .load false 1 (.t 15), none⟩,
      ⟨(some 17), .bin .add (.t 14) (.t 16), none⟩,
      ⟨(some 18), .bin .add (.t 17) (.c (.p (.string ⟨#[58]⟩))), none⟩,
      ⟨(some 19), .faddr false 4 1 (.t 1), none⟩,
      ⟨(some 20), .load false 1 (.t 19), none⟩,
      ⟨(some 21), .bin .add (.t 18) (.t 20), none⟩,
      ⟨(some 2), .mov (.t 21), none⟩])
    .ret))
def r43 : List DR := [.tmp 2]
theorem c43_ok : Try.f43.body.bind (cCode Try.prog) = some c43 := by kernel_rfl
theorem r43_ok : cRes Try.prog Try.f43.results.toList = some r43 := by kernel_rfl

/-- given.example/pub-assaymark/impl.noticeOf -/
def c44 : DC :=
  (.seq (.rg [⟨(some 1), .box (.t 0), none⟩,
      ⟨(some 2), .alloc 8 (.agg [.p (.string ⟨#[]⟩), .p (.string ⟨#[]⟩), .p (.string ⟨#[]⟩), .p (.string ⟨#[]⟩), .p (.string ⟨#[]⟩), .p (.string ⟨#[]⟩), .p (.slice none 0 0), .p (.pointer none)]), none⟩])
    (.seq (.rg [⟨(some 8), .faddr true 1 5 (.t 1), none⟩,
      ⟨(some 9), .load true 5 (.t 8), none⟩,
      ⟨(some 10), .callr 42 [(.t 9)], none⟩,
      ⟨(some 11), .callr 54 [(.t 10)], none⟩,
      ⟨(some 3), .alloc 8 (.agg [.p (.string ⟨#[]⟩), .p (.string ⟨#[]⟩), .p (.string ⟨#[]⟩), .p (.string ⟨#[]⟩), .p (.string ⟨#[]⟩), .p (.string ⟨#[]⟩), .p (.slice none 0 0), .p (.pointer none)]), none⟩,
      ⟨none, .store 8 (.t 3) (.t 11), none⟩])
    (.seq (.rg [⟨(some 12), .faddr false 6 1 (.t 1), none⟩,
      ⟨(some 13), .load false 1 (.t 12), none⟩,
      ⟨(some 14), .callr 34 [(.t 13)], none⟩,
      ⟨(some 15), .callr 55 [(.t 3), (.t 14)], none⟩])
    (.seq (.seq (.rg [⟨(some 16), .faddr false 7 1 (.t 1), none⟩,
      ⟨(some 17), .load false 1 (.t 16), none⟩,
      ⟨(some 18), .lenl (.t 17), none⟩,
      ⟨(some 19), .mov (.c (.p (.int .i64 0))), none⟩])
    (.block 0 (.loop (.seq (.rg [⟨(some 20), .bin .lss (.t 19) (.t 18), none⟩])
      (.seq (.cond (.t 20) .skip
        (.exit 0))
      (.seq (.block 1 (.seq (.rg [⟨(some 21), .iaddr 1 (.t 17) (.t 19), none⟩,
         ⟨(some 22), .load false 1 (.t 21), none⟩,
         ⟨(some 5), .mov (.t 22), none⟩])
       (.rg [⟨(some 23), .mov (.t 5), none⟩,
         ⟨(some 24), .callr 56 [(.t 3), (.t 23)], none⟩])))
      (.rg [⟨(some 25), .bin .add (.t 19) (.c (.p (.int .i64 1))), none⟩,
        ⟨(some 19), .mov (.t 25), none⟩])))))))
    (.seq (.seq (.rg [⟨(some 26), .faddr false 8 1 (.t 1), none⟩,
      ⟨(some 27), .load false 1 (.t 26), none⟩,
      ⟨(some 28), .lenl (.t 27), none⟩,
      ⟨(some 29), .mov (.c (.p (.int .i64 0))), none⟩])
    (.block 2 (.loop (.seq (.rg [⟨(some 30), .bin .lss (.t 29) (.t 28), none⟩])
      (.seq (.cond (.t 30) .skip
        (.exit 2))
      (.seq (.block 3 (.seq (.rg [⟨(some 31), .iaddr 1 (.t 27) (.t 29), none⟩,
         ⟨(some 32), .load false 1 (.t 31), none⟩,
         ⟨(some 7), .mov (.t 32), none⟩])
       (.rg [⟨(some 33), .mov (.t 7), none⟩,
         ⟨(some 34), .callr 57 [(.t 3), (.t 33)], none⟩])))
      (.rg [⟨(some 35), .bin .add (.t 29) (.c (.p (.int .i64 1))), none⟩,
        ⟨(some 29), .mov (.t 35), none⟩])))))))
    (.seq (.rg [⟨(some 36), .load true 8 (.t 3), none⟩,
      ⟨none, .store 8 (.t 2) (.t 36), none⟩])
    .ret))))))
def r44 : List DR := [.cell 2 true 8]
theorem c44_ok : Try.f44.body.bind (cCode Try.prog) = some c44 := by kernel_rfl
theorem r44_ok : cRes Try.prog Try.f44.results.toList = some r44 := by kernel_rfl

/-- (*given.example/pub-assaymark/pub/miniogo/pkg/notification.Config).Equal -/
def c45 : DC :=
  (.seq (.rg [⟨(some 8), .mov (.c (.p (.bool false))), none⟩])
    (.seq (.seq (.rg [⟨(some 13), .mov (.t 0), none⟩,
      ⟨(some 14), .eqn false .ptr (.t 13), none⟩])
    (.cond (.t 14) (.seq (.rg [⟨(some 8), .mov (.c (.p (.bool false))), none⟩])
      .ret)
      .skip))
    (.seq (.rg [⟨(some 15), .mov (.t 0), none⟩,
      ⟨(some 16), .nilchk .ptr (.t 15), none⟩,
      ⟨(some 17), .faddr false 6 1 (.t 16), none⟩,
      ⟨(some 18), .load false 1 (.t 17), none⟩,
      ⟨(some 19), .mov (.t 1), none⟩,
      ⟨(some 20), .callr 33 [(.t 18), (.t 19)], none⟩,
      ⟨(some 9), .mov (.t 20), none⟩])
    (.seq (.rg [⟨(some 10), .mov (.c (.p (.slice none 0 0))), none⟩])
    (.seq (.seq (.rg [⟨(some 21), .mov (.t 2), none⟩,
      ⟨(some 22), .bin .neq (.t 21) (.c (.p (.string ⟨#[]⟩))), none⟩])
    (.cond (.t 22) (.rg [⟨(some 23), .mov (.t 10), none⟩,
        ⟨(some 24), .mov (.t 2), none⟩,
        ⟨(some 25), .bld [.p (.string ⟨#[]⟩), .p (.string ⟨#[]⟩)] [(0, 1, (.c (.p (.string ⟨#[112, 114, 101, 102, 105, 120]⟩)))), (1, 1, (.t 24))], none⟩,
        ⟨(some 26), .lit 2 [(.t 25)], none⟩,
        ⟨(some 27), .app 2 32 (.t 23) (.t 26), none⟩,
        ⟨(some 10), .mov (.t 27), none⟩])
      .skip))
    (.seq (.seq (.rg [⟨(some 28), .mov (.t 3), none⟩,
      ⟨(some 29), .bin .neq (.t 28) (.c (.p (.string ⟨#[]⟩))), none⟩])
    (.cond (.t 29) (.rg [⟨(some 30), .mov (.t 10), none⟩,
        ⟨(some 31), .mov (.t 3), none⟩,
        ⟨(some 32), .bld [.p (.string ⟨#[]⟩), .p (.string ⟨#[]⟩)] [(0, 1, (.c (.p (.string ⟨#[115, 117, 102, 102, 105, 120]⟩)))), (1, 1, (.t 31))], none⟩,
        ⟨(some 33), .lit 2 [(.t 32)], none⟩,
        ⟨(some 34), .app 2 32 (.t 30) (.t 33), none⟩,
        ⟨(some 10), .mov (.t 34), none⟩])
      .skip))
    (.seq (.rg [⟨(some 11), .mov (.c (.p (.slice none 0 0))), none⟩])
    (.seq (.seq (.rg [⟨(some 35), .mov (.t 0), none⟩,
      ⟨(some 36), .nilchk .ptr (.t 35), none⟩,
      ⟨(some 37), .faddr false 7 1 (.t 36), none⟩,
      ⟨(some 38), .load false 1 (.t 37), none⟩,
      ⟨(some 39), .eqn true .ptr (.t 38), none⟩])
    (.cond (.t 39) (.rg [⟨(some 40), .mov (.t 0), none⟩,
        ⟨(some 41), .nilchk .ptr (.t 40), none⟩,
        ⟨(some 42), .faddr false 7 1 (.t 41), none⟩,
        ⟨(some 43), .load false 1 (.t 42), none⟩,
        ⟨(some 44), .nilchk .ptr (.t 43), none⟩,
        ⟨(some 45), .faddr true 0 1 (.t 44), none⟩,
        ⟨(some 46), .faddr false 0 1 (.t 45), none⟩,
        ⟨(some 47), .load false 1 (.t 46), none⟩,
        ⟨(some 11), .mov (.t 47), none⟩])
      .skip))
    (.seq (.rg [⟨(some 48), .mov (.t 11), none⟩,
      ⟨(some 49), .mov (.t 10), none⟩,
      ⟨(some 50), .callr 37 [(.t 48), (.t 49)], none⟩,
      ⟨(some 12), .mov (.t 50), none⟩])
    (.seq (.rg [⟨(some 51), .mov (.t 9), none⟩,
      ⟨(some 52), .mov (.t 51), none⟩,
      ⟨(some 53), .mov (.t 12), (some (52, true))⟩,
      ⟨(some 54), .pick (.t 52) (.t 53) (.c (.p (.bool false))), none⟩,
      ⟨(some 8), .mov (.t 54), none⟩])
    .ret))))))))))
def r45 : List DR := [.tmp 8]
theorem c45_ok : Try.f45.body.bind (cCode Try.prog) = some c45 := by kernel_rfl
theorem r45_ok : cRes Try.prog Try.f45.results.toList = some r45 := by kernel_rfl

/-- given.example/pub-assaymark/spec.first -/
def c46 : DC :=
  (.seq (.rg [⟨(some 2), .mov (.c (.p (.string ⟨#[]⟩))), none⟩])
    (.seq (.seq (.rg [⟨(some 3), .mov (.t 0), none⟩,
      ⟨(some 4), .lenl (.t 3), none⟩,
      ⟨(some 5), .bin .eql (.t 4) (.c (.p (.int .i64 0))), none⟩])
    (.cond (.t 5) (.seq (.rg [⟨(some 2), .mov (.c (.p (.string ⟨#[]⟩))), none⟩])
      .ret)
      .skip))
    (.seq (.rg [⟨(some 6), .mov (.t 0), none⟩,
      ⟨(some 7), .iaddr 1 (.t 6) (.c (.p (.int .i64 0))), none⟩,
      ⟨(some 8), .load false 1 (.t 7), none⟩,
      ⟨(some 2), .mov (.t 8), none⟩])
    .ret)))
def r46 : List DR := [.tmp 2]
theorem c46_ok : Try.f46.body.bind (cCode Try.prog) = some c46 := by kernel_rfl
theorem r46_ok : cRes Try.prog Try.f46.results.toList = some r46 := by kernel_rfl

/-- given.example/pub-assaymark/laws.setTexts -/
def c47 : DC :=
  (.seq (.rg [⟨(some 2), .mov (.c (.p (.slice none 0 0))), none⟩])
    (.seq (.rg [⟨(some 3), .mov (.c (.p (.slice none 0 0))), none⟩])
    (.seq (.seq (.rg [⟨(some 6), .mov (.t 0), none⟩,
      ⟨(some 7), .mov (.t 0), none⟩,
      ⟨(some 8), .lenl (.t 7), none⟩,
      ⟨(some 9), .mm false (.t 8) (.c (.p (.int .i64 10))), none⟩,
      ⟨(some 10), .slcl 1 (.t 6) none (some (.t 9)), none⟩,
      ⟨(some 11), .lenl (.t 10), none⟩,
      ⟨(some 12), .mov (.c (.p (.int .i64 0))), none⟩])
    (.block 0 (.loop (.seq (.rg [⟨(some 13), .bin .lss (.t 12) (.t 11), none⟩])
      (.seq (.cond (.t 13) .skip
        (.exit 0))
      (.seq (.block 1 (.seq (.rg [⟨(some 14), .iaddr 1 (.t 10) (.t 12), none⟩,
         ⟨(some 15), .load false 1 (.t 14), none⟩,
         ⟨(some 5), .mov (.t 15), none⟩])
       (.rg [⟨(some 16), .mov (.t 3), none⟩,
         ⟨(some 17), .mov (.t 5), none⟩,
         ⟨(some 18), .mov (.t 5), none⟩,
         ⟨(some 19), .lens (.t 18), none⟩,
         ⟨(some 20), .mm false (.t 19) (.c (.p (.int .i64 20))), none⟩,
         ⟨(some 21), .slcs (.t 17) none (some (.t 20)), none⟩,
         ⟨(some 22), .lit 1 [(.t 21)], none⟩,
         ⟨(some 23), .app 1 16 (.t 16) (.t 22), none⟩,
         ⟨(some 3), .mov (.t 23), none⟩])))
      (.rg [⟨(some 24), .bin .add (.t 12) (.c (.p (.int .i64 1))), none⟩,
        ⟨(some 12), .mov (.t 24), none⟩])))))))
    (.seq (.rg [⟨(some 25), .mov (.t 3), none⟩,
      ⟨(some 2), .mov (.t 25), none⟩])
    .ret))))
def r47 : List DR := [.tmp 2]
theorem c47_ok : Try.f47.body.bind (cCode Try.prog) = some c47 := by kernel_rfl
theorem r47_ok : cRes Try.prog Try.f47.results.toList = some r47 := by kernel_rfl

/-- given.example/pub-assaymark/pub/miniogo/pkg/set.NewStringSet -/
def c48 : DC :=
  (.seq (.rg [⟨(some 0), .mov (.c (.p (.map none))), none⟩])
    (.seq (.rg [⟨(some 1), .callr 58 [], none⟩,
      ⟨(some 0), .mov (.t 1), none⟩])
    .ret))
def r48 : List DR := [.tmp 0]
theorem c48_ok : Try.f48.body.bind (cCode Try.prog) = some c48 := by kernel_rfl
theorem r48_ok : cRes Try.prog Try.f48.results.toList = some r48 := by kernel_rfl

/-- (given.example/pub-assaymark/pub/miniogo/pkg/set.StringSet).Add -/
def c49 : DC :=
  (.rg [⟨(some 4), .mov (.t 0), none⟩,
      ⟨(some 5), .mov (.t 1), none⟩,
      ⟨(some 6), .callr 59 [(.t 4), (.t 5)], none⟩])
def r49 : List DR := []
theorem c49_ok : Try.f49.body.bind (cCode Try.prog) = some c49 := by kernel_rfl
theorem r49_ok : cRes Try.prog Try.f49.results.toList = some r49 := by kernel_rfl

/-- (given.example/pub-assaymark/pub/miniogo/pkg/set.StringSet).Difference -/
def c50 : DC :=
  (.seq (.rg [⟨(some 4), .mov (.c (.p (.map none))), none⟩])
    (.seq (.rg [⟨(some 5), .mov (.t 0), none⟩,
      ⟨(some 6), .mov (.t 1), none⟩,
      ⟨(some 7), .callr 60 [(.t 5), (.t 6)], none⟩,
      ⟨(some 4), .mov (.t 7), none⟩])
    .ret))
def r50 : List DR := [.tmp 4]
theorem c50_ok : Try.f50.body.bind (cCode Try.prog) = some c50 := by kernel_rfl
theorem r50_ok : cRes Try.prog Try.f50.results.toList = some r50 := by kernel_rfl

/-- (given.example/pub-assaymark/pub/miniogo/pkg/set.StringSet).IsEmpty -/
def c51 : DC :=
  (.seq (.rg [⟨(some 2), .mov (.c (.p (.bool false))), none⟩])
    (.seq (.rg [⟨(some 3), .mov (.t 0), none⟩,
      ⟨(some 4), .callr 61 [(.t 3)], none⟩,
      ⟨(some 2), .mov (.t 4), none⟩])
    .ret))
def r51 : List DR := [.tmp 2]
theorem c51_ok : Try.f51.body.bind (cCode Try.prog) = some c51 := by kernel_rfl
theorem r51_ok : cRes Try.prog Try.f51.results.toList = some r51 := by kernel_rfl

/-- given.example/pub-assaymark/pub/miniogo/pkg/notification.zzSplit -/
def c52 : DC :=
  (.seq (.rg [⟨(some 4), .mov (.c (.p (.slice none 0 0))), none⟩])
    (.seq (.rg [⟨(some 5), .mov (.c (.p (.slice none 0 0))), none⟩])
    (.seq (.seq (.rg [⟨(some 9), .mov (.t 1), none⟩,
      ⟨(some 10), .lens (.t 9), none⟩,
      ⟨(some 11), .bin .eql (.t 10) (.c (.p (.int .i64 0))), none⟩])
    (.cond (.t 11) (.seq (.rg [⟨(some 6), .mov (.c (.p (.int .i64 0))), none⟩])
      (.seq (.seq (.rg [⟨(some 12), .mov (.t 0), none⟩,
        ⟨(some 13), .rngs (.t 12), none⟩])
      (.block 0 (.loop (.seq (.rg [⟨(some 14), .nxts (.t 13), none⟩,
          ⟨(some 15), .ext (.t 14) 0, none⟩])
        (.seq (.cond (.t 15) .skip
          (.exit 0))
        (.block 1 (.seq (.rg [⟨(some 16), .ext (.t 14) 1, none⟩,
           ⟨(some 7), .mov (.t 16), none⟩])
         (.seq (.rg [⟨(some 17), .mov (.t 7), none⟩,
           ⟨(some 18), .bin .gtr (.t 17) (.c (.p (.int .i64 0))), none⟩])
         (.cond (.t 18) (.seq (.rg [⟨(some 19), .mov (.t 5), none⟩,
             ⟨(some 20), .mov (.t 0), none⟩,
             ⟨(some 21), .mov (.t 6), none⟩,
             ⟨(some 22), .mov (.t 7), none⟩,
             ⟨(some 23), .slcs (.t 20) (some (.t 21)) (some (.t 22)), none⟩,
             ⟨(some 24), .lit 1 [(.t 23)], none⟩,
             ⟨(some 25), .app 1 16 (.t 19) (.t 24), none⟩,
             ⟨(some 5), .mov (.t 25), none⟩])
           (.rg [⟨(some 26), .mov (.t 7), none⟩,
             ⟨(some 6), .mov (.t 26), none⟩]))
           .skip)))))))))
      (.seq (.seq (.rg [⟨(some 27), .mov (.t 0), none⟩,
        ⟨(some 28), .lens (.t 27), none⟩,
        ⟨(some 29), .bin .gtr (.t 28) (.c (.p (.int .i64 0))), none⟩])
      (.cond (.t 29) (.rg [⟨(some 30), .mov (.t 5), none⟩,
          ⟨(some 31), .mov (.t 0), none⟩,
          ⟨(some 32), .mov (.t 6), none⟩,
          ⟨(some 33), .slcs (.t 31) (some (.t 32)) none, none⟩,
          ⟨(some 34), .lit 1 [(.t 33)], none⟩,
          ⟨(some 35), .app 1 16 (.t 30) (.t 34), none⟩,
          ⟨(some 5), .mov (.t 35), none⟩])
        .skip))
      (.seq (.rg [⟨(some 36), .mov (.t 5), none⟩,
        ⟨(some 4), .mov (.t 36), none⟩])
      .ret))))
      .skip))
    (.block 2 (.loop (.block 3 (.seq (.rg [⟨(some 37), .mov (.t 0), none⟩,
         ⟨(some 38), .mov (.t 1), none⟩,
         ⟨(some 39), .callr 62 [(.t 37), (.t 38)], none⟩,
         ⟨(some 8), .mov (.t 39), none⟩])
       (.seq (.seq (.rg [⟨(some 40), .mov (.t 8), none⟩,
         ⟨(some 41), .bin .lss (.t 40) (.c (.p (.int .i64 0))), none⟩])
       (.cond (.t 41) (.seq (.rg [⟨(some 42), .mov (.t 5), none⟩,
           ⟨(some 43), .mov (.t 0), none⟩,
           ⟨(some 44), .lit 1 [(.t 43)], none⟩,
           ⟨(some 45), .app 1 16 (.t 42) (.t 44), none⟩,
           ⟨(some 4), .mov (.t 45), none⟩])
         .ret)
         .skip))
       (.seq (.rg [⟨(some 46), .mov (.t 5), none⟩,
         ⟨(some 47), .mov (.t 0), none⟩,
         ⟨(some 48), .mov (.t 8), none⟩,
         ⟨(some 49), .slcs (.t 47) none (some (.t 48)), none⟩,
         ⟨(some 50), .lit 1 [(.t 49)], none⟩,
         ⟨(some 51), .app 1 16 (.t 46) (.t 50), none⟩,
         ⟨(some 5), .mov (.t 51), none⟩])
       (.rg [⟨(some 52), .mov (.t 0), none⟩,
         ⟨(some 53), .mov (.t 8), none⟩,
         ⟨(some 54), .mov (.t 1), none⟩,
         ⟨(some 55), .lens (.t 54), none⟩,
         ⟨(some 56), .bin .add (.t 53) (.t 55), none⟩,
         ⟨(some 57), .slcs (.t 52) (some (.t 56)) none, none⟩,
         ⟨(some 0), .mov (.t 57), none⟩]))))))))))
def r52 : List DR := [.tmp 4]
theorem c52_ok : Try.f52.body.bind (cCode Try.prog) = some c52 := by kernel_rfl
theorem r52_ok : cRes Try.prog Try.f52.results.toList = some r52 := by kernel_rfl

/-- given.example/pub-assaymark/pub/miniogo/pkg/notification.NewArn -/
def c53 : DC :=
  (.seq (.rg [⟨(some 10), .alloc 5 (.agg [.p (.string ⟨#[]⟩), .p (.string ⟨#[]⟩), .p (.string ⟨#[]⟩), .p (.string ⟨#[]⟩), .p (.string ⟨#[]⟩)]), none⟩])
    (.seq (.rg [⟨(some 11), .mov (.t 0), none⟩,
      ⟨(some 12), .mov (.t 1), none⟩,
      ⟨(some 13), .mov (.t 2), none⟩,
      ⟨(some 14), .mov (.t 3), none⟩,
      ⟨(some 15), .mov (.t 4), none⟩,
      ⟨(some 16), .bld [.p (.string ⟨#[]⟩), .p (.string ⟨#[]⟩), .p (.string ⟨#[]⟩), .p (.string ⟨#[]⟩), .p (.string ⟨#[]⟩)] [(0, 1, (.t 11)), (1, 1, (.t 12)), (2, 1, (.t 13)), (3, 1, (.t 14)), (4, 1, (.t 15))], none⟩,
      ⟨none, .store 5 (.t 10) (.t 16), none⟩])
    .ret))
def r53 : List DR := [.cell 10 true 5]
theorem c53_ok : Try.f53.body.bind (cCode Try.prog) = some c53 := by kernel_rfl
theorem r53_ok : cRes Try.prog Try.f53.results.toList = some r53 := by kernel_rfl

/-- given.example/pub-assaymark/pub/miniogo/pkg/notification.NewConfig -/
def c54 : DC :=
  (.seq (.rg [⟨(some 1), .box (.t 0), none⟩,
      ⟨(some 2), .alloc 8 (.agg [.p (.string ⟨#[]⟩), .p (.string ⟨#[]⟩), .p (.string ⟨#[]⟩), .p (.string ⟨#[]⟩), .p (.string ⟨#[]⟩), .p (.string ⟨#[]⟩), .p (.slice none 0 0), .p (.pointer none)]), none⟩])
    (.seq (.rg [⟨(some 3), .load true 5 (.t 1), none⟩,
      ⟨(some 4), .bld [.p (.slice none 0 0)] [], none⟩,
      ⟨(some 5), .box (.t 4), none⟩,
      ⟨(some 6), .bld [.p (.string ⟨#[]⟩), .p (.string ⟨#[]⟩), .p (.string ⟨#[]⟩), .p (.string ⟨#[]⟩), .p (.string ⟨#[]⟩), .p (.string ⟨#[]⟩), .p (.slice none 0 0), .p (.pointer none)] [(1, 5, (.t 3)), (7, 1, (.t 5))], none⟩,
      ⟨none, .store 8 (.t 2) (.t 6), none⟩])
    .ret))
def r54 : List DR := [.cell 2 true 8]
theorem c54_ok : Try.f54.body.bind (cCode Try.prog) = some c54 := by kernel_rfl
theorem r54_ok : cRes Try.prog Try.f54.results.toList = some r54 := by kernel_rfl

/-- (*given.example/pub-assaymark/pub/miniogo/pkg/notification.Config).AddEvents -/
def c55 : DC :=
  (.rg [⟨(some 4), .mov (.t 0), none⟩,
      ⟨(some 5), .mov (.t 0), none⟩,
      ⟨(some 6), .nilchk .ptr (.t 5), none⟩,
      ⟨(some 7), .faddr false 6 1 (.t 6), none⟩,
      ⟨(some 8), .load false 1 (.t 7), none⟩,
      ⟨(some 9), .mov (.t 1), none⟩,
      ⟨(some 10), .app 1 16 (.t 8) (.t 9), none⟩,
      ⟨(some 11), .nilchk .ptr (.t 4), none⟩,
      ⟨(some 12), .faddr false 6 1 (.t 11), none⟩,
      ⟨none, .store 1 (.t 12) (.t 10), none⟩])
def r55 : List DR := []
theorem c55_ok : Try.f55.body.bind (cCode Try.prog) = some c55 := by kernel_rfl
theorem r55_ok : cRes Try.prog Try.f55.results.toList = some r55 := by kernel_rfl

/-- (*given.example/pub-assaymark/pub/miniogo/pkg/notification.Config).AddFilterPrefix -/
def c56 : DC :=
  (.seq (.seq (.rg [⟨(some 6), .mov (.t 0), none⟩,
      ⟨(some 7), .nilchk .ptr (.t 6), none⟩,
      ⟨(some 8), .faddr false 7 1 (.t 7), none⟩,
      ⟨(some 9), .load false 1 (.t 8), none⟩,
      ⟨(some 10), .eqn false .ptr (.t 9), none⟩])
    (.cond (.t 10) (.rg [⟨(some 11), .mov (.t 0), none⟩,
        ⟨(some 12), .bld [.p (.slice none 0 0)] [], none⟩,
        ⟨(some 13), .box (.t 12), none⟩,
        ⟨(some 14), .nilchk .ptr (.t 11), none⟩,
        ⟨(some 15), .faddr false 7 1 (.t 14), none⟩,
        ⟨none, .store 1 (.t 15) (.t 13), none⟩])
      .skip))
    (.seq (.rg [⟨(some 16), .mov (.t 1), none⟩,
      ⟨(some 17), .bld [.p (.string ⟨#[]⟩), .p (.string ⟨#[]⟩)] [(0, 1, (.c (.p (.string ⟨#[112, 114, 101, 102, 105, 120]⟩)))), (1, 1, (.t 16))], none⟩,
      ⟨(some 4), .alloc 2 (.agg [.p (.string ⟨#[]⟩), .p (.string ⟨#[]⟩)]), none⟩,
      ⟨none, .store 2 (.t 4) (.t 17), none⟩])
    (.seq (.seq (.rg [⟨(some 18), .mov (.t 0), none⟩,
      ⟨(some 19), .nilchk .ptr (.t 18), none⟩,
      ⟨(some 20), .faddr false 7 1 (.t 19), none⟩,
      ⟨(some 21), .load false 1 (.t 20), none⟩,
      ⟨(some 22), .nilchk .ptr (.t 21), none⟩,
      ⟨(some 23), .faddr true 0 1 (.t 22), none⟩,
      ⟨(some 24), .faddr false 0 1 (.t 23), none⟩,
      ⟨(some 25), .load false 1 (.t 24), none⟩,
      ⟨(some 26), .lenl (.t 25), none⟩,
      ⟨(some 27), .mov (.c (.p (.int .i64 0))), none⟩])
    (.block 0 (.loop (.seq (.rg [⟨(some 28), .bin .lss (.t 27) (.t 26), none⟩])
      (.seq (.cond (.t 28) .skip
        (.exit 0))
      (.seq (.block 1 (.seq (.rg [⟨(some 29), .mov (.t 27), none⟩,
         ⟨(some 5), .mov (.t 29), none⟩])
       (.seq (.rg [⟨(some 30), .mov (.t 0), none⟩,
         ⟨(some 31), .nilchk .ptr (.t 30), none⟩,
         ⟨(some 32), .faddr false 7 1 (.t 31), none⟩,
         ⟨(some 33), .load false 1 (.t 32), none⟩,
         ⟨(some 34), .nilchk .ptr (.t 33), none⟩,
         ⟨(some 35), .faddr true 0 1 (.t 34), none⟩,
         ⟨(some 36), .faddr false 0 1 (.t 35), none⟩,
         ⟨(some 37), .load false 1 (.t 36), none⟩,
         ⟨(some 38), .mov (.t 5), none⟩,
         ⟨(some 39), .iaddr 2 (.t 37) (.t 38), none⟩,
         ⟨(some 40), .faddr false 0 1 (.t 39), none⟩,
         ⟨(some 41), .load false 1 (.t 40), none⟩,
         ⟨(some 42), .bin .eql (.t 41) (.c (.p (.string ⟨#[112, 114, 101, 102, 105, 120]⟩))), none⟩])
       (.cond (.t 42) (.seq (.rgd [⟨⟨(some 43), .mov (.t 0), none⟩, 0, [0]⟩,
           ⟨⟨(some 44), .nilchk .ptr (.t 43), none⟩, 0, [0]⟩,
           ⟨⟨(some 45), .faddr false 7 1 (.t 44), none⟩, 0, [0]⟩,
           ⟨⟨(some 46), .load false 1 (.t 45), none⟩, 0, [0]⟩,
           ⟨⟨(some 47), .nilchk .ptr (.t 46), none⟩, 0, [0]⟩,
           ⟨⟨(some 48), .faddr true 0 1 (.t 47), none⟩, 0, [0]⟩,
           ⟨⟨(some 49), .faddr false 0 1 (.t 48), none⟩, 0, [0]⟩,
           ⟨⟨(some 50), .load false 1 (.t 49), none⟩, 0, [0]⟩,
           ⟨⟨(some 51), .mov (.t 5), none⟩, 0, [0]⟩,
           ⟨⟨(some 52), .load true 2 (.t 4), none⟩, 0, [0]⟩,
           ⟨⟨(some 53), .iaddr 2 (.t 50) (.t 51), none⟩, 0, [0]⟩,
           ⟨⟨none, .store 2 (.t 53) (.t 52), none⟩, 0, []⟩])
         .ret)
         .skip))))
      (.rg [⟨(some 54), .bin .add (.t 27) (.c (.p (.int .i64 1))), none⟩,
        ⟨(some 27), .mov (.t 54), none⟩])))))))
    (.rgd [⟨⟨(some 55), .mov (.t 0), none⟩, 0, [0]⟩,
      ⟨⟨(some 56), .nilchk .ptr (.t 55), none⟩, 0, [0]⟩,
      ⟨⟨(some 57), .faddr false 7 1 (.t 56), none⟩, 0, [0]⟩,
      ⟨⟨(some 58), .load false 1 (.t 57), none⟩, 0, [0]⟩,
      ⟨⟨(some 59), .mov (.t 0), none⟩, 0, [0]⟩,
      ⟨⟨(some 60), .nilchk .ptr (.t 59), none⟩, 0, [0]⟩,
      ⟨⟨(some 61), .faddr false 7 1 (.t 60), none⟩, 0, [0]⟩,
      ⟨⟨(some 62), .load false 1 (.t 61), none⟩, 0, [0]⟩,
      ⟨⟨(some 63), .nilchk .ptr (.t 62), none⟩, 0, [0]⟩,
      ⟨⟨(some 64), .faddr true 0 1 (.t 63), none⟩, 0, [0]⟩,
      ⟨⟨(some 65), .faddr false 0 1 (.t 64), none⟩, 0, [0]⟩,
      ⟨⟨(some 66), .load false 1 (.t 65), none⟩, 0, [0]⟩,
      ⟨⟨(some 67), .load true 2 (.t 4), none⟩, 0, [0]⟩,
      ⟨⟨(some 68), .lit 2 [(.t 67)], none⟩, 0, [0]⟩,
      ⟨⟨(some 69), .app 2 32 (.t 66) (.t 68), none⟩, 1, [0]⟩,
      ⟨⟨(some 70), .nilchk .ptr (.t 58), none⟩, 2, [2]⟩,
      ⟨⟨(some 71), .faddr true 0 1 (.t 70), none⟩, 2, [2]⟩,
      ⟨⟨(some 72), .faddr false 0 1 (.t 71), none⟩, 2, [2]⟩,
      ⟨⟨none, .store 1 (.t 72) (.t 69), none⟩, 2, []⟩]))))
def r56 : List DR := []
theorem c56_ok : Try.f56.body.bind (cCode Try.prog) = some c56 := by kernel_rfl
theorem r56_ok : cRes Try.prog Try.f56.results.toList = some r56 := by kernel_rfl

/-- (*given.example/pub-assaymark/pub/miniogo/pkg/notification.Config).AddFilterSuffix -/
def c57 : DC :=
  (.seq (.seq (.rg [⟨(some 6), .mov (.t 0), none⟩,
      ⟨(some 7), .nilchk .ptr (.t 6), none⟩,
      ⟨(some 8), .faddr false 7 1 (.t 7), none⟩,
      ⟨(some 9), .load false 1 (.t 8), none⟩,
      ⟨(some 10), .eqn false .ptr (.t 9), none⟩])
    (.cond (.t 10) (.rg [⟨(some 11), .mov (.t 0), none⟩,
        ⟨(some 12), .bld [.p (.slice none 0 0)] [], none⟩,
        ⟨(some 13), .box (.t 12), none⟩,
        ⟨(some 14), .nilchk .ptr (.t 11), none⟩,
        ⟨(some 15), .faddr false 7 1 (.t 14), none⟩,
        ⟨none, .store 1 (.t 15) (.t 13), none⟩])
      .skip))
    (.seq (.rg [⟨(some 16), .mov (.t 1), none⟩,
      ⟨(some 17), .bld [.p (.string ⟨#[]⟩), .p (.string ⟨#[]⟩)] [(0, 1, (.c (.p (.string ⟨#[115, 117, 102, 102, 105, 120]⟩)))), (1, 1, (.t 16))], none⟩,
      ⟨(some 4), .alloc 2 (.agg [.p (.string ⟨#[]⟩), .p (.string ⟨#[]⟩)]), none⟩,
      ⟨none, .store 2 (.t 4) (.t 17), none⟩])
    (.seq (.seq (.rg [⟨(some 18), .mov (.t 0), none⟩,
      ⟨(some 19), .nilchk .ptr (.t 18), none⟩,
      ⟨(some 20), .faddr false 7 1 (.t 19), none⟩,
      ⟨(some 21), .load false 1 (.t 20), none⟩,
      ⟨(some 22), .nilchk .ptr (.t 21), none⟩,
      ⟨(some 23), .faddr true 0 1 (.t 22), none⟩,
      ⟨(some 24), .faddr false 0 1 (.t 23), none⟩,
      ⟨(some 25), .load false 1 (.t 24), none⟩,
      ⟨(some 26), .lenl (.t 25), none⟩,
      ⟨(some 27), .mov (.c (.p (.int .i64 0))), none⟩])
    (.block 0 (.loop (.seq (.rg [⟨(some 28), .bin .lss (.t 27) (.t 26), none⟩])
      (.seq (.cond (.t 28) .skip
        (.exit 0))
      (.seq (.block 1 (.seq (.rg [⟨(some 29), .mov (.t 27), none⟩,
         ⟨(some 5), .mov (.t 29), none⟩])
       (.seq (.rg [⟨(some 30), .mov (.t 0), none⟩,
         ⟨(some 31), .nilchk .ptr (.t 30), none⟩,
         ⟨(some 32), .faddr false 7 1 (.t 31), none⟩,
         ⟨(some 33), .load false 1 (.t 32), none⟩,
         ⟨(some 34), .nilchk .ptr (.t 33), none⟩,
         ⟨(some 35), .faddr true 0 1 (.t 34), none⟩,
         ⟨(some 36), .faddr false 0 1 (.t 35), none⟩,
         ⟨(some 37), .load false 1 (.t 36), none⟩,
         ⟨(some 38), .mov (.t 5), none⟩,
         ⟨(some 39), .iaddr 2 (.t 37) (.t 38), none⟩,
         ⟨(some 40), .faddr false 0 1 (.t 39), none⟩,
         ⟨(some 41), .load false 1 (.t 40), none⟩,
         ⟨(some 42), .bin .eql (.t 41) (.c (.p (.string ⟨#[115, 117, 102, 102, 105, 120]⟩))), none⟩])
       (.cond (.t 42) (.seq (.rgd [⟨⟨(some 43), .mov (.t 0), none⟩, 0, [0]⟩,
           ⟨⟨(some 44), .nilchk .ptr (.t 43), none⟩, 0, [0]⟩,
           ⟨⟨(some 45), .faddr false 7 1 (.t 44), none⟩, 0, [0]⟩,
           ⟨⟨(some 46), .load false 1 (.t 45), none⟩, 0, [0]⟩,
           ⟨⟨(some 47), .nilchk .ptr (.t 46), none⟩, 0, [0]⟩,
           ⟨⟨(some 48), .faddr true 0 1 (.t 47), none⟩, 0, [0]⟩,
           ⟨⟨(some 49), .faddr false 0 1 (.t 48), none⟩, 0, [0]⟩,
           ⟨⟨(some 50), .load false 1 (.t 49), none⟩, 0, [0]⟩,
           ⟨⟨(some 51), .mov (.t 5), none⟩, 0, [0]⟩,
           ⟨⟨(some 52), .load true 2 (.t 4), none⟩, 0, [0]⟩,
           ⟨⟨(some 53), .iaddr 2 (.t 50) (.t 51), none⟩, 0, [0]⟩,
           ⟨⟨none, .store 2 (.t 53) (.t 52), none⟩, 0, []⟩])
         .ret)
         .skip))))
      (.rg [⟨(some 54), .bin .add (.t 27) (.c (.p (.int .i64 1))), none⟩,
        ⟨(some 27), .mov (.t 54), none⟩])))))))
    (.rgd [⟨⟨(some 55), .mov (.t 0), none⟩, 0, [0]⟩,
      ⟨⟨(some 56), .nilchk .ptr (.t 55), none⟩, 0, [0]⟩,
      ⟨⟨(some 57), .faddr false 7 1 (.t 56), none⟩, 0, [0]⟩,
      ⟨⟨(some 58), .load false 1 (.t 57), none⟩, 0, [0]⟩,
      ⟨⟨(some 59), .mov (.t 0), none⟩, 0, [0]⟩,
      ⟨⟨(some 60), .nilchk .ptr (.t 59), none⟩, 0, [0]⟩,
      ⟨⟨(some 61), .faddr false 7 1 (.t 60), none⟩, 0, [0]⟩,
      ⟨⟨(some 62), .load false 1 (.t 61), none⟩, 0, [0]⟩,
      ⟨⟨(some 63), .nilchk .ptr (.t 62), none⟩, 0, [0]⟩,
      ⟨⟨(some 64), .faddr true 0 1 (.t 63), none⟩, 0, [0]⟩,
      ⟨⟨(some 65), .faddr false 0 1 (.t 64), none⟩, 0, [0]⟩,
      ⟨⟨(some 66), .load false 1 (.t 65), none⟩, 0, [0]⟩,
      ⟨⟨(some 67), .load true 2 (.t 4), none⟩, 0, [0]⟩,
      ⟨⟨(some 68), .lit 2 [(.t 67)], none⟩, 0, [0]⟩,
      ⟨⟨(some 69), .app 2 32 (.t 66) (.t 68), none⟩, 1, [0]⟩,
      ⟨⟨(some 70), .nilchk .ptr (.t 58), none⟩, 2, [2]⟩,
      ⟨⟨(some 71), .faddr true 0 1 (.t 70), none⟩, 2, [2]⟩,
      ⟨⟨(some 72), .faddr false 0 1 (.t 71), none⟩, 2, [2]⟩,
      ⟨⟨none, .store 1 (.t 72) (.t 69), none⟩, 2, []⟩]))))
def r57 : List DR := []
theorem c57_ok : Try.f57.body.bind (cCode Try.prog) = some c57 := by kernel_rfl
theorem r57_ok : cRes Try.prog Try.f57.results.toList = some r57 := by kernel_rfl

/-- given.example/pub-assaymark/pub/miniogo/pkg/set.New[string] -/
def c58 : DC :=
  (.seq (.rg [⟨(some 0), .mov (.c (.p (.map none))), none⟩])
    (.seq (.rg [⟨(some 1), .mkmap, none⟩,
      ⟨(some 0), .mov (.t 1), none⟩])
    .ret))
def r58 : List DR := [.tmp 0]
theorem c58_ok : Try.f58.body.bind (cCode Try.prog) = some c58 := by kernel_rfl
theorem r58_ok : cRes Try.prog Try.f58.results.toList = some r58 := by kernel_rfl

/-- (given.example/pub-assaymark/pub/miniogo/pkg/set.Set[string]).Add -/
def c59 : DC :=
  (.rg [⟨(some 4), .mov (.t 0), none⟩,
      ⟨(some 5), .mov (.t 1), none⟩,
      ⟨(some 6), .bld [] [], none⟩,
      ⟨none, .mupd .str (.t 4) (.t 5) (.t 6), none⟩])
def r59 : List DR := []
theorem c59_ok : Try.f59.body.bind (cCode Try.prog) = some c59 := by kernel_rfl
theorem r59_ok : cRes Try.prog Try.f59.results.toList = some r59 := by kernel_rfl

/-- (given.example/pub-assaymark/pub/miniogo/pkg/set.Set[string]).Difference -/
def c60 : DC :=
  (.seq (.rg [⟨(some 4), .mov (.c (.p (.map none))), none⟩])
    (.seq (.rg [⟨(some 9), .callr 58 [], none⟩,
      ⟨(some 5), .mov (.t 9), none⟩])
    (.seq (.seq (.rg [⟨(some 10), .mov (.t 0), none⟩,
      ⟨(some 11), .rngm (.t 10), none⟩])
    (.block 0 (.loop (.seq (.rg [⟨(some 12), .nxtm (.t 11), none⟩,
        ⟨(some 13), .ext (.t 12) 0, none⟩])
      (.seq (.cond (.t 13) .skip
        (.exit 0))
      (.block 1 (.seq (.rg [⟨(some 14), .ent (.t 11), none⟩,
         ⟨(some 15), .ext (.t 14) 0, none⟩,
         ⟨(some 6), .mov (.t 15), none⟩])
       (.seq (.rg [⟨(some 17), .mov (.t 1), none⟩,
         ⟨(some 18), .mov (.t 6), none⟩,
         ⟨(some 19), .look .str (.agg []) true (.t 17) (.t 18), none⟩,
         ⟨(some 16), .mov (.t 19), none⟩,
         ⟨(some 20), .ext (.t 16) 0, none⟩,
         ⟨(some 21), .ext (.t 16) 1, none⟩,
         ⟨(some 7), .alloc 0 (.agg []), none⟩,
         ⟨none, .store 0 (.t 7) (.t 20), none⟩,
         ⟨(some 8), .mov (.t 21), none⟩])
       (.seq (.rg [⟨(some 22), .mov (.t 8), none⟩,
         ⟨(some 23), .un .not (.t 22), none⟩])
       (.cond (.t 23) (.rg [⟨(some 24), .mov (.t 5), none⟩,
           ⟨(some 25), .mov (.t 6), none⟩,
           ⟨(some 26), .callr 59 [(.t 24), (.t 25)], none⟩])
         .skip))))))))))
    (.seq (.rg [⟨(some 27), .mov (.t 5), none⟩,
      ⟨(some 4), .mov (.t 27), none⟩])
    .ret))))
def r60 : List DR := [.tmp 4]
theorem c60_ok : Try.f60.body.bind (cCode Try.prog) = some c60 := by kernel_rfl
theorem r60_ok : cRes Try.prog Try.f60.results.toList = some r60 := by kernel_rfl

/-- (given.example/pub-assaymark/pub/miniogo/pkg/set.Set[string]).IsEmpty -/
def c61 : DC :=
  (.seq (.rg [⟨(some 2), .mov (.c (.p (.bool false))), none⟩])
    (.seq (.rg [⟨(some 3), .mov (.t 0), none⟩,
      ⟨(some 4), .lenm (.t 3), none⟩,
      ⟨(some 5), .bin .eql (.t 4) (.c (.p (.int .i64 0))), none⟩,
      ⟨(some 2), .mov (.t 5), none⟩])
    .ret))
def r61 : List DR := [.tmp 2]
theorem c61_ok : Try.f61.body.bind (cCode Try.prog) = some c61 := by kernel_rfl
theorem r61_ok : cRes Try.prog Try.f61.results.toList = some r61 := by kernel_rfl

/-- given.example/pub-assaymark/pub/miniogo/pkg/notification.zzIndex -/
def c62 : DC :=
  (.seq (.rg [⟨(some 4), .mov (.c (.p (.int .i64 0))), none⟩])
    (.seq (.seq (.rg [⟨(some 5), .mov (.c (.p (.int .i64 0))), none⟩])
    (.block 0 (.loop (.seq (.seq (.rg [⟨(some 6), .mov (.t 5), none⟩,
        ⟨(some 7), .mov (.t 1), none⟩,
        ⟨(some 8), .lens (.t 7), none⟩,
        ⟨(some 9), .bin .add (.t 6) (.t 8), none⟩,
        ⟨(some 10), .mov (.t 0), none⟩,
        ⟨(some 11), .lens (.t 10), none⟩,
        ⟨(some 12), .bin .leq (.t 9) (.t 11), none⟩])
      (.cond (.t 12) .skip
        (.exit 0)))
      (.seq (.block 1 (.seq (.rg [⟨(some 15), .mov (.t 0), none⟩,
         ⟨(some 16), .mov (.t 5), none⟩,
         ⟨(some 17), .mov (.t 5), none⟩,
         ⟨(some 18), .mov (.t 1), none⟩,
         ⟨(some 19), .lens (.t 18), none⟩,
         ⟨(some 20), .bin .add (.t 17) (.t 19), none⟩,
         ⟨(some 21), .slcs (.t 15) (some (.t 16)) (some (.t 20)), none⟩,
         ⟨(some 22), .mov (.t 1), none⟩,
         ⟨(some 23), .bin .eql (.t 21) (.t 22), none⟩])
       (.cond (.t 23) (.seq (.rg [⟨(some 24), .mov (.t 5), none⟩,
           ⟨(some 4), .mov (.t 24), none⟩])
         .ret)
         .skip)))
      (.rg [⟨(some 13), .mov (.t 5), none⟩,
        ⟨(some 14), .bin .add (.t 13) (.c (.p (.int .i64 1))), none⟩,
        ⟨(some 5), .mov (.t 14), none⟩]))))))
    (.seq (.rg [⟨(some 4), .mov (.c (.p (.int .i64 (-1)))), none⟩])
    .ret)))
def r62 : List DR := [.tmp 4]
theorem c62_ok : Try.f62.body.bind (cCode Try.prog) = some c62 := by kernel_rfl
theorem r62_ok : cRes Try.prog Try.f62.results.toList = some r62 := by kernel_rfl

end Go.Proofs.Ythbcdfjobenocaa
