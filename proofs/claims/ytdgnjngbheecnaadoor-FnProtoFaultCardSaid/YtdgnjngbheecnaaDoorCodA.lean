/- The codes of the functions, in the small language of Den. -/
import Derived.Test.YtdgnjngbheecnaaDoorLibE
import Derived.Test.YtdgnjngbheecnaaDoorProg
set_option linter.unusedVariables false
set_option linter.unusedSimpArgs false
set_option maxRecDepth 100000
namespace Go.Proofs.YtdgnjngbheecnaaDoor
open Go Go.Den Go.Proofs

/-- given.example/pub-assaymark/laws.FnProtoFault -/
def c3 : DC :=
  (.seq (.rg [⟨(some 6), .mov (.c (.p (.bool false))), none⟩])
    (.seq (.seq (.rg [⟨(some 18), .mov (.t 0), none⟩,
      ⟨(some 19), .lenl (.t 18), none⟩,
      ⟨(some 20), .bin .gtr (.t 19) (.c (.p (.int .i64 2147483647))), none⟩,
      ⟨(some 21), .mov (.t 20), none⟩,
      ⟨(some 22), .mov (.t 1), (some (21, false))⟩,
      ⟨(some 23), .lens (.t 22), (some (21, false))⟩,
      ⟨(some 24), .bin .gtr (.t 23) (.c (.p (.int .i64 2147483647))), (some (21, false))⟩,
      ⟨(some 25), .pick (.t 21) (.c (.p (.bool true))) (.t 24), none⟩])
    (.cond (.t 25) (.seq (.rg [⟨(some 6), .mov (.c (.p (.bool true))), none⟩])
      .ret)
      .skip))
    (.seq (.seq (.rg [⟨(some 26), .mov (.t 0), none⟩,
      ⟨(some 27), .lenl (.t 26), none⟩,
      ⟨(some 28), .bin .eql (.t 27) (.c (.p (.int .i64 0))), none⟩,
      ⟨(some 29), .mov (.t 28), none⟩,
      ⟨(some 30), .mov (.t 0), (some (29, false))⟩,
      ⟨(some 31), .lenl (.t 30), (some (29, false))⟩,
      ⟨(some 32), .bin .gtr (.t 31) (.c (.p (.int .i64 5))), (some (29, false))⟩,
      ⟨(some 33), .pick (.t 29) (.c (.p (.bool true))) (.t 32), none⟩])
    (.cond (.t 33) (.seq (.rg [⟨(some 34), .callr 5 [], none⟩,
        ⟨(some 6), .mov (.t 34), none⟩])
      .ret)
      .skip))
    (.seq (.seq (.rg [⟨(some 35), .mov (.t 0), none⟩,
      ⟨(some 36), .lenl (.t 35), none⟩,
      ⟨(some 37), .mov (.c (.p (.int .i64 0))), none⟩])
    (.block 0 (.loop (.seq (.rg [⟨(some 38), .bin .lss (.t 37) (.t 36), none⟩])
      (.seq (.cond (.t 38) .skip
        (.exit 0))
      (.seq (.block 1 (.seq (.rg [⟨(some 39), .iaddr 6 (.t 35) (.t 37), none⟩,
         ⟨(some 40), .load true 6 (.t 39), none⟩,
         ⟨(some 8), .alloc 6 (.agg [.p (.int .i32 0), .p (.string ⟨#[]⟩), .p (.string ⟨#[]⟩), .p (.string ⟨#[]⟩), .p (.string ⟨#[]⟩), .p (.slice none 0 0)]), none⟩,
         ⟨none, .store 6 (.t 8) (.t 40), none⟩])
       (.seq (.rg [⟨(some 41), .faddr false 1 1 (.t 8), none⟩,
         ⟨(some 42), .load false 1 (.t 41), none⟩,
         ⟨(some 43), .faddr false 2 1 (.t 8), none⟩,
         ⟨(some 44), .load false 1 (.t 43), none⟩,
         ⟨(some 45), .faddr false 3 1 (.t 8), none⟩,
         ⟨(some 46), .load false 1 (.t 45), none⟩,
         ⟨(some 47), .mov (.t 1), none⟩,
         ⟨(some 48), .lit 1 [(.t 42), (.t 44), (.t 46), (.t 47)], none⟩,
         ⟨(some 49), .callr 6 [(.t 48)], none⟩,
         ⟨(some 50), .un .not (.t 49), none⟩,
         ⟨(some 51), .mov (.t 50), none⟩,
         ⟨(some 52), .faddr false 2 1 (.t 8), (some (51, false))⟩,
         ⟨(some 53), .load false 1 (.t 52), (some (51, false))⟩,
         ⟨(some 54), .callr 7 [(.t 53)], (some (51, false))⟩,
         ⟨(some 55), .un .not (.t 54), (some (51, false))⟩,
         ⟨(some 56), .pick (.t 51) (.c (.p (.bool true))) (.t 55), none⟩])
       (.cond (.t 56) (.seq (.rg [⟨(some 57), .callr 5 [], none⟩,
           ⟨(some 6), .mov (.t 57), none⟩])
         .ret)
         .skip))))
      (.rg [⟨(some 58), .bin .add (.t 37) (.c (.p (.int .i64 1))), none⟩,
        ⟨(some 37), .mov (.t 58), none⟩])))))))
    (.seq (.rg [⟨(some 59), .mov (.t 0), none⟩,
      ⟨(some 60), .callr 8 [(.t 59)], none⟩,
      ⟨(some 9), .mov (.t 60), none⟩])
    (.seq (.rg [⟨(some 62), .mov (.t 9), none⟩,
      ⟨(some 63), .mov (.t 1), none⟩,
      ⟨(some 64), .bin .add (.t 62) (.t 63), none⟩,
      ⟨(some 65), .callr 9 [(.t 64)], none⟩,
      ⟨(some 61), .mov (.t 65), none⟩,
      ⟨(some 66), .ext (.t 61) 0, none⟩,
      ⟨(some 67), .ext (.t 61) 1, none⟩,
      ⟨(some 68), .ext (.t 61) 2, none⟩,
      ⟨(some 10), .alloc 6 (.agg [.p (.int .i32 0), .p (.string ⟨#[]⟩), .p (.string ⟨#[]⟩), .p (.string ⟨#[]⟩), .p (.string ⟨#[]⟩), .p (.slice none 0 0)]), none⟩,
      ⟨none, .store 6 (.t 10) (.t 66), none⟩,
      ⟨(some 11), .mov (.t 67), none⟩,
      ⟨(some 12), .mov (.t 68), none⟩])
    (.seq (.rg [⟨(some 70), .mov (.t 9), none⟩,
      ⟨(some 71), .mov (.t 2), none⟩,
      ⟨(some 72), .cint .i64 (.t 71), none⟩,
      ⟨(some 73), .mov (.t 9), none⟩,
      ⟨(some 74), .lens (.t 73), none⟩,
      ⟨(some 75), .bin .rem (.t 72) (.t 74), none⟩,
      ⟨(some 76), .slcs (.t 70) none (some (.t 75)), none⟩,
      ⟨(some 77), .callr 9 [(.t 76)], none⟩,
      ⟨(some 69), .mov (.t 77), none⟩,
      ⟨(some 78), .ext (.t 69) 0, none⟩,
      ⟨(some 79), .ext (.t 69) 1, none⟩,
      ⟨(some 80), .ext (.t 69) 2, none⟩,
      ⟨(some 13), .alloc 6 (.agg [.p (.int .i32 0), .p (.string ⟨#[]⟩), .p (.string ⟨#[]⟩), .p (.string ⟨#[]⟩), .p (.string ⟨#[]⟩), .p (.slice none 0 0)]), none⟩,
      ⟨none, .store 6 (.t 13) (.t 78), none⟩,
      ⟨(some 14), .mov (.t 79), none⟩,
      ⟨(some 15), .mov (.t 80), none⟩])
    (.seq (.seq (.rgd [⟨⟨(some 81), .mov (.t 12), none⟩, 0, []⟩,
      ⟨⟨(some 82), .un .not (.t 81), none⟩, 0, []⟩,
      ⟨⟨(some 83), .mov (.t 82), none⟩, 0, []⟩,
      ⟨⟨(some 84), .mov (.t 15), (some (83, false))⟩, 0, []⟩,
      ⟨⟨(some 85), .pick (.t 83) (.c (.p (.bool true))) (.t 84), none⟩, 0, []⟩,
      ⟨⟨(some 86), .mov (.t 85), none⟩, 0, []⟩,
      ⟨⟨(some 87), .mov (.t 11), (some (86, false))⟩, 0, []⟩,
      ⟨⟨(some 88), .mov (.t 1), (some (86, false))⟩, 0, []⟩,
      ⟨⟨(some 89), .lens (.t 88), (some (86, false))⟩, 0, []⟩,
      ⟨⟨(some 90), .bin .neq (.t 87) (.t 89), (some (86, false))⟩, 0, []⟩,
      ⟨⟨(some 91), .pick (.t 86) (.c (.p (.bool true))) (.t 90), none⟩, 0, []⟩,
      ⟨⟨(some 92), .mov (.t 91), none⟩, 0, []⟩,
      ⟨⟨(some 93), .load true 6 (.t 10), (some (92, false))⟩, 0, [0]⟩,
      ⟨⟨(some 94), .mov (.t 0), (some (92, false))⟩, 0, [0]⟩,
      ⟨⟨(some 95), .iaddr 6 (.t 94) (.c (.p (.int .i64 0))), (some (92, false))⟩, 0, [0]⟩,
      ⟨⟨(some 96), .load true 6 (.t 95), (some (92, false))⟩, 0, [0]⟩,
      ⟨⟨(some 97), .call 10 [(.t 93), (.t 96)], (some (92, false))⟩, 0, []⟩,
      ⟨⟨(some 98), .un .not (.t 97), (some (92, false))⟩, 1, []⟩,
      ⟨⟨(some 99), .pick (.t 92) (.c (.p (.bool true))) (.t 98), none⟩, 1, []⟩,
      ⟨⟨(some 100), .mov (.t 99), none⟩, 1, []⟩,
      ⟨⟨(some 101), .faddr false 5 1 (.t 10), (some (100, false))⟩, 1, [1]⟩,
      ⟨⟨(some 102), .load false 1 (.t 101), (some (100, false))⟩, 1, [1]⟩,
      ⟨⟨(some 103), .lenl (.t 102), (some (100, false))⟩, 1, []⟩,
      ⟨⟨(some 104), .mov (.t 0), (some (100, false))⟩, 1, [1]⟩,
      ⟨⟨(some 105), .lenl (.t 104), (some (100, false))⟩, 1, [1]⟩,
      ⟨⟨(some 106), .bin .sub (.t 105) (.c (.p (.int .i64 1))), (some (100, false))⟩, 1, [1]⟩,
      ⟨⟨(some 107), .bin .neq (.t 103) (.t 106), (some (100, false))⟩, 1, []⟩,
      ⟨⟨(some 108), .pick (.t 100) (.c (.p (.bool true))) (.t 107), none⟩, 1, []⟩])
    (.cond (.t 108) (.seq (.rg [⟨(some 6), .mov (.c (.p (.bool false))), none⟩])
      .ret)
      .skip))
    (.seq (.seq (.rg [⟨(some 109), .faddr false 5 1 (.t 10), none⟩,
      ⟨(some 110), .load false 1 (.t 109), none⟩,
      ⟨(some 111), .lenl (.t 110), none⟩,
      ⟨(some 112), .mov (.c (.p (.int .i64 0))), none⟩])
    (.block 2 (.loop (.seq (.rg [⟨(some 113), .bin .lss (.t 112) (.t 111), none⟩])
      (.seq (.cond (.t 113) .skip
        (.exit 2))
      (.seq (.block 3 (.seq (.rg [⟨(some 114), .mov (.t 112), none⟩,
         ⟨(some 115), .iaddr 6 (.t 110) (.t 112), none⟩,
         ⟨(some 116), .load true 6 (.t 115), none⟩,
         ⟨(some 17), .alloc 6 (.agg [.p (.int .i32 0), .p (.string ⟨#[]⟩), .p (.string ⟨#[]⟩), .p (.string ⟨#[]⟩), .p (.string ⟨#[]⟩), .p (.slice none 0 0)]), none⟩,
         ⟨(some 16), .mov (.t 114), none⟩,
         ⟨none, .store 6 (.t 17) (.t 116), none⟩])
       (.seq (.rgd [⟨⟨(some 117), .load true 6 (.t 17), none⟩, 0, [0]⟩,
         ⟨⟨(some 118), .mov (.t 0), none⟩, 0, [0]⟩,
         ⟨⟨(some 119), .mov (.t 16), none⟩, 0, [0]⟩,
         ⟨⟨(some 120), .bin .add (.t 119) (.c (.p (.int .i64 1))), none⟩, 0, [0]⟩,
         ⟨⟨(some 121), .iaddr 6 (.t 118) (.t 120), none⟩, 0, [0]⟩,
         ⟨⟨(some 122), .load true 6 (.t 121), none⟩, 0, [0]⟩,
         ⟨⟨(some 123), .call 10 [(.t 117), (.t 122)], none⟩, 0, []⟩,
         ⟨⟨(some 124), .un .not (.t 123), none⟩, 1, []⟩])
       (.cond (.t 124) (.seq (.rg [⟨(some 6), .mov (.c (.p (.bool false))), none⟩])
         .ret)
         .skip))))
      (.rg [⟨(some 125), .bin .add (.t 112) (.c (.p (.int .i64 1))), none⟩,
        ⟨(some 112), .mov (.t 125), none⟩])))))))
    (.seq (.rg [⟨(some 126), .callr 5 [], none⟩,
      ⟨(some 6), .mov (.t 126), none⟩])
    .ret))))))))))
def r3 : List DR := [.tmp 6]
theorem c3_ok : Tryd.f3.body.bind (cCode Tryd.prog) = some c3 := by kernel_rfl
theorem r3_ok : cRes Tryd.prog Tryd.f3.results.toList = some r3 := by kernel_rfl

/-- given.example/pub-assaymark/laws.protoAwake -/
def c5 : DC :=
  (.seq (.rg [⟨(some 0), .mov (.c (.p (.bool false))), none⟩])
    (.seq (.rg [⟨(some 1), .bld [.p (.int .u64 0), .p (.int .u64 0), .p (.int .u64 0)] [(0, 1, (.c (.p (.int .u64 1)))), (1, 1, (.c (.p (.int .u64 2)))), (2, 1, (.c (.p (.int .u64 3))))], none⟩,
      ⟨(some 2), .callr 19 [(.t 1)], none⟩,
      ⟨(some 3), .bin .eql (.t 2) (.c (.p (.string ⟨#[49, 46, 50, 46, 51]⟩))), none⟩,
      ⟨(some 0), .mov (.t 3), none⟩])
    .ret))
def r5 : List DR := [.tmp 0]
theorem c5_ok : Tryd.f5.body.bind (cCode Tryd.prog) = some c5 := by kernel_rfl
theorem r5_ok : cRes Tryd.prog Tryd.f5.results.toList = some r5 := by kernel_rfl

/-- given.example/pub-assaymark/laws.protoShort -/
def c6 : DC :=
  (.seq (.rg [⟨(some 2), .mov (.c (.p (.bool false))), none⟩])
    (.seq (.rg [⟨(some 3), .mov (.c (.p (.int .i64 0))), none⟩])
    (.seq (.seq (.rg [⟨(some 6), .mov (.t 0), none⟩,
      ⟨(some 7), .lenl (.t 6), none⟩,
      ⟨(some 8), .mov (.c (.p (.int .i64 0))), none⟩])
    (.block 0 (.loop (.seq (.rg [⟨(some 9), .bin .lss (.t 8) (.t 7), none⟩])
      (.seq (.cond (.t 9) .skip
        (.exit 0))
      (.seq (.block 1 (.seq (.rg [⟨(some 10), .iaddr 1 (.t 6) (.t 8), none⟩,
         ⟨(some 11), .load false 1 (.t 10), none⟩,
         ⟨(some 5), .mov (.t 11), none⟩])
       (.rg [⟨(some 12), .mov (.t 3), none⟩,
         ⟨(some 13), .mov (.t 5), none⟩,
         ⟨(some 14), .lens (.t 13), none⟩,
         ⟨(some 15), .bin .add (.t 12) (.t 14), none⟩,
         ⟨(some 3), .mov (.t 15), none⟩])))
      (.rg [⟨(some 16), .bin .add (.t 8) (.c (.p (.int .i64 1))), none⟩,
        ⟨(some 8), .mov (.t 16), none⟩])))))))
    (.seq (.rg [⟨(some 17), .mov (.t 3), none⟩,
      ⟨(some 18), .bin .leq (.t 17) (.c (.p (.int .i64 5000))), none⟩,
      ⟨(some 2), .mov (.t 18), none⟩])
    .ret))))
def r6 : List DR := [.tmp 2]
theorem c6_ok : Tryd.f6.body.bind (cCode Tryd.prog) = some c6 := by kernel_rfl
theorem r6_ok : cRes Tryd.prog Tryd.f6.results.toList = some r6 := by kernel_rfl

/-- given.example/pub-assaymark/laws.plainMessage -/
def c7 : DC :=
  (.seq (.rg [⟨(some 2), .mov (.c (.p (.bool false))), none⟩])
    (.seq (.seq (.rg [⟨(some 4), .mov (.t 0), none⟩,
      ⟨(some 5), .lens (.t 4), none⟩,
      ⟨(some 6), .mov (.c (.p (.int .i64 0))), none⟩])
    (.block 0 (.loop (.seq (.rg [⟨(some 7), .bin .lss (.t 6) (.t 5), none⟩])
      (.seq (.cond (.t 7) .skip
        (.exit 0))
      (.seq (.block 1 (.seq (.rg [⟨(some 8), .mov (.t 6), none⟩,
         ⟨(some 3), .mov (.t 8), none⟩])
       (.seq (.rg [⟨(some 9), .mov (.t 0), none⟩,
         ⟨(some 10), .mov (.t 3), none⟩,
         ⟨(some 11), .idxs (.t 9) (.t 10), none⟩,
         ⟨(some 12), .bin .lss (.t 11) (.c (.p (.int .u8 32))), none⟩,
         ⟨(some 13), .mov (.t 12), none⟩,
         ⟨(some 14), .mov (.t 0), (some (13, false))⟩,
         ⟨(some 15), .mov (.t 3), (some (13, false))⟩,
         ⟨(some 16), .idxs (.t 14) (.t 15), (some (13, false))⟩,
         ⟨(some 17), .bin .geq (.t 16) (.c (.p (.int .u8 127))), (some (13, false))⟩,
         ⟨(some 18), .pick (.t 13) (.c (.p (.bool true))) (.t 17), none⟩])
       (.cond (.t 18) (.seq (.rg [⟨(some 2), .mov (.c (.p (.bool false))), none⟩])
         .ret)
         .skip))))
      (.rg [⟨(some 19), .bin .add (.t 6) (.c (.p (.int .i64 1))), none⟩,
        ⟨(some 6), .mov (.t 19), none⟩])))))))
    (.seq (.rg [⟨(some 20), .mov (.t 0), none⟩,
      ⟨(some 21), .callr 20 [(.t 20)], none⟩,
      ⟨(some 22), .mov (.t 0), none⟩,
      ⟨(some 23), .bin .eql (.t 21) (.t 22), none⟩,
      ⟨(some 2), .mov (.t 23), none⟩])
    .ret)))
def r7 : List DR := [.tmp 2]
theorem c7_ok : Tryd.f7.body.bind (cCode Tryd.prog) = some c7 := by kernel_rfl
theorem r7_ok : cRes Tryd.prog Tryd.f7.results.toList = some r7 := by kernel_rfl

/-- given.example/pub-assaymark/spec.ProtoFaultWrite -/
def c8 : DC :=
  (.seq (.rg [⟨(some 2), .mov (.c (.p (.string ⟨#[]⟩))), none⟩])
    (.seq (.rg [⟨(some 3), .mov (.c (.p (.string ⟨#[]⟩))), none⟩])
    (.seq (.seq (.rg [⟨(some 6), .mov (.t 0), none⟩,
      ⟨(some 7), .lenl (.t 6), none⟩,
      ⟨(some 8), .mov (.c (.p (.int .i64 0))), none⟩])
    (.block 0 (.loop (.seq (.rg [⟨(some 9), .bin .lss (.t 8) (.t 7), none⟩])
      (.seq (.cond (.t 9) .skip
        (.exit 0))
      (.seq (.block 1 (.seq (.rg [⟨(some 10), .mov (.t 8), none⟩,
         ⟨(some 11), .iaddr 6 (.t 6) (.t 8), none⟩,
         ⟨(some 12), .load true 6 (.t 11), none⟩,
         ⟨(some 5), .alloc 6 (.agg [.p (.int .i32 0), .p (.string ⟨#[]⟩), .p (.string ⟨#[]⟩), .p (.string ⟨#[]⟩), .p (.string ⟨#[]⟩), .p (.slice none 0 0)]), none⟩,
         ⟨(some 4), .mov (.t 10), none⟩,
         ⟨none, .store 6 (.t 5) (.t 12), none⟩])
       (.rgd [⟨⟨(some 13), .mov (.t 3), none⟩, 0, [0]⟩,
         ⟨⟨(some 14), .faddr false 0 1 (.t 5), none⟩, 0, [0]⟩,
         ⟨⟨(some 15), .load false 1 (.t 14), none⟩, 0, [0]⟩,
         ⟨⟨(some 16), .cint .u32 (.t 15), none⟩, 0, [0]⟩,
         ⟨⟨(some 17), .cint .u64 (.t 16), none⟩, 0, [0]⟩,
         ⟨⟨(some 18), .call 21 [(.t 17), (.c (.p (.int .i64 4)))], none⟩, 0, [0]⟩,
         ⟨⟨(some 19), .faddr false 1 1 (.t 5), none⟩, 0, [0]⟩,
         ⟨⟨(some 20), .load false 1 (.t 19), none⟩, 0, [0]⟩,
         ⟨⟨(some 21), .call 22 [(.t 20)], none⟩, 1, [0]⟩,
         ⟨⟨(some 22), .bin .add (.t 18) (.t 21), none⟩, 2, [0]⟩,
         ⟨⟨(some 23), .faddr false 2 1 (.t 5), none⟩, 0, [0]⟩,
         ⟨⟨(some 24), .load false 1 (.t 23), none⟩, 0, [0]⟩,
         ⟨⟨(some 25), .call 22 [(.t 24)], none⟩, 2, [0]⟩,
         ⟨⟨(some 26), .bin .add (.t 22) (.t 25), none⟩, 3, [0]⟩,
         ⟨⟨(some 27), .faddr false 3 1 (.t 5), none⟩, 0, [0]⟩,
         ⟨⟨(some 28), .load false 1 (.t 27), none⟩, 0, [0]⟩,
         ⟨⟨(some 29), .call 22 [(.t 28)], none⟩, 3, []⟩,
         ⟨⟨(some 30), .bin .add (.t 26) (.t 29), none⟩, 4, []⟩,
         ⟨⟨(some 31), .mov (.t 4), none⟩, 0, [0]⟩,
         ⟨⟨(some 32), .mov (.t 0), none⟩, 0, [0]⟩,
         ⟨⟨(some 33), .lenl (.t 32), none⟩, 0, [0]⟩,
         ⟨⟨(some 34), .bin .sub (.t 33) (.c (.p (.int .i64 1))), none⟩, 0, [0]⟩,
         ⟨⟨(some 35), .bin .lss (.t 31) (.t 34), none⟩, 0, [0]⟩,
         ⟨⟨(some 36), .call 23 [(.t 35)], none⟩, 4, []⟩,
         ⟨⟨(some 37), .bin .add (.t 30) (.t 36), none⟩, 5, []⟩,
         ⟨⟨(some 38), .bin .add (.t 13) (.t 37), none⟩, 5, []⟩,
         ⟨⟨(some 3), .mov (.t 38), none⟩, 5, []⟩])))
      (.rg [⟨(some 39), .bin .add (.t 8) (.c (.p (.int .i64 1))), none⟩,
        ⟨(some 8), .mov (.t 39), none⟩])))))))
    (.seq (.rg [⟨(some 40), .mov (.t 3), none⟩,
      ⟨(some 2), .mov (.t 40), none⟩])
    .ret))))
def r8 : List DR := [.tmp 2]
theorem c8_ok : Tryd.f8.body.bind (cCode Tryd.prog) = some c8 := by kernel_rfl
theorem r8_ok : cRes Tryd.prog Tryd.f8.results.toList = some r8 := by kernel_rfl

/-- given.example/pub-assaymark/impl.ProtoFaultRead -/
def c9 : DC :=
  (.seq (.rg [⟨(some 2), .alloc 6 (.agg [.p (.int .i32 0), .p (.string ⟨#[]⟩), .p (.string ⟨#[]⟩), .p (.string ⟨#[]⟩), .p (.string ⟨#[]⟩), .p (.slice none 0 0)]), none⟩,
      ⟨(some 3), .mov (.c (.p (.int .i64 0))), none⟩,
      ⟨(some 4), .mov (.c (.p (.bool false))), none⟩])
    (.seq (.rg [⟨(some 7), .mov (.t 0), none⟩,
      ⟨(some 8), .callr 24 [(.t 7)], none⟩,
      ⟨(some 5), .mov (.t 8), none⟩])
    (.seq (.rg [⟨(some 6), .alloc 7 (.agg [.p (.int .i32 0), .p (.string ⟨#[]⟩), .p (.string ⟨#[]⟩), .p (.string ⟨#[]⟩), .p (.string ⟨#[]⟩), .p (.slice none 0 0), .p (.bool false)]), none⟩])
    (.seq (.seq (.rg [⟨(some 9), .mov (.t 5), none⟩,
      ⟨(some 10), .callr 25 [(.t 6), (.t 9)], none⟩,
      ⟨(some 11), .eqn true .iface (.t 10), none⟩])
    (.cond (.t 11) (.seq (.rg [⟨(some 12), .load true 6 (.t 2), none⟩,
        ⟨none, .store 6 (.t 2) (.t 12), none⟩,
        ⟨(some 3), .mov (.c (.p (.int .i64 0))), none⟩,
        ⟨(some 4), .mov (.c (.p (.bool false))), none⟩])
      .ret)
      .skip))
    (.seq (.rg [⟨(some 13), .callr 26 [(.t 6)], none⟩,
      ⟨(some 14), .mov (.t 5), none⟩,
      ⟨(some 15), .callr 27 [(.t 14)], none⟩,
      ⟨none, .store 6 (.t 2) (.t 13), none⟩,
      ⟨(some 3), .mov (.t 15), none⟩,
      ⟨(some 4), .mov (.c (.p (.bool true))), none⟩])
    .ret)))))
def r9 : List DR := [.cell 2 true 6, .tmp 3, .tmp 4]
theorem c9_ok : Tryd.f9.body.bind (cCode Tryd.prog) = some c9 := by kernel_rfl
theorem r9_ok : cRes Tryd.prog Tryd.f9.results.toList = some r9 := by kernel_rfl

/-- given.example/pub-assaymark/laws.sameFault -/
def c10 : DC :=
  (.seq (.rg [⟨(some 2), .box (.t 0), none⟩,
      ⟨(some 3), .box (.t 1), none⟩,
      ⟨(some 4), .mov (.c (.p (.bool false))), none⟩])
    (.seq (.rgd [⟨⟨(some 7), .faddr false 2 1 (.t 3), none⟩, 0, [0]⟩,
      ⟨⟨(some 8), .load false 1 (.t 7), none⟩, 0, [0]⟩,
      ⟨⟨(some 9), .faddr false 1 1 (.t 3), none⟩, 0, [0]⟩,
      ⟨⟨(some 10), .load false 1 (.t 9), none⟩, 0, [0]⟩,
      ⟨⟨(some 11), .bin .add (.t 10) (.c (.p (.string ⟨#[58]⟩))), none⟩, 0, [0]⟩,
      ⟨⟨(some 5), .mov (.t 8), none⟩, 0, [0]⟩,
      ⟨⟨(some 6), .mov (.t 11), none⟩, 0, []⟩])
    (.seq (.seq (.rg [⟨(some 12), .mov (.t 5), none⟩,
      ⟨(some 13), .lens (.t 12), none⟩,
      ⟨(some 14), .mov (.t 6), none⟩,
      ⟨(some 15), .lens (.t 14), none⟩,
      ⟨(some 16), .bin .geq (.t 13) (.t 15), none⟩,
      ⟨(some 17), .mov (.t 16), none⟩,
      ⟨(some 18), .mov (.t 5), (some (17, true))⟩,
      ⟨(some 19), .mov (.t 6), (some (17, true))⟩,
      ⟨(some 20), .lens (.t 19), (some (17, true))⟩,
      ⟨(some 21), .slcs (.t 18) none (some (.t 20)), (some (17, true))⟩,
      ⟨(some 22), .mov (.t 6), (some (17, true))⟩,
      ⟨(some 23), .bin .eql (.t 21) (.t 22), (some (17, true))⟩,
      ⟨(some 24), .pick (.t 17) (.t 23) (.c (.p (.bool false))), none⟩])
    (.cond (.t 24) (.rg [⟨(some 25), .mov (.t 5), none⟩,
        ⟨(some 26), .mov (.t 6), none⟩,
        ⟨(some 27), .lens (.t 26), none⟩,
        ⟨(some 28), .slcs (.t 25) (some (.t 27)) none, none⟩,
        ⟨(some 29), .callr 20 [(.t 28)], none⟩,
        ⟨(some 5), .mov (.t 29), none⟩])
      .skip))
    (.seq (.rg [⟨(some 30), .faddr false 0 1 (.t 2), none⟩,
      ⟨(some 31), .load false 1 (.t 30), none⟩,
      ⟨(some 32), .faddr false 0 1 (.t 3), none⟩,
      ⟨(some 33), .load false 1 (.t 32), none⟩,
      ⟨(some 34), .bin .eql (.t 31) (.t 33), none⟩,
      ⟨(some 35), .mov (.t 34), none⟩,
      ⟨(some 36), .faddr false 1 1 (.t 2), (some (35, true))⟩,
      ⟨(some 37), .load false 1 (.t 36), (some (35, true))⟩,
      ⟨(some 38), .faddr false 1 1 (.t 3), (some (35, true))⟩,
      ⟨(some 39), .load false 1 (.t 38), (some (35, true))⟩,
      ⟨(some 40), .bin .eql (.t 37) (.t 39), (some (35, true))⟩,
      ⟨(some 41), .pick (.t 35) (.t 40) (.c (.p (.bool false))), none⟩,
      ⟨(some 42), .mov (.t 41), none⟩,
      ⟨(some 43), .faddr false 3 1 (.t 2), (some (42, true))⟩,
      ⟨(some 44), .load false 1 (.t 43), (some (42, true))⟩,
      ⟨(some 45), .faddr false 3 1 (.t 3), (some (42, true))⟩,
      ⟨(some 46), .load false 1 (.t 45), (some (42, true))⟩,
      ⟨(some 47), .bin .eql (.t 44) (.t 46), (some (42, true))⟩,
      ⟨(some 48), .pick (.t 42) (.t 47) (.c (.p (.bool false))), none⟩,
      ⟨(some 49), .mov (.t 48), none⟩,
      ⟨(some 50), .faddr false 2 1 (.t 2), (some (49, true))⟩,
      ⟨(some 51), .load false 1 (.t 50), (some (49, true))⟩,
      ⟨(some 52), .mov (.t 5), (some (49, true))⟩,
      ⟨(some 53), .bin .eql (.t 51) (.t 52), (some (49, true))⟩,
      ⟨(some 54), .pick (.t 49) (.t 53) (.c (.p (.bool false))), none⟩,
      ⟨(some 4), .mov (.t 54), none⟩])
    .ret))))
def r10 : List DR := [.tmp 4]
theorem c10_ok : Tryd.f10.body.bind (cCode Tryd.prog) = some c10 := by kernel_rfl
theorem r10_ok : cRes Tryd.prog Tryd.f10.results.toList = some r10 := by kernel_rfl

/-- given.example/pub-assaymark/impl.ProtoVersionText -/
def c19 : DC :=
  (.seq (.rg [⟨(some 1), .box (.t 0), none⟩,
      ⟨(some 2), .mov (.c (.p (.string ⟨#[]⟩))), none⟩])
    (.seq (.rg [⟨(some 3), .load true 3 (.t 1), none⟩,
      ⟨(some 4), .callr 30 [(.t 3)], none⟩,
      ⟨(some 5), .callr 43 [(.t 4)], none⟩,
      ⟨(some 2), .mov (.t 5), none⟩])
    .ret))
def r19 : List DR := [.tmp 2]
theorem c19_ok : Tryd.f19.body.bind (cCode Tryd.prog) = some c19 := by kernel_rfl
theorem r19_ok : cRes Tryd.prog Tryd.f19.results.toList = some r19 := by kernel_rfl

/-- given.example/pub-assaymark/spec.Tight -/
def c20 : DC :=
  (.seq (.rg [⟨(some 2), .mov (.c (.p (.string ⟨#[]⟩))), none⟩])
    (.seq (.block 0 (.loop (.seq (.seq (.rg [⟨(some 3), .mov (.t 0), none⟩,
        ⟨(some 4), .bin .neq (.t 3) (.c (.p (.string ⟨#[]⟩))), none⟩,
        ⟨(some 5), .mov (.t 4), none⟩,
        ⟨(some 6), .mov (.t 0), (some (5, true))⟩,
        ⟨(some 7), .idxs (.t 6) (.c (.p (.int .i64 0))), (some (5, true))⟩,
        ⟨(some 8), .bin .leq (.t 7) (.c (.p (.int .u8 32))), (some (5, true))⟩,
        ⟨(some 9), .pick (.t 5) (.t 8) (.c (.p (.bool false))), none⟩])
      (.cond (.t 9) .skip
        (.exit 0)))
      (.block 1 (.rg [⟨(some 10), .mov (.t 0), none⟩,
         ⟨(some 11), .slcs (.t 10) (some (.c (.p (.int .i64 1)))) none, none⟩,
         ⟨(some 0), .mov (.t 11), none⟩])))))
    (.seq (.block 2 (.loop (.seq (.seq (.rg [⟨(some 12), .mov (.t 0), none⟩,
        ⟨(some 13), .bin .neq (.t 12) (.c (.p (.string ⟨#[]⟩))), none⟩,
        ⟨(some 14), .mov (.t 13), none⟩,
        ⟨(some 15), .mov (.t 0), (some (14, true))⟩,
        ⟨(some 16), .mov (.t 0), (some (14, true))⟩,
        ⟨(some 17), .lens (.t 16), (some (14, true))⟩,
        ⟨(some 18), .bin .sub (.t 17) (.c (.p (.int .i64 1))), (some (14, true))⟩,
        ⟨(some 19), .idxs (.t 15) (.t 18), (some (14, true))⟩,
        ⟨(some 20), .bin .leq (.t 19) (.c (.p (.int .u8 32))), (some (14, true))⟩,
        ⟨(some 21), .pick (.t 14) (.t 20) (.c (.p (.bool false))), none⟩])
      (.cond (.t 21) .skip
        (.exit 2)))
      (.block 3 (.rg [⟨(some 22), .mov (.t 0), none⟩,
         ⟨(some 23), .mov (.t 0), none⟩,
         ⟨(some 24), .lens (.t 23), none⟩,
         ⟨(some 25), .bin .sub (.t 24) (.c (.p (.int .i64 1))), none⟩,
         ⟨(some 26), .slcs (.t 22) none (some (.t 25)), none⟩,
         ⟨(some 0), .mov (.t 26), none⟩])))))
    (.seq (.rg [⟨(some 27), .mov (.t 0), none⟩,
      ⟨(some 2), .mov (.t 27), none⟩])
    .ret))))
def r20 : List DR := [.tmp 2]
theorem c20_ok : Tryd.f20.body.bind (cCode Tryd.prog) = some c20 := by kernel_rfl
theorem r20_ok : cRes Tryd.prog Tryd.f20.results.toList = some r20 := by kernel_rfl

/-- given.example/pub-assaymark/spec.Fixed -/
def c21 : DC :=
  (.seq (.rg [⟨(some 4), .mov (.c (.p (.string ⟨#[]⟩))), none⟩])
    (.seq (.rg [⟨(some 5), .mov (.c (.p (.slice none 0 0))), none⟩])
    (.seq (.seq (.rg [⟨(some 6), .mov (.t 1), none⟩,
      ⟨(some 7), .mov (.c (.p (.int .i64 0))), none⟩])
    (.block 0 (.loop (.seq (.rg [⟨(some 8), .bin .lss (.t 7) (.t 6), none⟩])
      (.seq (.cond (.t 8) .skip
        (.exit 0))
      (.seq (.block 1 (.seq (.rg [⟨(some 9), .mov (.t 5), none⟩,
         ⟨(some 10), .mov (.t 0), none⟩,
         ⟨(some 11), .cint .u8 (.t 10), none⟩,
         ⟨(some 12), .lit 1 [(.t 11)], none⟩,
         ⟨(some 13), .app 1 1 (.t 9) (.t 12), none⟩,
         ⟨(some 5), .mov (.t 13), none⟩])
       (.rg [⟨(some 14), .mov (.t 0), none⟩,
         ⟨(some 15), .bin .shr (.t 14) (.c (.p (.int .u64 8))), none⟩,
         ⟨(some 0), .mov (.t 15), none⟩])))
      (.rg [⟨(some 16), .bin .add (.t 7) (.c (.p (.int .i64 1))), none⟩,
        ⟨(some 7), .mov (.t 16), none⟩])))))))
    (.seq (.rg [⟨(some 17), .mov (.t 5), none⟩,
      ⟨(some 18), .b2s (.t 17), none⟩,
      ⟨(some 4), .mov (.t 18), none⟩])
    .ret))))
def r21 : List DR := [.tmp 4]
theorem c21_ok : Tryd.f21.body.bind (cCode Tryd.prog) = some c21 := by kernel_rfl
theorem r21_ok : cRes Tryd.prog Tryd.f21.results.toList = some r21 := by kernel_rfl

/-- given.example/pub-assaymark/spec.Long -/
def c22 : DC :=
  (.seq (.rg [⟨(some 2), .mov (.c (.p (.string ⟨#[]⟩))), none⟩])
    (.seq (.rg [⟨(some 3), .mov (.t 0), none⟩,
      ⟨(some 4), .lens (.t 3), none⟩,
      ⟨(some 5), .cint .u64 (.t 4), none⟩,
      ⟨(some 6), .callr 40 [(.t 5)], none⟩,
      ⟨(some 7), .mov (.t 0), none⟩,
      ⟨(some 8), .bin .add (.t 6) (.t 7), none⟩,
      ⟨(some 2), .mov (.t 8), none⟩])
    .ret))
def r22 : List DR := [.tmp 2]
theorem c22_ok : Tryd.f22.body.bind (cCode Tryd.prog) = some c22 := by kernel_rfl
theorem r22_ok : cRes Tryd.prog Tryd.f22.results.toList = some r22 := by kernel_rfl

/-- given.example/pub-assaymark/spec.YesNo -/
def c23 : DC :=
  (.seq (.rg [⟨(some 2), .mov (.c (.p (.string ⟨#[]⟩))), none⟩])
    (.seq (.seq (.rg [⟨(some 3), .mov (.t 0), none⟩])
    (.cond (.t 3) (.seq (.rg [⟨(some 2), .mov (.c (.p (.string ⟨#[1]⟩))), none⟩])
      .ret)
      .skip))
    (.seq (.rg [⟨(some 2), .mov (.c (.p (.string ⟨#[0]⟩))), none⟩])
    .ret)))
def r23 : List DR := [.tmp 2]
theorem c23_ok : Tryd.f23.body.bind (cCode Tryd.prog) = some c23 := by kernel_rfl
theorem r23_ok : cRes Tryd.prog Tryd.f23.results.toList = some r23 := by kernel_rfl

/-- given.example/pub-assaymark/impl.protoReader -/
def c24 : DC :=
  (.seq (.rg [⟨(some 2), .mov (.c (.p (.pointer none))), none⟩])
    (.seq (.rg [⟨(some 3), .mov (.t 0), none⟩,
      ⟨(some 4), .s2b (.t 3), none⟩,
      ⟨(some 5), .callr 44 [(.t 4)], none⟩,
      ⟨(some 2), .mov (.t 5), none⟩])
    .ret))
def r24 : List DR := [.tmp 2]
theorem c24_ok : Tryd.f24.body.bind (cCode Tryd.prog) = some c24 := by kernel_rfl
theorem r24_ok : cRes Tryd.prog Tryd.f24.results.toList = some r24 := by kernel_rfl

/-- (*given.example/pub-assaymark/pub/clickhousego/lib/proto.Exception).Decode -/
def c25 : DC :=
  (.seq (.rg [⟨(some 4), .mov (.c (.p .nilIface)), none⟩])
    (.seq (.rg [⟨(some 5), .mov (.c (.p (.slice none 0 0))), none⟩])
    (.seq (.block 0 (.loop (.block 1 (.seq (.rg [⟨(some 6), .alloc 7 (.agg [.p (.int .i32 0), .p (.string ⟨#[]⟩), .p (.string ⟨#[]⟩), .p (.string ⟨#[]⟩), .p (.string ⟨#[]⟩), .p (.slice none 0 0), .p (.bool false)]), none⟩])
       (.seq (.seq (.rg [⟨(some 8), .mov (.t 1), none⟩,
         ⟨(some 9), .callr 45 [(.t 6), (.t 8)], none⟩,
         ⟨(some 7), .mov (.t 9), none⟩])
       (.seq (.rg [⟨(some 10), .mov (.t 7), none⟩,
         ⟨(some 11), .eqn true .iface (.t 10), none⟩])
       (.cond (.t 11) (.seq (.rg [⟨(some 12), .mov (.t 7), none⟩,
           ⟨(some 4), .mov (.t 12), none⟩])
         .ret)
         .skip)))
       (.seq (.rg [⟨(some 13), .mov (.t 5), none⟩,
         ⟨(some 14), .load true 7 (.t 6), none⟩,
         ⟨(some 15), .lit 7 [(.t 14)], none⟩,
         ⟨(some 16), .app 7 104 (.t 13) (.t 15), none⟩,
         ⟨(some 5), .mov (.t 16), none⟩])
       (.seq (.rg [⟨(some 17), .faddr false 6 1 (.t 6), none⟩,
         ⟨(some 18), .load false 1 (.t 17), none⟩,
         ⟨(some 19), .un .not (.t 18), none⟩])
       (.cond (.t 19) (.exit 0)
         .skip))))))))
    (.seq (.seq (.rg [⟨(some 20), .mov (.t 5), none⟩,
      ⟨(some 21), .lenl (.t 20), none⟩,
      ⟨(some 22), .bin .neq (.t 21) (.c (.p (.int .i64 0))), none⟩])
    (.cond (.t 22) (.seq (.rg [⟨(some 23), .mov (.t 0), none⟩,
        ⟨(some 24), .mov (.t 5), none⟩,
        ⟨(some 25), .iaddr 7 (.t 24) (.c (.p (.int .i64 0))), none⟩,
        ⟨(some 26), .faddr false 0 1 (.t 25), none⟩,
        ⟨(some 27), .load false 1 (.t 26), none⟩,
        ⟨(some 28), .nilchk .ptr (.t 23), none⟩,
        ⟨(some 29), .faddr false 0 1 (.t 28), none⟩,
        ⟨none, .store 1 (.t 29) (.t 27), none⟩])
      (.seq (.rg [⟨(some 30), .mov (.t 0), none⟩,
        ⟨(some 31), .mov (.t 5), none⟩,
        ⟨(some 32), .iaddr 7 (.t 31) (.c (.p (.int .i64 0))), none⟩,
        ⟨(some 33), .faddr false 1 1 (.t 32), none⟩,
        ⟨(some 34), .load false 1 (.t 33), none⟩,
        ⟨(some 35), .nilchk .ptr (.t 30), none⟩,
        ⟨(some 36), .faddr false 1 1 (.t 35), none⟩,
        ⟨none, .store 1 (.t 36) (.t 34), none⟩])
      (.seq (.rg [⟨(some 37), .mov (.t 0), none⟩,
        ⟨(some 38), .mov (.t 5), none⟩,
        ⟨(some 39), .iaddr 7 (.t 38) (.c (.p (.int .i64 0))), none⟩,
        ⟨(some 40), .faddr false 3 1 (.t 39), none⟩,
        ⟨(some 41), .load false 1 (.t 40), none⟩,
        ⟨(some 42), .nilchk .ptr (.t 37), none⟩,
        ⟨(some 43), .faddr false 3 1 (.t 42), none⟩,
        ⟨none, .store 1 (.t 43) (.t 41), none⟩])
      (.seq (.rg [⟨(some 44), .mov (.t 0), none⟩,
        ⟨(some 45), .mov (.t 5), none⟩,
        ⟨(some 46), .iaddr 7 (.t 45) (.c (.p (.int .i64 0))), none⟩,
        ⟨(some 47), .faddr false 4 1 (.t 46), none⟩,
        ⟨(some 48), .load false 1 (.t 47), none⟩,
        ⟨(some 49), .nilchk .ptr (.t 44), none⟩,
        ⟨(some 50), .faddr false 4 1 (.t 49), none⟩,
        ⟨none, .store 1 (.t 50) (.t 48), none⟩])
      (.seq (.rg [⟨(some 51), .mov (.t 5), none⟩,
        ⟨(some 52), .iaddr 7 (.t 51) (.c (.p (.int .i64 0))), none⟩,
        ⟨(some 53), .faddr false 6 1 (.t 52), none⟩,
        ⟨(some 54), .load false 1 (.t 53), none⟩])
      (.cond (.t 54) (.rg [⟨(some 55), .mov (.t 0), none⟩,
          ⟨(some 56), .mov (.t 5), none⟩,
          ⟨(some 57), .slcl 7 (.t 56) (some (.c (.p (.int .i64 1)))) none, none⟩,
          ⟨(some 58), .nilchk .ptr (.t 55), none⟩,
          ⟨(some 59), .faddr false 5 1 (.t 58), none⟩,
          ⟨none, .store 1 (.t 59) (.t 57), none⟩])
        .skip))))))
      .skip))
    (.seq (.rg [⟨(some 4), .mov (.c (.p .nilIface)), none⟩])
    .ret)))))
def r25 : List DR := [.tmp 4]
theorem c25_ok : Tryd.f25.body.bind (cCode Tryd.prog) = some c25 := by kernel_rfl
theorem r25_ok : cRes Tryd.prog Tryd.f25.results.toList = some r25 := by kernel_rfl

/-- given.example/pub-assaymark/impl.protoFault -/
def c26 : DC :=
  (.seq (.rg [⟨(some 2), .alloc 6 (.agg [.p (.int .i32 0), .p (.string ⟨#[]⟩), .p (.string ⟨#[]⟩), .p (.string ⟨#[]⟩), .p (.string ⟨#[]⟩), .p (.slice none 0 0)]), none⟩])
    (.seq (.rgd [⟨⟨(some 5), .mov (.t 0), none⟩, 0, [0]⟩,
      ⟨⟨(some 6), .nilchk .ptr (.t 5), none⟩, 0, [0]⟩,
      ⟨⟨(some 7), .faddr false 0 1 (.t 6), none⟩, 0, [0]⟩,
      ⟨⟨(some 8), .load false 1 (.t 7), none⟩, 0, [0]⟩,
      ⟨⟨(some 9), .mov (.t 0), none⟩, 0, [0]⟩,
      ⟨⟨(some 10), .nilchk .ptr (.t 9), none⟩, 0, [0]⟩,
      ⟨⟨(some 11), .faddr false 1 1 (.t 10), none⟩, 0, [0]⟩,
      ⟨⟨(some 12), .load false 1 (.t 11), none⟩, 0, [0]⟩,
      ⟨⟨(some 13), .mov (.t 0), none⟩, 0, [0]⟩,
      ⟨⟨(some 14), .nilchk .ptr (.t 13), none⟩, 0, [0]⟩,
      ⟨⟨(some 15), .faddr false 3 1 (.t 14), none⟩, 0, [0]⟩,
      ⟨⟨(some 16), .load false 1 (.t 15), none⟩, 0, [0]⟩,
      ⟨⟨(some 17), .mov (.t 0), none⟩, 0, [0]⟩,
      ⟨⟨(some 18), .nilchk .ptr (.t 17), none⟩, 0, [0]⟩,
      ⟨⟨(some 19), .faddr false 4 1 (.t 18), none⟩, 0, [0]⟩,
      ⟨⟨(some 20), .load false 1 (.t 19), none⟩, 0, [0]⟩,
      ⟨⟨(some 21), .mov (.t 0), none⟩, 0, [0]⟩,
      ⟨⟨(some 22), .pcall 46 [(.t 21)], none⟩, 0, [0]⟩,
      ⟨⟨(some 23), .bld [.p (.int .i32 0), .p (.string ⟨#[]⟩), .p (.string ⟨#[]⟩), .p (.string ⟨#[]⟩), .p (.string ⟨#[]⟩), .p (.slice none 0 0)] [(0, 1, (.t 8)), (1, 1, (.t 12)), (2, 1, (.t 16)), (3, 1, (.t 20)), (4, 1, (.t 22))], none⟩, 0, []⟩,
      ⟨⟨(some 3), .alloc 6 (.agg [.p (.int .i32 0), .p (.string ⟨#[]⟩), .p (.string ⟨#[]⟩), .p (.string ⟨#[]⟩), .p (.string ⟨#[]⟩), .p (.slice none 0 0)]), none⟩, 0, [0]⟩,
      ⟨⟨none, .store 6 (.t 3) (.t 23), none⟩, 1, []⟩])
    (.seq (.seq (.rg [⟨(some 24), .mov (.t 0), none⟩,
      ⟨(some 25), .nilchk .ptr (.t 24), none⟩,
      ⟨(some 26), .faddr false 5 1 (.t 25), none⟩,
      ⟨(some 27), .load false 1 (.t 26), none⟩,
      ⟨(some 28), .lenl (.t 27), none⟩,
      ⟨(some 29), .mov (.c (.p (.int .i64 0))), none⟩])
    (.block 0 (.loop (.seq (.rg [⟨(some 30), .bin .lss (.t 29) (.t 28), none⟩])
      (.seq (.cond (.t 30) .skip
        (.exit 0))
      (.seq (.block 1 (.seq (.rg [⟨(some 31), .mov (.t 29), none⟩,
         ⟨(some 4), .mov (.t 31), none⟩])
       (.rgd [⟨⟨(some 32), .faddr false 5 1 (.t 3), none⟩, 0, [0]⟩,
         ⟨⟨(some 33), .load false 1 (.t 32), none⟩, 0, [0]⟩,
         ⟨⟨(some 34), .mov (.t 0), none⟩, 0, [0]⟩,
         ⟨⟨(some 35), .nilchk .ptr (.t 34), none⟩, 0, [0]⟩,
         ⟨⟨(some 36), .faddr false 5 1 (.t 35), none⟩, 0, [0]⟩,
         ⟨⟨(some 37), .load false 1 (.t 36), none⟩, 0, [0]⟩,
         ⟨⟨(some 38), .mov (.t 4), none⟩, 0, [0]⟩,
         ⟨⟨(some 39), .iaddr 7 (.t 37) (.t 38), none⟩, 0, [0]⟩,
         ⟨⟨(some 40), .call 26 [(.t 39)], none⟩, 0, [0]⟩,
         ⟨⟨(some 41), .lit 6 [(.t 40)], none⟩, 1, [0]⟩,
         ⟨⟨(some 42), .app 6 96 (.t 33) (.t 41), none⟩, 2, []⟩,
         ⟨⟨(some 43), .faddr false 5 1 (.t 3), none⟩, 3, [3]⟩,
         ⟨⟨none, .store 1 (.t 43) (.t 42), none⟩, 3, []⟩])))
      (.rg [⟨(some 44), .bin .add (.t 29) (.c (.p (.int .i64 1))), none⟩,
        ⟨(some 29), .mov (.t 44), none⟩])))))))
    (.seq (.rg [⟨(some 45), .load true 6 (.t 3), none⟩,
      ⟨none, .store 6 (.t 2) (.t 45), none⟩])
    .ret))))
def r26 : List DR := [.cell 2 true 6]
theorem c26_ok : Tryd.f26.body.bind (cCode Tryd.prog) = some c26 := by kernel_rfl
theorem r26_ok : cRes Tryd.prog Tryd.f26.results.toList = some r26 := by kernel_rfl

/-- (*given.example/pub-assaymark/pub/chgo/proto.Reader).Left -/
def c27 : DC :=
  (.seq (.rg [⟨(some 2), .mov (.c (.p (.int .i64 0))), none⟩])
    (.seq (.rg [⟨(some 3), .mov (.t 0), none⟩,
      ⟨(some 4), .nilchk .ptr (.t 3), none⟩,
      ⟨(some 5), .faddr false 0 1 (.t 4), none⟩,
      ⟨(some 6), .load false 1 (.t 5), none⟩,
      ⟨(some 7), .lenl (.t 6), none⟩,
      ⟨(some 2), .mov (.t 7), none⟩])
    .ret))
def r27 : List DR := [.tmp 2]
theorem c27_ok : Tryd.f27.body.bind (cCode Tryd.prog) = some c27 := by kernel_rfl
theorem r27_ok : cRes Tryd.prog Tryd.f27.results.toList = some r27 := by kernel_rfl

/-- given.example/pub-assaymark/impl.protoVersion -/
def c30 : DC :=
  (.seq (.rg [⟨(some 1), .box (.t 0), none⟩,
      ⟨(some 2), .alloc 3 (.agg [.p (.int .u64 0), .p (.int .u64 0), .p (.int .u64 0)]), none⟩])
    (.seq (.rg [⟨(some 3), .faddr false 0 1 (.t 1), none⟩,
      ⟨(some 4), .load false 1 (.t 3), none⟩,
      ⟨(some 5), .faddr false 1 1 (.t 1), none⟩,
      ⟨(some 6), .load false 1 (.t 5), none⟩,
      ⟨(some 7), .faddr false 2 1 (.t 1), none⟩,
      ⟨(some 8), .load false 1 (.t 7), none⟩,
      ⟨(some 9), .bld [.p (.int .u64 0), .p (.int .u64 0), .p (.int .u64 0)] [(0, 1, (.t 4)), (1, 1, (.t 6)), (2, 1, (.t 8))], none⟩,
      ⟨none, .store 3 (.t 2) (.t 9), none⟩])
    .ret))
def r30 : List DR := [.cell 2 true 3]
theorem c30_ok : Tryd.f30.body.bind (cCode Tryd.prog) = some c30 := by kernel_rfl
theorem r30_ok : cRes Tryd.prog Tryd.f30.results.toList = some r30 := by kernel_rfl

/-- given.example/pub-assaymark/spec.Uvar -/
def c40 : DC :=
  (.seq (.rg [⟨(some 2), .mov (.c (.p (.string ⟨#[]⟩))), none⟩])
    (.seq (.rg [⟨(some 3), .mov (.c (.p (.slice none 0 0))), none⟩])
    (.seq (.block 0 (.loop (.seq (.seq (.rg [⟨(some 4), .mov (.t 0), none⟩,
        ⟨(some 5), .bin .geq (.t 4) (.c (.p (.int .u64 128))), none⟩])
      (.cond (.t 5) .skip
        (.exit 0)))
      (.block 1 (.seq (.rg [⟨(some 6), .mov (.t 3), none⟩,
         ⟨(some 7), .mov (.t 0), none⟩,
         ⟨(some 8), .cint .u8 (.t 7), none⟩,
         ⟨(some 9), .bin .or (.t 8) (.c (.p (.int .u8 128))), none⟩,
         ⟨(some 10), .lit 1 [(.t 9)], none⟩,
         ⟨(some 11), .app 1 1 (.t 6) (.t 10), none⟩,
         ⟨(some 3), .mov (.t 11), none⟩])
       (.rg [⟨(some 12), .mov (.t 0), none⟩,
         ⟨(some 13), .bin .shr (.t 12) (.c (.p (.int .u64 7))), none⟩,
         ⟨(some 0), .mov (.t 13), none⟩]))))))
    (.seq (.rg [⟨(some 14), .mov (.t 3), none⟩,
      ⟨(some 15), .mov (.t 0), none⟩,
      ⟨(some 16), .cint .u8 (.t 15), none⟩,
      ⟨(some 17), .lit 1 [(.t 16)], none⟩,
      ⟨(some 18), .app 1 1 (.t 14) (.t 17), none⟩,
      ⟨(some 19), .b2s (.t 18), none⟩,
      ⟨(some 2), .mov (.t 19), none⟩])
    .ret))))
def r40 : List DR := [.tmp 2]
theorem c40_ok : Tryd.f40.body.bind (cCode Tryd.prog) = some c40 := by kernel_rfl
theorem r40_ok : cRes Tryd.prog Tryd.f40.results.toList = some r40 := by kernel_rfl

/-- (given.example/pub-assaymark/pub/clickhousego/lib/proto.Version).String -/
def c43 : DC :=
  (.seq (.rg [⟨(some 1), .box (.t 0), none⟩,
      ⟨(some 2), .mov (.c (.p (.string ⟨#[]⟩))), none⟩])
    (.seq (.rgd [⟨⟨(some 3), .faddr false 0 1 (.t 1), none⟩, 0, [0]⟩,
      ⟨⟨(some 4), .load false 1 (.t 3), none⟩, 0, [0]⟩,
      ⟨⟨(some 5), .call 57 [(.t 4), (.c (.p (.int .i64 10)))], none⟩, 0, [0]⟩,
      ⟨⟨(some 6), .bin .add (.t 5) (.c (.p (.string ⟨#[46]⟩))), none⟩, 1, [0]⟩,
      ⟨⟨(some 7), .faddr false 1 1 (.t 1), none⟩, 0, [0]⟩,
      ⟨⟨(some 8), .load false 1 (.t 7), none⟩, 0, [0]⟩,
      ⟨⟨(some 9), .call 57 [(.t 8), (.c (.p (.int .i64 10)))], none⟩, 1, [0]⟩,
      ⟨⟨(some 10), .bin .add (.t 6) (.t 9), none⟩, 2, [0]⟩,
      ⟨⟨(some 11), .bin .add (.t 10) (.c (.p (.string ⟨#[46]⟩))), none⟩, 2, [0]⟩,
      ⟨⟨(some 12), .faddr false 2 1 (.t 1), none⟩, 0, [0]⟩,
      ⟨⟨(some 13), .load false 1 (.t 12), none⟩, 0, [0]⟩,
      ⟨⟨(some 14), .call 57 [(.t 13), (.c (.p (.int .i64 10)))], none⟩, 2, []⟩,
      ⟨⟨(some 15), .bin .add (.t 11) (.t 14), none⟩, 3, []⟩,
      ⟨⟨(some 2), .mov (.t 15), none⟩, 3, []⟩])
    .ret))
def r43 : List DR := [.tmp 2]
theorem c43_ok : Tryd.f43.body.bind (cCode Tryd.prog) = some c43 := by kernel_rfl
theorem r43_ok : cRes Tryd.prog Tryd.f43.results.toList = some r43 := by kernel_rfl

/-- given.example/pub-assaymark/pub/chgo/proto.NewReader -/
def c44 : DC :=
  (.seq (.rg [⟨(some 2), .mov (.c (.p (.pointer none))), none⟩])
    (.seq (.rg [⟨(some 3), .mov (.t 0), none⟩,
      ⟨(some 4), .bld [.p (.slice none 0 0)] [], none⟩,
      ⟨(some 5), .box (.t 4), none⟩,
      ⟨(some 6), .bld [.p (.slice none 0 0), .p (.pointer none)] [(0, 1, (.t 3)), (1, 1, (.t 5))], none⟩,
      ⟨(some 7), .box (.t 6), none⟩,
      ⟨(some 2), .mov (.t 7), none⟩])
    .ret))
def r44 : List DR := [.tmp 2]
theorem c44_ok : Tryd.f44.body.bind (cCode Tryd.prog) = some c44 := by kernel_rfl
theorem r44_ok : cRes Tryd.prog Tryd.f44.results.toList = some r44 := by kernel_rfl

/-- (*given.example/pub-assaymark/pub/clickhousego/lib/proto.Exception).decode -/
def c45 : DC :=
  (.seq (.rg [⟨(some 4), .mov (.c (.p .nilIface)), none⟩])
    (.seq (.seq (.rg [⟨(some 6), .mov (.t 0), none⟩,
      ⟨(some 7), .mov (.t 1), none⟩,
      ⟨(some 8), .callr 58 [(.t 7)], none⟩,
      ⟨(some 5), .mov (.t 8), none⟩,
      ⟨(some 9), .ext (.t 5) 0, none⟩,
      ⟨(some 10), .ext (.t 5) 1, none⟩,
      ⟨(some 11), .nilchk .ptr (.t 6), none⟩,
      ⟨(some 12), .faddr false 0 1 (.t 11), none⟩,
      ⟨none, .store 1 (.t 12) (.t 9), none⟩,
      ⟨(some 4), .mov (.t 10), none⟩])
    (.seq (.rg [⟨(some 13), .mov (.t 4), none⟩,
      ⟨(some 14), .eqn true .iface (.t 13), none⟩])
    (.cond (.t 14) (.seq (.rg [⟨(some 15), .mov (.t 4), none⟩,
        ⟨(some 4), .mov (.t 15), none⟩])
      .ret)
      .skip)))
    (.seq (.seq (.rg [⟨(some 17), .mov (.t 0), none⟩,
      ⟨(some 18), .mov (.t 1), none⟩,
      ⟨(some 19), .callr 59 [(.t 18)], none⟩,
      ⟨(some 16), .mov (.t 19), none⟩,
      ⟨(some 20), .ext (.t 16) 0, none⟩,
      ⟨(some 21), .ext (.t 16) 1, none⟩,
      ⟨(some 22), .nilchk .ptr (.t 17), none⟩,
      ⟨(some 23), .faddr false 1 1 (.t 22), none⟩,
      ⟨none, .store 1 (.t 23) (.t 20), none⟩,
      ⟨(some 4), .mov (.t 21), none⟩])
    (.seq (.rg [⟨(some 24), .mov (.t 4), none⟩,
      ⟨(some 25), .eqn true .iface (.t 24), none⟩])
    (.cond (.t 25) (.seq (.rg [⟨(some 26), .mov (.t 4), none⟩,
        ⟨(some 4), .mov (.t 26), none⟩])
      .ret)
      .skip)))
    (.seq (.seq (.rg [⟨(some 28), .mov (.t 0), none⟩,
      ⟨(some 29), .mov (.t 1), none⟩,
      ⟨(some 30), .callr 59 [(.t 29)], none⟩,
      ⟨(some 27), .mov (.t 30), none⟩,
      ⟨(some 31), .ext (.t 27) 0, none⟩,
      ⟨(some 32), .ext (.t 27) 1, none⟩,
      ⟨(some 33), .nilchk .ptr (.t 28), none⟩,
      ⟨(some 34), .faddr false 3 1 (.t 33), none⟩,
      ⟨none, .store 1 (.t 34) (.t 31), none⟩,
      ⟨(some 4), .mov (.t 32), none⟩])
    (.seq (.rg [⟨(some 35), .mov (.t 4), none⟩,
      ⟨(some 36), .eqn true .iface (.t 35), none⟩])
    (.cond (.t 36) (.seq (.rg [⟨(some 37), .mov (.t 4), none⟩,
        ⟨(some 4), .mov (.t 37), none⟩])
      .ret)
      .skip)))
    (.seq (.rgd [⟨⟨(some 38), .mov (.t 0), none⟩, 0, [0]⟩,
      ⟨⟨(some 39), .mov (.t 0), none⟩, 0, [0]⟩,
      ⟨⟨(some 40), .nilchk .ptr (.t 39), none⟩, 0, [0]⟩,
      ⟨⟨(some 41), .faddr false 3 1 (.t 40), none⟩, 0, [0]⟩,
      ⟨⟨(some 42), .load false 1 (.t 41), none⟩, 0, [0]⟩,
      ⟨⟨(some 43), .mov (.t 0), none⟩, 0, [0]⟩,
      ⟨⟨(some 44), .nilchk .ptr (.t 43), none⟩, 0, [0]⟩,
      ⟨⟨(some 45), .faddr false 1 1 (.t 44), none⟩, 0, [0]⟩,
      ⟨⟨(some 46), .load false 1 (.t 45), none⟩, 0, [0]⟩,
      ⟨⟨(some 47), .bin .add (.t 46) (.c (.p (.string ⟨#[58]⟩))), none⟩, 0, [0]⟩,
      ⟨⟨(some 48), .call 61 [(.t 42), (.t 47)], none⟩, 0, []⟩,
      ⟨⟨(some 49), .call 60 [(.t 48)], none⟩, 1, []⟩,
      ⟨⟨(some 50), .nilchk .ptr (.t 38), none⟩, 2, [2]⟩,
      ⟨⟨(some 51), .faddr false 3 1 (.t 50), none⟩, 2, [2]⟩,
      ⟨⟨none, .store 1 (.t 51) (.t 49), none⟩, 2, []⟩])
    (.seq (.seq (.rg [⟨(some 53), .mov (.t 0), none⟩,
      ⟨(some 54), .mov (.t 1), none⟩,
      ⟨(some 55), .callr 59 [(.t 54)], none⟩,
      ⟨(some 52), .mov (.t 55), none⟩,
      ⟨(some 56), .ext (.t 52) 0, none⟩,
      ⟨(some 57), .ext (.t 52) 1, none⟩,
      ⟨(some 58), .nilchk .ptr (.t 53), none⟩,
      ⟨(some 59), .faddr false 4 1 (.t 58), none⟩,
      ⟨none, .store 1 (.t 59) (.t 56), none⟩,
      ⟨(some 4), .mov (.t 57), none⟩])
    (.seq (.rg [⟨(some 60), .mov (.t 4), none⟩,
      ⟨(some 61), .eqn true .iface (.t 60), none⟩])
    (.cond (.t 61) (.seq (.rg [⟨(some 62), .mov (.t 4), none⟩,
        ⟨(some 4), .mov (.t 62), none⟩])
      .ret)
      .skip)))
    (.seq (.seq (.rg [⟨(some 64), .mov (.t 0), none⟩,
      ⟨(some 65), .mov (.t 1), none⟩,
      ⟨(some 66), .callr 62 [(.t 65)], none⟩,
      ⟨(some 63), .mov (.t 66), none⟩,
      ⟨(some 67), .ext (.t 63) 0, none⟩,
      ⟨(some 68), .ext (.t 63) 1, none⟩,
      ⟨(some 69), .nilchk .ptr (.t 64), none⟩,
      ⟨(some 70), .faddr false 6 1 (.t 69), none⟩,
      ⟨none, .store 1 (.t 70) (.t 67), none⟩,
      ⟨(some 4), .mov (.t 68), none⟩])
    (.seq (.rg [⟨(some 71), .mov (.t 4), none⟩,
      ⟨(some 72), .eqn true .iface (.t 71), none⟩])
    (.cond (.t 72) (.seq (.rg [⟨(some 73), .mov (.t 4), none⟩,
        ⟨(some 4), .mov (.t 73), none⟩])
      .ret)
      .skip)))
    (.seq (.rg [⟨(some 4), .mov (.c (.p .nilIface)), none⟩])
    .ret))))))))
def r45 : List DR := [.tmp 4]
theorem c45_ok : Tryd.f45.body.bind (cCode Tryd.prog) = some c45 := by kernel_rfl
theorem r45_ok : cRes Tryd.prog Tryd.f45.results.toList = some r45 := by kernel_rfl

/-- (*given.example/pub-assaymark/pub/clickhousego/lib/proto.Exception).Error -/
def c46 : DC :=
  (.seq (.rg [⟨(some 2), .mov (.c (.p (.string ⟨#[]⟩))), none⟩])
    (.seq (.rgd [⟨⟨(some 3), .mov (.t 0), none⟩, 0, [0]⟩,
      ⟨⟨(some 4), .nilchk .ptr (.t 3), none⟩, 0, [0]⟩,
      ⟨⟨(some 5), .faddr false 0 1 (.t 4), none⟩, 0, [0]⟩,
      ⟨⟨(some 6), .load false 1 (.t 5), none⟩, 0, [0]⟩,
      ⟨⟨(some 7), .cint .i64 (.t 6), none⟩, 0, [0]⟩,
      ⟨⟨(some 8), .call 63 [(.t 7)], none⟩, 0, [0]⟩,
      ⟨⟨(some 9), .bin .add (.c (.p (.string ⟨#[99, 111, 100, 101, 58, 32]⟩))) (.t 8), none⟩, 1, [0]⟩,
      ⟨⟨(some 10), .bin .add (.t 9) (.c (.p (.string ⟨#[44, 32, 109, 101, 115, 115, 97, 103, 101, 58, 32]⟩))), none⟩, 1, [0]⟩,
      ⟨⟨(some 11), .mov (.t 0), none⟩, 0, [0]⟩,
      ⟨⟨(some 12), .nilchk .ptr (.t 11), none⟩, 0, [0]⟩,
      ⟨⟨(some 13), .faddr false 3 1 (.t 12), none⟩, 0, [0]⟩,
      ⟨⟨(some 14), .load false 1 (.t 13), none⟩, 0, [0]⟩,
      ⟨⟨(some 15), .bin .add (.t 10) (.t 14), none⟩, 1, []⟩,
      ⟨⟨(some 2), .mov (.t 15), none⟩, 1, []⟩])
    .ret))
def r46 : List DR := [.tmp 2]
theorem c46_ok : Tryd.f46.body.bind (cCode Tryd.prog) = some c46 := by kernel_rfl
theorem r46_ok : cRes Tryd.prog Tryd.f46.results.toList = some r46 := by kernel_rfl

/-- given.example/pub-assaymark/pub/lightstrconv.FormatUint -/
def c57 : DC :=
  (.seq (.rg [⟨(some 4), .mov (.c (.p (.string ⟨#[]⟩))), none⟩])
    (.seq (.seq (.rg [⟨(some 7), .mov (.t 1), none⟩,
      ⟨(some 8), .bin .lss (.t 7) (.c (.p (.int .i64 2))), none⟩,
      ⟨(some 9), .mov (.t 8), none⟩,
      ⟨(some 10), .mov (.t 1), (some (9, false))⟩,
      ⟨(some 11), .bin .gtr (.t 10) (.c (.p (.int .i64 36))), (some (9, false))⟩,
      ⟨(some 12), .pick (.t 9) (.c (.p (.bool true))) (.t 11), none⟩])
    (.cond (.t 12) (.rg [⟨(some 13), .ifc 9 (.c (.p (.string ⟨#[115, 116, 114, 99, 111, 110, 118, 58, 32, 105, 108, 108, 101, 103, 97, 108, 32, 65, 112, 112, 101, 110, 100, 73, 110, 116, 47, 70, 111, 114, 109, 97, 116, 73, 110, 116, 32, 98, 97, 115, 101]⟩))), none⟩,
        ⟨none, .stop, none⟩])
      .skip))
    (.seq (.rg [⟨(some 5), .alloc 64 (.agg [.p (.int .u8 0), .p (.int .u8 0), .p (.int .u8 0), .p (.int .u8 0), .p (.int .u8 0), .p (.int .u8 0), .p (.int .u8 0), .p (.int .u8 0), .p (.int .u8 0), .p (.int .u8 0), .p (.int .u8 0), .p (.int .u8 0), .p (.int .u8 0), .p (.int .u8 0), .p (.int .u8 0), .p (.int .u8 0), .p (.int .u8 0), .p (.int .u8 0), .p (.int .u8 0), .p (.int .u8 0), .p (.int .u8 0), .p (.int .u8 0), .p (.int .u8 0), .p (.int .u8 0), .p (.int .u8 0), .p (.int .u8 0), .p (.int .u8 0), .p (.int .u8 0), .p (.int .u8 0), .p (.int .u8 0), .p (.int .u8 0), .p (.int .u8 0), .p (.int .u8 0), .p (.int .u8 0), .p (.int .u8 0), .p (.int .u8 0), .p (.int .u8 0), .p (.int .u8 0), .p (.int .u8 0), .p (.int .u8 0), .p (.int .u8 0), .p (.int .u8 0), .p (.int .u8 0), .p (.int .u8 0), .p (.int .u8 0), .p (.int .u8 0), .p (.int .u8 0), .p (.int .u8 0), .p (.int .u8 0), .p (.int .u8 0), .p (.int .u8 0), .p (.int .u8 0), .p (.int .u8 0), .p (.int .u8 0), .p (.int .u8 0), .p (.int .u8 0), .p (.int .u8 0), .p (.int .u8 0), .p (.int .u8 0), .p (.int .u8 0), .p (.int .u8 0), .p (.int .u8 0), .p (.int .u8 0), .p (.int .u8 0)]), none⟩])
    (.seq (.rg [⟨(some 6), .mov (.c (.p (.int .i64 64))), none⟩])
    (.seq (.block 0 (.loop (.seq (.seq (.rg [⟨(some 14), .mov (.t 6), none⟩,
        ⟨(some 15), .bin .eql (.t 14) (.c (.p (.int .i64 64))), none⟩,
        ⟨(some 16), .mov (.t 15), none⟩,
        ⟨(some 17), .mov (.t 0), (some (16, false))⟩,
        ⟨(some 18), .bin .gtr (.t 17) (.c (.p (.int .u64 0))), (some (16, false))⟩,
        ⟨(some 19), .pick (.t 16) (.c (.p (.bool true))) (.t 18), none⟩])
      (.cond (.t 19) .skip
        (.exit 0)))
      (.block 1 (.seq (.rg [⟨(some 20), .mov (.t 6), none⟩,
         ⟨(some 21), .bin .sub (.t 20) (.c (.p (.int .i64 1))), none⟩,
         ⟨(some 6), .mov (.t 21), none⟩])
       (.seq (.rg [⟨(some 22), .mov (.t 6), none⟩,
         ⟨(some 23), .mov (.t 0), none⟩,
         ⟨(some 24), .mov (.t 1), none⟩,
         ⟨(some 25), .cint .u64 (.t 24), none⟩,
         ⟨(some 26), .bin .rem (.t 23) (.t 25), none⟩,
         ⟨(some 27), .idxs (.c (.p (.string ⟨#[48, 49, 50, 51, 52, 53, 54, 55, 56, 57, 97, 98, 99, 100, 101, 102, 103, 104, 105, 106, 107, 108, 109, 110, 111, 112, 113, 114, 115, 116, 117, 118, 119, 120, 121, 122]⟩))) (.t 26), none⟩,
         ⟨(some 28), .iaddra 64 1 false (.t 5) (.t 22), none⟩,
         ⟨none, .store 1 (.t 28) (.t 27), none⟩])
       (.rg [⟨(some 29), .mov (.t 0), none⟩,
         ⟨(some 30), .mov (.t 1), none⟩,
         ⟨(some 31), .cint .u64 (.t 30), none⟩,
         ⟨(some 32), .bin .quo (.t 29) (.t 31), none⟩,
         ⟨(some 0), .mov (.t 32), none⟩])))))))
    (.seq (.rg [⟨(some 33), .mov (.t 6), none⟩,
      ⟨(some 34), .slca 64 1 false (.t 5) (some (.t 33)) none, none⟩,
      ⟨(some 35), .b2s (.t 34), none⟩,
      ⟨(some 4), .mov (.t 35), none⟩])
    .ret))))))
def r57 : List DR := [.tmp 4]
theorem c57_ok : Tryd.f57.body.bind (cCode Tryd.prog) = some c57 := by kernel_rfl
theorem r57_ok : cRes Tryd.prog Tryd.f57.results.toList = some r57 := by kernel_rfl

/-- (*given.example/pub-assaymark/pub/chgo/proto.Reader).Int32 -/
def c58 : DC :=
  (.seq (.rg [⟨(some 2), .mov (.c (.p (.int .i32 0))), none⟩,
      ⟨(some 3), .mov (.c (.p .nilIface)), none⟩])
    (.seq (.rg [⟨(some 7), .mov (.t 0), none⟩,
      ⟨(some 8), .callr 81 [(.t 7)], none⟩,
      ⟨(some 6), .mov (.t 8), none⟩,
      ⟨(some 9), .ext (.t 6) 0, none⟩,
      ⟨(some 10), .ext (.t 6) 1, none⟩,
      ⟨(some 4), .mov (.t 9), none⟩,
      ⟨(some 5), .mov (.t 10), none⟩])
    (.seq (.seq (.rg [⟨(some 11), .mov (.t 5), none⟩,
      ⟨(some 12), .eqn true .iface (.t 11), none⟩])
    (.cond (.t 12) (.seq (.rg [⟨(some 13), .mov (.t 5), none⟩,
        ⟨(some 2), .mov (.c (.p (.int .i32 0))), none⟩,
        ⟨(some 3), .mov (.t 13), none⟩])
      .ret)
      .skip))
    (.seq (.rg [⟨(some 14), .mov (.t 4), none⟩,
      ⟨(some 15), .cint .i32 (.t 14), none⟩,
      ⟨(some 2), .mov (.t 15), none⟩,
      ⟨(some 3), .mov (.c (.p .nilIface)), none⟩])
    .ret))))
def r58 : List DR := [.tmp 2, .tmp 3]
theorem c58_ok : Tryd.f58.body.bind (cCode Tryd.prog) = some c58 := by kernel_rfl
theorem r58_ok : cRes Tryd.prog Tryd.f58.results.toList = some r58 := by kernel_rfl

/-- (*given.example/pub-assaymark/pub/chgo/proto.Reader).Str -/
def c59 : DfC :=
  ⟨(.rg [⟨(some 2), .mov (.c (.p (.string ⟨#[]⟩))), none⟩,
      ⟨(some 3), .mov (.c (.p .nilIface)), none⟩]),
    [⟨(some 6), .mov (.t 0), none⟩, ⟨(some 7), .nilchk .ptr (.t 6), none⟩, ⟨(some 8), .faddr false 1 1 (.t 7), none⟩, ⟨(some 9), .load false 1 (.t 8), none⟩],
    none, 82, [(.t 9)],
    (.seq (.rg [⟨(some 11), .mov (.t 0), none⟩,
      ⟨(some 12), .callr 83 [(.t 11)], none⟩,
      ⟨(some 10), .mov (.t 12), none⟩,
      ⟨(some 13), .ext (.t 10) 0, none⟩,
      ⟨(some 14), .ext (.t 10) 1, none⟩,
      ⟨(some 4), .mov (.t 13), none⟩,
      ⟨(some 5), .mov (.t 14), none⟩])
    (.seq (.seq (.rg [⟨(some 15), .mov (.t 5), none⟩,
      ⟨(some 16), .eqn true .iface (.t 15), none⟩])
    (.cond (.t 16) (.seq (.rg [⟨(some 17), .mov (.t 5), none⟩,
        ⟨(some 18), .callr 84 [(.t 17), (.c (.p (.string ⟨#[114, 97, 119]⟩)))], none⟩,
        ⟨(some 2), .mov (.c (.p (.string ⟨#[]⟩))), none⟩,
        ⟨(some 3), .mov (.t 18), none⟩])
      .ret)
      .skip))
    (.seq (.rg [⟨(some 19), .mov (.t 4), none⟩,
      ⟨(some 20), .b2s (.t 19), none⟩,
      ⟨(some 21), .mov (.t 5), none⟩,
      ⟨(some 2), .mov (.t 20), none⟩,
      ⟨(some 3), .mov (.t 21), none⟩])
    .ret)))⟩
def r59 : List DR := [.tmp 2, .tmp 3]
theorem c59_ok : Tryd.f59.body.bind (cDef Tryd.prog) = some c59 := by kernel_rfl
theorem r59_ok : cRes Tryd.prog Tryd.f59.results.toList = some r59 := by kernel_rfl

/-- given.example/pub-assaymark/pub/zztext.TrimSpace -/
def c60 : DC :=
  (.seq (.rg [⟨(some 2), .mov (.c (.p (.string ⟨#[]⟩))), none⟩])
    (.seq (.block 0 (.loop (.seq (.seq (.rg [⟨(some 7), .mov (.t 0), none⟩,
        ⟨(some 8), .lens (.t 7), none⟩,
        ⟨(some 9), .bin .gtr (.t 8) (.c (.p (.int .i64 0))), none⟩])
      (.cond (.t 9) .skip
        (.exit 0)))
      (.block 1 (.seq (.rg [⟨(some 11), .mov (.t 0), none⟩,
         ⟨(some 12), .callr 85 [(.t 11)], none⟩,
         ⟨(some 10), .mov (.t 12), none⟩,
         ⟨(some 13), .ext (.t 10) 0, none⟩,
         ⟨(some 14), .ext (.t 10) 1, none⟩,
         ⟨(some 3), .mov (.t 13), none⟩,
         ⟨(some 4), .mov (.t 14), none⟩])
       (.seq (.seq (.rg [⟨(some 15), .mov (.t 3), none⟩,
         ⟨(some 16), .callr 86 [(.t 15)], none⟩,
         ⟨(some 17), .un .not (.t 16), none⟩])
       (.cond (.t 17) (.exit 0)
         .skip))
       (.rg [⟨(some 18), .mov (.t 0), none⟩,
         ⟨(some 19), .mov (.t 4), none⟩,
         ⟨(some 20), .slcs (.t 18) (some (.t 19)) none, none⟩,
         ⟨(some 0), .mov (.t 20), none⟩])))))))
    (.seq (.block 2 (.loop (.seq (.seq (.rg [⟨(some 21), .mov (.t 0), none⟩,
        ⟨(some 22), .lens (.t 21), none⟩,
        ⟨(some 23), .bin .gtr (.t 22) (.c (.p (.int .i64 0))), none⟩])
      (.cond (.t 23) .skip
        (.exit 2)))
      (.block 3 (.seq (.rg [⟨(some 25), .mov (.t 0), none⟩,
         ⟨(some 26), .callr 87 [(.t 25)], none⟩,
         ⟨(some 24), .mov (.t 26), none⟩,
         ⟨(some 27), .ext (.t 24) 0, none⟩,
         ⟨(some 28), .ext (.t 24) 1, none⟩,
         ⟨(some 5), .mov (.t 27), none⟩,
         ⟨(some 6), .mov (.t 28), none⟩])
       (.seq (.seq (.rg [⟨(some 29), .mov (.t 5), none⟩,
         ⟨(some 30), .callr 86 [(.t 29)], none⟩,
         ⟨(some 31), .un .not (.t 30), none⟩])
       (.cond (.t 31) (.exit 2)
         .skip))
       (.rg [⟨(some 32), .mov (.t 0), none⟩,
         ⟨(some 33), .mov (.t 0), none⟩,
         ⟨(some 34), .lens (.t 33), none⟩,
         ⟨(some 35), .mov (.t 6), none⟩,
         ⟨(some 36), .bin .sub (.t 34) (.t 35), none⟩,
         ⟨(some 37), .slcs (.t 32) none (some (.t 36)), none⟩,
         ⟨(some 0), .mov (.t 37), none⟩])))))))
    (.seq (.rg [⟨(some 38), .mov (.t 0), none⟩,
      ⟨(some 2), .mov (.t 38), none⟩])
    .ret))))
def r60 : List DR := [.tmp 2]
theorem c60_ok : Tryd.f60.body.bind (cCode Tryd.prog) = some c60 := by kernel_rfl
theorem r60_ok : cRes Tryd.prog Tryd.f60.results.toList = some r60 := by kernel_rfl

/-- strings.TrimPrefix -/
def c61 : DC :=
  (.seq (.rg [⟨(some 4), .mov (.c (.p (.string ⟨#[]⟩))), none⟩])
    (.seq (.rg [⟨(some 5), .mov (.t 0), none⟩,
      ⟨(some 6), .mov (.t 1), none⟩,
      ⟨(some 7), .callr 88 [(.t 5), (.t 6)], none⟩,
      ⟨(some 4), .mov (.t 7), none⟩])
    .ret))
def r61 : List DR := [.tmp 4]
theorem c61_ok : Tryd.f61.body.bind (cCode Tryd.prog) = some c61 := by kernel_rfl
theorem r61_ok : cRes Tryd.prog Tryd.f61.results.toList = some r61 := by kernel_rfl

/-- (*given.example/pub-assaymark/pub/chgo/proto.Reader).Bool -/
def c62 : DC :=
  (.seq (.rg [⟨(some 2), .mov (.c (.p (.bool false))), none⟩,
      ⟨(some 3), .mov (.c (.p .nilIface)), none⟩])
    (.seq (.rg [⟨(some 7), .mov (.t 0), none⟩,
      ⟨(some 8), .callr 89 [(.t 7)], none⟩,
      ⟨(some 6), .mov (.t 8), none⟩,
      ⟨(some 9), .ext (.t 6) 0, none⟩,
      ⟨(some 10), .ext (.t 6) 1, none⟩,
      ⟨(some 4), .mov (.t 9), none⟩,
      ⟨(some 5), .mov (.t 10), none⟩])
    (.seq (.seq (.rg [⟨(some 11), .mov (.t 5), none⟩,
      ⟨(some 12), .eqn true .iface (.t 11), none⟩])
    (.cond (.t 12) (.seq (.rg [⟨(some 13), .mov (.t 5), none⟩,
        ⟨(some 14), .callr 84 [(.t 13), (.c (.p (.string ⟨#[117, 105, 110, 116, 56]⟩)))], none⟩,
        ⟨(some 2), .mov (.c (.p (.bool false))), none⟩,
        ⟨(some 3), .mov (.t 14), none⟩])
      .ret)
      .skip))
    (.seq (.rg [⟨(some 15), .mov (.t 4), none⟩])
    (.block 0 (.seq (.rg [⟨(some 21), .bin .eql (.t 15) (.c (.p (.int .u8 1))), none⟩,
       ⟨(some 20), .mov (.t 21), none⟩])
     (.cond (.t 20) (.seq (.rg [⟨(some 2), .mov (.c (.p (.bool true))), none⟩,
         ⟨(some 3), .mov (.c (.p .nilIface)), none⟩])
       .ret)
       (.seq (.rg [⟨(some 23), .bin .eql (.t 15) (.c (.p (.int .u8 0))), none⟩,
         ⟨(some 22), .mov (.t 23), none⟩])
       (.cond (.t 22) (.seq (.rg [⟨(some 2), .mov (.c (.p (.bool false))), none⟩,
           ⟨(some 3), .mov (.c (.p .nilIface)), none⟩])
         .ret)
         (.seq (.rg [⟨(some 16), .mov (.t 4), none⟩,
           ⟨(some 17), .ifc 5 (.t 16), none⟩,
           ⟨(some 18), .lit 1 [(.t 17)], none⟩,
           ⟨(some 19), .callr 90 [(.c (.p (.string ⟨#[117, 110, 101, 120, 112, 101, 99, 116, 101, 100, 32, 118, 97, 108, 117, 101, 32, 37, 100, 32, 102, 111, 114, 32, 98, 111, 111, 108, 101, 97, 110]⟩))), (.t 18)], none⟩,
           ⟨(some 2), .mov (.c (.p (.bool false))), none⟩,
           ⟨(some 3), .mov (.t 19), none⟩])
         .ret))))))))))
def r62 : List DR := [.tmp 2, .tmp 3]
theorem c62_ok : Tryd.f62.body.bind (cCode Tryd.prog) = some c62 := by kernel_rfl
theorem r62_ok : cRes Tryd.prog Tryd.f62.results.toList = some r62 := by kernel_rfl

/-- given.example/pub-assaymark/pub/lightstrconv.Itoa -/
def c63 : DC :=
  (.seq (.rg [⟨(some 2), .mov (.c (.p (.string ⟨#[]⟩))), none⟩])
    (.seq (.rg [⟨(some 3), .mov (.t 0), none⟩,
      ⟨(some 4), .callr 91 [(.t 3), (.c (.p (.int .i64 10)))], none⟩,
      ⟨(some 2), .mov (.t 4), none⟩])
    .ret))
def r63 : List DR := [.tmp 2]
theorem c63_ok : Tryd.f63.body.bind (cCode Tryd.prog) = some c63 := by kernel_rfl
theorem r63_ok : cRes Tryd.prog Tryd.f63.results.toList = some r63 := by kernel_rfl

/-- (*given.example/pub-assaymark/pub/chgo/proto.Reader).UInt32 -/
def c81 : DC :=
  (.seq (.rg [⟨(some 2), .mov (.c (.p (.int .u32 0))), none⟩,
      ⟨(some 3), .mov (.c (.p .nilIface)), none⟩])
    (.seq (.seq (.rg [⟨(some 5), .mov (.t 0), none⟩,
      ⟨(some 6), .callr 102 [(.t 5), (.c (.p (.int .i64 4)))], none⟩,
      ⟨(some 4), .mov (.t 6), none⟩])
    (.seq (.rg [⟨(some 7), .mov (.t 4), none⟩,
      ⟨(some 8), .eqn true .iface (.t 7), none⟩])
    (.cond (.t 8) (.seq (.rg [⟨(some 9), .mov (.t 4), none⟩,
        ⟨(some 10), .callr 84 [(.t 9), (.c (.p (.string ⟨#[114, 101, 97, 100]⟩)))], none⟩,
        ⟨(some 2), .mov (.c (.p (.int .u32 0))), none⟩,
        ⟨(some 3), .mov (.t 10), none⟩])
      .ret)
      .skip)))
    (.seq (.rgd [⟨⟨(some 11), .load true 0 (.g 1), none⟩, 0, [0]⟩,
      ⟨⟨(some 12), .mov (.t 0), none⟩, 0, [0]⟩,
      ⟨⟨(some 13), .nilchk .ptr (.t 12), none⟩, 0, [0]⟩,
      ⟨⟨(some 14), .faddr false 1 1 (.t 13), none⟩, 0, [0]⟩,
      ⟨⟨(some 15), .load false 1 (.t 14), none⟩, 0, [0]⟩,
      ⟨⟨(some 16), .nilchk .ptr (.t 15), none⟩, 0, [0]⟩,
      ⟨⟨(some 17), .faddr false 0 1 (.t 16), none⟩, 0, [0]⟩,
      ⟨⟨(some 18), .load false 1 (.t 17), none⟩, 0, [0]⟩,
      ⟨⟨(some 19), .call 103 [(.t 11), (.t 18)], none⟩, 0, []⟩,
      ⟨⟨(some 2), .mov (.t 19), none⟩, 1, []⟩,
      ⟨⟨(some 3), .mov (.c (.p .nilIface)), none⟩, 1, []⟩])
    .ret)))
def r81 : List DR := [.tmp 2, .tmp 3]
theorem c81_ok : Tryd.f81.body.bind (cCode Tryd.prog) = some c81 := by kernel_rfl
theorem r81_ok : cRes Tryd.prog Tryd.f81.results.toList = some r81 := by kernel_rfl

/-- (*given.example/pub-assaymark/pub/chgo/proto.Buffer).Reset -/
def c82 : DC :=
  (.rg [⟨(some 2), .mov (.t 0), none⟩,
      ⟨(some 3), .mov (.t 0), none⟩,
      ⟨(some 4), .nilchk .ptr (.t 3), none⟩,
      ⟨(some 5), .faddr false 0 1 (.t 4), none⟩,
      ⟨(some 6), .load false 1 (.t 5), none⟩,
      ⟨(some 7), .slcl 1 (.t 6) none (some (.c (.p (.int .i64 0)))), none⟩,
      ⟨(some 8), .nilchk .ptr (.t 2), none⟩,
      ⟨(some 9), .faddr false 0 1 (.t 8), none⟩,
      ⟨none, .store 1 (.t 9) (.t 7), none⟩])
def r82 : List DR := []
theorem c82_ok : Tryd.f82.body.bind (cCode Tryd.prog) = some c82 := by kernel_rfl
theorem r82_ok : cRes Tryd.prog Tryd.f82.results.toList = some r82 := by kernel_rfl

/-- (*given.example/pub-assaymark/pub/chgo/proto.Reader).StrRaw -/
def c83 : DC :=
  (.seq (.rg [⟨(some 2), .mov (.c (.p (.slice none 0 0))), none⟩,
      ⟨(some 3), .mov (.c (.p .nilIface)), none⟩])
    (.seq (.rg [⟨(some 8), .mov (.t 0), none⟩,
      ⟨(some 9), .callr 104 [(.t 8)], none⟩,
      ⟨(some 7), .mov (.t 9), none⟩,
      ⟨(some 10), .ext (.t 7) 0, none⟩,
      ⟨(some 11), .ext (.t 7) 1, none⟩,
      ⟨(some 4), .mov (.t 10), none⟩,
      ⟨(some 5), .mov (.t 11), none⟩])
    (.seq (.seq (.rg [⟨(some 12), .mov (.t 5), none⟩,
      ⟨(some 13), .eqn true .iface (.t 12), none⟩])
    (.cond (.t 13) (.seq (.rg [⟨(some 14), .mov (.t 5), none⟩,
        ⟨(some 15), .callr 84 [(.t 14), (.c (.p (.string ⟨#[114, 101, 97, 100, 32, 108, 101, 110, 103, 116, 104]⟩)))], none⟩,
        ⟨(some 2), .mov (.c (.p (.slice none 0 0))), none⟩,
        ⟨(some 3), .mov (.t 15), none⟩])
      .ret)
      .skip))
    (.seq (.seq (.rg [⟨(some 16), .mov (.t 0), none⟩,
      ⟨(some 17), .mov (.t 4), none⟩,
      ⟨(some 18), .callr 102 [(.t 16), (.t 17)], none⟩,
      ⟨(some 6), .mov (.t 18), none⟩])
    (.seq (.rg [⟨(some 19), .mov (.t 6), none⟩,
      ⟨(some 20), .eqn true .iface (.t 19), none⟩])
    (.cond (.t 20) (.seq (.rg [⟨(some 21), .mov (.t 6), none⟩,
        ⟨(some 22), .callr 84 [(.t 21), (.c (.p (.string ⟨#[114, 101, 97, 100, 32, 115, 116, 114]⟩)))], none⟩,
        ⟨(some 2), .mov (.c (.p (.slice none 0 0))), none⟩,
        ⟨(some 3), .mov (.t 22), none⟩])
      .ret)
      .skip)))
    (.seq (.rg [⟨(some 23), .mov (.t 0), none⟩,
      ⟨(some 24), .nilchk .ptr (.t 23), none⟩,
      ⟨(some 25), .faddr false 1 1 (.t 24), none⟩,
      ⟨(some 26), .load false 1 (.t 25), none⟩,
      ⟨(some 27), .nilchk .ptr (.t 26), none⟩,
      ⟨(some 28), .faddr false 0 1 (.t 27), none⟩,
      ⟨(some 29), .load false 1 (.t 28), none⟩,
      ⟨(some 2), .mov (.t 29), none⟩,
      ⟨(some 3), .mov (.c (.p .nilIface)), none⟩])
    .ret)))))
def r83 : List DR := [.tmp 2, .tmp 3]
theorem c83_ok : Tryd.f83.body.bind (cCode Tryd.prog) = some c83 := by kernel_rfl
theorem r83_ok : cRes Tryd.prog Tryd.f83.results.toList = some r83 := by kernel_rfl

/-- given.example/pub-assaymark/pub/chgo/errors.Wrap -/
def c84 : DC :=
  (.seq (.rg [⟨(some 4), .mov (.c (.p .nilIface)), none⟩])
    (.seq (.rg [⟨(some 5), .mov (.t 1), none⟩,
      ⟨(some 6), .mov (.t 0), none⟩,
      ⟨(some 7), .bld [.p (.string ⟨#[]⟩), .p .nilIface] [(0, 1, (.t 5)), (1, 1, (.t 6))], none⟩,
      ⟨(some 8), .box (.t 7), none⟩,
      ⟨(some 9), .ifc 170 (.t 8), none⟩,
      ⟨(some 4), .mov (.t 9), none⟩])
    .ret))
def r84 : List DR := [.tmp 4]
theorem c84_ok : Tryd.f84.body.bind (cCode Tryd.prog) = some c84 := by kernel_rfl
theorem r84_ok : cRes Tryd.prog Tryd.f84.results.toList = some r84 := by kernel_rfl

/-- unicode/utf8.DecodeRuneInString -/
def c85 : DC :=
  (.seq (.rg [⟨(some 2), .mov (.c (.p (.int .i32 0))), none⟩,
      ⟨(some 3), .mov (.c (.p (.int .i64 0))), none⟩])
    (.seq (.seq (.rg [⟨(some 4), .mov (.t 0), none⟩,
      ⟨(some 5), .bin .neq (.t 4) (.c (.p (.string ⟨#[]⟩))), none⟩,
      ⟨(some 6), .mov (.t 5), none⟩,
      ⟨(some 7), .mov (.t 0), (some (6, true))⟩,
      ⟨(some 8), .idxs (.t 7) (.c (.p (.int .i64 0))), (some (6, true))⟩,
      ⟨(some 9), .bin .lss (.t 8) (.c (.p (.int .u8 128))), (some (6, true))⟩,
      ⟨(some 10), .pick (.t 6) (.t 9) (.c (.p (.bool false))), none⟩])
    (.cond (.t 10) (.seq (.rg [⟨(some 11), .mov (.t 0), none⟩,
        ⟨(some 12), .idxs (.t 11) (.c (.p (.int .i64 0))), none⟩,
        ⟨(some 13), .cint .i32 (.t 12), none⟩,
        ⟨(some 2), .mov (.t 13), none⟩,
        ⟨(some 3), .mov (.c (.p (.int .i64 1))), none⟩])
      .ret)
      (.rg [⟨(some 15), .mov (.t 0), none⟩,
        ⟨(some 16), .callr 105 [(.t 15)], none⟩,
        ⟨(some 14), .mov (.t 16), none⟩,
        ⟨(some 17), .ext (.t 14) 0, none⟩,
        ⟨(some 18), .ext (.t 14) 1, none⟩,
        ⟨(some 2), .mov (.t 17), none⟩,
        ⟨(some 3), .mov (.t 18), none⟩])))
    .ret))
def r85 : List DR := [.tmp 2, .tmp 3]
theorem c85_ok : Tryd.f85.body.bind (cCode Tryd.prog) = some c85 := by kernel_rfl
theorem r85_ok : cRes Tryd.prog Tryd.f85.results.toList = some r85 := by kernel_rfl

/-- given.example/pub-assaymark/pub/zztext.space -/
def c86 : DC :=
  (.seq (.rg [⟨(some 2), .mov (.c (.p (.bool false))), none⟩])
    (.seq (.seq (.rg [⟨(some 3), .mov (.t 0), none⟩])
    (.block 0 (.seq (.seq (.rg [⟨(some 5), .bin .eql (.t 3) (.c (.p (.int .i32 9))), none⟩,
       ⟨(some 4), .mov (.t 5), none⟩])
     (.cond (.t 4) .skip
       (.seq (.rg [⟨(some 6), .bin .eql (.t 3) (.c (.p (.int .i32 10))), none⟩,
         ⟨(some 4), .mov (.t 6), none⟩])
       (.cond (.t 4) .skip
         (.seq (.rg [⟨(some 7), .bin .eql (.t 3) (.c (.p (.int .i32 11))), none⟩,
           ⟨(some 4), .mov (.t 7), none⟩])
         (.cond (.t 4) .skip
           (.seq (.rg [⟨(some 8), .bin .eql (.t 3) (.c (.p (.int .i32 12))), none⟩,
             ⟨(some 4), .mov (.t 8), none⟩])
           (.cond (.t 4) .skip
             (.seq (.rg [⟨(some 9), .bin .eql (.t 3) (.c (.p (.int .i32 13))), none⟩,
               ⟨(some 4), .mov (.t 9), none⟩])
             (.cond (.t 4) .skip
               (.seq (.rg [⟨(some 10), .bin .eql (.t 3) (.c (.p (.int .i32 32))), none⟩,
                 ⟨(some 4), .mov (.t 10), none⟩])
               (.cond (.t 4) .skip
                 (.seq (.rg [⟨(some 11), .bin .eql (.t 3) (.c (.p (.int .i32 133))), none⟩,
                   ⟨(some 4), .mov (.t 11), none⟩])
                 (.cond (.t 4) .skip
                   (.seq (.rg [⟨(some 12), .bin .eql (.t 3) (.c (.p (.int .i32 160))), none⟩,
                     ⟨(some 4), .mov (.t 12), none⟩])
                   (.cond (.t 4) .skip
                     (.seq (.rg [⟨(some 13), .bin .eql (.t 3) (.c (.p (.int .i32 5760))), none⟩,
                       ⟨(some 4), .mov (.t 13), none⟩])
                     (.cond (.t 4) .skip
                       (.seq (.rg [⟨(some 14), .bin .eql (.t 3) (.c (.p (.int .i32 8232))), none⟩,
                         ⟨(some 4), .mov (.t 14), none⟩])
                       (.cond (.t 4) .skip
                         (.seq (.rg [⟨(some 15), .bin .eql (.t 3) (.c (.p (.int .i32 8233))), none⟩,
                           ⟨(some 4), .mov (.t 15), none⟩])
                         (.cond (.t 4) .skip
                           (.seq (.rg [⟨(some 16), .bin .eql (.t 3) (.c (.p (.int .i32 8239))), none⟩,
                             ⟨(some 4), .mov (.t 16), none⟩])
                           (.cond (.t 4) .skip
                             (.seq (.rg [⟨(some 17), .bin .eql (.t 3) (.c (.p (.int .i32 8287))), none⟩,
                               ⟨(some 4), .mov (.t 17), none⟩])
                             (.cond (.t 4) .skip
                               (.rg [⟨(some 18), .bin .eql (.t 3) (.c (.p (.int .i32 12288))), none⟩,
                                 ⟨(some 4), .mov (.t 18), none⟩])))))))))))))))))))))))))))
     (.cond (.t 4) (.seq (.rg [⟨(some 2), .mov (.c (.p (.bool true))), none⟩])
       .ret)
       .skip))))
    (.seq (.rg [⟨(some 19), .mov (.t 0), none⟩,
      ⟨(some 20), .bin .geq (.t 19) (.c (.p (.int .i32 8192))), none⟩,
      ⟨(some 21), .mov (.t 20), none⟩,
      ⟨(some 22), .mov (.t 0), (some (21, true))⟩,
      ⟨(some 23), .bin .leq (.t 22) (.c (.p (.int .i32 8202))), (some (21, true))⟩,
      ⟨(some 24), .pick (.t 21) (.t 23) (.c (.p (.bool false))), none⟩,
      ⟨(some 2), .mov (.t 24), none⟩])
    .ret)))
def r86 : List DR := [.tmp 2]
theorem c86_ok : Tryd.f86.body.bind (cCode Tryd.prog) = some c86 := by kernel_rfl
theorem r86_ok : cRes Tryd.prog Tryd.f86.results.toList = some r86 := by kernel_rfl

/-- unicode/utf8.DecodeLastRuneInString -/
def c87 : DC :=
  (.seq (.rg [⟨(some 2), .mov (.c (.p (.int .i32 0))), none⟩,
      ⟨(some 3), .mov (.c (.p (.int .i64 0))), none⟩])
    (.seq (.rg [⟨(some 7), .mov (.t 0), none⟩,
      ⟨(some 8), .lens (.t 7), none⟩,
      ⟨(some 4), .mov (.t 8), none⟩])
    (.seq (.seq (.rg [⟨(some 9), .mov (.t 4), none⟩,
      ⟨(some 10), .bin .eql (.t 9) (.c (.p (.int .i64 0))), none⟩])
    (.cond (.t 10) (.seq (.rg [⟨(some 2), .mov (.c (.p (.int .i32 65533))), none⟩,
        ⟨(some 3), .mov (.c (.p (.int .i64 0))), none⟩])
      .ret)
      .skip))
    (.seq (.rg [⟨(some 11), .mov (.t 4), none⟩,
      ⟨(some 12), .bin .sub (.t 11) (.c (.p (.int .i64 1))), none⟩,
      ⟨(some 5), .mov (.t 12), none⟩])
    (.seq (.rg [⟨(some 13), .mov (.t 0), none⟩,
      ⟨(some 14), .mov (.t 5), none⟩,
      ⟨(some 15), .idxs (.t 13) (.t 14), none⟩,
      ⟨(some 16), .cint .i32 (.t 15), none⟩,
      ⟨(some 2), .mov (.t 16), none⟩])
    (.seq (.seq (.rg [⟨(some 17), .mov (.t 2), none⟩,
      ⟨(some 18), .bin .lss (.t 17) (.c (.p (.int .i32 128))), none⟩])
    (.cond (.t 18) (.seq (.rg [⟨(some 19), .mov (.t 2), none⟩,
        ⟨(some 2), .mov (.t 19), none⟩,
        ⟨(some 3), .mov (.c (.p (.int .i64 1))), none⟩])
      .ret)
      .skip))
    (.seq (.rg [⟨(some 20), .mov (.t 4), none⟩,
      ⟨(some 21), .bin .sub (.t 20) (.c (.p (.int .i64 4))), none⟩,
      ⟨(some 22), .mm true (.t 21) (.c (.p (.int .i64 0))), none⟩,
      ⟨(some 6), .mov (.t 22), none⟩])
    (.seq (.seq (.rg [⟨(some 23), .mov (.t 5), none⟩,
      ⟨(some 24), .bin .sub (.t 23) (.c (.p (.int .i64 1))), none⟩,
      ⟨(some 5), .mov (.t 24), none⟩])
    (.block 0 (.loop (.seq (.seq (.rg [⟨(some 25), .mov (.t 5), none⟩,
        ⟨(some 26), .mov (.t 6), none⟩,
        ⟨(some 27), .bin .geq (.t 25) (.t 26), none⟩])
      (.cond (.t 27) .skip
        (.exit 0)))
      (.seq (.block 1 (.seq (.rg [⟨(some 30), .mov (.t 0), none⟩,
         ⟨(some 31), .mov (.t 5), none⟩,
         ⟨(some 32), .idxs (.t 30) (.t 31), none⟩,
         ⟨(some 33), .callr 106 [(.t 32)], none⟩])
       (.cond (.t 33) (.exit 0)
         .skip)))
      (.rg [⟨(some 28), .mov (.t 5), none⟩,
        ⟨(some 29), .bin .sub (.t 28) (.c (.p (.int .i64 1))), none⟩,
        ⟨(some 5), .mov (.t 29), none⟩]))))))
    (.seq (.seq (.rg [⟨(some 34), .mov (.t 5), none⟩,
      ⟨(some 35), .bin .lss (.t 34) (.c (.p (.int .i64 0))), none⟩])
    (.cond (.t 35) (.rg [⟨(some 5), .mov (.c (.p (.int .i64 0))), none⟩])
      .skip))
    (.seq (.rg [⟨(some 37), .mov (.t 0), none⟩,
      ⟨(some 38), .mov (.t 5), none⟩,
      ⟨(some 39), .mov (.t 4), none⟩,
      ⟨(some 40), .slcs (.t 37) (some (.t 38)) (some (.t 39)), none⟩,
      ⟨(some 41), .callr 85 [(.t 40)], none⟩,
      ⟨(some 36), .mov (.t 41), none⟩,
      ⟨(some 42), .ext (.t 36) 0, none⟩,
      ⟨(some 43), .ext (.t 36) 1, none⟩,
      ⟨(some 2), .mov (.t 42), none⟩,
      ⟨(some 3), .mov (.t 43), none⟩])
    (.seq (.seq (.rg [⟨(some 44), .mov (.t 5), none⟩,
      ⟨(some 45), .mov (.t 3), none⟩,
      ⟨(some 46), .bin .add (.t 44) (.t 45), none⟩,
      ⟨(some 47), .mov (.t 4), none⟩,
      ⟨(some 48), .bin .neq (.t 46) (.t 47), none⟩])
    (.cond (.t 48) (.seq (.rg [⟨(some 2), .mov (.c (.p (.int .i32 65533))), none⟩,
        ⟨(some 3), .mov (.c (.p (.int .i64 1))), none⟩])
      .ret)
      .skip))
    (.seq (.rg [⟨(some 49), .mov (.t 2), none⟩,
      ⟨(some 50), .mov (.t 3), none⟩,
      ⟨(some 2), .mov (.t 49), none⟩,
      ⟨(some 3), .mov (.t 50), none⟩])
    .ret))))))))))))
def r87 : List DR := [.tmp 2, .tmp 3]
theorem c87_ok : Tryd.f87.body.bind (cCode Tryd.prog) = some c87 := by kernel_rfl
theorem r87_ok : cRes Tryd.prog Tryd.f87.results.toList = some r87 := by kernel_rfl

/-- internal/stringslite.TrimPrefix -/
def c88 : DC :=
  (.seq (.rg [⟨(some 4), .mov (.c (.p (.string ⟨#[]⟩))), none⟩])
    (.seq (.seq (.rg [⟨(some 5), .mov (.t 0), none⟩,
      ⟨(some 6), .mov (.t 1), none⟩,
      ⟨(some 7), .callr 107 [(.t 5), (.t 6)], none⟩])
    (.cond (.t 7) (.seq (.rg [⟨(some 8), .mov (.t 0), none⟩,
        ⟨(some 9), .mov (.t 1), none⟩,
        ⟨(some 10), .lens (.t 9), none⟩,
        ⟨(some 11), .slcs (.t 8) (some (.t 10)) none, none⟩,
        ⟨(some 4), .mov (.t 11), none⟩])
      .ret)
      .skip))
    (.seq (.rg [⟨(some 12), .mov (.t 0), none⟩,
      ⟨(some 4), .mov (.t 12), none⟩])
    .ret)))
def r88 : List DR := [.tmp 4]
theorem c88_ok : Tryd.f88.body.bind (cCode Tryd.prog) = some c88 := by kernel_rfl
theorem r88_ok : cRes Tryd.prog Tryd.f88.results.toList = some r88 := by kernel_rfl

/-- (*given.example/pub-assaymark/pub/chgo/proto.Reader).UInt8 -/
def c89 : DC :=
  (.seq (.rg [⟨(some 2), .mov (.c (.p (.int .u8 0))), none⟩,
      ⟨(some 3), .mov (.c (.p .nilIface)), none⟩])
    (.seq (.seq (.rg [⟨(some 5), .mov (.t 0), none⟩,
      ⟨(some 6), .callr 102 [(.t 5), (.c (.p (.int .i64 1)))], none⟩,
      ⟨(some 4), .mov (.t 6), none⟩])
    (.seq (.rg [⟨(some 7), .mov (.t 4), none⟩,
      ⟨(some 8), .eqn true .iface (.t 7), none⟩])
    (.cond (.t 8) (.seq (.rg [⟨(some 9), .mov (.t 4), none⟩,
        ⟨(some 10), .callr 84 [(.t 9), (.c (.p (.string ⟨#[114, 101, 97, 100]⟩)))], none⟩,
        ⟨(some 2), .mov (.c (.p (.int .u8 0))), none⟩,
        ⟨(some 3), .mov (.t 10), none⟩])
      .ret)
      .skip)))
    (.seq (.rg [⟨(some 11), .mov (.t 0), none⟩,
      ⟨(some 12), .nilchk .ptr (.t 11), none⟩,
      ⟨(some 13), .faddr false 1 1 (.t 12), none⟩,
      ⟨(some 14), .load false 1 (.t 13), none⟩,
      ⟨(some 15), .nilchk .ptr (.t 14), none⟩,
      ⟨(some 16), .faddr false 0 1 (.t 15), none⟩,
      ⟨(some 17), .load false 1 (.t 16), none⟩,
      ⟨(some 18), .iaddr 1 (.t 17) (.c (.p (.int .i64 0))), none⟩,
      ⟨(some 19), .load false 1 (.t 18), none⟩,
      ⟨(some 2), .mov (.t 19), none⟩,
      ⟨(some 3), .mov (.c (.p .nilIface)), none⟩])
    .ret)))
def r89 : List DR := [.tmp 2, .tmp 3]
theorem c89_ok : Tryd.f89.body.bind (cCode Tryd.prog) = some c89 := by kernel_rfl
theorem r89_ok : cRes Tryd.prog Tryd.f89.results.toList = some r89 := by kernel_rfl

/-- given.example/pub-assaymark/pub/chgo/errors.Errorf -/
def c90 : DC :=
  (.seq (.rg [⟨(some 4), .mov (.c (.p .nilIface)), none⟩])
    (.seq (.rg [⟨(some 5), .mov (.t 0), none⟩,
      ⟨(some 6), .callr 108 [(.t 5)], none⟩,
      ⟨(some 4), .mov (.t 6), none⟩])
    .ret))
def r90 : List DR := [.tmp 4]
theorem c90_ok : Tryd.f90.body.bind (cCode Tryd.prog) = some c90 := by kernel_rfl
theorem r90_ok : cRes Tryd.prog Tryd.f90.results.toList = some r90 := by kernel_rfl

/-- given.example/pub-assaymark/pub/lightstrconv.FormatInt -/
def c91 : DC :=
  (.seq (.rg [⟨(some 4), .mov (.c (.p (.string ⟨#[]⟩))), none⟩])
    (.seq (.seq (.rg [⟨(some 5), .mov (.t 0), none⟩,
      ⟨(some 6), .bin .lss (.t 5) (.c (.p (.int .i64 0))), none⟩])
    (.cond (.t 6) (.seq (.rg [⟨(some 7), .mov (.t 0), none⟩,
        ⟨(some 8), .cint .u64 (.t 7), none⟩,
        ⟨(some 9), .un .neg (.t 8), none⟩,
        ⟨(some 10), .mov (.t 1), none⟩,
        ⟨(some 11), .callr 57 [(.t 9), (.t 10)], none⟩,
        ⟨(some 12), .bin .add (.c (.p (.string ⟨#[45]⟩))) (.t 11), none⟩,
        ⟨(some 4), .mov (.t 12), none⟩])
      .ret)
      .skip))
    (.seq (.rg [⟨(some 13), .mov (.t 0), none⟩,
      ⟨(some 14), .cint .u64 (.t 13), none⟩,
      ⟨(some 15), .mov (.t 1), none⟩,
      ⟨(some 16), .callr 57 [(.t 14), (.t 15)], none⟩,
      ⟨(some 4), .mov (.t 16), none⟩])
    .ret)))
def r91 : List DR := [.tmp 4]
theorem c91_ok : Tryd.f91.body.bind (cCode Tryd.prog) = some c91 := by kernel_rfl
theorem r91_ok : cRes Tryd.prog Tryd.f91.results.toList = some r91 := by kernel_rfl

/-- (*given.example/pub-assaymark/pub/chgo/proto.Reader).readFull -/
def c102 : DC :=
  (.seq (.rg [⟨(some 4), .mov (.c (.p .nilIface)), none⟩])
    (.seq (.seq (.rg [⟨(some 5), .mov (.t 0), none⟩,
      ⟨(some 6), .nilchk .ptr (.t 5), none⟩,
      ⟨(some 7), .faddr false 0 1 (.t 6), none⟩,
      ⟨(some 8), .load false 1 (.t 7), none⟩,
      ⟨(some 9), .lenl (.t 8), none⟩,
      ⟨(some 10), .mov (.t 1), none⟩,
      ⟨(some 11), .bin .lss (.t 9) (.t 10), none⟩])
    (.cond (.t 11) (.seq (.rg [⟨(some 12), .mov (.t 0), none⟩,
        ⟨(some 13), .callr 114 [(.t 12)], none⟩,
        ⟨(some 14), .callr 84 [(.t 13), (.c (.p (.string ⟨#[114, 101, 97, 100]⟩)))], none⟩,
        ⟨(some 4), .mov (.t 14), none⟩])
      .ret)
      .skip))
    (.seq (.rg [⟨(some 15), .mov (.t 0), none⟩,
      ⟨(some 16), .nilchk .ptr (.t 15), none⟩,
      ⟨(some 17), .faddr false 1 1 (.t 16), none⟩,
      ⟨(some 18), .load false 1 (.t 17), none⟩,
      ⟨(some 19), .mov (.t 1), none⟩,
      ⟨(some 20), .callr 115 [(.t 18), (.t 19)], none⟩])
    (.seq (.rg [⟨(some 21), .mov (.t 0), none⟩,
      ⟨(some 22), .mov (.t 0), none⟩,
      ⟨(some 23), .nilchk .ptr (.t 22), none⟩,
      ⟨(some 24), .faddr false 1 1 (.t 23), none⟩,
      ⟨(some 25), .load false 1 (.t 24), none⟩,
      ⟨(some 26), .nilchk .ptr (.t 25), none⟩,
      ⟨(some 27), .faddr false 0 1 (.t 26), none⟩,
      ⟨(some 28), .load false 1 (.t 27), none⟩,
      ⟨(some 29), .callr 116 [(.t 21), (.t 28)], none⟩,
      ⟨(some 4), .mov (.t 29), none⟩])
    .ret))))
def r102 : List DR := [.tmp 4]
theorem c102_ok : Tryd.f102.body.bind (cCode Tryd.prog) = some c102 := by kernel_rfl
theorem r102_ok : cRes Tryd.prog Tryd.f102.results.toList = some r102 := by kernel_rfl

/-- (encoding/binary.littleEndian).Uint32 -/
def c103 : DC :=
  (.seq (.rg [⟨(some 2), .box (.t 0), none⟩,
      ⟨(some 4), .mov (.c (.p (.int .u32 0))), none⟩])
    (.seq (.rg [⟨(some 5), .mov (.t 1), none⟩,
      ⟨(some 6), .iaddr 1 (.t 5) (.c (.p (.int .i64 3))), none⟩,
      ⟨(some 7), .load false 1 (.t 6), none⟩])
    (.seq (.rgd [⟨⟨(some 8), .mov (.t 1), none⟩, 0, [0]⟩,
      ⟨⟨(some 9), .iaddr 1 (.t 8) (.c (.p (.int .i64 0))), none⟩, 0, [0]⟩,
      ⟨⟨(some 10), .load false 1 (.t 9), none⟩, 0, [0]⟩,
      ⟨⟨(some 11), .cint .u32 (.t 10), none⟩, 0, [0]⟩,
      ⟨⟨(some 12), .mov (.t 1), none⟩, 0, [0]⟩,
      ⟨⟨(some 13), .iaddr 1 (.t 12) (.c (.p (.int .i64 1))), none⟩, 0, [0]⟩,
      ⟨⟨(some 14), .load false 1 (.t 13), none⟩, 0, [0]⟩,
      ⟨⟨(some 15), .cint .u32 (.t 14), none⟩, 0, [0]⟩,
      ⟨⟨(some 16), .bin .shl (.t 15) (.c (.p (.int .u64 8))), none⟩, 0, [0]⟩,
      ⟨⟨(some 17), .bin .or (.t 11) (.t 16), none⟩, 0, [0]⟩,
      ⟨⟨(some 18), .mov (.t 1), none⟩, 0, [0]⟩,
      ⟨⟨(some 19), .iaddr 1 (.t 18) (.c (.p (.int .i64 2))), none⟩, 0, [0]⟩,
      ⟨⟨(some 20), .load false 1 (.t 19), none⟩, 0, [0]⟩,
      ⟨⟨(some 21), .cint .u32 (.t 20), none⟩, 0, [0]⟩,
      ⟨⟨(some 22), .bin .shl (.t 21) (.c (.p (.int .u64 16))), none⟩, 0, [0]⟩,
      ⟨⟨(some 23), .bin .or (.t 17) (.t 22), none⟩, 0, [0]⟩,
      ⟨⟨(some 24), .mov (.t 1), none⟩, 0, [0]⟩,
      ⟨⟨(some 25), .iaddr 1 (.t 24) (.c (.p (.int .i64 3))), none⟩, 0, [0]⟩,
      ⟨⟨(some 26), .load false 1 (.t 25), none⟩, 0, [0]⟩,
      ⟨⟨(some 27), .cint .u32 (.t 26), none⟩, 0, [0]⟩,
      ⟨⟨(some 28), .bin .shl (.t 27) (.c (.p (.int .u64 24))), none⟩, 0, [0]⟩,
      ⟨⟨(some 29), .bin .or (.t 23) (.t 28), none⟩, 0, []⟩,
      ⟨⟨(some 4), .mov (.t 29), none⟩, 0, []⟩])
    .ret)))
def r103 : List DR := [.tmp 4]
theorem c103_ok : Tryd.f103.body.bind (cCode Tryd.prog) = some c103 := by kernel_rfl
theorem r103_ok : cRes Tryd.prog Tryd.f103.results.toList = some r103 := by kernel_rfl

/-- (*given.example/pub-assaymark/pub/chgo/proto.Reader).StrLen -/
def c104 : DC :=
  (.seq (.rg [⟨(some 2), .mov (.c (.p (.int .i64 0))), none⟩,
      ⟨(some 3), .mov (.c (.p .nilIface)), none⟩])
    (.seq (.rg [⟨(some 7), .mov (.t 0), none⟩,
      ⟨(some 8), .callr 117 [(.t 7)], none⟩,
      ⟨(some 6), .mov (.t 8), none⟩,
      ⟨(some 9), .ext (.t 6) 0, none⟩,
      ⟨(some 10), .ext (.t 6) 1, none⟩,
      ⟨(some 4), .mov (.t 9), none⟩,
      ⟨(some 5), .mov (.t 10), none⟩])
    (.seq (.seq (.rg [⟨(some 11), .mov (.t 5), none⟩,
      ⟨(some 12), .eqn true .iface (.t 11), none⟩])
    (.cond (.t 12) (.seq (.rg [⟨(some 13), .mov (.t 5), none⟩,
        ⟨(some 14), .callr 84 [(.t 13), (.c (.p (.string ⟨#[114, 101, 97, 100, 32, 108, 101, 110, 103, 116, 104]⟩)))], none⟩,
        ⟨(some 2), .mov (.c (.p (.int .i64 0))), none⟩,
        ⟨(some 3), .mov (.t 14), none⟩])
      .ret)
      .skip))
    (.seq (.seq (.rg [⟨(some 15), .mov (.t 4), none⟩,
      ⟨(some 16), .bin .lss (.t 15) (.c (.p (.int .i64 0))), none⟩])
    (.cond (.t 16) (.seq (.rg [⟨(some 17), .mov (.t 4), none⟩,
        ⟨(some 18), .ifc 3 (.t 17), none⟩,
        ⟨(some 19), .lit 1 [(.t 18)], none⟩,
        ⟨(some 20), .callr 90 [(.c (.p (.string ⟨#[115, 105, 122, 101, 32, 37, 100, 32, 105, 115, 32, 105, 110, 118, 97, 108, 105, 100]⟩))), (.t 19)], none⟩,
        ⟨(some 2), .mov (.c (.p (.int .i64 0))), none⟩,
        ⟨(some 3), .mov (.t 20), none⟩])
      .ret)
      .skip))
    (.seq (.rg [⟨(some 21), .mov (.t 4), none⟩,
      ⟨(some 2), .mov (.t 21), none⟩,
      ⟨(some 3), .mov (.c (.p .nilIface)), none⟩])
    .ret)))))
def r104 : List DR := [.tmp 2, .tmp 3]
theorem c104_ok : Tryd.f104.body.bind (cCode Tryd.prog) = some c104 := by kernel_rfl
theorem r104_ok : cRes Tryd.prog Tryd.f104.results.toList = some r104 := by kernel_rfl

/-- unicode/utf8.decodeRuneInStringSlow -/
def c105 : DC :=
  (.seq (.rg [⟨(some 2), .mov (.c (.p (.int .i32 0))), none⟩,
      ⟨(some 3), .mov (.c (.p (.int .i64 0))), none⟩])
    (.seq (.rg [⟨(some 13), .mov (.t 0), none⟩,
      ⟨(some 14), .lens (.t 13), none⟩,
      ⟨(some 4), .mov (.t 14), none⟩])
    (.seq (.seq (.rg [⟨(some 15), .mov (.t 4), none⟩,
      ⟨(some 16), .bin .lss (.t 15) (.c (.p (.int .i64 1))), none⟩])
    (.cond (.t 16) (.seq (.rg [⟨(some 2), .mov (.c (.p (.int .i32 65533))), none⟩,
        ⟨(some 3), .mov (.c (.p (.int .i64 0))), none⟩])
      .ret)
      .skip))
    (.seq (.rg [⟨(some 17), .mov (.t 0), none⟩,
      ⟨(some 18), .idxs (.t 17) (.c (.p (.int .i64 0))), none⟩,
      ⟨(some 5), .mov (.t 18), none⟩])
    (.seq (.rg [⟨(some 19), .mov (.t 5), none⟩,
      ⟨(some 20), .iaddra 256 1 false (.g 2) (.t 19), none⟩,
      ⟨(some 21), .load false 1 (.t 20), none⟩,
      ⟨(some 6), .mov (.t 21), none⟩])
    (.seq (.seq (.rg [⟨(some 22), .mov (.t 6), none⟩,
      ⟨(some 23), .bin .geq (.t 22) (.c (.p (.int .u8 240))), none⟩])
    (.cond (.t 23) (.seq (.rg [⟨(some 24), .mov (.t 6), none⟩,
        ⟨(some 25), .cint .i32 (.t 24), none⟩,
        ⟨(some 26), .bin .shl (.t 25) (.c (.p (.int .u64 31))), none⟩,
        ⟨(some 27), .bin .shr (.t 26) (.c (.p (.int .u64 31))), none⟩,
        ⟨(some 7), .mov (.t 27), none⟩])
      (.seq (.rg [⟨(some 28), .mov (.t 0), none⟩,
        ⟨(some 29), .idxs (.t 28) (.c (.p (.int .i64 0))), none⟩,
        ⟨(some 30), .cint .i32 (.t 29), none⟩,
        ⟨(some 31), .mov (.t 7), none⟩,
        ⟨(some 32), .bin .andNot (.t 30) (.t 31), none⟩,
        ⟨(some 33), .mov (.t 7), none⟩,
        ⟨(some 34), .bin .and (.c (.p (.int .i32 65533))) (.t 33), none⟩,
        ⟨(some 35), .bin .or (.t 32) (.t 34), none⟩,
        ⟨(some 2), .mov (.t 35), none⟩,
        ⟨(some 3), .mov (.c (.p (.int .i64 1))), none⟩])
      .ret))
      .skip))
    (.seq (.rg [⟨(some 36), .mov (.t 6), none⟩,
      ⟨(some 37), .bin .and (.t 36) (.c (.p (.int .u8 7))), none⟩,
      ⟨(some 38), .cint .i64 (.t 37), none⟩,
      ⟨(some 8), .mov (.t 38), none⟩])
    (.seq (.rg [⟨(some 39), .mov (.t 6), none⟩,
      ⟨(some 40), .bin .shr (.t 39) (.c (.p (.int .u64 4))), none⟩,
      ⟨(some 41), .iaddra 16 2 true (.g 3) (.t 40), none⟩,
      ⟨(some 42), .load true 2 (.t 41), none⟩,
      ⟨(some 9), .alloc 2 (.agg [.p (.int .u8 0), .p (.int .u8 0)]), none⟩,
      ⟨none, .store 2 (.t 9) (.t 42), none⟩])
    (.seq (.seq (.rg [⟨(some 43), .mov (.t 4), none⟩,
      ⟨(some 44), .mov (.t 8), none⟩,
      ⟨(some 45), .bin .lss (.t 43) (.t 44), none⟩])
    (.cond (.t 45) (.seq (.rg [⟨(some 2), .mov (.c (.p (.int .i32 65533))), none⟩,
        ⟨(some 3), .mov (.c (.p (.int .i64 1))), none⟩])
      .ret)
      .skip))
    (.seq (.rg [⟨(some 46), .mov (.t 0), none⟩,
      ⟨(some 47), .idxs (.t 46) (.c (.p (.int .i64 1))), none⟩,
      ⟨(some 10), .mov (.t 47), none⟩])
    (.seq (.seq (.rg [⟨(some 48), .mov (.t 10), none⟩,
      ⟨(some 49), .faddr false 0 1 (.t 9), none⟩,
      ⟨(some 50), .load false 1 (.t 49), none⟩,
      ⟨(some 51), .bin .lss (.t 48) (.t 50), none⟩,
      ⟨(some 52), .mov (.t 51), none⟩,
      ⟨(some 53), .faddr false 1 1 (.t 9), (some (52, false))⟩,
      ⟨(some 54), .load false 1 (.t 53), (some (52, false))⟩,
      ⟨(some 55), .mov (.t 10), (some (52, false))⟩,
      ⟨(some 56), .bin .lss (.t 54) (.t 55), (some (52, false))⟩,
      ⟨(some 57), .pick (.t 52) (.c (.p (.bool true))) (.t 56), none⟩])
    (.cond (.t 57) (.seq (.rg [⟨(some 2), .mov (.c (.p (.int .i32 65533))), none⟩,
        ⟨(some 3), .mov (.c (.p (.int .i64 1))), none⟩])
      .ret)
      .skip))
    (.seq (.seq (.rg [⟨(some 58), .mov (.t 8), none⟩,
      ⟨(some 59), .bin .leq (.t 58) (.c (.p (.int .i64 2))), none⟩])
    (.cond (.t 59) (.seq (.rg [⟨(some 60), .mov (.t 5), none⟩,
        ⟨(some 61), .bin .and (.t 60) (.c (.p (.int .u8 31))), none⟩,
        ⟨(some 62), .cint .i32 (.t 61), none⟩,
        ⟨(some 63), .bin .shl (.t 62) (.c (.p (.int .u64 6))), none⟩,
        ⟨(some 64), .mov (.t 10), none⟩,
        ⟨(some 65), .bin .and (.t 64) (.c (.p (.int .u8 63))), none⟩,
        ⟨(some 66), .cint .i32 (.t 65), none⟩,
        ⟨(some 67), .bin .or (.t 63) (.t 66), none⟩,
        ⟨(some 2), .mov (.t 67), none⟩,
        ⟨(some 3), .mov (.c (.p (.int .i64 2))), none⟩])
      .ret)
      .skip))
    (.seq (.rg [⟨(some 68), .mov (.t 0), none⟩,
      ⟨(some 69), .idxs (.t 68) (.c (.p (.int .i64 2))), none⟩,
      ⟨(some 11), .mov (.t 69), none⟩])
    (.seq (.seq (.rg [⟨(some 70), .mov (.t 11), none⟩,
      ⟨(some 71), .bin .lss (.t 70) (.c (.p (.int .u8 128))), none⟩,
      ⟨(some 72), .mov (.t 71), none⟩,
      ⟨(some 73), .mov (.t 11), (some (72, false))⟩,
      ⟨(some 74), .bin .lss (.c (.p (.int .u8 191))) (.t 73), (some (72, false))⟩,
      ⟨(some 75), .pick (.t 72) (.c (.p (.bool true))) (.t 74), none⟩])
    (.cond (.t 75) (.seq (.rg [⟨(some 2), .mov (.c (.p (.int .i32 65533))), none⟩,
        ⟨(some 3), .mov (.c (.p (.int .i64 1))), none⟩])
      .ret)
      .skip))
    (.seq (.seq (.rg [⟨(some 76), .mov (.t 8), none⟩,
      ⟨(some 77), .bin .leq (.t 76) (.c (.p (.int .i64 3))), none⟩])
    (.cond (.t 77) (.seq (.rg [⟨(some 78), .mov (.t 5), none⟩,
        ⟨(some 79), .bin .and (.t 78) (.c (.p (.int .u8 15))), none⟩,
        ⟨(some 80), .cint .i32 (.t 79), none⟩,
        ⟨(some 81), .bin .shl (.t 80) (.c (.p (.int .u64 12))), none⟩,
        ⟨(some 82), .mov (.t 10), none⟩,
        ⟨(some 83), .bin .and (.t 82) (.c (.p (.int .u8 63))), none⟩,
        ⟨(some 84), .cint .i32 (.t 83), none⟩,
        ⟨(some 85), .bin .shl (.t 84) (.c (.p (.int .u64 6))), none⟩,
        ⟨(some 86), .bin .or (.t 81) (.t 85), none⟩,
        ⟨(some 87), .mov (.t 11), none⟩,
        ⟨(some 88), .bin .and (.t 87) (.c (.p (.int .u8 63))), none⟩,
        ⟨(some 89), .cint .i32 (.t 88), none⟩,
        ⟨(some 90), .bin .or (.t 86) (.t 89), none⟩,
        ⟨(some 2), .mov (.t 90), none⟩,
        ⟨(some 3), .mov (.c (.p (.int .i64 3))), none⟩])
      .ret)
      .skip))
    (.seq (.rg [⟨(some 91), .mov (.t 0), none⟩,
      ⟨(some 92), .idxs (.t 91) (.c (.p (.int .i64 3))), none⟩,
      ⟨(some 12), .mov (.t 92), none⟩])
    (.seq (.seq (.rg [⟨(some 93), .mov (.t 12), none⟩,
      ⟨(some 94), .bin .lss (.t 93) (.c (.p (.int .u8 128))), none⟩,
      ⟨(some 95), .mov (.t 94), none⟩,
      ⟨(some 96), .mov (.t 12), (some (95, false))⟩,
      ⟨(some 97), .bin .lss (.c (.p (.int .u8 191))) (.t 96), (some (95, false))⟩,
      ⟨(some 98), .pick (.t 95) (.c (.p (.bool true))) (.t 97), none⟩])
    (.cond (.t 98) (.seq (.rg [⟨(some 2), .mov (.c (.p (.int .i32 65533))), none⟩,
        ⟨(some 3), .mov (.c (.p (.int .i64 1))), none⟩])
      .ret)
      .skip))
    (.seq (.rg [⟨(some 99), .mov (.t 5), none⟩,
      ⟨(some 100), .bin .and (.t 99) (.c (.p (.int .u8 7))), none⟩,
      ⟨(some 101), .cint .i32 (.t 100), none⟩,
      ⟨(some 102), .bin .shl (.t 101) (.c (.p (.int .u64 18))), none⟩,
      ⟨(some 103), .mov (.t 10), none⟩,
      ⟨(some 104), .bin .and (.t 103) (.c (.p (.int .u8 63))), none⟩,
      ⟨(some 105), .cint .i32 (.t 104), none⟩,
      ⟨(some 106), .bin .shl (.t 105) (.c (.p (.int .u64 12))), none⟩,
      ⟨(some 107), .bin .or (.t 102) (.t 106), none⟩,
      ⟨(some 108), .mov (.t 11), none⟩,
      ⟨(some 109), .bin .and (.t 108) (.c (.p (.int .u8 63))), none⟩,
      ⟨(some 110), .cint .i32 (.t 109), none⟩,
      ⟨(some 111), .bin .shl (.t 110) (.c (.p (.int .u64 6))), none⟩,
      ⟨(some 112), .bin .or (.t 107) (.t 111), none⟩,
      ⟨(some 113), .mov (.t 12), none⟩,
      ⟨(some 114), .bin .and (.t 113) (.c (.p (.int .u8 63))), none⟩,
      ⟨(some 115), .cint .i32 (.t 114), none⟩,
      ⟨(some 116), .bin .or (.t 112) (.t 115), none⟩,
      ⟨(some 2), .mov (.t 116), none⟩,
      ⟨(some 3), .mov (.c (.p (.int .i64 4))), none⟩])
    .ret))))))))))))))))))
def r105 : List DR := [.tmp 2, .tmp 3]
theorem c105_ok : Tryd.f105.body.bind (cCode Tryd.prog) = some c105 := by kernel_rfl
theorem r105_ok : cRes Tryd.prog Tryd.f105.results.toList = some r105 := by kernel_rfl

/-- unicode/utf8.RuneStart -/
def c106 : DC :=
  (.seq (.rg [⟨(some 2), .mov (.c (.p (.bool false))), none⟩])
    (.seq (.rg [⟨(some 3), .mov (.t 0), none⟩,
      ⟨(some 4), .bin .and (.t 3) (.c (.p (.int .u8 192))), none⟩,
      ⟨(some 5), .bin .neq (.t 4) (.c (.p (.int .u8 128))), none⟩,
      ⟨(some 2), .mov (.t 5), none⟩])
    .ret))
def r106 : List DR := [.tmp 2]
theorem c106_ok : Tryd.f106.body.bind (cCode Tryd.prog) = some c106 := by kernel_rfl
theorem r106_ok : cRes Tryd.prog Tryd.f106.results.toList = some r106 := by kernel_rfl

/-- internal/stringslite.HasPrefix -/
def c107 : DC :=
  (.seq (.rg [⟨(some 4), .mov (.c (.p (.bool false))), none⟩])
    (.seq (.rg [⟨(some 5), .mov (.t 0), none⟩,
      ⟨(some 6), .lens (.t 5), none⟩,
      ⟨(some 7), .mov (.t 1), none⟩,
      ⟨(some 8), .lens (.t 7), none⟩,
      ⟨(some 9), .bin .geq (.t 6) (.t 8), none⟩,
      ⟨(some 10), .mov (.t 9), none⟩,
      ⟨(some 11), .mov (.t 0), (some (10, true))⟩,
      ⟨(some 12), .mov (.t 1), (some (10, true))⟩,
      ⟨(some 13), .lens (.t 12), (some (10, true))⟩,
      ⟨(some 14), .slcs (.t 11) none (some (.t 13)), (some (10, true))⟩,
      ⟨(some 15), .mov (.t 1), (some (10, true))⟩,
      ⟨(some 16), .bin .eql (.t 14) (.t 15), (some (10, true))⟩,
      ⟨(some 17), .pick (.t 10) (.t 16) (.c (.p (.bool false))), none⟩,
      ⟨(some 4), .mov (.t 17), none⟩])
    .ret))
def r107 : List DR := [.tmp 4]
theorem c107_ok : Tryd.f107.body.bind (cCode Tryd.prog) = some c107 := by kernel_rfl
theorem r107_ok : cRes Tryd.prog Tryd.f107.results.toList = some r107 := by kernel_rfl

/-- given.example/pub-assaymark/pub/chgo/errors.New -/
def c108 : DC :=
  (.seq (.rg [⟨(some 2), .mov (.c (.p .nilIface)), none⟩])
    (.seq (.rg [⟨(some 3), .mov (.t 0), none⟩,
      ⟨(some 4), .bld [.p (.string ⟨#[]⟩), .p .nilIface] [(0, 1, (.t 3))], none⟩,
      ⟨(some 5), .box (.t 4), none⟩,
      ⟨(some 6), .ifc 170 (.t 5), none⟩,
      ⟨(some 2), .mov (.t 6), none⟩])
    .ret))
def r108 : List DR := [.tmp 2]
theorem c108_ok : Tryd.f108.body.bind (cCode Tryd.prog) = some c108 := by kernel_rfl
theorem r108_ok : cRes Tryd.prog Tryd.f108.results.toList = some r108 := by kernel_rfl

/-- (*given.example/pub-assaymark/pub/chgo/proto.Reader).end -/
def c114 : DC :=
  (.seq (.rg [⟨(some 2), .mov (.c (.p .nilIface)), none⟩])
    (.seq (.rg [⟨(some 3), .mov (.t 0), none⟩,
      ⟨(some 4), .nilchk .ptr (.t 3), none⟩,
      ⟨(some 5), .faddr false 0 1 (.t 4), none⟩,
      ⟨none, .store 1 (.t 5) (.c (.p (.slice none 0 0))), none⟩])
    (.seq (.rg [⟨(some 6), .callr 108 [(.c (.p (.string ⟨#[117, 110, 101, 120, 112, 101, 99, 116, 101, 100, 32, 101, 110, 100]⟩)))], none⟩,
      ⟨(some 2), .mov (.t 6), none⟩])
    .ret)))
def r114 : List DR := [.tmp 2]
theorem c114_ok : Tryd.f114.body.bind (cCode Tryd.prog) = some c114 := by kernel_rfl
theorem r114_ok : cRes Tryd.prog Tryd.f114.results.toList = some r114 := by kernel_rfl

/-- (*given.example/pub-assaymark/pub/chgo/proto.Buffer).Ensure -/
def c115 : DC :=
  (.seq (.rg [⟨(some 4), .mov (.t 0), none⟩,
      ⟨(some 5), .nilchk .ptr (.t 4), none⟩,
      ⟨(some 6), .faddr false 0 1 (.t 5), none⟩,
      ⟨(some 7), .load false 1 (.t 6), none⟩,
      ⟨(some 8), .capl (.t 7), none⟩,
      ⟨(some 9), .mov (.t 1), none⟩,
      ⟨(some 10), .bin .lss (.t 8) (.t 9), none⟩])
    (.cond (.t 10) (.rg [⟨(some 11), .mov (.t 0), none⟩,
        ⟨(some 12), .mov (.t 1), none⟩,
        ⟨(some 13), .mks false 1 1 (.p (.int .u8 0)) (.t 12) (.t 12), none⟩,
        ⟨(some 14), .nilchk .ptr (.t 11), none⟩,
        ⟨(some 15), .faddr false 0 1 (.t 14), none⟩,
        ⟨none, .store 1 (.t 15) (.t 13), none⟩])
      (.rg [⟨(some 16), .mov (.t 0), none⟩,
        ⟨(some 17), .mov (.t 0), none⟩,
        ⟨(some 18), .nilchk .ptr (.t 17), none⟩,
        ⟨(some 19), .faddr false 0 1 (.t 18), none⟩,
        ⟨(some 20), .load false 1 (.t 19), none⟩,
        ⟨(some 21), .mov (.t 1), none⟩,
        ⟨(some 22), .slcl 1 (.t 20) none (some (.t 21)), none⟩,
        ⟨(some 23), .nilchk .ptr (.t 16), none⟩,
        ⟨(some 24), .faddr false 0 1 (.t 23), none⟩,
        ⟨none, .store 1 (.t 24) (.t 22), none⟩])))
def r115 : List DR := []
theorem c115_ok : Tryd.f115.body.bind (cCode Tryd.prog) = some c115 := by kernel_rfl
theorem r115_ok : cRes Tryd.prog Tryd.f115.results.toList = some r115 := by kernel_rfl

/-- (*given.example/pub-assaymark/pub/chgo/proto.Reader).ReadFull -/
def c116 : DC :=
  (.seq (.rg [⟨(some 4), .mov (.c (.p .nilIface)), none⟩])
    (.seq (.seq (.rg [⟨(some 5), .mov (.t 0), none⟩,
      ⟨(some 6), .nilchk .ptr (.t 5), none⟩,
      ⟨(some 7), .faddr false 0 1 (.t 6), none⟩,
      ⟨(some 8), .load false 1 (.t 7), none⟩,
      ⟨(some 9), .lenl (.t 8), none⟩,
      ⟨(some 10), .mov (.t 1), none⟩,
      ⟨(some 11), .lenl (.t 10), none⟩,
      ⟨(some 12), .bin .lss (.t 9) (.t 11), none⟩])
    (.cond (.t 12) (.seq (.rg [⟨(some 13), .mov (.t 0), none⟩,
        ⟨(some 14), .callr 114 [(.t 13)], none⟩,
        ⟨(some 15), .callr 84 [(.t 14), (.c (.p (.string ⟨#[114, 101, 97, 100]⟩)))], none⟩,
        ⟨(some 4), .mov (.t 15), none⟩])
      .ret)
      .skip))
    (.seq (.rg [⟨(some 16), .mov (.t 1), none⟩,
      ⟨(some 17), .mov (.t 0), none⟩,
      ⟨(some 18), .nilchk .ptr (.t 17), none⟩,
      ⟨(some 19), .faddr false 0 1 (.t 18), none⟩,
      ⟨(some 20), .load false 1 (.t 19), none⟩,
      ⟨(some 21), .cpy 1 (.t 16) (.t 20), none⟩])
    (.seq (.rg [⟨(some 22), .mov (.t 0), none⟩,
      ⟨(some 23), .mov (.t 0), none⟩,
      ⟨(some 24), .nilchk .ptr (.t 23), none⟩,
      ⟨(some 25), .faddr false 0 1 (.t 24), none⟩,
      ⟨(some 26), .load false 1 (.t 25), none⟩,
      ⟨(some 27), .mov (.t 1), none⟩,
      ⟨(some 28), .lenl (.t 27), none⟩,
      ⟨(some 29), .slcl 1 (.t 26) (some (.t 28)) none, none⟩,
      ⟨(some 30), .nilchk .ptr (.t 22), none⟩,
      ⟨(some 31), .faddr false 0 1 (.t 30), none⟩,
      ⟨none, .store 1 (.t 31) (.t 29), none⟩])
    (.seq (.rg [⟨(some 4), .mov (.c (.p .nilIface)), none⟩])
    .ret)))))
def r116 : List DR := [.tmp 4]
theorem c116_ok : Tryd.f116.body.bind (cCode Tryd.prog) = some c116 := by kernel_rfl
theorem r116_ok : cRes Tryd.prog Tryd.f116.results.toList = some r116 := by kernel_rfl

/-- (*given.example/pub-assaymark/pub/chgo/proto.Reader).Int -/
def c117 : DC :=
  (.seq (.rg [⟨(some 2), .mov (.c (.p (.int .i64 0))), none⟩,
      ⟨(some 3), .mov (.c (.p .nilIface)), none⟩])
    (.seq (.rg [⟨(some 7), .mov (.t 0), none⟩,
      ⟨(some 8), .callr 119 [(.t 7)], none⟩,
      ⟨(some 6), .mov (.t 8), none⟩,
      ⟨(some 9), .ext (.t 6) 0, none⟩,
      ⟨(some 10), .ext (.t 6) 1, none⟩,
      ⟨(some 4), .mov (.t 9), none⟩,
      ⟨(some 5), .mov (.t 10), none⟩])
    (.seq (.seq (.rg [⟨(some 11), .mov (.t 5), none⟩,
      ⟨(some 12), .eqn true .iface (.t 11), none⟩])
    (.cond (.t 12) (.seq (.rg [⟨(some 13), .mov (.t 5), none⟩,
        ⟨(some 14), .callr 84 [(.t 13), (.c (.p (.string ⟨#[117, 118, 97, 114, 105, 110, 116]⟩)))], none⟩,
        ⟨(some 2), .mov (.c (.p (.int .i64 0))), none⟩,
        ⟨(some 3), .mov (.t 14), none⟩])
      .ret)
      .skip))
    (.seq (.rg [⟨(some 15), .mov (.t 4), none⟩,
      ⟨(some 16), .cint .i64 (.t 15), none⟩,
      ⟨(some 2), .mov (.t 16), none⟩,
      ⟨(some 3), .mov (.c (.p .nilIface)), none⟩])
    .ret))))
def r117 : List DR := [.tmp 2, .tmp 3]
theorem c117_ok : Tryd.f117.body.bind (cCode Tryd.prog) = some c117 := by kernel_rfl
theorem r117_ok : cRes Tryd.prog Tryd.f117.results.toList = some r117 := by kernel_rfl

/-- (*given.example/pub-assaymark/pub/chgo/proto.Reader).UVarInt -/
def c119 : DC :=
  (.seq (.rg [⟨(some 2), .mov (.c (.p (.int .u64 0))), none⟩,
      ⟨(some 3), .mov (.c (.p .nilIface)), none⟩])
    (.seq (.rg [⟨(some 4), .mov (.c (.p (.int .u64 0))), none⟩])
    (.seq (.rg [⟨(some 5), .mov (.c (.p (.int .u64 0))), none⟩])
    (.seq (.seq (.rg [⟨(some 6), .mov (.c (.p (.int .i64 0))), none⟩])
    (.block 0 (.loop (.seq (.seq (.rg [⟨(some 9), .mov (.t 6), none⟩,
        ⟨(some 10), .bin .lss (.t 9) (.c (.p (.int .i64 10))), none⟩])
      (.cond (.t 10) .skip
        (.exit 0)))
      (.seq (.block 1 (.seq (.rg [⟨(some 14), .mov (.t 0), none⟩,
         ⟨(some 15), .callr 120 [(.t 14)], none⟩,
         ⟨(some 13), .mov (.t 15), none⟩,
         ⟨(some 16), .ext (.t 13) 0, none⟩,
         ⟨(some 17), .ext (.t 13) 1, none⟩,
         ⟨(some 7), .mov (.t 16), none⟩,
         ⟨(some 8), .mov (.t 17), none⟩])
       (.seq (.seq (.rg [⟨(some 18), .mov (.t 8), none⟩,
         ⟨(some 19), .eqn true .iface (.t 18), none⟩])
       (.cond (.t 19) (.seq (.rg [⟨(some 20), .mov (.t 8), none⟩,
           ⟨(some 21), .callr 84 [(.t 20), (.c (.p (.string ⟨#[114, 101, 97, 100]⟩)))], none⟩,
           ⟨(some 2), .mov (.c (.p (.int .u64 0))), none⟩,
           ⟨(some 3), .mov (.t 21), none⟩])
         .ret)
         .skip))
       (.seq (.seq (.rg [⟨(some 22), .mov (.t 7), none⟩,
         ⟨(some 23), .bin .lss (.t 22) (.c (.p (.int .u8 128))), none⟩])
       (.cond (.t 23) (.seq (.seq (.rg [⟨(some 24), .mov (.t 6), none⟩,
           ⟨(some 25), .bin .eql (.t 24) (.c (.p (.int .i64 9))), none⟩,
           ⟨(some 26), .mov (.t 25), none⟩,
           ⟨(some 27), .mov (.t 7), (some (26, true))⟩,
           ⟨(some 28), .bin .gtr (.t 27) (.c (.p (.int .u8 1))), (some (26, true))⟩,
           ⟨(some 29), .pick (.t 26) (.t 28) (.c (.p (.bool false))), none⟩])
         (.cond (.t 29) (.exit 0)
           .skip))
         (.seq (.rg [⟨(some 30), .mov (.t 4), none⟩,
           ⟨(some 31), .mov (.t 7), none⟩,
           ⟨(some 32), .cint .u64 (.t 31), none⟩,
           ⟨(some 33), .mov (.t 5), none⟩,
           ⟨(some 34), .bin .shl (.t 32) (.t 33), none⟩,
           ⟨(some 35), .bin .or (.t 30) (.t 34), none⟩,
           ⟨(some 2), .mov (.t 35), none⟩,
           ⟨(some 3), .mov (.c (.p .nilIface)), none⟩])
         .ret))
         .skip))
       (.seq (.rg [⟨(some 36), .mov (.t 4), none⟩,
         ⟨(some 37), .mov (.t 7), none⟩,
         ⟨(some 38), .bin .and (.t 37) (.c (.p (.int .u8 127))), none⟩,
         ⟨(some 39), .cint .u64 (.t 38), none⟩,
         ⟨(some 40), .mov (.t 5), none⟩,
         ⟨(some 41), .bin .shl (.t 39) (.t 40), none⟩,
         ⟨(some 42), .bin .or (.t 36) (.t 41), none⟩,
         ⟨(some 4), .mov (.t 42), none⟩])
       (.rg [⟨(some 43), .mov (.t 5), none⟩,
         ⟨(some 44), .bin .add (.t 43) (.c (.p (.int .u64 7))), none⟩,
         ⟨(some 5), .mov (.t 44), none⟩]))))))
      (.rg [⟨(some 11), .mov (.t 6), none⟩,
        ⟨(some 12), .bin .add (.t 11) (.c (.p (.int .i64 1))), none⟩,
        ⟨(some 6), .mov (.t 12), none⟩]))))))
    (.seq (.rg [⟨(some 45), .callr 108 [(.c (.p (.string ⟨#[117, 118, 97, 114, 105, 110, 116, 32, 111, 118, 101, 114, 102, 108, 111, 119, 115]⟩)))], none⟩,
      ⟨(some 2), .mov (.c (.p (.int .u64 0))), none⟩,
      ⟨(some 3), .mov (.t 45), none⟩])
    .ret)))))
def r119 : List DR := [.tmp 2, .tmp 3]
theorem c119_ok : Tryd.f119.body.bind (cCode Tryd.prog) = some c119 := by kernel_rfl
theorem r119_ok : cRes Tryd.prog Tryd.f119.results.toList = some r119 := by kernel_rfl

/-- (*given.example/pub-assaymark/pub/chgo/proto.Reader).ReadByte -/
def c120 : DC :=
  (.seq (.rg [⟨(some 2), .mov (.c (.p (.int .u8 0))), none⟩,
      ⟨(some 3), .mov (.c (.p .nilIface)), none⟩])
    (.seq (.seq (.rg [⟨(some 5), .mov (.t 0), none⟩,
      ⟨(some 6), .callr 102 [(.t 5), (.c (.p (.int .i64 1)))], none⟩,
      ⟨(some 4), .mov (.t 6), none⟩])
    (.seq (.rg [⟨(some 7), .mov (.t 4), none⟩,
      ⟨(some 8), .eqn true .iface (.t 7), none⟩])
    (.cond (.t 8) (.seq (.rg [⟨(some 9), .mov (.t 4), none⟩,
        ⟨(some 2), .mov (.c (.p (.int .u8 0))), none⟩,
        ⟨(some 3), .mov (.t 9), none⟩])
      .ret)
      .skip)))
    (.seq (.rg [⟨(some 10), .mov (.t 0), none⟩,
      ⟨(some 11), .nilchk .ptr (.t 10), none⟩,
      ⟨(some 12), .faddr false 1 1 (.t 11), none⟩,
      ⟨(some 13), .load false 1 (.t 12), none⟩,
      ⟨(some 14), .nilchk .ptr (.t 13), none⟩,
      ⟨(some 15), .faddr false 0 1 (.t 14), none⟩,
      ⟨(some 16), .load false 1 (.t 15), none⟩,
      ⟨(some 17), .iaddr 1 (.t 16) (.c (.p (.int .i64 0))), none⟩,
      ⟨(some 18), .load false 1 (.t 17), none⟩,
      ⟨(some 2), .mov (.t 18), none⟩,
      ⟨(some 3), .mov (.c (.p .nilIface)), none⟩])
    .ret)))
def r120 : List DR := [.tmp 2, .tmp 3]
theorem c120_ok : Tryd.f120.body.bind (cCode Tryd.prog) = some c120 := by kernel_rfl
theorem r120_ok : cRes Tryd.prog Tryd.f120.results.toList = some r120 := by kernel_rfl

def tab : Tab := fun f => match f with
  | 3 => some (c3, r3, 127)
  | 5 => some (c5, r5, 4)
  | 6 => some (c6, r6, 19)
  | 7 => some (c7, r7, 24)
  | 8 => some (c8, r8, 41)
  | 9 => some (c9, r9, 16)
  | 10 => some (c10, r10, 55)
  | 19 => some (c19, r19, 6)
  | 20 => some (c20, r20, 28)
  | 21 => some (c21, r21, 19)
  | 22 => some (c22, r22, 9)
  | 23 => some (c23, r23, 4)
  | 24 => some (c24, r24, 6)
  | 25 => some (c25, r25, 60)
  | 26 => some (c26, r26, 46)
  | 27 => some (c27, r27, 8)
  | 30 => some (c30, r30, 10)
  | 40 => some (c40, r40, 20)
  | 43 => some (c43, r43, 16)
  | 44 => some (c44, r44, 8)
  | 45 => some (c45, r45, 74)
  | 46 => some (c46, r46, 16)
  | 57 => some (c57, r57, 36)
  | 58 => some (c58, r58, 16)
  | 60 => some (c60, r60, 39)
  | 61 => some (c61, r61, 8)
  | 62 => some (c62, r62, 24)
  | 63 => some (c63, r63, 5)
  | 81 => some (c81, r81, 20)
  | 82 => some (c82, r82, 10)
  | 83 => some (c83, r83, 30)
  | 84 => some (c84, r84, 10)
  | 85 => some (c85, r85, 19)
  | 86 => some (c86, r86, 25)
  | 87 => some (c87, r87, 51)
  | 88 => some (c88, r88, 13)
  | 89 => some (c89, r89, 20)
  | 90 => some (c90, r90, 7)
  | 91 => some (c91, r91, 17)
  | 102 => some (c102, r102, 30)
  | 103 => some (c103, r103, 30)
  | 104 => some (c104, r104, 22)
  | 105 => some (c105, r105, 117)
  | 106 => some (c106, r106, 6)
  | 107 => some (c107, r107, 18)
  | 108 => some (c108, r108, 7)
  | 114 => some (c114, r114, 7)
  | 115 => some (c115, r115, 25)
  | 116 => some (c116, r116, 32)
  | 117 => some (c117, r117, 17)
  | 119 => some (c119, r119, 46)
  | 120 => some (c120, r120, 19)
  | _ => none
theorem tab_ok : TabOk Tryd.prog tab := by
  intro f d rs n h
  unfold tab at h
  split at h
  · cases h; exact ⟨_, Tryd.func3, c3_ok, r3_ok, rfl⟩
  · cases h; exact ⟨_, Tryd.func5, c5_ok, r5_ok, rfl⟩
  · cases h; exact ⟨_, Tryd.func6, c6_ok, r6_ok, rfl⟩
  · cases h; exact ⟨_, Tryd.func7, c7_ok, r7_ok, rfl⟩
  · cases h; exact ⟨_, Tryd.func8, c8_ok, r8_ok, rfl⟩
  · cases h; exact ⟨_, Tryd.func9, c9_ok, r9_ok, rfl⟩
  · cases h; exact ⟨_, Tryd.func10, c10_ok, r10_ok, rfl⟩
  · cases h; exact ⟨_, Tryd.func19, c19_ok, r19_ok, rfl⟩
  · cases h; exact ⟨_, Tryd.func20, c20_ok, r20_ok, rfl⟩
  · cases h; exact ⟨_, Tryd.func21, c21_ok, r21_ok, rfl⟩
  · cases h; exact ⟨_, Tryd.func22, c22_ok, r22_ok, rfl⟩
  · cases h; exact ⟨_, Tryd.func23, c23_ok, r23_ok, rfl⟩
  · cases h; exact ⟨_, Tryd.func24, c24_ok, r24_ok, rfl⟩
  · cases h; exact ⟨_, Tryd.func25, c25_ok, r25_ok, rfl⟩
  · cases h; exact ⟨_, Tryd.func26, c26_ok, r26_ok, rfl⟩
  · cases h; exact ⟨_, Tryd.func27, c27_ok, r27_ok, rfl⟩
  · cases h; exact ⟨_, Tryd.func30, c30_ok, r30_ok, rfl⟩
  · cases h; exact ⟨_, Tryd.func40, c40_ok, r40_ok, rfl⟩
  · cases h; exact ⟨_, Tryd.func43, c43_ok, r43_ok, rfl⟩
  · cases h; exact ⟨_, Tryd.func44, c44_ok, r44_ok, rfl⟩
  · cases h; exact ⟨_, Tryd.func45, c45_ok, r45_ok, rfl⟩
  · cases h; exact ⟨_, Tryd.func46, c46_ok, r46_ok, rfl⟩
  · cases h; exact ⟨_, Tryd.func57, c57_ok, r57_ok, rfl⟩
  · cases h; exact ⟨_, Tryd.func58, c58_ok, r58_ok, rfl⟩
  · cases h; exact ⟨_, Tryd.func60, c60_ok, r60_ok, rfl⟩
  · cases h; exact ⟨_, Tryd.func61, c61_ok, r61_ok, rfl⟩
  · cases h; exact ⟨_, Tryd.func62, c62_ok, r62_ok, rfl⟩
  · cases h; exact ⟨_, Tryd.func63, c63_ok, r63_ok, rfl⟩
  · cases h; exact ⟨_, Tryd.func81, c81_ok, r81_ok, rfl⟩
  · cases h; exact ⟨_, Tryd.func82, c82_ok, r82_ok, rfl⟩
  · cases h; exact ⟨_, Tryd.func83, c83_ok, r83_ok, rfl⟩
  · cases h; exact ⟨_, Tryd.func84, c84_ok, r84_ok, rfl⟩
  · cases h; exact ⟨_, Tryd.func85, c85_ok, r85_ok, rfl⟩
  · cases h; exact ⟨_, Tryd.func86, c86_ok, r86_ok, rfl⟩
  · cases h; exact ⟨_, Tryd.func87, c87_ok, r87_ok, rfl⟩
  · cases h; exact ⟨_, Tryd.func88, c88_ok, r88_ok, rfl⟩
  · cases h; exact ⟨_, Tryd.func89, c89_ok, r89_ok, rfl⟩
  · cases h; exact ⟨_, Tryd.func90, c90_ok, r90_ok, rfl⟩
  · cases h; exact ⟨_, Tryd.func91, c91_ok, r91_ok, rfl⟩
  · cases h; exact ⟨_, Tryd.func102, c102_ok, r102_ok, rfl⟩
  · cases h; exact ⟨_, Tryd.func103, c103_ok, r103_ok, rfl⟩
  · cases h; exact ⟨_, Tryd.func104, c104_ok, r104_ok, rfl⟩
  · cases h; exact ⟨_, Tryd.func105, c105_ok, r105_ok, rfl⟩
  · cases h; exact ⟨_, Tryd.func106, c106_ok, r106_ok, rfl⟩
  · cases h; exact ⟨_, Tryd.func107, c107_ok, r107_ok, rfl⟩
  · cases h; exact ⟨_, Tryd.func108, c108_ok, r108_ok, rfl⟩
  · cases h; exact ⟨_, Tryd.func114, c114_ok, r114_ok, rfl⟩
  · cases h; exact ⟨_, Tryd.func115, c115_ok, r115_ok, rfl⟩
  · cases h; exact ⟨_, Tryd.func116, c116_ok, r116_ok, rfl⟩
  · cases h; exact ⟨_, Tryd.func117, c117_ok, r117_ok, rfl⟩
  · cases h; exact ⟨_, Tryd.func119, c119_ok, r119_ok, rfl⟩
  · cases h; exact ⟨_, Tryd.func120, c120_ok, r120_ok, rfl⟩
  · cases h
end Go.Proofs.YtdgnjngbheecnaaDoor
