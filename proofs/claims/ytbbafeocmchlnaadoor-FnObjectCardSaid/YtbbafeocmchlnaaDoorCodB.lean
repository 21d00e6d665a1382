/- The codes of the functions, in the small language of Den. -/
import Derived.Test.YtbbafeocmchlnaaDoorLibE
import Derived.Test.YtbbafeocmchlnaaDoorProg
set_option linter.unusedVariables false
set_option linter.unusedSimpArgs false
set_option maxRecDepth 100000
namespace Go.Proofs.YtbbafeocmchlnaaDoor
open Go Go.Den Go.Proofs

/-- given.example/pub-assaymark/laws.FnObject -/
def c4 : DC :=
  (.seq (.rg [⟨(some 4), .mov (.c (.p (.bool false))), none⟩])
    (.seq (.seq (.rg [⟨(some 7), .mov (.t 0), none⟩,
      ⟨(some 8), .lens (.t 7), none⟩,
      ⟨(some 9), .bin .gtr (.t 8) (.c (.p (.int .i64 2147483647))), none⟩])
    (.cond (.t 9) (.seq (.rg [⟨(some 4), .mov (.c (.p (.bool true))), none⟩])
      .ret)
      .skip))
    (.seq (.rg [⟨(some 11), .mov (.t 0), none⟩,
      ⟨(some 12), .callr 7 [(.t 11)], none⟩,
      ⟨(some 10), .mov (.t 12), none⟩,
      ⟨(some 13), .ext (.t 10) 0, none⟩,
      ⟨(some 14), .ext (.t 10) 1, none⟩,
      ⟨(some 5), .mov (.t 13), none⟩,
      ⟨(some 6), .mov (.t 14), none⟩])
    (.seq (.seq (.rg [⟨(some 15), .mov (.t 0), none⟩,
      ⟨(some 16), .bin .eql (.t 15) (.c (.p (.string ⟨#[]⟩))), none⟩,
      ⟨(some 17), .mov (.t 16), none⟩,
      ⟨(some 18), .mov (.t 1), (some (17, true))⟩,
      ⟨(some 19), .pick (.t 17) (.t 18) (.c (.p (.bool false))), none⟩])
    (.cond (.t 19) (.rg [⟨(some 6), .mov (.c (.p (.bool false))), none⟩])
      .skip))
    (.seq (.rg [⟨(some 20), .mov (.t 6), none⟩,
      ⟨(some 21), .un .not (.t 20), none⟩,
      ⟨(some 22), .mov (.t 21), none⟩,
      ⟨(some 23), .mov (.t 0), (some (22, false))⟩,
      ⟨(some 24), .mov (.t 1), (some (22, false))⟩,
      ⟨(some 25), .callr 8 [(.t 23), (.t 24)], (some (22, false))⟩,
      ⟨(some 26), .mov (.t 5), (some (22, false))⟩,
      ⟨(some 27), .eqb false (.t 25) (.t 26), (some (22, false))⟩,
      ⟨(some 28), .pick (.t 22) (.c (.p (.bool true))) (.t 27), none⟩,
      ⟨(some 29), .mov (.t 28), none⟩,
      ⟨(some 30), .mov (.t 1), (some (29, true))⟩,
      ⟨(some 31), .callr 8 [(.c (.p (.string ⟨#[97, 47, 98]⟩))), (.t 30)], (some (29, true))⟩,
      ⟨(some 32), .pick (.t 29) (.t 31) (.c (.p (.bool false))), none⟩,
      ⟨(some 4), .mov (.t 32), none⟩])
    .ret)))))
def r4 : List DR := [.tmp 4]
theorem c4_ok : Tryd.f4.body.bind (cCode Tryd.prog) = some c4 := by kernel_rfl
theorem r4_ok : cRes Tryd.prog Tryd.f4.results.toList = some r4 := by kernel_rfl

/-- given.example/pub-assaymark/spec.ObjectRef -/
def c7 : DC :=
  (.seq (.rg [⟨(some 2), .mov (.c (.p (.bool false))), none⟩,
      ⟨(some 3), .mov (.c (.p (.bool false))), none⟩])
    (.seq (.seq (.rg [⟨(some 6), .mov (.t 0), none⟩,
      ⟨(some 7), .lens (.t 6), none⟩,
      ⟨(some 8), .bin .gtr (.t 7) (.c (.p (.int .i64 1024))), none⟩,
      ⟨(some 9), .mov (.t 8), none⟩,
      ⟨(some 10), .mov (.t 0), (some (9, false))⟩,
      ⟨(some 11), .callr 12 [(.t 10)], (some (9, false))⟩,
      ⟨(some 12), .un .not (.t 11), (some (9, false))⟩,
      ⟨(some 13), .pick (.t 9) (.c (.p (.bool true))) (.t 12), none⟩])
    (.cond (.t 13) (.seq (.rg [⟨(some 2), .mov (.c (.p (.bool false))), none⟩,
        ⟨(some 3), .mov (.c (.p (.bool true))), none⟩])
      .ret)
      .skip))
    (.seq (.seq (.rg [⟨(some 14), .mov (.t 0), none⟩,
      ⟨(some 15), .rngs (.t 14), none⟩])
    (.block 0 (.loop (.seq (.rg [⟨(some 16), .nxts (.t 15), none⟩,
        ⟨(some 17), .ext (.t 16) 0, none⟩])
      (.seq (.cond (.t 17) .skip
        (.exit 0))
      (.block 1 (.seq (.rg [⟨(some 18), .ext (.t 16) 2, none⟩,
         ⟨(some 5), .mov (.t 18), none⟩])
       (.seq (.rg [⟨(some 19), .mov (.t 5), none⟩,
         ⟨(some 20), .bin .gtr (.t 19) (.c (.p (.int .i32 32))), none⟩,
         ⟨(some 21), .mov (.t 20), none⟩,
         ⟨(some 22), .mov (.t 5), (some (21, true))⟩,
         ⟨(some 23), .bin .neq (.t 22) (.c (.p (.int .i32 133))), (some (21, true))⟩,
         ⟨(some 24), .pick (.t 21) (.t 23) (.c (.p (.bool false))), none⟩,
         ⟨(some 25), .mov (.t 24), none⟩,
         ⟨(some 26), .mov (.t 5), (some (25, true))⟩,
         ⟨(some 27), .bin .neq (.t 26) (.c (.p (.int .i32 160))), (some (25, true))⟩,
         ⟨(some 28), .pick (.t 25) (.t 27) (.c (.p (.bool false))), none⟩,
         ⟨(some 29), .mov (.t 28), none⟩,
         ⟨(some 30), .mov (.t 5), (some (29, true))⟩,
         ⟨(some 31), .bin .lss (.t 30) (.c (.p (.int .i32 8192))), (some (29, true))⟩,
         ⟨(some 32), .mov (.t 31), (some (29, true))⟩,
         ⟨(some 33), .mov (.t 5), (some (32, false))⟩,
         ⟨(some 34), .bin .gtr (.t 33) (.c (.p (.int .i32 8233))), (some (32, false))⟩,
         ⟨(some 35), .pick (.t 32) (.c (.p (.bool true))) (.t 34), (some (29, true))⟩,
         ⟨(some 36), .pick (.t 29) (.t 35) (.c (.p (.bool false))), none⟩,
         ⟨(some 37), .mov (.t 36), none⟩,
         ⟨(some 38), .mov (.t 5), (some (37, true))⟩,
         ⟨(some 39), .bin .neq (.t 38) (.c (.p (.int .i32 8239))), (some (37, true))⟩,
         ⟨(some 40), .pick (.t 37) (.t 39) (.c (.p (.bool false))), none⟩,
         ⟨(some 41), .mov (.t 40), none⟩,
         ⟨(some 42), .mov (.t 5), (some (41, true))⟩,
         ⟨(some 43), .bin .neq (.t 42) (.c (.p (.int .i32 8287))), (some (41, true))⟩,
         ⟨(some 44), .pick (.t 41) (.t 43) (.c (.p (.bool false))), none⟩,
         ⟨(some 45), .mov (.t 44), none⟩,
         ⟨(some 46), .mov (.t 5), (some (45, true))⟩,
         ⟨(some 47), .bin .neq (.t 46) (.c (.p (.int .i32 12288))), (some (45, true))⟩,
         ⟨(some 48), .pick (.t 45) (.t 47) (.c (.p (.bool false))), none⟩,
         ⟨(some 49), .mov (.t 48), none⟩,
         ⟨(some 50), .mov (.t 5), (some (49, true))⟩,
         ⟨(some 51), .bin .neq (.t 50) (.c (.p (.int .i32 5760))), (some (49, true))⟩,
         ⟨(some 52), .pick (.t 49) (.t 51) (.c (.p (.bool false))), none⟩])
       (.cond (.t 52) (.seq (.rg [⟨(some 2), .mov (.c (.p (.bool true))), none⟩,
           ⟨(some 3), .mov (.c (.p (.bool true))), none⟩])
         .ret)
         .skip)))))))))
    (.seq (.rg [⟨(some 53), .mov (.t 0), none⟩,
      ⟨(some 54), .bin .eql (.t 53) (.c (.p (.string ⟨#[]⟩))), none⟩,
      ⟨(some 2), .mov (.c (.p (.bool false))), none⟩,
      ⟨(some 3), .mov (.t 54), none⟩])
    .ret))))
def r7 : List DR := [.tmp 2, .tmp 3]
theorem c7_ok : Tryd.f7.body.bind (cCode Tryd.prog) = some c7 := by kernel_rfl
theorem r7_ok : cRes Tryd.prog Tryd.f7.results.toList = some r7 := by kernel_rfl

/-- given.example/pub-assaymark/impl.ObjectOk -/
def c8 : DC :=
  (.seq (.rg [⟨(some 4), .mov (.c (.p (.bool false))), none⟩])
    (.seq (.seq (.rg [⟨(some 5), .mov (.t 1), none⟩])
    (.cond (.t 5) (.seq (.rg [⟨(some 6), .mov (.t 0), none⟩,
        ⟨(some 7), .callr 13 [(.t 6)], none⟩,
        ⟨(some 8), .eqn false .iface (.t 7), none⟩,
        ⟨(some 4), .mov (.t 8), none⟩])
      .ret)
      .skip))
    (.seq (.rg [⟨(some 9), .mov (.t 0), none⟩,
      ⟨(some 10), .callr 14 [(.t 9)], none⟩,
      ⟨(some 11), .eqn false .iface (.t 10), none⟩,
      ⟨(some 4), .mov (.t 11), none⟩])
    .ret)))
def r8 : List DR := [.tmp 4]
theorem c8_ok : Tryd.f8.body.bind (cCode Tryd.prog) = some c8 := by kernel_rfl
theorem r8_ok : cRes Tryd.prog Tryd.f8.results.toList = some r8 := by kernel_rfl

/-- unicode/utf8.ValidString -/
def c12 : DC :=
  (.seq (.rg [⟨(some 2), .mov (.c (.p (.bool false))), none⟩])
    (.seq (.block 0 (.loop (.seq (.seq (.rg [⟨(some 7), .mov (.t 0), none⟩,
        ⟨(some 8), .lens (.t 7), none⟩,
        ⟨(some 9), .bin .gtr (.t 8) (.c (.p (.int .i64 0))), none⟩])
      (.cond (.t 9) .skip
        (.exit 0)))
      (.block 1 (.seq (.rg [⟨(some 10), .mov (.t 0), none⟩,
         ⟨(some 11), .idxs (.t 10) (.c (.p (.int .i64 0))), none⟩,
         ⟨(some 3), .mov (.t 11), none⟩])
       (.seq (.seq (.rg [⟨(some 12), .mov (.t 3), none⟩,
         ⟨(some 13), .bin .lss (.t 12) (.c (.p (.int .u8 128))), none⟩])
       (.cond (.t 13) (.seq (.rg [⟨(some 14), .mov (.t 0), none⟩,
           ⟨(some 15), .slcs (.t 14) (some (.c (.p (.int .i64 1)))) none, none⟩,
           ⟨(some 0), .mov (.t 15), none⟩])
         (.seq (.seq (.rg [⟨(some 16), .mov (.t 0), none⟩,
           ⟨(some 17), .lens (.t 16), none⟩,
           ⟨(some 18), .bin .gtr (.t 17) (.c (.p (.int .i64 8))), none⟩,
           ⟨(some 19), .mov (.t 18), none⟩,
           ⟨(some 20), .mov (.t 0), (some (19, true))⟩,
           ⟨(some 21), .callr 17 [(.t 20)], (some (19, true))⟩,
           ⟨(some 22), .bin .and (.t 21) (.c (.p (.int .u64 9259542123273814144))), (some (19, true))⟩,
           ⟨(some 23), .bin .eql (.t 22) (.c (.p (.int .u64 0))), (some (19, true))⟩,
           ⟨(some 24), .pick (.t 19) (.t 23) (.c (.p (.bool false))), none⟩])
         (.cond (.t 24) (.seq (.rg [⟨(some 25), .mov (.t 0), none⟩,
             ⟨(some 26), .slcs (.t 25) (some (.c (.p (.int .i64 8)))) none, none⟩,
             ⟨(some 0), .mov (.t 26), none⟩])
           (.seq (.rgd [⟨⟨(some 27), .mov (.t 0), none⟩, 0, []⟩,
             ⟨⟨(some 28), .lens (.t 27), none⟩, 0, []⟩,
             ⟨⟨(some 29), .bin .gtr (.t 28) (.c (.p (.int .i64 16))), none⟩, 0, []⟩,
             ⟨⟨(some 30), .mov (.t 29), none⟩, 0, []⟩,
             ⟨⟨(some 31), .mov (.t 0), (some (30, true))⟩, 0, []⟩,
             ⟨⟨(some 32), .call 17 [(.t 31)], (some (30, true))⟩, 0, []⟩,
             ⟨⟨(some 33), .mov (.t 0), (some (30, true))⟩, 0, []⟩,
             ⟨⟨(some 34), .slcs (.t 33) (some (.c (.p (.int .i64 8)))) none, (some (30, true))⟩, 0, []⟩,
             ⟨⟨(some 35), .call 17 [(.t 34)], (some (30, true))⟩, 1, []⟩,
             ⟨⟨(some 36), .bin .or (.t 32) (.t 35), (some (30, true))⟩, 2, []⟩,
             ⟨⟨(some 37), .bin .and (.t 36) (.c (.p (.int .u64 9259542123273814144))), (some (30, true))⟩, 2, []⟩,
             ⟨⟨(some 38), .bin .eql (.t 37) (.c (.p (.int .u64 0))), (some (30, true))⟩, 2, []⟩,
             ⟨⟨(some 39), .pick (.t 30) (.t 38) (.c (.p (.bool false))), none⟩, 2, []⟩])
           (.cond (.t 39) (.seq (.rg [⟨(some 40), .mov (.t 0), none⟩,
               ⟨(some 41), .slcs (.t 40) (some (.c (.p (.int .i64 16)))) none, none⟩,
               ⟨(some 0), .mov (.t 41), none⟩])
             (.block 2 (.loop (.seq (.seq (.rgd [⟨⟨(some 42), .mov (.t 0), none⟩, 0, []⟩,
                 ⟨⟨(some 43), .lens (.t 42), none⟩, 0, []⟩,
                 ⟨⟨(some 44), .bin .gtr (.t 43) (.c (.p (.int .i64 32))), none⟩, 0, []⟩,
                 ⟨⟨(some 45), .mov (.t 44), none⟩, 0, []⟩,
                 ⟨⟨(some 46), .mov (.t 0), (some (45, true))⟩, 0, []⟩,
                 ⟨⟨(some 47), .call 17 [(.t 46)], (some (45, true))⟩, 0, []⟩,
                 ⟨⟨(some 48), .mov (.t 0), (some (45, true))⟩, 0, []⟩,
                 ⟨⟨(some 49), .slcs (.t 48) (some (.c (.p (.int .i64 8)))) none, (some (45, true))⟩, 0, []⟩,
                 ⟨⟨(some 50), .call 17 [(.t 49)], (some (45, true))⟩, 1, []⟩,
                 ⟨⟨(some 51), .bin .or (.t 47) (.t 50), (some (45, true))⟩, 2, []⟩,
                 ⟨⟨(some 52), .mov (.t 0), (some (45, true))⟩, 0, []⟩,
                 ⟨⟨(some 53), .slcs (.t 52) (some (.c (.p (.int .i64 16)))) none, (some (45, true))⟩, 0, []⟩,
                 ⟨⟨(some 54), .call 17 [(.t 53)], (some (45, true))⟩, 2, []⟩,
                 ⟨⟨(some 55), .mov (.t 0), (some (45, true))⟩, 0, []⟩,
                 ⟨⟨(some 56), .slcs (.t 55) (some (.c (.p (.int .i64 24)))) none, (some (45, true))⟩, 0, []⟩,
                 ⟨⟨(some 57), .call 17 [(.t 56)], (some (45, true))⟩, 3, []⟩,
                 ⟨⟨(some 58), .bin .or (.t 54) (.t 57), (some (45, true))⟩, 4, []⟩,
                 ⟨⟨(some 59), .bin .or (.t 51) (.t 58), (some (45, true))⟩, 4, []⟩,
                 ⟨⟨(some 60), .bin .and (.t 59) (.c (.p (.int .u64 9259542123273814144))), (some (45, true))⟩, 4, []⟩,
                 ⟨⟨(some 61), .bin .eql (.t 60) (.c (.p (.int .u64 0))), (some (45, true))⟩, 4, []⟩,
                 ⟨⟨(some 62), .pick (.t 45) (.t 61) (.c (.p (.bool false))), none⟩, 4, []⟩])
               (.cond (.t 62) .skip
                 (.exit 2)))
               (.block 3 (.rg [⟨(some 63), .mov (.t 0), none⟩,
                  ⟨(some 64), .slcs (.t 63) (some (.c (.p (.int .i64 32)))) none, none⟩,
                  ⟨(some 0), .mov (.t 64), none⟩]))))))
             .skip)))
           .skip))
         (.exit 1)))
         .skip))
       (.seq (.rg [⟨(some 65), .mov (.t 3), none⟩,
         ⟨(some 66), .iaddra 256 1 false (.g 0) (.t 65), none⟩,
         ⟨(some 67), .load false 1 (.t 66), none⟩,
         ⟨(some 4), .mov (.t 67), none⟩])
       (.seq (.rg [⟨(some 68), .mov (.t 4), none⟩,
         ⟨(some 69), .bin .and (.t 68) (.c (.p (.int .u8 7))), none⟩,
         ⟨(some 70), .cint .i64 (.t 69), none⟩,
         ⟨(some 5), .mov (.t 70), none⟩])
       (.seq (.rg [⟨(some 71), .mov (.t 4), none⟩,
         ⟨(some 72), .bin .shr (.t 71) (.c (.p (.int .u64 4))), none⟩,
         ⟨(some 73), .iaddra 16 2 true (.g 1) (.t 72), none⟩,
         ⟨(some 74), .load true 2 (.t 73), none⟩,
         ⟨(some 6), .alloc 2 (.agg [.p (.int .u8 0), .p (.int .u8 0)]), none⟩,
         ⟨none, .store 2 (.t 6) (.t 74), none⟩])
       (.seq (.rg [⟨(some 75), .mov (.t 5), none⟩])
       (.block 4 (.seq (.rg [⟨(some 77), .bin .eql (.t 75) (.c (.p (.int .i64 2))), none⟩,
          ⟨(some 76), .mov (.t 77), none⟩])
        (.cond (.t 76) (.seq (.seq (.rgd [⟨⟨(some 78), .mov (.t 0), none⟩, 0, []⟩,
            ⟨⟨(some 79), .lens (.t 78), none⟩, 0, []⟩,
            ⟨⟨(some 80), .bin .lss (.t 79) (.c (.p (.int .i64 2))), none⟩, 0, []⟩,
            ⟨⟨(some 81), .mov (.t 80), none⟩, 0, []⟩,
            ⟨⟨(some 82), .mov (.t 0), (some (81, false))⟩, 0, [0]⟩,
            ⟨⟨(some 83), .idxs (.t 82) (.c (.p (.int .i64 1))), (some (81, false))⟩, 0, [0]⟩,
            ⟨⟨(some 84), .faddr false 0 1 (.t 6), (some (81, false))⟩, 0, [0]⟩,
            ⟨⟨(some 85), .load false 1 (.t 84), (some (81, false))⟩, 0, [0]⟩,
            ⟨⟨(some 86), .bin .lss (.t 83) (.t 85), (some (81, false))⟩, 0, []⟩,
            ⟨⟨(some 87), .pick (.t 81) (.c (.p (.bool true))) (.t 86), none⟩, 0, []⟩,
            ⟨⟨(some 88), .mov (.t 87), none⟩, 0, []⟩,
            ⟨⟨(some 89), .faddr false 1 1 (.t 6), (some (88, false))⟩, 0, [0]⟩,
            ⟨⟨(some 90), .load false 1 (.t 89), (some (88, false))⟩, 0, [0]⟩,
            ⟨⟨(some 91), .mov (.t 0), (some (88, false))⟩, 0, [0]⟩,
            ⟨⟨(some 92), .idxs (.t 91) (.c (.p (.int .i64 1))), (some (88, false))⟩, 0, [0]⟩,
            ⟨⟨(some 93), .bin .lss (.t 90) (.t 92), (some (88, false))⟩, 0, []⟩,
            ⟨⟨(some 94), .pick (.t 88) (.c (.p (.bool true))) (.t 93), none⟩, 0, []⟩])
          (.cond (.t 94) (.seq (.rg [⟨(some 2), .mov (.c (.p (.bool false))), none⟩])
            .ret)
            .skip))
          (.rg [⟨(some 95), .mov (.t 0), none⟩,
            ⟨(some 96), .slcs (.t 95) (some (.c (.p (.int .i64 2)))) none, none⟩,
            ⟨(some 0), .mov (.t 96), none⟩]))
          (.seq (.rg [⟨(some 98), .bin .eql (.t 75) (.c (.p (.int .i64 3))), none⟩,
            ⟨(some 97), .mov (.t 98), none⟩])
          (.cond (.t 97) (.seq (.seq (.rgd [⟨⟨(some 99), .mov (.t 0), none⟩, 0, []⟩,
              ⟨⟨(some 100), .lens (.t 99), none⟩, 0, []⟩,
              ⟨⟨(some 101), .bin .lss (.t 100) (.c (.p (.int .i64 3))), none⟩, 0, []⟩,
              ⟨⟨(some 102), .mov (.t 101), none⟩, 0, []⟩,
              ⟨⟨(some 103), .mov (.t 0), (some (102, false))⟩, 0, [0]⟩,
              ⟨⟨(some 104), .idxs (.t 103) (.c (.p (.int .i64 1))), (some (102, false))⟩, 0, [0]⟩,
              ⟨⟨(some 105), .faddr false 0 1 (.t 6), (some (102, false))⟩, 0, [0]⟩,
              ⟨⟨(some 106), .load false 1 (.t 105), (some (102, false))⟩, 0, [0]⟩,
              ⟨⟨(some 107), .bin .lss (.t 104) (.t 106), (some (102, false))⟩, 0, []⟩,
              ⟨⟨(some 108), .pick (.t 102) (.c (.p (.bool true))) (.t 107), none⟩, 0, []⟩,
              ⟨⟨(some 109), .mov (.t 108), none⟩, 0, []⟩,
              ⟨⟨(some 110), .faddr false 1 1 (.t 6), (some (109, false))⟩, 0, [0]⟩,
              ⟨⟨(some 111), .load false 1 (.t 110), (some (109, false))⟩, 0, [0]⟩,
              ⟨⟨(some 112), .mov (.t 0), (some (109, false))⟩, 0, [0]⟩,
              ⟨⟨(some 113), .idxs (.t 112) (.c (.p (.int .i64 1))), (some (109, false))⟩, 0, [0]⟩,
              ⟨⟨(some 114), .bin .lss (.t 111) (.t 113), (some (109, false))⟩, 0, []⟩,
              ⟨⟨(some 115), .pick (.t 109) (.c (.p (.bool true))) (.t 114), none⟩, 0, []⟩,
              ⟨⟨(some 116), .mov (.t 115), none⟩, 0, []⟩,
              ⟨⟨(some 117), .mov (.t 0), (some (116, false))⟩, 0, []⟩,
              ⟨⟨(some 118), .idxs (.t 117) (.c (.p (.int .i64 2))), (some (116, false))⟩, 0, []⟩,
              ⟨⟨(some 119), .bin .lss (.t 118) (.c (.p (.int .u8 128))), (some (116, false))⟩, 0, []⟩,
              ⟨⟨(some 120), .pick (.t 116) (.c (.p (.bool true))) (.t 119), none⟩, 0, []⟩,
              ⟨⟨(some 121), .mov (.t 120), none⟩, 0, []⟩,
              ⟨⟨(some 122), .mov (.t 0), (some (121, false))⟩, 0, []⟩,
              ⟨⟨(some 123), .idxs (.t 122) (.c (.p (.int .i64 2))), (some (121, false))⟩, 0, []⟩,
              ⟨⟨(some 124), .bin .lss (.c (.p (.int .u8 191))) (.t 123), (some (121, false))⟩, 0, []⟩,
              ⟨⟨(some 125), .pick (.t 121) (.c (.p (.bool true))) (.t 124), none⟩, 0, []⟩])
            (.cond (.t 125) (.seq (.rg [⟨(some 2), .mov (.c (.p (.bool false))), none⟩])
              .ret)
              .skip))
            (.rg [⟨(some 126), .mov (.t 0), none⟩,
              ⟨(some 127), .slcs (.t 126) (some (.c (.p (.int .i64 3)))) none, none⟩,
              ⟨(some 0), .mov (.t 127), none⟩]))
            (.seq (.rg [⟨(some 129), .bin .eql (.t 75) (.c (.p (.int .i64 4))), none⟩,
              ⟨(some 128), .mov (.t 129), none⟩])
            (.cond (.t 128) (.seq (.seq (.rgd [⟨⟨(some 130), .mov (.t 0), none⟩, 0, []⟩,
                ⟨⟨(some 131), .lens (.t 130), none⟩, 0, []⟩,
                ⟨⟨(some 132), .bin .lss (.t 131) (.c (.p (.int .i64 4))), none⟩, 0, []⟩,
                ⟨⟨(some 133), .mov (.t 132), none⟩, 0, []⟩,
                ⟨⟨(some 134), .mov (.t 0), (some (133, false))⟩, 0, [0]⟩,
                ⟨⟨(some 135), .idxs (.t 134) (.c (.p (.int .i64 1))), (some (133, false))⟩, 0, [0]⟩,
                ⟨⟨(some 136), .faddr false 0 1 (.t 6), (some (133, false))⟩, 0, [0]⟩,
                ⟨⟨(some 137), .load false 1 (.t 136), (some (133, false))⟩, 0, [0]⟩,
                ⟨⟨(some 138), .bin .lss (.t 135) (.t 137), (some (133, false))⟩, 0, []⟩,
                ⟨⟨(some 139), .pick (.t 133) (.c (.p (.bool true))) (.t 138), none⟩, 0, []⟩,
                ⟨⟨(some 140), .mov (.t 139), none⟩, 0, []⟩,
                ⟨⟨(some 141), .faddr false 1 1 (.t 6), (some (140, false))⟩, 0, [0]⟩,
                ⟨⟨(some 142), .load false 1 (.t 141), (some (140, false))⟩, 0, [0]⟩,
                ⟨⟨(some 143), .mov (.t 0), (some (140, false))⟩, 0, [0]⟩,
                ⟨⟨(some 144), .idxs (.t 143) (.c (.p (.int .i64 1))), (some (140, false))⟩, 0, [0]⟩,
                ⟨⟨(some 145), .bin .lss (.t 142) (.t 144), (some (140, false))⟩, 0, []⟩,
                ⟨⟨(some 146), .pick (.t 140) (.c (.p (.bool true))) (.t 145), none⟩, 0, []⟩,
                ⟨⟨(some 147), .mov (.t 146), none⟩, 0, []⟩,
                ⟨⟨(some 148), .mov (.t 0), (some (147, false))⟩, 0, []⟩,
                ⟨⟨(some 149), .idxs (.t 148) (.c (.p (.int .i64 2))), (some (147, false))⟩, 0, []⟩,
                ⟨⟨(some 150), .bin .lss (.t 149) (.c (.p (.int .u8 128))), (some (147, false))⟩, 0, []⟩,
                ⟨⟨(some 151), .pick (.t 147) (.c (.p (.bool true))) (.t 150), none⟩, 0, []⟩,
                ⟨⟨(some 152), .mov (.t 151), none⟩, 0, []⟩,
                ⟨⟨(some 153), .mov (.t 0), (some (152, false))⟩, 0, []⟩,
                ⟨⟨(some 154), .idxs (.t 153) (.c (.p (.int .i64 2))), (some (152, false))⟩, 0, []⟩,
                ⟨⟨(some 155), .bin .lss (.c (.p (.int .u8 191))) (.t 154), (some (152, false))⟩, 0, []⟩,
                ⟨⟨(some 156), .pick (.t 152) (.c (.p (.bool true))) (.t 155), none⟩, 0, []⟩,
                ⟨⟨(some 157), .mov (.t 156), none⟩, 0, []⟩,
                ⟨⟨(some 158), .mov (.t 0), (some (157, false))⟩, 0, []⟩,
                ⟨⟨(some 159), .idxs (.t 158) (.c (.p (.int .i64 3))), (some (157, false))⟩, 0, []⟩,
                ⟨⟨(some 160), .bin .lss (.t 159) (.c (.p (.int .u8 128))), (some (157, false))⟩, 0, []⟩,
                ⟨⟨(some 161), .pick (.t 157) (.c (.p (.bool true))) (.t 160), none⟩, 0, []⟩,
                ⟨⟨(some 162), .mov (.t 161), none⟩, 0, []⟩,
                ⟨⟨(some 163), .mov (.t 0), (some (162, false))⟩, 0, []⟩,
                ⟨⟨(some 164), .idxs (.t 163) (.c (.p (.int .i64 3))), (some (162, false))⟩, 0, []⟩,
                ⟨⟨(some 165), .bin .lss (.c (.p (.int .u8 191))) (.t 164), (some (162, false))⟩, 0, []⟩,
                ⟨⟨(some 166), .pick (.t 162) (.c (.p (.bool true))) (.t 165), none⟩, 0, []⟩])
              (.cond (.t 166) (.seq (.rg [⟨(some 2), .mov (.c (.p (.bool false))), none⟩])
                .ret)
                .skip))
              (.rg [⟨(some 167), .mov (.t 0), none⟩,
                ⟨(some 168), .slcs (.t 167) (some (.c (.p (.int .i64 4)))) none, none⟩,
                ⟨(some 0), .mov (.t 168), none⟩]))
              (.seq (.rg [⟨(some 2), .mov (.c (.p (.bool false))), none⟩])
              .ret))))))))))))))))))
    (.seq (.rg [⟨(some 2), .mov (.c (.p (.bool true))), none⟩])
    .ret)))
def r12 : List DR := [.tmp 2]
theorem c12_ok : Tryd.f12.body.bind (cCode Tryd.prog) = some c12 := by kernel_rfl
theorem r12_ok : cRes Tryd.prog Tryd.f12.results.toList = some r12 := by kernel_rfl

/-- given.example/pub-assaymark/pub/miniogo/pkg/s3utils.CheckValidObjectNamePrefix -/
def c13 : DC :=
  (.seq (.rg [⟨(some 2), .mov (.c (.p .nilIface)), none⟩])
    (.seq (.seq (.rg [⟨(some 3), .mov (.t 0), none⟩,
      ⟨(some 4), .lens (.t 3), none⟩,
      ⟨(some 5), .bin .gtr (.t 4) (.c (.p (.int .i64 1024))), none⟩])
    (.cond (.t 5) (.seq (.rg [⟨(some 6), .callr 18 [(.c (.p (.string ⟨#[79, 98, 106, 101, 99, 116, 32, 110, 97, 109, 101, 32, 99, 97, 110, 110, 111, 116, 32, 98, 101, 32, 108, 111, 110, 103, 101, 114, 32, 116, 104, 97, 110, 32, 49, 48, 50, 52, 32, 99, 104, 97, 114, 97, 99, 116, 101, 114, 115]⟩)))], none⟩,
        ⟨(some 2), .mov (.t 6), none⟩])
      .ret)
      .skip))
    (.seq (.seq (.rg [⟨(some 7), .mov (.t 0), none⟩,
      ⟨(some 8), .callr 12 [(.t 7)], none⟩,
      ⟨(some 9), .un .not (.t 8), none⟩])
    (.cond (.t 9) (.seq (.rg [⟨(some 10), .callr 18 [(.c (.p (.string ⟨#[79, 98, 106, 101, 99, 116, 32, 110, 97, 109, 101, 32, 119, 105, 116, 104, 32, 110, 111, 110, 32, 85, 84, 70, 45, 56, 32, 115, 116, 114, 105, 110, 103, 115, 32, 97, 114, 101, 32, 110, 111, 116, 32, 115, 117, 112, 112, 111, 114, 116, 101, 100]⟩)))], none⟩,
        ⟨(some 2), .mov (.t 10), none⟩])
      .ret)
      .skip))
    (.seq (.rg [⟨(some 2), .mov (.c (.p .nilIface)), none⟩])
    .ret))))
def r13 : List DR := [.tmp 2]
theorem c13_ok : Tryd.f13.body.bind (cCode Tryd.prog) = some c13 := by kernel_rfl
theorem r13_ok : cRes Tryd.prog Tryd.f13.results.toList = some r13 := by kernel_rfl

/-- given.example/pub-assaymark/pub/miniogo/pkg/s3utils.CheckValidObjectName -/
def c14 : DC :=
  (.seq (.rg [⟨(some 2), .mov (.c (.p .nilIface)), none⟩])
    (.seq (.seq (.rg [⟨(some 3), .mov (.t 0), none⟩,
      ⟨(some 4), .callr 15 [(.t 3)], none⟩,
      ⟨(some 5), .bin .eql (.t 4) (.c (.p (.string ⟨#[]⟩))), none⟩])
    (.cond (.t 5) (.seq (.rg [⟨(some 6), .callr 18 [(.c (.p (.string ⟨#[79, 98, 106, 101, 99, 116, 32, 110, 97, 109, 101, 32, 99, 97, 110, 110, 111, 116, 32, 98, 101, 32, 101, 109, 112, 116, 121]⟩)))], none⟩,
        ⟨(some 2), .mov (.t 6), none⟩])
      .ret)
      .skip))
    (.seq (.rg [⟨(some 7), .mov (.t 0), none⟩,
      ⟨(some 8), .callr 13 [(.t 7)], none⟩,
      ⟨(some 2), .mov (.t 8), none⟩])
    .ret)))
def r14 : List DR := [.tmp 2]
theorem c14_ok : Tryd.f14.body.bind (cCode Tryd.prog) = some c14 := by kernel_rfl
theorem r14_ok : cRes Tryd.prog Tryd.f14.results.toList = some r14 := by kernel_rfl

/-- unicode/utf8.word[string] -/
def c17 : DC :=
  (.seq (.rg [⟨(some 2), .mov (.c (.p (.int .u64 0))), none⟩])
    (.seq (.cond (.c (.p (.bool false))) (.seq (.rgd [⟨⟨(some 3), .mov (.t 0), none⟩, 0, []⟩,
        ⟨⟨(some 4), .idxs (.t 3) (.c (.p (.int .i64 0))), none⟩, 0, []⟩,
        ⟨⟨(some 5), .cint .u64 (.t 4), none⟩, 0, []⟩,
        ⟨⟨(some 6), .mov (.t 0), none⟩, 0, []⟩,
        ⟨⟨(some 7), .idxs (.t 6) (.c (.p (.int .i64 1))), none⟩, 0, []⟩,
        ⟨⟨(some 8), .cint .u64 (.t 7), none⟩, 0, []⟩,
        ⟨⟨(some 9), .bin .shl (.t 8) (.c (.p (.int .u64 8))), none⟩, 0, []⟩,
        ⟨⟨(some 10), .bin .or (.t 5) (.t 9), none⟩, 0, []⟩,
        ⟨⟨(some 11), .mov (.t 0), none⟩, 0, []⟩,
        ⟨⟨(some 12), .idxs (.t 11) (.c (.p (.int .i64 2))), none⟩, 0, []⟩,
        ⟨⟨(some 13), .cint .u64 (.t 12), none⟩, 0, []⟩,
        ⟨⟨(some 14), .bin .shl (.t 13) (.c (.p (.int .u64 16))), none⟩, 0, []⟩,
        ⟨⟨(some 15), .bin .or (.t 10) (.t 14), none⟩, 0, []⟩,
        ⟨⟨(some 16), .mov (.t 0), none⟩, 0, []⟩,
        ⟨⟨(some 17), .idxs (.t 16) (.c (.p (.int .i64 3))), none⟩, 0, []⟩,
        ⟨⟨(some 18), .cint .u64 (.t 17), none⟩, 0, []⟩,
        ⟨⟨(some 19), .bin .shl (.t 18) (.c (.p (.int .u64 24))), none⟩, 0, []⟩,
        ⟨⟨(some 20), .bin .or (.t 15) (.t 19), none⟩, 0, []⟩,
        ⟨⟨(some 2), .mov (.t 20), none⟩, 0, []⟩])
      .ret)
      .skip)
    (.seq (.rgd [⟨⟨(some 21), .mov (.t 0), none⟩, 0, []⟩,
      ⟨⟨(some 22), .idxs (.t 21) (.c (.p (.int .i64 0))), none⟩, 0, []⟩,
      ⟨⟨(some 23), .cint .u64 (.t 22), none⟩, 0, []⟩,
      ⟨⟨(some 24), .mov (.t 0), none⟩, 0, []⟩,
      ⟨⟨(some 25), .idxs (.t 24) (.c (.p (.int .i64 1))), none⟩, 0, []⟩,
      ⟨⟨(some 26), .cint .u64 (.t 25), none⟩, 0, []⟩,
      ⟨⟨(some 27), .bin .shl (.t 26) (.c (.p (.int .u64 8))), none⟩, 0, []⟩,
      ⟨⟨(some 28), .bin .or (.t 23) (.t 27), none⟩, 0, []⟩,
      ⟨⟨(some 29), .mov (.t 0), none⟩, 0, []⟩,
      ⟨⟨(some 30), .idxs (.t 29) (.c (.p (.int .i64 2))), none⟩, 0, []⟩,
      ⟨⟨(some 31), .cint .u64 (.t 30), none⟩, 0, []⟩,
      ⟨⟨(some 32), .bin .shl (.t 31) (.c (.p (.int .u64 16))), none⟩, 0, []⟩,
      ⟨⟨(some 33), .bin .or (.t 28) (.t 32), none⟩, 0, []⟩,
      ⟨⟨(some 34), .mov (.t 0), none⟩, 0, []⟩,
      ⟨⟨(some 35), .idxs (.t 34) (.c (.p (.int .i64 3))), none⟩, 0, []⟩,
      ⟨⟨(some 36), .cint .u64 (.t 35), none⟩, 0, []⟩,
      ⟨⟨(some 37), .bin .shl (.t 36) (.c (.p (.int .u64 24))), none⟩, 0, []⟩,
      ⟨⟨(some 38), .bin .or (.t 33) (.t 37), none⟩, 0, []⟩,
      ⟨⟨(some 39), .mov (.t 0), none⟩, 0, []⟩,
      ⟨⟨(some 40), .idxs (.t 39) (.c (.p (.int .i64 4))), none⟩, 0, []⟩,
      ⟨⟨(some 41), .cint .u64 (.t 40), none⟩, 0, []⟩,
      ⟨⟨(some 42), .bin .shl (.t 41) (.c (.p (.int .u64 32))), none⟩, 0, []⟩,
      ⟨⟨(some 43), .bin .or (.t 38) (.t 42), none⟩, 0, []⟩,
      ⟨⟨(some 44), .mov (.t 0), none⟩, 0, []⟩,
      ⟨⟨(some 45), .idxs (.t 44) (.c (.p (.int .i64 5))), none⟩, 0, []⟩,
      ⟨⟨(some 46), .cint .u64 (.t 45), none⟩, 0, []⟩,
      ⟨⟨(some 47), .bin .shl (.t 46) (.c (.p (.int .u64 40))), none⟩, 0, []⟩,
      ⟨⟨(some 48), .bin .or (.t 43) (.t 47), none⟩, 0, []⟩,
      ⟨⟨(some 49), .mov (.t 0), none⟩, 0, []⟩,
      ⟨⟨(some 50), .idxs (.t 49) (.c (.p (.int .i64 6))), none⟩, 0, []⟩,
      ⟨⟨(some 51), .cint .u64 (.t 50), none⟩, 0, []⟩,
      ⟨⟨(some 52), .bin .shl (.t 51) (.c (.p (.int .u64 48))), none⟩, 0, []⟩,
      ⟨⟨(some 53), .bin .or (.t 48) (.t 52), none⟩, 0, []⟩,
      ⟨⟨(some 54), .mov (.t 0), none⟩, 0, []⟩,
      ⟨⟨(some 55), .idxs (.t 54) (.c (.p (.int .i64 7))), none⟩, 0, []⟩,
      ⟨⟨(some 56), .cint .u64 (.t 55), none⟩, 0, []⟩,
      ⟨⟨(some 57), .bin .shl (.t 56) (.c (.p (.int .u64 56))), none⟩, 0, []⟩,
      ⟨⟨(some 58), .bin .or (.t 53) (.t 57), none⟩, 0, []⟩,
      ⟨⟨(some 2), .mov (.t 58), none⟩, 0, []⟩])
    .ret)))
def r17 : List DR := [.tmp 2]
theorem c17_ok : Tryd.f17.body.bind (cCode Tryd.prog) = some c17 := by kernel_rfl
theorem r17_ok : cRes Tryd.prog Tryd.f17.results.toList = some r17 := by kernel_rfl

/-- errors.New -/
def c18 : DC :=
  (.seq (.rg [⟨(some 2), .mov (.c (.p .nilIface)), none⟩])
    (.seq (.rg [⟨(some 3), .mov (.t 0), none⟩,
      ⟨(some 4), .bld [.p (.string ⟨#[]⟩)] [(0, 1, (.t 3))], none⟩,
      ⟨(some 5), .box (.t 4), none⟩,
      ⟨(some 6), .ifc 45 (.t 5), none⟩,
      ⟨(some 2), .mov (.t 6), none⟩])
    .ret))
def r18 : List DR := [.tmp 2]
theorem c18_ok : Tryd.f18.body.bind (cCode Tryd.prog) = some c18 := by kernel_rfl
theorem r18_ok : cRes Tryd.prog Tryd.f18.results.toList = some r18 := by kernel_rfl

end Go.Proofs.YtbbafeocmchlnaaDoor
