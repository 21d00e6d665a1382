/- The codes of the functions, in the small language of Den. -/
import Derived.Test.YtdgnjngbheecnaaLibE
import Derived.Test.YtdgnjngbheecnaaProg
set_option linter.unusedVariables false
set_option linter.unusedSimpArgs false
set_option maxRecDepth 100000
namespace Go.Proofs.Ytdgnjngbheecnaa
open Go Go.Den Go.Proofs

/-- given.example/pub-assaymark/laws.FnIp -/
def c4 : DC :=
  (.seq (.rg [⟨(some 2), .mov (.c (.p (.bool false))), none⟩])
    (.seq (.seq (.rg [⟨(some 5), .mov (.t 0), none⟩,
      ⟨(some 6), .lens (.t 5), none⟩,
      ⟨(some 7), .bin .gtr (.t 6) (.c (.p (.int .i64 2147483647))), none⟩])
    (.cond (.t 7) (.seq (.rg [⟨(some 2), .mov (.c (.p (.bool true))), none⟩])
      .ret)
      .skip))
    (.seq (.rg [⟨(some 9), .mov (.t 0), none⟩,
      ⟨(some 10), .callr 16 [(.t 9)], none⟩,
      ⟨(some 8), .mov (.t 10), none⟩,
      ⟨(some 11), .ext (.t 8) 0, none⟩,
      ⟨(some 12), .ext (.t 8) 1, none⟩,
      ⟨(some 3), .mov (.t 11), none⟩,
      ⟨(some 4), .mov (.t 12), none⟩])
    (.seq (.rg [⟨(some 13), .mov (.t 4), none⟩,
      ⟨(some 14), .un .not (.t 13), none⟩,
      ⟨(some 15), .mov (.t 14), none⟩,
      ⟨(some 16), .mov (.t 0), (some (15, false))⟩,
      ⟨(some 17), .callr 17 [(.t 16)], (some (15, false))⟩,
      ⟨(some 18), .mov (.t 3), (some (15, false))⟩,
      ⟨(some 19), .eqb false (.t 17) (.t 18), (some (15, false))⟩,
      ⟨(some 20), .pick (.t 15) (.c (.p (.bool true))) (.t 19), none⟩,
      ⟨(some 21), .mov (.t 20), none⟩,
      ⟨(some 22), .callr 17 [(.c (.p (.string ⟨#[58, 58, 49]⟩)))], (some (21, true))⟩,
      ⟨(some 23), .pick (.t 21) (.t 22) (.c (.p (.bool false))), none⟩,
      ⟨(some 24), .mov (.t 23), none⟩,
      ⟨(some 25), .callr 17 [(.c (.p (.string ⟨#[120]⟩)))], (some (24, true))⟩,
      ⟨(some 26), .un .not (.t 25), (some (24, true))⟩,
      ⟨(some 27), .pick (.t 24) (.t 26) (.c (.p (.bool false))), none⟩,
      ⟨(some 2), .mov (.t 27), none⟩])
    .ret))))
def r4 : List DR := [.tmp 2]
theorem c4_ok : Try.f4.body.bind (cCode Try.prog) = some c4 := by kernel_rfl
theorem r4_ok : cRes Try.prog Try.f4.results.toList = some r4 := by kernel_rfl

/-- given.example/pub-assaymark/spec.IpRef -/
def c16 : DC :=
  (.seq (.rg [⟨(some 2), .mov (.c (.p (.bool false))), none⟩,
      ⟨(some 3), .mov (.c (.p (.bool false))), none⟩])
    (.seq (.seq (.rg [⟨(some 10), .mov (.t 0), none⟩,
      ⟨(some 11), .callr 40 [(.t 10), (.c (.p (.string ⟨#[58]⟩)))], none⟩,
      ⟨(some 12), .un .not (.t 11), none⟩])
    (.cond (.t 12) (.seq (.rg [⟨(some 13), .mov (.t 0), none⟩,
        ⟨(some 14), .callr 41 [(.t 13)], none⟩,
        ⟨(some 15), .ext (.t 14) 0, none⟩,
        ⟨(some 16), .ext (.t 14) 1, none⟩,
        ⟨(some 2), .mov (.t 15), none⟩,
        ⟨(some 3), .mov (.t 16), none⟩])
      .ret)
      .skip))
    (.seq (.seq (.rg [⟨(some 4), .mov (.c (.p (.int .i64 0))), none⟩])
    (.block 0 (.loop (.seq (.seq (.rg [⟨(some 17), .mov (.t 4), none⟩,
        ⟨(some 18), .bin .add (.t 17) (.c (.p (.int .i64 2))), none⟩,
        ⟨(some 19), .mov (.t 0), none⟩,
        ⟨(some 20), .lens (.t 19), none⟩,
        ⟨(some 21), .bin .leq (.t 18) (.t 20), none⟩])
      (.cond (.t 21) .skip
        (.exit 0)))
      (.seq (.block 1 (.seq (.seq (.rg [⟨(some 24), .mov (.t 0), none⟩,
         ⟨(some 25), .mov (.t 4), none⟩,
         ⟨(some 26), .mov (.t 4), none⟩,
         ⟨(some 27), .bin .add (.t 26) (.c (.p (.int .i64 2))), none⟩,
         ⟨(some 28), .slcs (.t 24) (some (.t 25)) (some (.t 27)), none⟩,
         ⟨(some 29), .bin .neq (.t 28) (.c (.p (.string ⟨#[58, 58]⟩))), none⟩])
       (.cond (.t 29) (.exit 1)
         .skip))
       (.seq (.rg [⟨(some 31), .mov (.t 0), none⟩,
         ⟨(some 32), .mov (.t 4), none⟩,
         ⟨(some 33), .slcs (.t 31) none (some (.t 32)), none⟩,
         ⟨(some 34), .callr 42 [(.t 33), (.c (.p (.bool false)))], none⟩,
         ⟨(some 30), .mov (.t 34), none⟩,
         ⟨(some 35), .ext (.t 30) 0, none⟩,
         ⟨(some 36), .ext (.t 30) 1, none⟩,
         ⟨(some 5), .mov (.t 35), none⟩,
         ⟨(some 6), .mov (.t 36), none⟩])
       (.seq (.rg [⟨(some 38), .mov (.t 0), none⟩,
         ⟨(some 39), .mov (.t 4), none⟩,
         ⟨(some 40), .bin .add (.t 39) (.c (.p (.int .i64 2))), none⟩,
         ⟨(some 41), .slcs (.t 38) (some (.t 40)) none, none⟩,
         ⟨(some 42), .callr 42 [(.t 41), (.c (.p (.bool true)))], none⟩,
         ⟨(some 37), .mov (.t 42), none⟩,
         ⟨(some 43), .ext (.t 37) 0, none⟩,
         ⟨(some 44), .ext (.t 37) 1, none⟩,
         ⟨(some 7), .mov (.t 43), none⟩,
         ⟨(some 8), .mov (.t 44), none⟩])
       (.seq (.rg [⟨(some 45), .mov (.t 5), none⟩,
         ⟨(some 46), .bin .geq (.t 45) (.c (.p (.int .i64 0))), none⟩,
         ⟨(some 47), .mov (.t 46), none⟩,
         ⟨(some 48), .mov (.t 7), (some (47, true))⟩,
         ⟨(some 49), .bin .geq (.t 48) (.c (.p (.int .i64 0))), (some (47, true))⟩,
         ⟨(some 50), .pick (.t 47) (.t 49) (.c (.p (.bool false))), none⟩,
         ⟨(some 51), .mov (.t 50), none⟩,
         ⟨(some 52), .mov (.t 5), (some (51, true))⟩,
         ⟨(some 53), .mov (.t 7), (some (51, true))⟩,
         ⟨(some 54), .bin .add (.t 52) (.t 53), (some (51, true))⟩,
         ⟨(some 55), .bin .lss (.t 54) (.c (.p (.int .i64 8))), (some (51, true))⟩,
         ⟨(some 56), .pick (.t 51) (.t 55) (.c (.p (.bool false))), none⟩,
         ⟨(some 57), .mov (.t 6), none⟩,
         ⟨(some 58), .mov (.t 57), none⟩,
         ⟨(some 59), .mov (.t 8), (some (58, true))⟩,
         ⟨(some 60), .pick (.t 58) (.t 59) (.c (.p (.bool false))), none⟩,
         ⟨(some 2), .mov (.t 56), none⟩,
         ⟨(some 3), .mov (.t 60), none⟩])
       .ret)))))
      (.rg [⟨(some 22), .mov (.t 4), none⟩,
        ⟨(some 23), .bin .add (.t 22) (.c (.p (.int .i64 1))), none⟩,
        ⟨(some 4), .mov (.t 23), none⟩]))))))
    (.seq (.rg [⟨(some 62), .mov (.t 0), none⟩,
      ⟨(some 63), .callr 42 [(.t 62), (.c (.p (.bool true)))], none⟩,
      ⟨(some 61), .mov (.t 63), none⟩,
      ⟨(some 64), .ext (.t 61) 0, none⟩,
      ⟨(some 65), .ext (.t 61) 1, none⟩,
      ⟨(some 9), .mov (.t 64), none⟩,
      ⟨(some 3), .mov (.t 65), none⟩])
    (.seq (.rg [⟨(some 66), .mov (.t 9), none⟩,
      ⟨(some 67), .bin .eql (.t 66) (.c (.p (.int .i64 8))), none⟩,
      ⟨(some 68), .mov (.t 3), none⟩,
      ⟨(some 2), .mov (.t 67), none⟩,
      ⟨(some 3), .mov (.t 68), none⟩])
    .ret)))))
def r16 : List DR := [.tmp 2, .tmp 3]
theorem c16_ok : Try.f16.body.bind (cCode Try.prog) = some c16 := by kernel_rfl
theorem r16_ok : cRes Try.prog Try.f16.results.toList = some r16 := by kernel_rfl

/-- given.example/pub-assaymark/impl.IpOk -/
def c17 : DC :=
  (.seq (.rg [⟨(some 2), .mov (.c (.p (.bool false))), none⟩])
    (.seq (.rg [⟨(some 3), .mov (.t 0), none⟩,
      ⟨(some 4), .callr 43 [(.t 3)], none⟩,
      ⟨(some 2), .mov (.t 4), none⟩])
    .ret))
def r17 : List DR := [.tmp 2]
theorem c17_ok : Try.f17.body.bind (cCode Try.prog) = some c17 := by kernel_rfl
theorem r17_ok : cRes Try.prog Try.f17.results.toList = some r17 := by kernel_rfl

/-- given.example/pub-assaymark/spec.within -/
def c40 : DC :=
  (.seq (.rg [⟨(some 4), .mov (.c (.p (.bool false))), none⟩])
    (.seq (.seq (.rg [⟨(some 5), .mov (.c (.p (.int .i64 0))), none⟩])
    (.block 0 (.loop (.seq (.seq (.rg [⟨(some 6), .mov (.t 5), none⟩,
        ⟨(some 7), .mov (.t 1), none⟩,
        ⟨(some 8), .lens (.t 7), none⟩,
        ⟨(some 9), .bin .add (.t 6) (.t 8), none⟩,
        ⟨(some 10), .mov (.t 0), none⟩,
        ⟨(some 11), .lens (.t 10), none⟩,
        ⟨(some 12), .bin .leq (.t 9) (.t 11), none⟩])
      (.cond (.t 12) .skip
        (.exit 0)))
      (.seq (.block 1 (.seq (.rg [⟨(some 15), .mov (.t 0), none⟩,
         ⟨(some 16), .mov (.t 5), none⟩,
         ⟨(some 17), .mov (.t 5), none⟩,
         ⟨(some 18), .mov (.t 1), none⟩,
         ⟨(some 19), .lens (.t 18), none⟩,
         ⟨(some 20), .bin .add (.t 17) (.t 19), none⟩,
         ⟨(some 21), .slcs (.t 15) (some (.t 16)) (some (.t 20)), none⟩,
         ⟨(some 22), .mov (.t 1), none⟩,
         ⟨(some 23), .bin .eql (.t 21) (.t 22), none⟩])
       (.cond (.t 23) (.seq (.rg [⟨(some 4), .mov (.c (.p (.bool true))), none⟩])
         .ret)
         .skip)))
      (.rg [⟨(some 13), .mov (.t 5), none⟩,
        ⟨(some 14), .bin .add (.t 13) (.c (.p (.int .i64 1))), none⟩,
        ⟨(some 5), .mov (.t 14), none⟩]))))))
    (.seq (.rg [⟨(some 4), .mov (.c (.p (.bool false))), none⟩])
    .ret)))
def r40 : List DR := [.tmp 4]
theorem c40_ok : Try.f40.body.bind (cCode Try.prog) = some c40 := by kernel_rfl
theorem r40_ok : cRes Try.prog Try.f40.results.toList = some r40 := by kernel_rfl

/-- given.example/pub-assaymark/spec.four -/
def c41 : DC :=
  (.seq (.rg [⟨(some 2), .mov (.c (.p (.bool false))), none⟩,
      ⟨(some 3), .mov (.c (.p (.bool false))), none⟩])
    (.seq (.rg [⟨(some 7), .mov (.t 0), none⟩,
      ⟨(some 8), .callr 101 [(.t 7), (.c (.p (.int .u8 46)))], none⟩,
      ⟨(some 4), .mov (.t 8), none⟩])
    (.seq (.rg [⟨(some 3), .mov (.c (.p (.bool true))), none⟩])
    (.seq (.seq (.rg [⟨(some 9), .mov (.t 4), none⟩,
      ⟨(some 10), .lenl (.t 9), none⟩,
      ⟨(some 11), .mov (.c (.p (.int .i64 0))), none⟩])
    (.block 0 (.loop (.seq (.rg [⟨(some 12), .bin .lss (.t 11) (.t 10), none⟩])
      (.seq (.cond (.t 12) .skip
        (.exit 0))
      (.seq (.block 1 (.seq (.rg [⟨(some 13), .iaddr 1 (.t 9) (.t 11), none⟩,
         ⟨(some 14), .load false 1 (.t 13), none⟩,
         ⟨(some 6), .mov (.t 14), none⟩])
       (.seq (.seq (.rg [⟨(some 15), .mov (.t 6), none⟩,
         ⟨(some 16), .callr 102 [(.t 15)], none⟩,
         ⟨(some 17), .un .not (.t 16), none⟩,
         ⟨(some 18), .mov (.t 17), none⟩,
         ⟨(some 19), .mov (.t 6), (some (18, false))⟩,
         ⟨(some 20), .lens (.t 19), (some (18, false))⟩,
         ⟨(some 21), .bin .gtr (.t 20) (.c (.p (.int .i64 3))), (some (18, false))⟩,
         ⟨(some 22), .pick (.t 18) (.c (.p (.bool true))) (.t 21), none⟩,
         ⟨(some 23), .mov (.t 22), none⟩,
         ⟨(some 24), .mov (.t 6), (some (23, false))⟩,
         ⟨(some 25), .bin .gtr (.t 24) (.c (.p (.string ⟨#[50, 53, 53]⟩))), (some (23, false))⟩,
         ⟨(some 26), .mov (.t 25), (some (23, false))⟩,
         ⟨(some 27), .mov (.t 6), (some (26, true))⟩,
         ⟨(some 28), .lens (.t 27), (some (26, true))⟩,
         ⟨(some 29), .bin .eql (.t 28) (.c (.p (.int .i64 3))), (some (26, true))⟩,
         ⟨(some 30), .pick (.t 26) (.t 29) (.c (.p (.bool false))), (some (23, false))⟩,
         ⟨(some 31), .pick (.t 23) (.c (.p (.bool true))) (.t 30), none⟩])
       (.cond (.t 31) (.seq (.rgd [⟨⟨(some 32), .mov (.t 6), none⟩, 0, []⟩,
           ⟨⟨(some 33), .call 102 [(.t 32)], none⟩, 0, []⟩,
           ⟨⟨(some 34), .un .not (.t 33), none⟩, 1, []⟩,
           ⟨⟨(some 35), .mov (.t 34), none⟩, 1, []⟩,
           ⟨⟨(some 36), .mov (.t 6), (some (35, false))⟩, 1, []⟩,
           ⟨⟨(some 37), .idxs (.t 36) (.c (.p (.int .i64 0))), (some (35, false))⟩, 1, []⟩,
           ⟨⟨(some 38), .bin .neq (.t 37) (.c (.p (.int .u8 48))), (some (35, false))⟩, 1, []⟩,
           ⟨⟨(some 39), .pick (.t 35) (.c (.p (.bool true))) (.t 38), none⟩, 1, []⟩,
           ⟨⟨(some 2), .mov (.c (.p (.bool false))), none⟩, 1, []⟩,
           ⟨⟨(some 3), .mov (.t 39), none⟩, 1, []⟩])
         .ret)
         .skip))
       (.rg [⟨(some 40), .mov (.t 3), none⟩,
         ⟨(some 41), .mov (.t 40), none⟩,
         ⟨(some 42), .mov (.t 6), (some (41, true))⟩,
         ⟨(some 43), .lens (.t 42), (some (41, true))⟩,
         ⟨(some 44), .bin .eql (.t 43) (.c (.p (.int .i64 1))), (some (41, true))⟩,
         ⟨(some 45), .mov (.t 44), (some (41, true))⟩,
         ⟨(some 46), .mov (.t 6), (some (45, false))⟩,
         ⟨(some 47), .idxs (.t 46) (.c (.p (.int .i64 0))), (some (45, false))⟩,
         ⟨(some 48), .bin .neq (.t 47) (.c (.p (.int .u8 48))), (some (45, false))⟩,
         ⟨(some 49), .pick (.t 45) (.c (.p (.bool true))) (.t 48), (some (41, true))⟩,
         ⟨(some 50), .pick (.t 41) (.t 49) (.c (.p (.bool false))), none⟩,
         ⟨(some 3), .mov (.t 50), none⟩]))))
      (.rg [⟨(some 51), .bin .add (.t 11) (.c (.p (.int .i64 1))), none⟩,
        ⟨(some 11), .mov (.t 51), none⟩])))))))
    (.seq (.rg [⟨(some 52), .mov (.t 4), none⟩,
      ⟨(some 53), .lenl (.t 52), none⟩,
      ⟨(some 54), .bin .eql (.t 53) (.c (.p (.int .i64 4))), none⟩,
      ⟨(some 55), .mov (.t 3), none⟩,
      ⟨(some 2), .mov (.t 54), none⟩,
      ⟨(some 3), .mov (.t 55), none⟩])
    .ret)))))
def r41 : List DR := [.tmp 2, .tmp 3]
theorem c41_ok : Try.f41.body.bind (cCode Try.prog) = some c41 := by kernel_rfl
theorem r41_ok : cRes Try.prog Try.f41.results.toList = some r41 := by kernel_rfl

/-- given.example/pub-assaymark/spec.groups -/
def c42 : DC :=
  (.seq (.rg [⟨(some 4), .mov (.c (.p (.int .i64 0))), none⟩,
      ⟨(some 5), .mov (.c (.p (.bool false))), none⟩])
    (.seq (.seq (.rg [⟨(some 11), .mov (.t 0), none⟩,
      ⟨(some 12), .bin .eql (.t 11) (.c (.p (.string ⟨#[]⟩))), none⟩])
    (.cond (.t 12) (.seq (.rg [⟨(some 4), .mov (.c (.p (.int .i64 0))), none⟩,
        ⟨(some 5), .mov (.c (.p (.bool true))), none⟩])
      .ret)
      .skip))
    (.seq (.rg [⟨(some 13), .mov (.t 0), none⟩,
      ⟨(some 14), .callr 101 [(.t 13), (.c (.p (.int .u8 58)))], none⟩,
      ⟨(some 6), .mov (.t 14), none⟩])
    (.seq (.seq (.rg [⟨(some 15), .mov (.t 6), none⟩,
      ⟨(some 16), .lenl (.t 15), none⟩,
      ⟨(some 17), .mov (.c (.p (.int .i64 0))), none⟩])
    (.block 0 (.loop (.seq (.rg [⟨(some 18), .bin .lss (.t 17) (.t 16), none⟩])
      (.seq (.cond (.t 18) .skip
        (.exit 0))
      (.seq (.block 1 (.seq (.rg [⟨(some 19), .mov (.t 17), none⟩,
         ⟨(some 20), .iaddr 1 (.t 15) (.t 17), none⟩,
         ⟨(some 21), .load false 1 (.t 20), none⟩,
         ⟨(some 7), .mov (.t 19), none⟩,
         ⟨(some 8), .mov (.t 21), none⟩])
       (.seq (.seq (.rg [⟨(some 22), .mov (.t 1), none⟩,
         ⟨(some 23), .mov (.t 22), none⟩,
         ⟨(some 24), .mov (.t 7), (some (23, true))⟩,
         ⟨(some 25), .bin .add (.t 24) (.c (.p (.int .i64 1))), (some (23, true))⟩,
         ⟨(some 26), .mov (.t 6), (some (23, true))⟩,
         ⟨(some 27), .lenl (.t 26), (some (23, true))⟩,
         ⟨(some 28), .bin .eql (.t 25) (.t 27), (some (23, true))⟩,
         ⟨(some 29), .pick (.t 23) (.t 28) (.c (.p (.bool false))), none⟩,
         ⟨(some 30), .mov (.t 29), none⟩,
         ⟨(some 31), .mov (.t 8), (some (30, true))⟩,
         ⟨(some 32), .callr 40 [(.t 31), (.c (.p (.string ⟨#[46]⟩)))], (some (30, true))⟩,
         ⟨(some 33), .pick (.t 30) (.t 32) (.c (.p (.bool false))), none⟩])
       (.cond (.t 33) (.seq (.rg [⟨(some 35), .mov (.t 8), none⟩,
           ⟨(some 36), .callr 41 [(.t 35)], none⟩,
           ⟨(some 34), .mov (.t 36), none⟩,
           ⟨(some 37), .ext (.t 34) 0, none⟩,
           ⟨(some 38), .ext (.t 34) 1, none⟩,
           ⟨(some 9), .mov (.t 37), none⟩,
           ⟨(some 10), .mov (.t 38), none⟩])
         (.seq (.seq (.rg [⟨(some 39), .mov (.t 9), none⟩,
           ⟨(some 40), .un .not (.t 39), none⟩])
         (.cond (.t 40) (.seq (.rg [⟨(some 41), .mov (.t 10), none⟩,
             ⟨(some 4), .mov (.c (.p (.int .i64 (-1)))), none⟩,
             ⟨(some 5), .mov (.t 41), none⟩])
           .ret)
           .skip))
         (.seq (.rg [⟨(some 42), .mov (.t 4), none⟩,
           ⟨(some 43), .bin .add (.t 42) (.c (.p (.int .i64 2))), none⟩,
           ⟨(some 44), .mov (.t 10), none⟩,
           ⟨(some 4), .mov (.t 43), none⟩,
           ⟨(some 5), .mov (.t 44), none⟩])
         .ret)))
         .skip))
       (.seq (.seq (.rg [⟨(some 45), .mov (.t 8), none⟩,
         ⟨(some 46), .callr 103 [(.t 45)], none⟩,
         ⟨(some 47), .un .not (.t 46), none⟩])
       (.cond (.t 47) (.seq (.rg [⟨(some 4), .mov (.c (.p (.int .i64 (-1)))), none⟩,
           ⟨(some 5), .mov (.c (.p (.bool true))), none⟩])
         .ret)
         .skip))
       (.rg [⟨(some 48), .mov (.t 4), none⟩,
         ⟨(some 49), .bin .add (.t 48) (.c (.p (.int .i64 1))), none⟩,
         ⟨(some 4), .mov (.t 49), none⟩])))))
      (.rg [⟨(some 50), .bin .add (.t 17) (.c (.p (.int .i64 1))), none⟩,
        ⟨(some 17), .mov (.t 50), none⟩])))))))
    (.seq (.rg [⟨(some 51), .mov (.t 4), none⟩,
      ⟨(some 4), .mov (.t 51), none⟩,
      ⟨(some 5), .mov (.c (.p (.bool true))), none⟩])
    .ret)))))
def r42 : List DR := [.tmp 4, .tmp 5]
theorem c42_ok : Try.f42.body.bind (cCode Try.prog) = some c42 := by kernel_rfl
theorem r42_ok : cRes Try.prog Try.f42.results.toList = some r42 := by kernel_rfl

/-- given.example/pub-assaymark/pub/miniogo/pkg/s3utils.IsValidIP -/
def c43 : DC :=
  (.seq (.rg [⟨(some 2), .mov (.c (.p (.bool false))), none⟩])
    (.seq (.rg [⟨(some 6), .mov (.t 0), none⟩,
      ⟨(some 7), .callr 104 [(.t 6)], none⟩,
      ⟨(some 5), .mov (.t 7), none⟩,
      ⟨(some 8), .ext (.t 5) 0, none⟩,
      ⟨(some 9), .ext (.t 5) 1, none⟩,
      ⟨(some 3), .alloc 5 (.agg [.p (.int .u64 0), .p (.int .u64 0), .p (.bool false), .p (.bool false), .p (.string ⟨#[]⟩)]), none⟩,
      ⟨none, .store 5 (.t 3) (.t 8), none⟩,
      ⟨(some 4), .mov (.t 9), none⟩])
    (.seq (.rg [⟨(some 10), .mov (.t 4), none⟩,
      ⟨(some 11), .eqn false .iface (.t 10), none⟩,
      ⟨(some 12), .mov (.t 11), none⟩,
      ⟨(some 13), .load true 5 (.t 3), (some (12, true))⟩,
      ⟨(some 14), .callr 105 [(.t 13)], (some (12, true))⟩,
      ⟨(some 15), .bin .eql (.t 14) (.c (.p (.string ⟨#[]⟩))), (some (12, true))⟩,
      ⟨(some 16), .pick (.t 12) (.t 15) (.c (.p (.bool false))), none⟩,
      ⟨(some 2), .mov (.t 16), none⟩])
    .ret)))
def r43 : List DR := [.tmp 2]
theorem c43_ok : Try.f43.body.bind (cCode Try.prog) = some c43 := by kernel_rfl
theorem r43_ok : cRes Try.prog Try.f43.results.toList = some r43 := by kernel_rfl

/-- given.example/pub-assaymark/spec.parted -/
def c101 : DC :=
  (.seq (.rg [⟨(some 4), .mov (.c (.p (.slice none 0 0))), none⟩])
    (.seq (.rg [⟨(some 5), .mov (.c (.p (.slice none 0 0))), none⟩])
    (.seq (.rg [⟨(some 6), .mov (.c (.p (.int .i64 0))), none⟩])
    (.seq (.seq (.rg [⟨(some 8), .mov (.t 0), none⟩,
      ⟨(some 9), .lens (.t 8), none⟩,
      ⟨(some 10), .mov (.c (.p (.int .i64 0))), none⟩])
    (.block 0 (.loop (.seq (.rg [⟨(some 11), .bin .lss (.t 10) (.t 9), none⟩])
      (.seq (.cond (.t 11) .skip
        (.exit 0))
      (.seq (.block 1 (.seq (.rg [⟨(some 12), .mov (.t 10), none⟩,
         ⟨(some 7), .mov (.t 12), none⟩])
       (.seq (.rg [⟨(some 13), .mov (.t 0), none⟩,
         ⟨(some 14), .mov (.t 7), none⟩,
         ⟨(some 15), .idxs (.t 13) (.t 14), none⟩,
         ⟨(some 16), .mov (.t 1), none⟩,
         ⟨(some 17), .bin .eql (.t 15) (.t 16), none⟩])
       (.cond (.t 17) (.rg [⟨(some 18), .mov (.t 5), none⟩,
           ⟨(some 19), .mov (.t 0), none⟩,
           ⟨(some 20), .mov (.t 6), none⟩,
           ⟨(some 21), .mov (.t 7), none⟩,
           ⟨(some 22), .slcs (.t 19) (some (.t 20)) (some (.t 21)), none⟩,
           ⟨(some 23), .lit 1 [(.t 22)], none⟩,
           ⟨(some 24), .app 1 16 (.t 18) (.t 23), none⟩,
           ⟨(some 25), .mov (.t 7), none⟩,
           ⟨(some 26), .bin .add (.t 25) (.c (.p (.int .i64 1))), none⟩,
           ⟨(some 5), .mov (.t 24), none⟩,
           ⟨(some 6), .mov (.t 26), none⟩])
         .skip))))
      (.rg [⟨(some 27), .bin .add (.t 10) (.c (.p (.int .i64 1))), none⟩,
        ⟨(some 10), .mov (.t 27), none⟩])))))))
    (.seq (.rg [⟨(some 28), .mov (.t 5), none⟩,
      ⟨(some 29), .mov (.t 0), none⟩,
      ⟨(some 30), .mov (.t 6), none⟩,
      ⟨(some 31), .slcs (.t 29) (some (.t 30)) none, none⟩,
      ⟨(some 32), .lit 1 [(.t 31)], none⟩,
      ⟨(some 33), .app 1 16 (.t 28) (.t 32), none⟩,
      ⟨(some 4), .mov (.t 33), none⟩])
    .ret)))))
def r101 : List DR := [.tmp 4]
theorem c101_ok : Try.f101.body.bind (cCode Try.prog) = some c101 := by kernel_rfl
theorem r101_ok : cRes Try.prog Try.f101.results.toList = some r101 := by kernel_rfl

/-- given.example/pub-assaymark/spec.digits -/
def c102 : DC :=
  (.seq (.rg [⟨(some 2), .mov (.c (.p (.bool false))), none⟩])
    (.seq (.seq (.rg [⟨(some 4), .mov (.t 0), none⟩,
      ⟨(some 5), .lens (.t 4), none⟩,
      ⟨(some 6), .mov (.c (.p (.int .i64 0))), none⟩])
    (.block 0 (.loop (.seq (.rg [⟨(some 7), .bin .lss (.t 6) (.t 5), none⟩])
      (.seq (.cond (.t 7) .skip
        (.exit 0))
      (.seq (.block 1 (.seq (.rg [⟨(some 8), .mov (.t 6), none⟩,
         ⟨(some 3), .mov (.t 8), none⟩])
       (.seq (.rg [⟨(some 9), .mov (.t 0), none⟩,
         ⟨(some 10), .mov (.t 3), none⟩,
         ⟨(some 11), .idxs (.t 9) (.t 10), none⟩,
         ⟨(some 12), .bin .lss (.t 11) (.c (.p (.int .u8 48))), none⟩,
         ⟨(some 13), .mov (.t 12), none⟩,
         ⟨(some 14), .mov (.t 0), (some (13, false))⟩,
         ⟨(some 15), .mov (.t 3), (some (13, false))⟩,
         ⟨(some 16), .idxs (.t 14) (.t 15), (some (13, false))⟩,
         ⟨(some 17), .bin .gtr (.t 16) (.c (.p (.int .u8 57))), (some (13, false))⟩,
         ⟨(some 18), .pick (.t 13) (.c (.p (.bool true))) (.t 17), none⟩])
       (.cond (.t 18) (.seq (.rg [⟨(some 2), .mov (.c (.p (.bool false))), none⟩])
         .ret)
         .skip))))
      (.rg [⟨(some 19), .bin .add (.t 6) (.c (.p (.int .i64 1))), none⟩,
        ⟨(some 6), .mov (.t 19), none⟩])))))))
    (.seq (.rg [⟨(some 20), .mov (.t 0), none⟩,
      ⟨(some 21), .bin .neq (.t 20) (.c (.p (.string ⟨#[]⟩))), none⟩,
      ⟨(some 2), .mov (.t 21), none⟩])
    .ret)))
def r102 : List DR := [.tmp 2]
theorem c102_ok : Try.f102.body.bind (cCode Try.prog) = some c102 := by kernel_rfl
theorem r102_ok : cRes Try.prog Try.f102.results.toList = some r102 := by kernel_rfl

/-- given.example/pub-assaymark/spec.hexes -/
def c103 : DC :=
  (.seq (.rg [⟨(some 2), .mov (.c (.p (.bool false))), none⟩])
    (.seq (.seq (.rg [⟨(some 5), .mov (.t 0), none⟩,
      ⟨(some 6), .lens (.t 5), none⟩,
      ⟨(some 7), .mov (.c (.p (.int .i64 0))), none⟩])
    (.block 0 (.loop (.seq (.rg [⟨(some 8), .bin .lss (.t 7) (.t 6), none⟩])
      (.seq (.cond (.t 8) .skip
        (.exit 0))
      (.seq (.block 1 (.seq (.rg [⟨(some 9), .mov (.t 7), none⟩,
         ⟨(some 3), .mov (.t 9), none⟩])
       (.seq (.rg [⟨(some 10), .mov (.t 0), none⟩,
         ⟨(some 11), .mov (.t 3), none⟩,
         ⟨(some 12), .idxs (.t 10) (.t 11), none⟩,
         ⟨(some 4), .mov (.t 12), none⟩])
       (.seq (.rg [⟨(some 13), .mov (.t 4), none⟩,
         ⟨(some 14), .bin .geq (.t 13) (.c (.p (.int .u8 48))), none⟩,
         ⟨(some 15), .mov (.t 14), none⟩,
         ⟨(some 16), .mov (.t 4), (some (15, true))⟩,
         ⟨(some 17), .bin .leq (.t 16) (.c (.p (.int .u8 57))), (some (15, true))⟩,
         ⟨(some 18), .pick (.t 15) (.t 17) (.c (.p (.bool false))), none⟩,
         ⟨(some 19), .mov (.t 18), none⟩,
         ⟨(some 20), .mov (.t 4), (some (19, false))⟩,
         ⟨(some 21), .bin .geq (.t 20) (.c (.p (.int .u8 97))), (some (19, false))⟩,
         ⟨(some 22), .mov (.t 21), (some (19, false))⟩,
         ⟨(some 23), .mov (.t 4), (some (22, true))⟩,
         ⟨(some 24), .bin .leq (.t 23) (.c (.p (.int .u8 102))), (some (22, true))⟩,
         ⟨(some 25), .pick (.t 22) (.t 24) (.c (.p (.bool false))), (some (19, false))⟩,
         ⟨(some 26), .pick (.t 19) (.c (.p (.bool true))) (.t 25), none⟩,
         ⟨(some 27), .mov (.t 26), none⟩,
         ⟨(some 28), .mov (.t 4), (some (27, false))⟩,
         ⟨(some 29), .bin .geq (.t 28) (.c (.p (.int .u8 65))), (some (27, false))⟩,
         ⟨(some 30), .mov (.t 29), (some (27, false))⟩,
         ⟨(some 31), .mov (.t 4), (some (30, true))⟩,
         ⟨(some 32), .bin .leq (.t 31) (.c (.p (.int .u8 70))), (some (30, true))⟩,
         ⟨(some 33), .pick (.t 30) (.t 32) (.c (.p (.bool false))), (some (27, false))⟩,
         ⟨(some 34), .pick (.t 27) (.c (.p (.bool true))) (.t 33), none⟩,
         ⟨(some 35), .un .not (.t 34), none⟩])
       (.cond (.t 35) (.seq (.rg [⟨(some 2), .mov (.c (.p (.bool false))), none⟩])
         .ret)
         .skip)))))
      (.rg [⟨(some 36), .bin .add (.t 7) (.c (.p (.int .i64 1))), none⟩,
        ⟨(some 7), .mov (.t 36), none⟩])))))))
    (.seq (.rg [⟨(some 37), .mov (.t 0), none⟩,
      ⟨(some 38), .lens (.t 37), none⟩,
      ⟨(some 39), .bin .geq (.t 38) (.c (.p (.int .i64 1))), none⟩,
      ⟨(some 40), .mov (.t 39), none⟩,
      ⟨(some 41), .mov (.t 0), (some (40, true))⟩,
      ⟨(some 42), .lens (.t 41), (some (40, true))⟩,
      ⟨(some 43), .bin .leq (.t 42) (.c (.p (.int .i64 4))), (some (40, true))⟩,
      ⟨(some 44), .pick (.t 40) (.t 43) (.c (.p (.bool false))), none⟩,
      ⟨(some 2), .mov (.t 44), none⟩])
    .ret)))
def r103 : List DR := [.tmp 2]
theorem c103_ok : Try.f103.body.bind (cCode Try.prog) = some c103 := by kernel_rfl
theorem r103_ok : cRes Try.prog Try.f103.results.toList = some r103 := by kernel_rfl

/-- given.example/pub-assaymark/pub/netip.ParseAddr -/
def c104 : DC :=
  (.seq (.rg [⟨(some 2), .alloc 5 (.agg [.p (.int .u64 0), .p (.int .u64 0), .p (.bool false), .p (.bool false), .p (.string ⟨#[]⟩)]), none⟩,
      ⟨(some 3), .mov (.c (.p .nilIface)), none⟩])
    (.seq (.seq (.rg [⟨(some 4), .mov (.c (.p (.int .i64 0))), none⟩])
    (.block 0 (.loop (.seq (.seq (.rg [⟨(some 5), .mov (.t 4), none⟩,
        ⟨(some 6), .mov (.t 0), none⟩,
        ⟨(some 7), .lens (.t 6), none⟩,
        ⟨(some 8), .bin .lss (.t 5) (.t 7), none⟩])
      (.cond (.t 8) .skip
        (.exit 0)))
      (.seq (.block 1 (.seq (.rg [⟨(some 11), .mov (.t 0), none⟩,
         ⟨(some 12), .mov (.t 4), none⟩,
         ⟨(some 13), .idxs (.t 11) (.t 12), none⟩])
       (.block 2 (.seq (.rg [⟨(some 15), .bin .eql (.t 13) (.c (.p (.int .u8 46))), none⟩,
          ⟨(some 14), .mov (.t 15), none⟩])
        (.cond (.t 14) (.seq (.rg [⟨(some 16), .mov (.t 0), none⟩,
            ⟨(some 17), .callr 129 [(.t 16)], none⟩,
            ⟨(some 18), .ext (.t 17) 0, none⟩,
            ⟨(some 19), .ext (.t 17) 1, none⟩,
            ⟨none, .store 5 (.t 2) (.t 18), none⟩,
            ⟨(some 3), .mov (.t 19), none⟩])
          .ret)
          (.seq (.rg [⟨(some 21), .bin .eql (.t 13) (.c (.p (.int .u8 58))), none⟩,
            ⟨(some 20), .mov (.t 21), none⟩])
          (.cond (.t 20) (.seq (.rg [⟨(some 22), .mov (.t 0), none⟩,
              ⟨(some 23), .callr 130 [(.t 22)], none⟩,
              ⟨(some 24), .ext (.t 23) 0, none⟩,
              ⟨(some 25), .ext (.t 23) 1, none⟩,
              ⟨none, .store 5 (.t 2) (.t 24), none⟩,
              ⟨(some 3), .mov (.t 25), none⟩])
            .ret)
            (.seq (.rg [⟨(some 27), .bin .eql (.t 13) (.c (.p (.int .u8 37))), none⟩,
              ⟨(some 26), .mov (.t 27), none⟩])
            (.cond (.t 26) (.seq (.rg [⟨(some 28), .bld [.p (.int .u64 0), .p (.int .u64 0), .p (.bool false), .p (.bool false), .p (.string ⟨#[]⟩)] [], none⟩,
                ⟨(some 29), .mov (.t 0), none⟩,
                ⟨(some 30), .bld [.p (.string ⟨#[]⟩), .p (.string ⟨#[]⟩), .p (.string ⟨#[]⟩)] [(0, 1, (.t 29)), (1, 1, (.c (.p (.string ⟨#[109, 105, 115, 115, 105, 110, 103, 32, 73, 80, 118, 54, 32, 97, 100, 100, 114, 101, 115, 115]⟩))))], none⟩,
                ⟨(some 31), .ifc 160 (.t 30), none⟩,
                ⟨none, .store 5 (.t 2) (.t 28), none⟩,
                ⟨(some 3), .mov (.t 31), none⟩])
              .ret)
              .skip)))))))))
      (.rg [⟨(some 9), .mov (.t 4), none⟩,
        ⟨(some 10), .bin .add (.t 9) (.c (.p (.int .i64 1))), none⟩,
        ⟨(some 4), .mov (.t 10), none⟩]))))))
    (.seq (.rg [⟨(some 32), .bld [.p (.int .u64 0), .p (.int .u64 0), .p (.bool false), .p (.bool false), .p (.string ⟨#[]⟩)] [], none⟩,
      ⟨(some 33), .mov (.t 0), none⟩,
      ⟨(some 34), .bld [.p (.string ⟨#[]⟩), .p (.string ⟨#[]⟩), .p (.string ⟨#[]⟩)] [(0, 1, (.t 33)), (1, 1, (.c (.p (.string ⟨#[117, 110, 97, 98, 108, 101, 32, 116, 111, 32, 112, 97, 114, 115, 101, 32, 73, 80]⟩))))], none⟩,
      ⟨(some 35), .ifc 160 (.t 34), none⟩,
      ⟨none, .store 5 (.t 2) (.t 32), none⟩,
      ⟨(some 3), .mov (.t 35), none⟩])
    .ret)))
def r104 : List DR := [.cell 2 true 5, .tmp 3]
theorem c104_ok : Try.f104.body.bind (cCode Try.prog) = some c104 := by kernel_rfl
theorem r104_ok : cRes Try.prog Try.f104.results.toList = some r104 := by kernel_rfl

/-- (given.example/pub-assaymark/pub/netip.Addr).Zone -/
def c105 : DC :=
  (.seq (.rg [⟨(some 1), .box (.t 0), none⟩,
      ⟨(some 2), .mov (.c (.p (.string ⟨#[]⟩))), none⟩])
    (.seq (.seq (.rgd [⟨⟨(some 3), .faddr true 2 3 (.t 1), none⟩, 0, [0]⟩,
      ⟨⟨(some 4), .load true 3 (.t 3), none⟩, 0, [0]⟩,
      ⟨⟨(some 5), .call 131 [], none⟩, 0, [0]⟩,
      ⟨⟨(some 6), .eqs false [.bool, .bool, .str] (.t 4) (.t 5), none⟩, 1, []⟩])
    (.cond (.t 6) (.seq (.rg [⟨(some 2), .mov (.c (.p (.string ⟨#[]⟩))), none⟩])
      .ret)
      .skip))
    (.seq (.rg [⟨(some 7), .faddr true 2 3 (.t 1), none⟩,
      ⟨(some 8), .load true 3 (.t 7), none⟩,
      ⟨(some 9), .callr 132 [(.t 8)], none⟩,
      ⟨(some 10), .fld 1 1 false (.t 9), none⟩,
      ⟨(some 2), .mov (.t 10), none⟩])
    .ret)))
def r105 : List DR := [.tmp 2]
theorem c105_ok : Try.f105.body.bind (cCode Try.prog) = some c105 := by kernel_rfl
theorem r105_ok : cRes Try.prog Try.f105.results.toList = some r105 := by kernel_rfl

/-- given.example/pub-assaymark/pub/netip.parseIPv4 -/
def c129 : DC :=
  (.seq (.rg [⟨(some 2), .alloc 5 (.agg [.p (.int .u64 0), .p (.int .u64 0), .p (.bool false), .p (.bool false), .p (.string ⟨#[]⟩)]), none⟩,
      ⟨(some 3), .mov (.c (.p .nilIface)), none⟩])
    (.seq (.rg [⟨(some 4), .alloc 4 (.agg [.p (.int .u8 0), .p (.int .u8 0), .p (.int .u8 0), .p (.int .u8 0)]), none⟩])
    (.seq (.rg [⟨(some 5), .mov (.t 0), none⟩,
      ⟨(some 6), .mov (.t 0), none⟩,
      ⟨(some 7), .lens (.t 6), none⟩,
      ⟨(some 8), .slca 4 1 false (.t 4) none none, none⟩,
      ⟨(some 9), .callr 144 [(.t 5), (.c (.p (.int .i64 0))), (.t 7), (.t 8)], none⟩,
      ⟨(some 3), .mov (.t 9), none⟩])
    (.seq (.seq (.rg [⟨(some 10), .mov (.t 3), none⟩,
      ⟨(some 11), .eqn true .iface (.t 10), none⟩])
    (.cond (.t 11) (.seq (.rg [⟨(some 12), .bld [.p (.int .u64 0), .p (.int .u64 0), .p (.bool false), .p (.bool false), .p (.string ⟨#[]⟩)] [], none⟩,
        ⟨(some 13), .mov (.t 3), none⟩,
        ⟨none, .store 5 (.t 2) (.t 12), none⟩,
        ⟨(some 3), .mov (.t 13), none⟩])
      .ret)
      .skip))
    (.seq (.rg [⟨(some 14), .load true 4 (.t 4), none⟩,
      ⟨(some 15), .callr 145 [(.t 14)], none⟩,
      ⟨none, .store 5 (.t 2) (.t 15), none⟩,
      ⟨(some 3), .mov (.c (.p .nilIface)), none⟩])
    .ret)))))
def r129 : List DR := [.cell 2 true 5, .tmp 3]
theorem c129_ok : Try.f129.body.bind (cCode Try.prog) = some c129 := by kernel_rfl
theorem r129_ok : cRes Try.prog Try.f129.results.toList = some r129 := by kernel_rfl

/-- given.example/pub-assaymark/pub/netip.parseIPv6 -/
def c130 : DC :=
  (.seq (.rg [⟨(some 2), .alloc 5 (.agg [.p (.int .u64 0), .p (.int .u64 0), .p (.bool false), .p (.bool false), .p (.string ⟨#[]⟩)]), none⟩,
      ⟨(some 3), .mov (.c (.p .nilIface)), none⟩])
    (.seq (.rg [⟨(some 16), .mov (.t 0), none⟩,
      ⟨(some 4), .mov (.t 16), none⟩])
    (.seq (.rg [⟨(some 5), .mov (.c (.p (.string ⟨#[]⟩))), none⟩])
    (.seq (.rg [⟨(some 17), .mov (.t 4), none⟩,
      ⟨(some 18), .callr 146 [(.t 17), (.c (.p (.int .u8 37)))], none⟩,
      ⟨(some 6), .mov (.t 18), none⟩])
    (.seq (.seq (.rg [⟨(some 19), .mov (.t 6), none⟩,
      ⟨(some 20), .bin .neq (.t 19) (.c (.p (.int .i64 (-1)))), none⟩])
    (.cond (.t 20) (.seq (.rgd [⟨⟨(some 21), .mov (.t 4), none⟩, 0, []⟩,
        ⟨⟨(some 22), .mov (.t 6), none⟩, 0, []⟩,
        ⟨⟨(some 23), .slcs (.t 21) none (some (.t 22)), none⟩, 0, []⟩,
        ⟨⟨(some 24), .mov (.t 4), none⟩, 0, []⟩,
        ⟨⟨(some 25), .mov (.t 6), none⟩, 0, []⟩,
        ⟨⟨(some 26), .bin .add (.t 25) (.c (.p (.int .i64 1))), none⟩, 0, []⟩,
        ⟨⟨(some 27), .slcs (.t 24) (some (.t 26)) none, none⟩, 0, []⟩,
        ⟨⟨(some 4), .mov (.t 23), none⟩, 0, []⟩,
        ⟨⟨(some 5), .mov (.t 27), none⟩, 0, []⟩])
      (.seq (.rg [⟨(some 28), .mov (.t 5), none⟩,
        ⟨(some 29), .bin .eql (.t 28) (.c (.p (.string ⟨#[]⟩))), none⟩])
      (.cond (.t 29) (.seq (.rg [⟨(some 30), .bld [.p (.int .u64 0), .p (.int .u64 0), .p (.bool false), .p (.bool false), .p (.string ⟨#[]⟩)] [], none⟩,
          ⟨(some 31), .mov (.t 0), none⟩,
          ⟨(some 32), .bld [.p (.string ⟨#[]⟩), .p (.string ⟨#[]⟩), .p (.string ⟨#[]⟩)] [(0, 1, (.t 31)), (1, 1, (.c (.p (.string ⟨#[122, 111, 110, 101, 32, 109, 117, 115, 116, 32, 98, 101, 32, 97, 32, 110, 111, 110, 45, 101, 109, 112, 116, 121, 32, 115, 116, 114, 105, 110, 103]⟩))))], none⟩,
          ⟨(some 33), .ifc 160 (.t 32), none⟩,
          ⟨none, .store 5 (.t 2) (.t 30), none⟩,
          ⟨(some 3), .mov (.t 33), none⟩])
        .ret)
        .skip)))
      .skip))
    (.seq (.rg [⟨(some 7), .alloc 16 (.agg [.p (.int .u8 0), .p (.int .u8 0), .p (.int .u8 0), .p (.int .u8 0), .p (.int .u8 0), .p (.int .u8 0), .p (.int .u8 0), .p (.int .u8 0), .p (.int .u8 0), .p (.int .u8 0), .p (.int .u8 0), .p (.int .u8 0), .p (.int .u8 0), .p (.int .u8 0), .p (.int .u8 0), .p (.int .u8 0)]), none⟩])
    (.seq (.rg [⟨(some 8), .mov (.c (.p (.int .i64 (-1)))), none⟩])
    (.seq (.seq (.rg [⟨(some 34), .mov (.t 4), none⟩,
      ⟨(some 35), .lens (.t 34), none⟩,
      ⟨(some 36), .bin .geq (.t 35) (.c (.p (.int .i64 2))), none⟩,
      ⟨(some 37), .mov (.t 36), none⟩,
      ⟨(some 38), .mov (.t 4), (some (37, true))⟩,
      ⟨(some 39), .idxs (.t 38) (.c (.p (.int .i64 0))), (some (37, true))⟩,
      ⟨(some 40), .bin .eql (.t 39) (.c (.p (.int .u8 58))), (some (37, true))⟩,
      ⟨(some 41), .pick (.t 37) (.t 40) (.c (.p (.bool false))), none⟩,
      ⟨(some 42), .mov (.t 41), none⟩,
      ⟨(some 43), .mov (.t 4), (some (42, true))⟩,
      ⟨(some 44), .idxs (.t 43) (.c (.p (.int .i64 1))), (some (42, true))⟩,
      ⟨(some 45), .bin .eql (.t 44) (.c (.p (.int .u8 58))), (some (42, true))⟩,
      ⟨(some 46), .pick (.t 42) (.t 45) (.c (.p (.bool false))), none⟩])
    (.cond (.t 46) (.seq (.rg [⟨(some 8), .mov (.c (.p (.int .i64 0))), none⟩])
      (.seq (.rg [⟨(some 47), .mov (.t 4), none⟩,
        ⟨(some 48), .slcs (.t 47) (some (.c (.p (.int .i64 2)))) none, none⟩,
        ⟨(some 4), .mov (.t 48), none⟩])
      (.seq (.rg [⟨(some 49), .mov (.t 4), none⟩,
        ⟨(some 50), .lens (.t 49), none⟩,
        ⟨(some 51), .bin .eql (.t 50) (.c (.p (.int .i64 0))), none⟩])
      (.cond (.t 51) (.seq (.rg [⟨(some 52), .callr 147 [], none⟩,
          ⟨(some 53), .mov (.t 5), none⟩,
          ⟨(some 54), .callr 148 [(.t 52), (.t 53)], none⟩,
          ⟨none, .store 5 (.t 2) (.t 54), none⟩,
          ⟨(some 3), .mov (.c (.p .nilIface)), none⟩])
        .ret)
        .skip))))
      .skip))
    (.seq (.rg [⟨(some 6), .mov (.c (.p (.int .i64 0))), none⟩])
    (.seq (.block 0 (.loop (.seq (.seq (.rg [⟨(some 55), .mov (.t 6), none⟩,
        ⟨(some 56), .bin .lss (.t 55) (.c (.p (.int .i64 16))), none⟩])
      (.cond (.t 56) .skip
        (.exit 0)))
      (.block 1 (.seq (.rg [⟨(some 9), .mov (.c (.p (.int .i64 0))), none⟩])
       (.seq (.rg [⟨(some 10), .mov (.c (.p (.int .u32 0))), none⟩])
       (.seq (.block 2 (.loop (.seq (.seq (.rg [⟨(some 57), .mov (.t 9), none⟩,
           ⟨(some 58), .mov (.t 4), none⟩,
           ⟨(some 59), .lens (.t 58), none⟩,
           ⟨(some 60), .bin .lss (.t 57) (.t 59), none⟩])
         (.cond (.t 60) .skip
           (.exit 2)))
         (.seq (.block 3 (.seq (.rg [⟨(some 63), .mov (.t 4), none⟩,
            ⟨(some 64), .mov (.t 9), none⟩,
            ⟨(some 65), .idxs (.t 63) (.t 64), none⟩,
            ⟨(some 11), .mov (.t 65), none⟩])
          (.seq (.seq (.rg [⟨(some 66), .mov (.t 11), none⟩,
            ⟨(some 67), .bin .geq (.t 66) (.c (.p (.int .u8 48))), none⟩,
            ⟨(some 68), .mov (.t 67), none⟩,
            ⟨(some 69), .mov (.t 11), (some (68, true))⟩,
            ⟨(some 70), .bin .leq (.t 69) (.c (.p (.int .u8 57))), (some (68, true))⟩,
            ⟨(some 71), .pick (.t 68) (.t 70) (.c (.p (.bool false))), none⟩])
          (.cond (.t 71) (.rg [⟨(some 72), .mov (.t 10), none⟩,
              ⟨(some 73), .bin .shl (.t 72) (.c (.p (.int .u64 4))), none⟩,
              ⟨(some 74), .mov (.t 11), none⟩,
              ⟨(some 75), .bin .sub (.t 74) (.c (.p (.int .u8 48))), none⟩,
              ⟨(some 76), .cint .u32 (.t 75), none⟩,
              ⟨(some 77), .bin .add (.t 73) (.t 76), none⟩,
              ⟨(some 10), .mov (.t 77), none⟩])
            (.seq (.rg [⟨(some 78), .mov (.t 11), none⟩,
              ⟨(some 79), .bin .geq (.t 78) (.c (.p (.int .u8 97))), none⟩,
              ⟨(some 80), .mov (.t 79), none⟩,
              ⟨(some 81), .mov (.t 11), (some (80, true))⟩,
              ⟨(some 82), .bin .leq (.t 81) (.c (.p (.int .u8 102))), (some (80, true))⟩,
              ⟨(some 83), .pick (.t 80) (.t 82) (.c (.p (.bool false))), none⟩])
            (.cond (.t 83) (.rg [⟨(some 84), .mov (.t 10), none⟩,
                ⟨(some 85), .bin .shl (.t 84) (.c (.p (.int .u64 4))), none⟩,
                ⟨(some 86), .mov (.t 11), none⟩,
                ⟨(some 87), .bin .sub (.t 86) (.c (.p (.int .u8 97))), none⟩,
                ⟨(some 88), .bin .add (.t 87) (.c (.p (.int .u8 10))), none⟩,
                ⟨(some 89), .cint .u32 (.t 88), none⟩,
                ⟨(some 90), .bin .add (.t 85) (.t 89), none⟩,
                ⟨(some 10), .mov (.t 90), none⟩])
              (.seq (.rg [⟨(some 91), .mov (.t 11), none⟩,
                ⟨(some 92), .bin .geq (.t 91) (.c (.p (.int .u8 65))), none⟩,
                ⟨(some 93), .mov (.t 92), none⟩,
                ⟨(some 94), .mov (.t 11), (some (93, true))⟩,
                ⟨(some 95), .bin .leq (.t 94) (.c (.p (.int .u8 70))), (some (93, true))⟩,
                ⟨(some 96), .pick (.t 93) (.t 95) (.c (.p (.bool false))), none⟩])
              (.cond (.t 96) (.rg [⟨(some 97), .mov (.t 10), none⟩,
                  ⟨(some 98), .bin .shl (.t 97) (.c (.p (.int .u64 4))), none⟩,
                  ⟨(some 99), .mov (.t 11), none⟩,
                  ⟨(some 100), .bin .sub (.t 99) (.c (.p (.int .u8 65))), none⟩,
                  ⟨(some 101), .bin .add (.t 100) (.c (.p (.int .u8 10))), none⟩,
                  ⟨(some 102), .cint .u32 (.t 101), none⟩,
                  ⟨(some 103), .bin .add (.t 98) (.t 102), none⟩,
                  ⟨(some 10), .mov (.t 103), none⟩])
                (.exit 2)))))))
          (.seq (.seq (.rg [⟨(some 104), .mov (.t 9), none⟩,
            ⟨(some 105), .bin .gtr (.t 104) (.c (.p (.int .i64 3))), none⟩])
          (.cond (.t 105) (.seq (.rg [⟨(some 106), .bld [.p (.int .u64 0), .p (.int .u64 0), .p (.bool false), .p (.bool false), .p (.string ⟨#[]⟩)] [], none⟩,
              ⟨(some 107), .mov (.t 0), none⟩,
              ⟨(some 108), .mov (.t 4), none⟩,
              ⟨(some 109), .bld [.p (.string ⟨#[]⟩), .p (.string ⟨#[]⟩), .p (.string ⟨#[]⟩)] [(0, 1, (.t 107)), (1, 1, (.c (.p (.string ⟨#[101, 97, 99, 104, 32, 103, 114, 111, 117, 112, 32, 109, 117, 115, 116, 32, 104, 97, 118, 101, 32, 52, 32, 111, 114, 32, 108, 101, 115, 115, 32, 100, 105, 103, 105, 116, 115]⟩)))), (2, 1, (.t 108))], none⟩,
              ⟨(some 110), .ifc 160 (.t 109), none⟩,
              ⟨none, .store 5 (.t 2) (.t 106), none⟩,
              ⟨(some 3), .mov (.t 110), none⟩])
            .ret)
            .skip))
          (.seq (.rg [⟨(some 111), .mov (.t 10), none⟩,
            ⟨(some 112), .bin .gtr (.t 111) (.c (.p (.int .u32 65535))), none⟩])
          (.cond (.t 112) (.seq (.rg [⟨(some 113), .bld [.p (.int .u64 0), .p (.int .u64 0), .p (.bool false), .p (.bool false), .p (.string ⟨#[]⟩)] [], none⟩,
              ⟨(some 114), .mov (.t 0), none⟩,
              ⟨(some 115), .mov (.t 4), none⟩,
              ⟨(some 116), .bld [.p (.string ⟨#[]⟩), .p (.string ⟨#[]⟩), .p (.string ⟨#[]⟩)] [(0, 1, (.t 114)), (1, 1, (.c (.p (.string ⟨#[73, 80, 118, 54, 32, 102, 105, 101, 108, 100, 32, 104, 97, 115, 32, 118, 97, 108, 117, 101, 32, 62, 61, 50, 94, 49, 54]⟩)))), (2, 1, (.t 115))], none⟩,
              ⟨(some 117), .ifc 160 (.t 116), none⟩,
              ⟨none, .store 5 (.t 2) (.t 113), none⟩,
              ⟨(some 3), .mov (.t 117), none⟩])
            .ret)
            .skip))))))
         (.rg [⟨(some 61), .mov (.t 9), none⟩,
           ⟨(some 62), .bin .add (.t 61) (.c (.p (.int .i64 1))), none⟩,
           ⟨(some 9), .mov (.t 62), none⟩])))))
       (.seq (.seq (.rg [⟨(some 118), .mov (.t 9), none⟩,
         ⟨(some 119), .bin .eql (.t 118) (.c (.p (.int .i64 0))), none⟩])
       (.cond (.t 119) (.seq (.rg [⟨(some 120), .bld [.p (.int .u64 0), .p (.int .u64 0), .p (.bool false), .p (.bool false), .p (.string ⟨#[]⟩)] [], none⟩,
           ⟨(some 121), .mov (.t 0), none⟩,
           ⟨(some 122), .mov (.t 4), none⟩,
           ⟨(some 123), .bld [.p (.string ⟨#[]⟩), .p (.string ⟨#[]⟩), .p (.string ⟨#[]⟩)] [(0, 1, (.t 121)), (1, 1, (.c (.p (.string ⟨#[101, 97, 99, 104, 32, 99, 111, 108, 111, 110, 45, 115, 101, 112, 97, 114, 97, 116, 101, 100, 32, 102, 105, 101, 108, 100, 32, 109, 117, 115, 116, 32, 104, 97, 118, 101, 32, 97, 116, 32, 108, 101, 97, 115, 116, 32, 111, 110, 101, 32, 100, 105, 103, 105, 116]⟩)))), (2, 1, (.t 122))], none⟩,
           ⟨(some 124), .ifc 160 (.t 123), none⟩,
           ⟨none, .store 5 (.t 2) (.t 120), none⟩,
           ⟨(some 3), .mov (.t 124), none⟩])
         .ret)
         .skip))
       (.seq (.seq (.rg [⟨(some 125), .mov (.t 9), none⟩,
         ⟨(some 126), .mov (.t 4), none⟩,
         ⟨(some 127), .lens (.t 126), none⟩,
         ⟨(some 128), .bin .lss (.t 125) (.t 127), none⟩,
         ⟨(some 129), .mov (.t 128), none⟩,
         ⟨(some 130), .mov (.t 4), (some (129, true))⟩,
         ⟨(some 131), .mov (.t 9), (some (129, true))⟩,
         ⟨(some 132), .idxs (.t 130) (.t 131), (some (129, true))⟩,
         ⟨(some 133), .bin .eql (.t 132) (.c (.p (.int .u8 46))), (some (129, true))⟩,
         ⟨(some 134), .pick (.t 129) (.t 133) (.c (.p (.bool false))), none⟩])
       (.cond (.t 134) (.seq (.seq (.rg [⟨(some 135), .mov (.t 8), none⟩,
           ⟨(some 136), .bin .lss (.t 135) (.c (.p (.int .i64 0))), none⟩,
           ⟨(some 137), .mov (.t 136), none⟩,
           ⟨(some 138), .mov (.t 6), (some (137, true))⟩,
           ⟨(some 139), .bin .neq (.t 138) (.c (.p (.int .i64 12))), (some (137, true))⟩,
           ⟨(some 140), .pick (.t 137) (.t 139) (.c (.p (.bool false))), none⟩])
         (.cond (.t 140) (.seq (.rg [⟨(some 141), .bld [.p (.int .u64 0), .p (.int .u64 0), .p (.bool false), .p (.bool false), .p (.string ⟨#[]⟩)] [], none⟩,
             ⟨(some 142), .mov (.t 0), none⟩,
             ⟨(some 143), .mov (.t 4), none⟩,
             ⟨(some 144), .bld [.p (.string ⟨#[]⟩), .p (.string ⟨#[]⟩), .p (.string ⟨#[]⟩)] [(0, 1, (.t 142)), (1, 1, (.c (.p (.string ⟨#[101, 109, 98, 101, 100, 100, 101, 100, 32, 73, 80, 118, 52, 32, 97, 100, 100, 114, 101, 115, 115, 32, 109, 117, 115, 116, 32, 114, 101, 112, 108, 97, 99, 101, 32, 116, 104, 101, 32, 102, 105, 110, 97, 108, 32, 50, 32, 102, 105, 101, 108, 100, 115, 32, 111, 102, 32, 116, 104, 101, 32, 97, 100, 100, 114, 101, 115, 115]⟩)))), (2, 1, (.t 143))], none⟩,
             ⟨(some 145), .ifc 160 (.t 144), none⟩,
             ⟨none, .store 5 (.t 2) (.t 141), none⟩,
             ⟨(some 3), .mov (.t 145), none⟩])
           .ret)
           .skip))
         (.seq (.seq (.rg [⟨(some 146), .mov (.t 6), none⟩,
           ⟨(some 147), .bin .add (.t 146) (.c (.p (.int .i64 4))), none⟩,
           ⟨(some 148), .bin .gtr (.t 147) (.c (.p (.int .i64 16))), none⟩])
         (.cond (.t 148) (.seq (.rg [⟨(some 149), .bld [.p (.int .u64 0), .p (.int .u64 0), .p (.bool false), .p (.bool false), .p (.string ⟨#[]⟩)] [], none⟩,
             ⟨(some 150), .mov (.t 0), none⟩,
             ⟨(some 151), .mov (.t 4), none⟩,
             ⟨(some 152), .bld [.p (.string ⟨#[]⟩), .p (.string ⟨#[]⟩), .p (.string ⟨#[]⟩)] [(0, 1, (.t 150)), (1, 1, (.c (.p (.string ⟨#[116, 111, 111, 32, 109, 97, 110, 121, 32, 104, 101, 120, 32, 102, 105, 101, 108, 100, 115, 32, 116, 111, 32, 102, 105, 116, 32, 97, 110, 32, 101, 109, 98, 101, 100, 100, 101, 100, 32, 73, 80, 118, 52, 32, 97, 116, 32, 116, 104, 101, 32, 101, 110, 100, 32, 111, 102, 32, 116, 104, 101, 32, 97, 100, 100, 114, 101, 115, 115]⟩)))), (2, 1, (.t 151))], none⟩,
             ⟨(some 153), .ifc 160 (.t 152), none⟩,
             ⟨none, .store 5 (.t 2) (.t 149), none⟩,
             ⟨(some 3), .mov (.t 153), none⟩])
           .ret)
           .skip))
         (.seq (.rg [⟨(some 154), .mov (.t 0), none⟩,
           ⟨(some 155), .lens (.t 154), none⟩,
           ⟨(some 12), .mov (.t 155), none⟩])
         (.seq (.seq (.rg [⟨(some 156), .mov (.t 5), none⟩,
           ⟨(some 157), .lens (.t 156), none⟩,
           ⟨(some 158), .bin .gtr (.t 157) (.c (.p (.int .i64 0))), none⟩])
         (.cond (.t 158) (.rg [⟨(some 159), .mov (.t 12), none⟩,
             ⟨(some 160), .mov (.t 5), none⟩,
             ⟨(some 161), .lens (.t 160), none⟩,
             ⟨(some 162), .bin .add (.t 161) (.c (.p (.int .i64 1))), none⟩,
             ⟨(some 163), .bin .sub (.t 159) (.t 162), none⟩,
             ⟨(some 12), .mov (.t 163), none⟩])
           .skip))
         (.seq (.rg [⟨(some 164), .mov (.t 0), none⟩,
           ⟨(some 165), .mov (.t 12), none⟩,
           ⟨(some 166), .mov (.t 4), none⟩,
           ⟨(some 167), .lens (.t 166), none⟩,
           ⟨(some 168), .bin .sub (.t 165) (.t 167), none⟩,
           ⟨(some 169), .mov (.t 12), none⟩,
           ⟨(some 170), .mov (.t 6), none⟩,
           ⟨(some 171), .mov (.t 6), none⟩,
           ⟨(some 172), .bin .add (.t 171) (.c (.p (.int .i64 4))), none⟩,
           ⟨(some 173), .slca 16 1 false (.t 7) (some (.t 170)) (some (.t 172)), none⟩,
           ⟨(some 174), .callr 144 [(.t 164), (.t 168), (.t 169), (.t 173)], none⟩,
           ⟨(some 13), .mov (.t 174), none⟩])
         (.seq (.seq (.rg [⟨(some 175), .mov (.t 13), none⟩,
           ⟨(some 176), .eqn true .iface (.t 175), none⟩])
         (.cond (.t 176) (.seq (.rg [⟨(some 177), .bld [.p (.int .u64 0), .p (.int .u64 0), .p (.bool false), .p (.bool false), .p (.string ⟨#[]⟩)] [], none⟩,
             ⟨(some 178), .mov (.t 13), none⟩,
             ⟨none, .store 5 (.t 2) (.t 177), none⟩,
             ⟨(some 3), .mov (.t 178), none⟩])
           .ret)
           .skip))
         (.seq (.rg [⟨(some 4), .mov (.c (.p (.string ⟨#[]⟩))), none⟩])
         (.seq (.rg [⟨(some 179), .mov (.t 6), none⟩,
           ⟨(some 180), .bin .add (.t 179) (.c (.p (.int .i64 4))), none⟩,
           ⟨(some 6), .mov (.t 180), none⟩])
         (.exit 0)))))))))
         .skip))
       (.seq (.rg [⟨(some 181), .mov (.t 6), none⟩,
         ⟨(some 182), .mov (.t 10), none⟩,
         ⟨(some 183), .bin .shr (.t 182) (.c (.p (.int .u64 8))), none⟩,
         ⟨(some 184), .cint .u8 (.t 183), none⟩,
         ⟨(some 185), .iaddra 16 1 false (.t 7) (.t 181), none⟩,
         ⟨none, .store 1 (.t 185) (.t 184), none⟩])
       (.seq (.rg [⟨(some 186), .mov (.t 6), none⟩,
         ⟨(some 187), .bin .add (.t 186) (.c (.p (.int .i64 1))), none⟩,
         ⟨(some 188), .mov (.t 10), none⟩,
         ⟨(some 189), .cint .u8 (.t 188), none⟩,
         ⟨(some 190), .iaddra 16 1 false (.t 7) (.t 187), none⟩,
         ⟨none, .store 1 (.t 190) (.t 189), none⟩])
       (.seq (.rg [⟨(some 191), .mov (.t 6), none⟩,
         ⟨(some 192), .bin .add (.t 191) (.c (.p (.int .i64 2))), none⟩,
         ⟨(some 6), .mov (.t 192), none⟩])
       (.seq (.rg [⟨(some 193), .mov (.t 4), none⟩,
         ⟨(some 194), .mov (.t 9), none⟩,
         ⟨(some 195), .slcs (.t 193) (some (.t 194)) none, none⟩,
         ⟨(some 4), .mov (.t 195), none⟩])
       (.seq (.seq (.rg [⟨(some 196), .mov (.t 4), none⟩,
         ⟨(some 197), .lens (.t 196), none⟩,
         ⟨(some 198), .bin .eql (.t 197) (.c (.p (.int .i64 0))), none⟩])
       (.cond (.t 198) (.exit 0)
         .skip))
       (.seq (.seq (.rg [⟨(some 199), .mov (.t 4), none⟩,
         ⟨(some 200), .idxs (.t 199) (.c (.p (.int .i64 0))), none⟩,
         ⟨(some 201), .bin .neq (.t 200) (.c (.p (.int .u8 58))), none⟩])
       (.cond (.t 201) (.seq (.rg [⟨(some 202), .bld [.p (.int .u64 0), .p (.int .u64 0), .p (.bool false), .p (.bool false), .p (.string ⟨#[]⟩)] [], none⟩,
           ⟨(some 203), .mov (.t 0), none⟩,
           ⟨(some 204), .mov (.t 4), none⟩,
           ⟨(some 205), .bld [.p (.string ⟨#[]⟩), .p (.string ⟨#[]⟩), .p (.string ⟨#[]⟩)] [(0, 1, (.t 203)), (1, 1, (.c (.p (.string ⟨#[117, 110, 101, 120, 112, 101, 99, 116, 101, 100, 32, 99, 104, 97, 114, 97, 99, 116, 101, 114, 44, 32, 119, 97, 110, 116, 32, 99, 111, 108, 111, 110]⟩)))), (2, 1, (.t 204))], none⟩,
           ⟨(some 206), .ifc 160 (.t 205), none⟩,
           ⟨none, .store 5 (.t 2) (.t 202), none⟩,
           ⟨(some 3), .mov (.t 206), none⟩])
         .ret)
         (.seq (.rg [⟨(some 207), .mov (.t 4), none⟩,
           ⟨(some 208), .lens (.t 207), none⟩,
           ⟨(some 209), .bin .eql (.t 208) (.c (.p (.int .i64 1))), none⟩])
         (.cond (.t 209) (.seq (.rg [⟨(some 210), .bld [.p (.int .u64 0), .p (.int .u64 0), .p (.bool false), .p (.bool false), .p (.string ⟨#[]⟩)] [], none⟩,
             ⟨(some 211), .mov (.t 0), none⟩,
             ⟨(some 212), .mov (.t 4), none⟩,
             ⟨(some 213), .bld [.p (.string ⟨#[]⟩), .p (.string ⟨#[]⟩), .p (.string ⟨#[]⟩)] [(0, 1, (.t 211)), (1, 1, (.c (.p (.string ⟨#[99, 111, 108, 111, 110, 32, 109, 117, 115, 116, 32, 98, 101, 32, 102, 111, 108, 108, 111, 119, 101, 100, 32, 98, 121, 32, 109, 111, 114, 101, 32, 99, 104, 97, 114, 97, 99, 116, 101, 114, 115]⟩)))), (2, 1, (.t 212))], none⟩,
             ⟨(some 214), .ifc 160 (.t 213), none⟩,
             ⟨none, .store 5 (.t 2) (.t 210), none⟩,
             ⟨(some 3), .mov (.t 214), none⟩])
           .ret)
           .skip))))
       (.seq (.rg [⟨(some 215), .mov (.t 4), none⟩,
         ⟨(some 216), .slcs (.t 215) (some (.c (.p (.int .i64 1)))) none, none⟩,
         ⟨(some 4), .mov (.t 216), none⟩])
       (.seq (.rg [⟨(some 217), .mov (.t 4), none⟩,
         ⟨(some 218), .idxs (.t 217) (.c (.p (.int .i64 0))), none⟩,
         ⟨(some 219), .bin .eql (.t 218) (.c (.p (.int .u8 58))), none⟩])
       (.cond (.t 219) (.seq (.seq (.rg [⟨(some 220), .mov (.t 8), none⟩,
           ⟨(some 221), .bin .geq (.t 220) (.c (.p (.int .i64 0))), none⟩])
         (.cond (.t 221) (.seq (.rg [⟨(some 222), .bld [.p (.int .u64 0), .p (.int .u64 0), .p (.bool false), .p (.bool false), .p (.string ⟨#[]⟩)] [], none⟩,
             ⟨(some 223), .mov (.t 0), none⟩,
             ⟨(some 224), .mov (.t 4), none⟩,
             ⟨(some 225), .bld [.p (.string ⟨#[]⟩), .p (.string ⟨#[]⟩), .p (.string ⟨#[]⟩)] [(0, 1, (.t 223)), (1, 1, (.c (.p (.string ⟨#[109, 117, 108, 116, 105, 112, 108, 101, 32, 58, 58, 32, 105, 110, 32, 97, 100, 100, 114, 101, 115, 115]⟩)))), (2, 1, (.t 224))], none⟩,
             ⟨(some 226), .ifc 160 (.t 225), none⟩,
             ⟨none, .store 5 (.t 2) (.t 222), none⟩,
             ⟨(some 3), .mov (.t 226), none⟩])
           .ret)
           .skip))
         (.seq (.rg [⟨(some 227), .mov (.t 6), none⟩,
           ⟨(some 8), .mov (.t 227), none⟩])
         (.seq (.rg [⟨(some 228), .mov (.t 4), none⟩,
           ⟨(some 229), .slcs (.t 228) (some (.c (.p (.int .i64 1)))) none, none⟩,
           ⟨(some 4), .mov (.t 229), none⟩])
         (.seq (.rg [⟨(some 230), .mov (.t 4), none⟩,
           ⟨(some 231), .lens (.t 230), none⟩,
           ⟨(some 232), .bin .eql (.t 231) (.c (.p (.int .i64 0))), none⟩])
         (.cond (.t 232) (.exit 0)
           .skip)))))
         .skip))))))))))))))))))
    (.seq (.seq (.rg [⟨(some 233), .mov (.t 4), none⟩,
      ⟨(some 234), .lens (.t 233), none⟩,
      ⟨(some 235), .bin .neq (.t 234) (.c (.p (.int .i64 0))), none⟩])
    (.cond (.t 235) (.seq (.rg [⟨(some 236), .bld [.p (.int .u64 0), .p (.int .u64 0), .p (.bool false), .p (.bool false), .p (.string ⟨#[]⟩)] [], none⟩,
        ⟨(some 237), .mov (.t 0), none⟩,
        ⟨(some 238), .mov (.t 4), none⟩,
        ⟨(some 239), .bld [.p (.string ⟨#[]⟩), .p (.string ⟨#[]⟩), .p (.string ⟨#[]⟩)] [(0, 1, (.t 237)), (1, 1, (.c (.p (.string ⟨#[116, 114, 97, 105, 108, 105, 110, 103, 32, 103, 97, 114, 98, 97, 103, 101, 32, 97, 102, 116, 101, 114, 32, 97, 100, 100, 114, 101, 115, 115]⟩)))), (2, 1, (.t 238))], none⟩,
        ⟨(some 240), .ifc 160 (.t 239), none⟩,
        ⟨none, .store 5 (.t 2) (.t 236), none⟩,
        ⟨(some 3), .mov (.t 240), none⟩])
      .ret)
      .skip))
    (.seq (.seq (.rg [⟨(some 241), .mov (.t 6), none⟩,
      ⟨(some 242), .bin .lss (.t 241) (.c (.p (.int .i64 16))), none⟩])
    (.cond (.t 242) (.seq (.seq (.rg [⟨(some 243), .mov (.t 8), none⟩,
        ⟨(some 244), .bin .lss (.t 243) (.c (.p (.int .i64 0))), none⟩])
      (.cond (.t 244) (.seq (.rg [⟨(some 245), .bld [.p (.int .u64 0), .p (.int .u64 0), .p (.bool false), .p (.bool false), .p (.string ⟨#[]⟩)] [], none⟩,
          ⟨(some 246), .mov (.t 0), none⟩,
          ⟨(some 247), .bld [.p (.string ⟨#[]⟩), .p (.string ⟨#[]⟩), .p (.string ⟨#[]⟩)] [(0, 1, (.t 246)), (1, 1, (.c (.p (.string ⟨#[97, 100, 100, 114, 101, 115, 115, 32, 115, 116, 114, 105, 110, 103, 32, 116, 111, 111, 32, 115, 104, 111, 114, 116]⟩))))], none⟩,
          ⟨(some 248), .ifc 160 (.t 247), none⟩,
          ⟨none, .store 5 (.t 2) (.t 245), none⟩,
          ⟨(some 3), .mov (.t 248), none⟩])
        .ret)
        .skip))
      (.seq (.rg [⟨(some 249), .mov (.t 6), none⟩,
        ⟨(some 250), .bin .sub (.c (.p (.int .i64 16))) (.t 249), none⟩,
        ⟨(some 14), .mov (.t 250), none⟩])
      (.seq (.seq (.rg [⟨(some 251), .mov (.t 6), none⟩,
        ⟨(some 252), .bin .sub (.t 251) (.c (.p (.int .i64 1))), none⟩,
        ⟨(some 15), .mov (.t 252), none⟩])
      (.block 4 (.loop (.seq (.seq (.rg [⟨(some 253), .mov (.t 15), none⟩,
          ⟨(some 254), .mov (.t 8), none⟩,
          ⟨(some 255), .bin .geq (.t 253) (.t 254), none⟩])
        (.cond (.t 255) .skip
          (.exit 4)))
        (.seq (.block 5 (.rg [⟨(some 258), .mov (.t 15), none⟩,
           ⟨(some 259), .mov (.t 14), none⟩,
           ⟨(some 260), .bin .add (.t 258) (.t 259), none⟩,
           ⟨(some 261), .mov (.t 15), none⟩,
           ⟨(some 262), .iaddra 16 1 false (.t 7) (.t 261), none⟩,
           ⟨(some 263), .load false 1 (.t 262), none⟩,
           ⟨(some 264), .iaddra 16 1 false (.t 7) (.t 260), none⟩,
           ⟨none, .store 1 (.t 264) (.t 263), none⟩]))
        (.rg [⟨(some 256), .mov (.t 15), none⟩,
          ⟨(some 257), .bin .sub (.t 256) (.c (.p (.int .i64 1))), none⟩,
          ⟨(some 15), .mov (.t 257), none⟩]))))))
      (.rg [⟨(some 265), .mov (.t 8), none⟩,
        ⟨(some 266), .mov (.t 8), none⟩,
        ⟨(some 267), .mov (.t 14), none⟩,
        ⟨(some 268), .bin .add (.t 266) (.t 267), none⟩,
        ⟨(some 269), .slca 16 1 false (.t 7) (some (.t 265)) (some (.t 268)), none⟩,
        ⟨none, .clr (.p (.int .u8 0)) (.t 269), none⟩]))))
      (.seq (.rg [⟨(some 270), .mov (.t 8), none⟩,
        ⟨(some 271), .bin .geq (.t 270) (.c (.p (.int .i64 0))), none⟩])
      (.cond (.t 271) (.seq (.rg [⟨(some 272), .bld [.p (.int .u64 0), .p (.int .u64 0), .p (.bool false), .p (.bool false), .p (.string ⟨#[]⟩)] [], none⟩,
          ⟨(some 273), .mov (.t 0), none⟩,
          ⟨(some 274), .bld [.p (.string ⟨#[]⟩), .p (.string ⟨#[]⟩), .p (.string ⟨#[]⟩)] [(0, 1, (.t 273)), (1, 1, (.c (.p (.string ⟨#[116, 104, 101, 32, 58, 58, 32, 109, 117, 115, 116, 32, 101, 120, 112, 97, 110, 100, 32, 116, 111, 32, 97, 116, 32, 108, 101, 97, 115, 116, 32, 111, 110, 101, 32, 102, 105, 101, 108, 100, 32, 111, 102, 32, 122, 101, 114, 111, 115]⟩))))], none⟩,
          ⟨(some 275), .ifc 160 (.t 274), none⟩,
          ⟨none, .store 5 (.t 2) (.t 272), none⟩,
          ⟨(some 3), .mov (.t 275), none⟩])
        .ret)
        .skip))))
    (.seq (.rg [⟨(some 276), .load true 16 (.t 7), none⟩,
      ⟨(some 277), .callr 149 [(.t 276)], none⟩,
      ⟨(some 278), .mov (.t 5), none⟩,
      ⟨(some 279), .callr 148 [(.t 277), (.t 278)], none⟩,
      ⟨none, .store 5 (.t 2) (.t 279), none⟩,
      ⟨(some 3), .mov (.c (.p .nilIface)), none⟩])
    .ret)))))))))))))
def r130 : List DR := [.cell 2 true 5, .tmp 3]
theorem c130_ok : Try.f130.body.bind (cCode Try.prog) = some c130 := by kernel_rfl
theorem r130_ok : cRes Try.prog Try.f130.results.toList = some r130 := by kernel_rfl

/-- given.example/pub-assaymark/pub/netip.z0 -/
def c131 : DC :=
  (.seq (.rg [⟨(some 0), .alloc 3 (.agg [.p (.bool false), .p (.bool false), .p (.string ⟨#[]⟩)]), none⟩])
    (.seq (.rg [⟨(some 1), .bld [.p (.bool false), .p (.bool false), .p (.string ⟨#[]⟩)] [], none⟩,
      ⟨none, .store 3 (.t 0) (.t 1), none⟩])
    .ret))
def r131 : List DR := [.cell 0 true 3]
theorem c131_ok : Try.f131.body.bind (cCode Try.prog) = some c131 := by kernel_rfl
theorem r131_ok : cRes Try.prog Try.f131.results.toList = some r131 := by kernel_rfl

/-- (given.example/pub-assaymark/pub/netip.handle).Value -/
def c132 : DC :=
  (.seq (.rg [⟨(some 1), .box (.t 0), none⟩,
      ⟨(some 2), .alloc 2 (.agg [.p (.bool false), .p (.string ⟨#[]⟩)]), none⟩])
    (.seq (.rg [⟨(some 3), .faddr true 1 2 (.t 1), none⟩,
      ⟨(some 4), .load true 2 (.t 3), none⟩,
      ⟨none, .store 2 (.t 2) (.t 4), none⟩])
    .ret))
def r132 : List DR := [.cell 2 true 2]
theorem c132_ok : Try.f132.body.bind (cCode Try.prog) = some c132 := by kernel_rfl
theorem r132_ok : cRes Try.prog Try.f132.results.toList = some r132 := by kernel_rfl

/-- given.example/pub-assaymark/pub/netip.parseIPv4Fields -/
def c144 : DC :=
  (.seq (.rg [⟨(some 8), .mov (.c (.p .nilIface)), none⟩])
    (.seq (.rg [⟨(some 9), .mov (.c (.p (.int .i64 0))), none⟩,
      ⟨(some 10), .mov (.c (.p (.int .i64 0))), none⟩])
    (.seq (.rg [⟨(some 11), .mov (.c (.p (.int .i64 0))), none⟩])
    (.seq (.rg [⟨(some 14), .mov (.t 0), none⟩,
      ⟨(some 15), .mov (.t 1), none⟩,
      ⟨(some 16), .mov (.t 2), none⟩,
      ⟨(some 17), .slcs (.t 14) (some (.t 15)) (some (.t 16)), none⟩,
      ⟨(some 12), .mov (.t 17), none⟩])
    (.seq (.seq (.rg [⟨(some 13), .mov (.c (.p (.int .i64 0))), none⟩])
    (.block 0 (.loop (.seq (.seq (.rg [⟨(some 18), .mov (.t 13), none⟩,
        ⟨(some 19), .mov (.t 12), none⟩,
        ⟨(some 20), .lens (.t 19), none⟩,
        ⟨(some 21), .bin .lss (.t 18) (.t 20), none⟩])
      (.cond (.t 21) .skip
        (.exit 0)))
      (.seq (.block 1 (.seq (.rg [⟨(some 24), .mov (.t 12), none⟩,
         ⟨(some 25), .mov (.t 13), none⟩,
         ⟨(some 26), .idxs (.t 24) (.t 25), none⟩,
         ⟨(some 27), .bin .geq (.t 26) (.c (.p (.int .u8 48))), none⟩,
         ⟨(some 28), .mov (.t 27), none⟩,
         ⟨(some 29), .mov (.t 12), (some (28, true))⟩,
         ⟨(some 30), .mov (.t 13), (some (28, true))⟩,
         ⟨(some 31), .idxs (.t 29) (.t 30), (some (28, true))⟩,
         ⟨(some 32), .bin .leq (.t 31) (.c (.p (.int .u8 57))), (some (28, true))⟩,
         ⟨(some 33), .pick (.t 28) (.t 32) (.c (.p (.bool false))), none⟩])
       (.cond (.t 33) (.seq (.seq (.rg [⟨(some 34), .mov (.t 11), none⟩,
           ⟨(some 35), .bin .eql (.t 34) (.c (.p (.int .i64 1))), none⟩,
           ⟨(some 36), .mov (.t 35), none⟩,
           ⟨(some 37), .mov (.t 9), (some (36, true))⟩,
           ⟨(some 38), .bin .eql (.t 37) (.c (.p (.int .i64 0))), (some (36, true))⟩,
           ⟨(some 39), .pick (.t 36) (.t 38) (.c (.p (.bool false))), none⟩])
         (.cond (.t 39) (.seq (.rg [⟨(some 40), .mov (.t 0), none⟩,
             ⟨(some 41), .bld [.p (.string ⟨#[]⟩), .p (.string ⟨#[]⟩), .p (.string ⟨#[]⟩)] [(0, 1, (.t 40)), (1, 1, (.c (.p (.string ⟨#[73, 80, 118, 52, 32, 102, 105, 101, 108, 100, 32, 104, 97, 115, 32, 111, 99, 116, 101, 116, 32, 119, 105, 116, 104, 32, 108, 101, 97, 100, 105, 110, 103, 32, 122, 101, 114, 111]⟩))))], none⟩,
             ⟨(some 42), .ifc 160 (.t 41), none⟩,
             ⟨(some 8), .mov (.t 42), none⟩])
           .ret)
           .skip))
         (.seq (.rg [⟨(some 43), .mov (.t 9), none⟩,
           ⟨(some 44), .bin .mul (.t 43) (.c (.p (.int .i64 10))), none⟩,
           ⟨(some 45), .mov (.t 12), none⟩,
           ⟨(some 46), .mov (.t 13), none⟩,
           ⟨(some 47), .idxs (.t 45) (.t 46), none⟩,
           ⟨(some 48), .cint .i64 (.t 47), none⟩,
           ⟨(some 49), .bin .add (.t 44) (.t 48), none⟩,
           ⟨(some 50), .bin .sub (.t 49) (.c (.p (.int .i64 48))), none⟩,
           ⟨(some 9), .mov (.t 50), none⟩])
         (.seq (.rg [⟨(some 51), .mov (.t 11), none⟩,
           ⟨(some 52), .bin .add (.t 51) (.c (.p (.int .i64 1))), none⟩,
           ⟨(some 11), .mov (.t 52), none⟩])
         (.seq (.rg [⟨(some 53), .mov (.t 9), none⟩,
           ⟨(some 54), .bin .gtr (.t 53) (.c (.p (.int .i64 255))), none⟩])
         (.cond (.t 54) (.seq (.rg [⟨(some 55), .mov (.t 0), none⟩,
             ⟨(some 56), .bld [.p (.string ⟨#[]⟩), .p (.string ⟨#[]⟩), .p (.string ⟨#[]⟩)] [(0, 1, (.t 55)), (1, 1, (.c (.p (.string ⟨#[73, 80, 118, 52, 32, 102, 105, 101, 108, 100, 32, 104, 97, 115, 32, 118, 97, 108, 117, 101, 32, 62, 50, 53, 53]⟩))))], none⟩,
             ⟨(some 57), .ifc 160 (.t 56), none⟩,
             ⟨(some 8), .mov (.t 57), none⟩])
           .ret)
           .skip)))))
         (.seq (.rg [⟨(some 58), .mov (.t 12), none⟩,
           ⟨(some 59), .mov (.t 13), none⟩,
           ⟨(some 60), .idxs (.t 58) (.t 59), none⟩,
           ⟨(some 61), .bin .eql (.t 60) (.c (.p (.int .u8 46))), none⟩])
         (.cond (.t 61) (.seq (.seq (.rg [⟨(some 62), .mov (.t 13), none⟩,
             ⟨(some 63), .bin .eql (.t 62) (.c (.p (.int .i64 0))), none⟩,
             ⟨(some 64), .mov (.t 63), none⟩,
             ⟨(some 65), .mov (.t 13), (some (64, false))⟩,
             ⟨(some 66), .mov (.t 12), (some (64, false))⟩,
             ⟨(some 67), .lens (.t 66), (some (64, false))⟩,
             ⟨(some 68), .bin .sub (.t 67) (.c (.p (.int .i64 1))), (some (64, false))⟩,
             ⟨(some 69), .bin .eql (.t 65) (.t 68), (some (64, false))⟩,
             ⟨(some 70), .pick (.t 64) (.c (.p (.bool true))) (.t 69), none⟩,
             ⟨(some 71), .mov (.t 70), none⟩,
             ⟨(some 72), .mov (.t 12), (some (71, false))⟩,
             ⟨(some 73), .mov (.t 13), (some (71, false))⟩,
             ⟨(some 74), .bin .sub (.t 73) (.c (.p (.int .i64 1))), (some (71, false))⟩,
             ⟨(some 75), .idxs (.t 72) (.t 74), (some (71, false))⟩,
             ⟨(some 76), .bin .eql (.t 75) (.c (.p (.int .u8 46))), (some (71, false))⟩,
             ⟨(some 77), .pick (.t 71) (.c (.p (.bool true))) (.t 76), none⟩])
           (.cond (.t 77) (.seq (.rg [⟨(some 78), .mov (.t 0), none⟩,
               ⟨(some 79), .mov (.t 12), none⟩,
               ⟨(some 80), .mov (.t 13), none⟩,
               ⟨(some 81), .slcs (.t 79) (some (.t 80)) none, none⟩,
               ⟨(some 82), .bld [.p (.string ⟨#[]⟩), .p (.string ⟨#[]⟩), .p (.string ⟨#[]⟩)] [(0, 1, (.t 78)), (1, 1, (.c (.p (.string ⟨#[73, 80, 118, 52, 32, 102, 105, 101, 108, 100, 32, 109, 117, 115, 116, 32, 104, 97, 118, 101, 32, 97, 116, 32, 108, 101, 97, 115, 116, 32, 111, 110, 101, 32, 100, 105, 103, 105, 116]⟩)))), (2, 1, (.t 81))], none⟩,
               ⟨(some 83), .ifc 160 (.t 82), none⟩,
               ⟨(some 8), .mov (.t 83), none⟩])
             .ret)
             .skip))
           (.seq (.seq (.rg [⟨(some 84), .mov (.t 10), none⟩,
             ⟨(some 85), .bin .eql (.t 84) (.c (.p (.int .i64 3))), none⟩])
           (.cond (.t 85) (.seq (.rg [⟨(some 86), .mov (.t 0), none⟩,
               ⟨(some 87), .bld [.p (.string ⟨#[]⟩), .p (.string ⟨#[]⟩), .p (.string ⟨#[]⟩)] [(0, 1, (.t 86)), (1, 1, (.c (.p (.string ⟨#[73, 80, 118, 52, 32, 97, 100, 100, 114, 101, 115, 115, 32, 116, 111, 111, 32, 108, 111, 110, 103]⟩))))], none⟩,
               ⟨(some 88), .ifc 160 (.t 87), none⟩,
               ⟨(some 8), .mov (.t 88), none⟩])
             .ret)
             .skip))
           (.seq (.rg [⟨(some 89), .mov (.t 3), none⟩,
             ⟨(some 90), .mov (.t 10), none⟩,
             ⟨(some 91), .mov (.t 9), none⟩,
             ⟨(some 92), .cint .u8 (.t 91), none⟩,
             ⟨(some 93), .iaddr 1 (.t 89) (.t 90), none⟩,
             ⟨none, .store 1 (.t 93) (.t 92), none⟩])
           (.seq (.rg [⟨(some 94), .mov (.t 10), none⟩,
             ⟨(some 95), .bin .add (.t 94) (.c (.p (.int .i64 1))), none⟩,
             ⟨(some 10), .mov (.t 95), none⟩])
           (.seq (.rg [⟨(some 9), .mov (.c (.p (.int .i64 0))), none⟩])
           (.rg [⟨(some 11), .mov (.c (.p (.int .i64 0))), none⟩]))))))
           (.seq (.rg [⟨(some 96), .mov (.t 0), none⟩,
             ⟨(some 97), .mov (.t 12), none⟩,
             ⟨(some 98), .mov (.t 13), none⟩,
             ⟨(some 99), .slcs (.t 97) (some (.t 98)) none, none⟩,
             ⟨(some 100), .bld [.p (.string ⟨#[]⟩), .p (.string ⟨#[]⟩), .p (.string ⟨#[]⟩)] [(0, 1, (.t 96)), (1, 1, (.c (.p (.string ⟨#[117, 110, 101, 120, 112, 101, 99, 116, 101, 100, 32, 99, 104, 97, 114, 97, 99, 116, 101, 114]⟩)))), (2, 1, (.t 99))], none⟩,
             ⟨(some 101), .ifc 160 (.t 100), none⟩,
             ⟨(some 8), .mov (.t 101), none⟩])
           .ret))))))
      (.rg [⟨(some 22), .mov (.t 13), none⟩,
        ⟨(some 23), .bin .add (.t 22) (.c (.p (.int .i64 1))), none⟩,
        ⟨(some 13), .mov (.t 23), none⟩]))))))
    (.seq (.seq (.rg [⟨(some 102), .mov (.t 10), none⟩,
      ⟨(some 103), .bin .lss (.t 102) (.c (.p (.int .i64 3))), none⟩])
    (.cond (.t 103) (.seq (.rg [⟨(some 104), .mov (.t 0), none⟩,
        ⟨(some 105), .bld [.p (.string ⟨#[]⟩), .p (.string ⟨#[]⟩), .p (.string ⟨#[]⟩)] [(0, 1, (.t 104)), (1, 1, (.c (.p (.string ⟨#[73, 80, 118, 52, 32, 97, 100, 100, 114, 101, 115, 115, 32, 116, 111, 111, 32, 115, 104, 111, 114, 116]⟩))))], none⟩,
        ⟨(some 106), .ifc 160 (.t 105), none⟩,
        ⟨(some 8), .mov (.t 106), none⟩])
      .ret)
      .skip))
    (.seq (.rg [⟨(some 107), .mov (.t 3), none⟩,
      ⟨(some 108), .mov (.t 9), none⟩,
      ⟨(some 109), .cint .u8 (.t 108), none⟩,
      ⟨(some 110), .iaddr 1 (.t 107) (.c (.p (.int .i64 3))), none⟩,
      ⟨none, .store 1 (.t 110) (.t 109), none⟩])
    (.seq (.rg [⟨(some 8), .mov (.c (.p .nilIface)), none⟩])
    .ret))))))))
def r144 : List DR := [.tmp 8]
theorem c144_ok : Try.f144.body.bind (cCode Try.prog) = some c144 := by kernel_rfl
theorem r144_ok : cRes Try.prog Try.f144.results.toList = some r144 := by kernel_rfl

/-- given.example/pub-assaymark/pub/netip.AddrFrom4 -/
def c145 : DC :=
  (.seq (.rg [⟨(some 1), .box (.t 0), none⟩,
      ⟨(some 2), .alloc 5 (.agg [.p (.int .u64 0), .p (.int .u64 0), .p (.bool false), .p (.bool false), .p (.string ⟨#[]⟩)]), none⟩])
    (.seq (.rgd [⟨⟨(some 3), .iaddra 4 1 false (.t 1) (.c (.p (.int .i64 0))), none⟩, 0, [0]⟩,
      ⟨⟨(some 4), .load false 1 (.t 3), none⟩, 0, [0]⟩,
      ⟨⟨(some 5), .cint .u64 (.t 4), none⟩, 0, [0]⟩,
      ⟨⟨(some 6), .bin .shl (.t 5) (.c (.p (.int .u64 24))), none⟩, 0, [0]⟩,
      ⟨⟨(some 7), .bin .or (.c (.p (.int .u64 281470681743360))) (.t 6), none⟩, 0, [0]⟩,
      ⟨⟨(some 8), .iaddra 4 1 false (.t 1) (.c (.p (.int .i64 1))), none⟩, 0, [0]⟩,
      ⟨⟨(some 9), .load false 1 (.t 8), none⟩, 0, [0]⟩,
      ⟨⟨(some 10), .cint .u64 (.t 9), none⟩, 0, [0]⟩,
      ⟨⟨(some 11), .bin .shl (.t 10) (.c (.p (.int .u64 16))), none⟩, 0, [0]⟩,
      ⟨⟨(some 12), .bin .or (.t 7) (.t 11), none⟩, 0, [0]⟩,
      ⟨⟨(some 13), .iaddra 4 1 false (.t 1) (.c (.p (.int .i64 2))), none⟩, 0, [0]⟩,
      ⟨⟨(some 14), .load false 1 (.t 13), none⟩, 0, [0]⟩,
      ⟨⟨(some 15), .cint .u64 (.t 14), none⟩, 0, [0]⟩,
      ⟨⟨(some 16), .bin .shl (.t 15) (.c (.p (.int .u64 8))), none⟩, 0, [0]⟩,
      ⟨⟨(some 17), .bin .or (.t 12) (.t 16), none⟩, 0, [0]⟩,
      ⟨⟨(some 18), .iaddra 4 1 false (.t 1) (.c (.p (.int .i64 3))), none⟩, 0, [0]⟩,
      ⟨⟨(some 19), .load false 1 (.t 18), none⟩, 0, [0]⟩,
      ⟨⟨(some 20), .cint .u64 (.t 19), none⟩, 0, [0]⟩,
      ⟨⟨(some 21), .bin .or (.t 17) (.t 20), none⟩, 0, []⟩,
      ⟨⟨(some 22), .bld [.p (.int .u64 0), .p (.int .u64 0)] [(0, 1, (.c (.p (.int .u64 0)))), (1, 1, (.t 21))], none⟩, 0, []⟩,
      ⟨⟨(some 23), .call 168 [], none⟩, 0, [0]⟩,
      ⟨⟨(some 24), .bld [.p (.int .u64 0), .p (.int .u64 0), .p (.bool false), .p (.bool false), .p (.string ⟨#[]⟩)] [(0, 2, (.t 22)), (2, 3, (.t 23))], none⟩, 1, []⟩,
      ⟨⟨none, .store 5 (.t 2) (.t 24), none⟩, 1, []⟩])
    .ret))
def r145 : List DR := [.cell 2 true 5]
theorem c145_ok : Try.f145.body.bind (cCode Try.prog) = some c145 := by kernel_rfl
theorem r145_ok : cRes Try.prog Try.f145.results.toList = some r145 := by kernel_rfl

/-- given.example/pub-assaymark/pub/netip.IPv6Unspecified -/
def c147 : DC :=
  (.seq (.rg [⟨(some 0), .alloc 5 (.agg [.p (.int .u64 0), .p (.int .u64 0), .p (.bool false), .p (.bool false), .p (.string ⟨#[]⟩)]), none⟩])
    (.seq (.rg [⟨(some 1), .callr 170 [], none⟩,
      ⟨(some 2), .bld [.p (.int .u64 0), .p (.int .u64 0), .p (.bool false), .p (.bool false), .p (.string ⟨#[]⟩)] [(2, 3, (.t 1))], none⟩,
      ⟨none, .store 5 (.t 0) (.t 2), none⟩])
    .ret))
def r147 : List DR := [.cell 0 true 5]
theorem c147_ok : Try.f147.body.bind (cCode Try.prog) = some c147 := by kernel_rfl
theorem r147_ok : cRes Try.prog Try.f147.results.toList = some r147 := by kernel_rfl

/-- (given.example/pub-assaymark/pub/netip.Addr).WithZone -/
def c148 : DC :=
  (.seq (.rg [⟨(some 2), .box (.t 0), none⟩,
      ⟨(some 4), .alloc 5 (.agg [.p (.int .u64 0), .p (.int .u64 0), .p (.bool false), .p (.bool false), .p (.string ⟨#[]⟩)]), none⟩])
    (.seq (.seq (.rg [⟨(some 5), .load true 5 (.t 2), none⟩,
      ⟨(some 6), .callr 171 [(.t 5)], none⟩,
      ⟨(some 7), .un .not (.t 6), none⟩])
    (.cond (.t 7) (.seq (.rg [⟨(some 8), .load true 5 (.t 2), none⟩,
        ⟨none, .store 5 (.t 4) (.t 8), none⟩])
      .ret)
      .skip))
    (.seq (.seq (.rg [⟨(some 9), .mov (.t 1), none⟩,
      ⟨(some 10), .bin .eql (.t 9) (.c (.p (.string ⟨#[]⟩))), none⟩])
    (.cond (.t 10) (.seq (.rg [⟨(some 11), .callr 170 [], none⟩,
        ⟨(some 12), .faddr true 2 3 (.t 2), none⟩,
        ⟨none, .store 3 (.t 12) (.t 11), none⟩])
      (.seq (.rg [⟨(some 13), .load true 5 (.t 2), none⟩,
        ⟨none, .store 5 (.t 4) (.t 13), none⟩])
      .ret))
      .skip))
    (.seq (.rg [⟨(some 14), .mov (.t 1), none⟩,
      ⟨(some 15), .bld [.p (.bool false), .p (.string ⟨#[]⟩)] [(0, 1, (.c (.p (.bool true)))), (1, 1, (.t 14))], none⟩,
      ⟨(some 16), .callr 172 [(.t 15)], none⟩,
      ⟨(some 17), .faddr true 2 3 (.t 2), none⟩,
      ⟨none, .store 3 (.t 17) (.t 16), none⟩])
    (.seq (.rg [⟨(some 18), .load true 5 (.t 2), none⟩,
      ⟨none, .store 5 (.t 4) (.t 18), none⟩])
    .ret)))))
def r148 : List DR := [.cell 4 true 5]
theorem c148_ok : Try.f148.body.bind (cCode Try.prog) = some c148 := by kernel_rfl
theorem r148_ok : cRes Try.prog Try.f148.results.toList = some r148 := by kernel_rfl

/-- given.example/pub-assaymark/pub/netip.AddrFrom16 -/
def c149 : DC :=
  (.seq (.rg [⟨(some 1), .box (.t 0), none⟩,
      ⟨(some 2), .alloc 5 (.agg [.p (.int .u64 0), .p (.int .u64 0), .p (.bool false), .p (.bool false), .p (.string ⟨#[]⟩)]), none⟩])
    (.seq (.rgd [⟨⟨(some 3), .slca 16 1 false (.t 1) none (some (.c (.p (.int .i64 8)))), none⟩, 0, [0]⟩,
      ⟨⟨(some 4), .call 173 [(.t 3)], none⟩, 0, [0]⟩,
      ⟨⟨(some 5), .slca 16 1 false (.t 1) (some (.c (.p (.int .i64 8)))) none, none⟩, 0, [0]⟩,
      ⟨⟨(some 6), .call 173 [(.t 5)], none⟩, 1, []⟩,
      ⟨⟨(some 7), .bld [.p (.int .u64 0), .p (.int .u64 0)] [(0, 1, (.t 4)), (1, 1, (.t 6))], none⟩, 2, []⟩,
      ⟨⟨(some 8), .call 170 [], none⟩, 2, []⟩,
      ⟨⟨(some 9), .bld [.p (.int .u64 0), .p (.int .u64 0), .p (.bool false), .p (.bool false), .p (.string ⟨#[]⟩)] [(0, 2, (.t 7)), (2, 3, (.t 8))], none⟩, 3, []⟩,
      ⟨⟨none, .store 5 (.t 2) (.t 9), none⟩, 3, []⟩])
    .ret))
def r149 : List DR := [.cell 2 true 5]
theorem c149_ok : Try.f149.body.bind (cCode Try.prog) = some c149 := by kernel_rfl
theorem r149_ok : cRes Try.prog Try.f149.results.toList = some r149 := by kernel_rfl

/-- given.example/pub-assaymark/pub/netip.z4 -/
def c168 : DC :=
  (.seq (.rg [⟨(some 0), .alloc 3 (.agg [.p (.bool false), .p (.bool false), .p (.string ⟨#[]⟩)]), none⟩])
    (.seq (.rg [⟨(some 1), .bld [.p (.bool false), .p (.string ⟨#[]⟩)] [], none⟩,
      ⟨(some 2), .callr 172 [(.t 1)], none⟩,
      ⟨none, .store 3 (.t 0) (.t 2), none⟩])
    .ret))
def r168 : List DR := [.cell 0 true 3]
theorem c168_ok : Try.f168.body.bind (cCode Try.prog) = some c168 := by kernel_rfl
theorem r168_ok : cRes Try.prog Try.f168.results.toList = some r168 := by kernel_rfl

/-- given.example/pub-assaymark/pub/netip.z6noz -/
def c170 : DC :=
  (.seq (.rg [⟨(some 0), .alloc 3 (.agg [.p (.bool false), .p (.bool false), .p (.string ⟨#[]⟩)]), none⟩])
    (.seq (.rg [⟨(some 1), .bld [.p (.bool false), .p (.string ⟨#[]⟩)] [(0, 1, (.c (.p (.bool true))))], none⟩,
      ⟨(some 2), .callr 172 [(.t 1)], none⟩,
      ⟨none, .store 3 (.t 0) (.t 2), none⟩])
    .ret))
def r170 : List DR := [.cell 0 true 3]
theorem c170_ok : Try.f170.body.bind (cCode Try.prog) = some c170 := by kernel_rfl
theorem r170_ok : cRes Try.prog Try.f170.results.toList = some r170 := by kernel_rfl

/-- (given.example/pub-assaymark/pub/netip.Addr).Is6 -/
def c171 : DC :=
  (.seq (.rg [⟨(some 1), .box (.t 0), none⟩,
      ⟨(some 2), .mov (.c (.p (.bool false))), none⟩])
    (.seq (.rgd [⟨⟨(some 3), .faddr true 2 3 (.t 1), none⟩, 0, [0]⟩,
      ⟨⟨(some 4), .load true 3 (.t 3), none⟩, 0, [0]⟩,
      ⟨⟨(some 5), .call 131 [], none⟩, 0, [0]⟩,
      ⟨⟨(some 6), .eqs true [.bool, .bool, .str] (.t 4) (.t 5), none⟩, 1, []⟩,
      ⟨⟨(some 7), .mov (.t 6), none⟩, 1, []⟩,
      ⟨⟨(some 8), .faddr true 2 3 (.t 1), (some (7, true))⟩, 1, [1]⟩,
      ⟨⟨(some 9), .load true 3 (.t 8), (some (7, true))⟩, 1, [1]⟩,
      ⟨⟨(some 10), .call 168 [], (some (7, true))⟩, 1, [1]⟩,
      ⟨⟨(some 11), .eqs true [.bool, .bool, .str] (.t 9) (.t 10), (some (7, true))⟩, 2, []⟩,
      ⟨⟨(some 12), .pick (.t 7) (.t 11) (.c (.p (.bool false))), none⟩, 2, []⟩,
      ⟨⟨(some 2), .mov (.t 12), none⟩, 2, []⟩])
    .ret))
def r171 : List DR := [.tmp 2]
theorem c171_ok : Try.f171.body.bind (cCode Try.prog) = some c171 := by kernel_rfl
theorem r171_ok : cRes Try.prog Try.f171.results.toList = some r171 := by kernel_rfl

/-- given.example/pub-assaymark/pub/netip.makeHandle -/
def c172 : DC :=
  (.seq (.rg [⟨(some 1), .box (.t 0), none⟩,
      ⟨(some 2), .alloc 3 (.agg [.p (.bool false), .p (.bool false), .p (.string ⟨#[]⟩)]), none⟩])
    (.seq (.rg [⟨(some 3), .load true 2 (.t 1), none⟩,
      ⟨(some 4), .bld [.p (.bool false), .p (.bool false), .p (.string ⟨#[]⟩)] [(0, 1, (.c (.p (.bool true)))), (1, 2, (.t 3))], none⟩,
      ⟨none, .store 3 (.t 2) (.t 4), none⟩])
    .ret))
def r172 : List DR := [.cell 2 true 3]
theorem c172_ok : Try.f172.body.bind (cCode Try.prog) = some c172 := by kernel_rfl
theorem r172_ok : cRes Try.prog Try.f172.results.toList = some r172 := by kernel_rfl

/-- given.example/pub-assaymark/pub/netip.beUint64 -/
def c173 : DC :=
  (.seq (.rg [⟨(some 2), .mov (.c (.p (.int .u64 0))), none⟩])
    (.seq (.rg [⟨(some 3), .mov (.t 0), none⟩,
      ⟨(some 4), .iaddr 1 (.t 3) (.c (.p (.int .i64 7))), none⟩,
      ⟨(some 5), .load false 1 (.t 4), none⟩])
    (.seq (.rgd [⟨⟨(some 6), .mov (.t 0), none⟩, 0, [0]⟩,
      ⟨⟨(some 7), .iaddr 1 (.t 6) (.c (.p (.int .i64 7))), none⟩, 0, [0]⟩,
      ⟨⟨(some 8), .load false 1 (.t 7), none⟩, 0, [0]⟩,
      ⟨⟨(some 9), .cint .u64 (.t 8), none⟩, 0, [0]⟩,
      ⟨⟨(some 10), .mov (.t 0), none⟩, 0, [0]⟩,
      ⟨⟨(some 11), .iaddr 1 (.t 10) (.c (.p (.int .i64 6))), none⟩, 0, [0]⟩,
      ⟨⟨(some 12), .load false 1 (.t 11), none⟩, 0, [0]⟩,
      ⟨⟨(some 13), .cint .u64 (.t 12), none⟩, 0, [0]⟩,
      ⟨⟨(some 14), .bin .shl (.t 13) (.c (.p (.int .u64 8))), none⟩, 0, [0]⟩,
      ⟨⟨(some 15), .bin .or (.t 9) (.t 14), none⟩, 0, [0]⟩,
      ⟨⟨(some 16), .mov (.t 0), none⟩, 0, [0]⟩,
      ⟨⟨(some 17), .iaddr 1 (.t 16) (.c (.p (.int .i64 5))), none⟩, 0, [0]⟩,
      ⟨⟨(some 18), .load false 1 (.t 17), none⟩, 0, [0]⟩,
      ⟨⟨(some 19), .cint .u64 (.t 18), none⟩, 0, [0]⟩,
      ⟨⟨(some 20), .bin .shl (.t 19) (.c (.p (.int .u64 16))), none⟩, 0, [0]⟩,
      ⟨⟨(some 21), .bin .or (.t 15) (.t 20), none⟩, 0, [0]⟩,
      ⟨⟨(some 22), .mov (.t 0), none⟩, 0, [0]⟩,
      ⟨⟨(some 23), .iaddr 1 (.t 22) (.c (.p (.int .i64 4))), none⟩, 0, [0]⟩,
      ⟨⟨(some 24), .load false 1 (.t 23), none⟩, 0, [0]⟩,
      ⟨⟨(some 25), .cint .u64 (.t 24), none⟩, 0, [0]⟩,
      ⟨⟨(some 26), .bin .shl (.t 25) (.c (.p (.int .u64 24))), none⟩, 0, [0]⟩,
      ⟨⟨(some 27), .bin .or (.t 21) (.t 26), none⟩, 0, [0]⟩,
      ⟨⟨(some 28), .mov (.t 0), none⟩, 0, [0]⟩,
      ⟨⟨(some 29), .iaddr 1 (.t 28) (.c (.p (.int .i64 3))), none⟩, 0, [0]⟩,
      ⟨⟨(some 30), .load false 1 (.t 29), none⟩, 0, [0]⟩,
      ⟨⟨(some 31), .cint .u64 (.t 30), none⟩, 0, [0]⟩,
      ⟨⟨(some 32), .bin .shl (.t 31) (.c (.p (.int .u64 32))), none⟩, 0, [0]⟩,
      ⟨⟨(some 33), .bin .or (.t 27) (.t 32), none⟩, 0, [0]⟩,
      ⟨⟨(some 34), .mov (.t 0), none⟩, 0, [0]⟩,
      ⟨⟨(some 35), .iaddr 1 (.t 34) (.c (.p (.int .i64 2))), none⟩, 0, [0]⟩,
      ⟨⟨(some 36), .load false 1 (.t 35), none⟩, 0, [0]⟩,
      ⟨⟨(some 37), .cint .u64 (.t 36), none⟩, 0, [0]⟩,
      ⟨⟨(some 38), .bin .shl (.t 37) (.c (.p (.int .u64 40))), none⟩, 0, [0]⟩,
      ⟨⟨(some 39), .bin .or (.t 33) (.t 38), none⟩, 0, [0]⟩,
      ⟨⟨(some 40), .mov (.t 0), none⟩, 0, [0]⟩,
      ⟨⟨(some 41), .iaddr 1 (.t 40) (.c (.p (.int .i64 1))), none⟩, 0, [0]⟩,
      ⟨⟨(some 42), .load false 1 (.t 41), none⟩, 0, [0]⟩,
      ⟨⟨(some 43), .cint .u64 (.t 42), none⟩, 0, [0]⟩,
      ⟨⟨(some 44), .bin .shl (.t 43) (.c (.p (.int .u64 48))), none⟩, 0, [0]⟩,
      ⟨⟨(some 45), .bin .or (.t 39) (.t 44), none⟩, 0, [0]⟩,
      ⟨⟨(some 46), .mov (.t 0), none⟩, 0, [0]⟩,
      ⟨⟨(some 47), .iaddr 1 (.t 46) (.c (.p (.int .i64 0))), none⟩, 0, [0]⟩,
      ⟨⟨(some 48), .load false 1 (.t 47), none⟩, 0, [0]⟩,
      ⟨⟨(some 49), .cint .u64 (.t 48), none⟩, 0, [0]⟩,
      ⟨⟨(some 50), .bin .shl (.t 49) (.c (.p (.int .u64 56))), none⟩, 0, [0]⟩,
      ⟨⟨(some 51), .bin .or (.t 45) (.t 50), none⟩, 0, []⟩,
      ⟨⟨(some 2), .mov (.t 51), none⟩, 0, []⟩])
    .ret)))
def r173 : List DR := [.tmp 2]
theorem c173_ok : Try.f173.body.bind (cCode Try.prog) = some c173 := by kernel_rfl
theorem r173_ok : cRes Try.prog Try.f173.results.toList = some r173 := by kernel_rfl

end Go.Proofs.Ytdgnjngbheecnaa
