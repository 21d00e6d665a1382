/- The codes of the functions, in the small language of Den. -/
import Derived.Test.YtdgnjngbheecnaaLibE
import Derived.Test.YtdgnjngbheecnaaProg
set_option linter.unusedVariables false
set_option linter.unusedSimpArgs false
set_option maxRecDepth 100000
namespace Go.Proofs.Ytdgnjngbheecnaa
open Go Go.Den Go.Proofs

/-- given.example/pub-assaymark/laws.FnSumNew -/
def c5 : DC :=
  (.seq (.rg [⟨(some 6), .mov (.c (.p (.bool false))), none⟩])
    (.seq (.seq (.rg [⟨(some 12), .mov (.t 2), none⟩,
      ⟨(some 13), .lens (.t 12), none⟩,
      ⟨(some 14), .bin .gtr (.t 13) (.c (.p (.int .i64 2147483647))), none⟩])
    (.cond (.t 14) (.seq (.rg [⟨(some 6), .mov (.c (.p (.bool true))), none⟩])
      .ret)
      .skip))
    (.seq (.rg [⟨(some 15), .mov (.t 0), none⟩,
      ⟨(some 16), .bin .rem (.t 15) (.c (.p (.int .u8 10))), none⟩,
      ⟨(some 17), .cint .i64 (.t 16), none⟩,
      ⟨(some 7), .mov (.t 17), none⟩])
    (.seq (.rg [⟨(some 18), .mov (.t 2), none⟩,
      ⟨(some 19), .mov (.t 2), none⟩,
      ⟨(some 20), .lens (.t 19), none⟩,
      ⟨(some 21), .mm false (.t 20) (.c (.p (.int .i64 100))), none⟩,
      ⟨(some 22), .slcs (.t 18) none (some (.t 21)), none⟩,
      ⟨(some 2), .mov (.t 22), none⟩])
    (.seq (.rg [⟨(some 23), .mov (.t 2), none⟩,
      ⟨(some 8), .mov (.t 23), none⟩])
    (.seq (.seq (.rg [⟨(some 24), .mov (.t 1), none⟩])
    (.cond (.t 24) (.rg [⟨(some 25), .mov (.t 2), none⟩,
        ⟨(some 26), .s2b (.t 25), none⟩,
        ⟨(some 27), .callr 18 [(.t 26)], none⟩,
        ⟨(some 8), .mov (.t 27), none⟩])
      .skip))
    (.seq (.rg [⟨(some 29), .mov (.t 7), none⟩,
      ⟨(some 30), .mov (.t 1), none⟩,
      ⟨(some 31), .mov (.t 8), none⟩,
      ⟨(some 32), .callr 19 [(.t 29), (.t 30), (.t 31)], none⟩,
      ⟨(some 28), .mov (.t 32), none⟩,
      ⟨(some 33), .ext (.t 28) 0, none⟩,
      ⟨(some 34), .ext (.t 28) 1, none⟩,
      ⟨(some 35), .ext (.t 28) 2, none⟩,
      ⟨(some 9), .mov (.t 33), none⟩,
      ⟨(some 10), .mov (.t 34), none⟩,
      ⟨(some 11), .mov (.t 35), none⟩])
    (.seq (.seq (.rg [⟨(some 36), .mov (.t 2), none⟩,
      ⟨(some 37), .lens (.t 36), none⟩,
      ⟨(some 38), .mov (.t 7), none⟩,
      ⟨(some 39), .callr 20 [(.t 38)], none⟩,
      ⟨(some 40), .bin .neq (.t 37) (.t 39), none⟩])
    (.cond (.t 40) (.seq (.rg [⟨(some 41), .mov (.t 9), none⟩,
        ⟨(some 42), .un .not (.t 41), none⟩,
        ⟨(some 43), .mov (.t 42), none⟩,
        ⟨(some 44), .mov (.t 10), (some (43, true))⟩,
        ⟨(some 45), .bin .eql (.t 44) (.c (.p (.string ⟨#[]⟩))), (some (43, true))⟩,
        ⟨(some 46), .pick (.t 43) (.t 45) (.c (.p (.bool false))), none⟩,
        ⟨(some 47), .mov (.t 46), none⟩,
        ⟨(some 48), .mov (.t 11), (some (47, true))⟩,
        ⟨(some 49), .bin .eql (.t 48) (.c (.p (.string ⟨#[]⟩))), (some (47, true))⟩,
        ⟨(some 50), .pick (.t 47) (.t 49) (.c (.p (.bool false))), none⟩,
        ⟨(some 6), .mov (.t 50), none⟩])
      .ret)
      .skip))
    (.seq (.rg [⟨(some 51), .mov (.t 9), none⟩,
      ⟨(some 52), .mov (.t 51), none⟩,
      ⟨(some 53), .mov (.t 10), (some (52, true))⟩,
      ⟨(some 54), .mov (.t 2), (some (52, true))⟩,
      ⟨(some 55), .bin .eql (.t 53) (.t 54), (some (52, true))⟩,
      ⟨(some 56), .pick (.t 52) (.t 55) (.c (.p (.bool false))), none⟩,
      ⟨(some 57), .mov (.t 56), none⟩,
      ⟨(some 58), .mov (.t 11), (some (57, true))⟩,
      ⟨(some 59), .mov (.t 2), (some (57, true))⟩,
      ⟨(some 60), .s2b (.t 59), (some (57, true))⟩,
      ⟨(some 61), .callr 18 [(.t 60)], (some (57, true))⟩,
      ⟨(some 62), .bin .eql (.t 58) (.t 61), (some (57, true))⟩,
      ⟨(some 63), .pick (.t 57) (.t 62) (.c (.p (.bool false))), none⟩,
      ⟨(some 6), .mov (.t 63), none⟩])
    .ret)))))))))
def r5 : List DR := [.tmp 6]
theorem c5_ok : Try.f5.body.bind (cCode Try.prog) = some c5 := by kernel_rfl
theorem r5_ok : cRes Try.prog Try.f5.results.toList = some r5 := by kernel_rfl

/-- given.example/pub-assaymark/spec.Base64 -/
def c18 : DC :=
  (.seq (.rg [⟨(some 2), .mov (.c (.p (.string ⟨#[]⟩))), none⟩])
    (.seq (.rg [⟨(some 3), .mov (.c (.p (.slice none 0 0))), none⟩])
    (.seq (.seq (.rg [⟨(some 4), .mov (.c (.p (.int .i64 0))), none⟩])
    (.block 0 (.loop (.seq (.seq (.rg [⟨(some 9), .mov (.t 4), none⟩,
        ⟨(some 10), .mov (.t 0), none⟩,
        ⟨(some 11), .lenl (.t 10), none⟩,
        ⟨(some 12), .bin .lss (.t 9) (.t 11), none⟩])
      (.cond (.t 12) .skip
        (.exit 0)))
      (.seq (.block 1 (.seq (.rg [⟨(some 15), .mov (.t 0), none⟩,
         ⟨(some 16), .lenl (.t 15), none⟩,
         ⟨(some 17), .mov (.t 4), none⟩,
         ⟨(some 18), .bin .sub (.t 16) (.t 17), none⟩,
         ⟨(some 5), .mov (.c (.p (.int .i64 0))), none⟩,
         ⟨(some 6), .mov (.t 18), none⟩])
       (.seq (.seq (.rg [⟨(some 7), .mov (.c (.p (.int .i64 0))), none⟩])
       (.block 2 (.loop (.seq (.seq (.rg [⟨(some 19), .mov (.t 7), none⟩,
           ⟨(some 20), .bin .lss (.t 19) (.c (.p (.int .i64 3))), none⟩])
         (.cond (.t 20) .skip
           (.exit 2)))
         (.seq (.block 3 (.seq (.rg [⟨(some 23), .mov (.t 5), none⟩,
            ⟨(some 24), .bin .shl (.t 23) (.c (.p (.int .u64 8))), none⟩,
            ⟨(some 5), .mov (.t 24), none⟩])
          (.seq (.rg [⟨(some 25), .mov (.t 7), none⟩,
            ⟨(some 26), .mov (.t 6), none⟩,
            ⟨(some 27), .bin .lss (.t 25) (.t 26), none⟩])
          (.cond (.t 27) (.rg [⟨(some 28), .mov (.t 5), none⟩,
              ⟨(some 29), .mov (.t 0), none⟩,
              ⟨(some 30), .mov (.t 4), none⟩,
              ⟨(some 31), .mov (.t 7), none⟩,
              ⟨(some 32), .bin .add (.t 30) (.t 31), none⟩,
              ⟨(some 33), .iaddr 1 (.t 29) (.t 32), none⟩,
              ⟨(some 34), .load false 1 (.t 33), none⟩,
              ⟨(some 35), .cint .i64 (.t 34), none⟩,
              ⟨(some 36), .bin .or (.t 28) (.t 35), none⟩,
              ⟨(some 5), .mov (.t 36), none⟩])
            .skip))))
         (.rg [⟨(some 21), .mov (.t 7), none⟩,
           ⟨(some 22), .bin .add (.t 21) (.c (.p (.int .i64 1))), none⟩,
           ⟨(some 7), .mov (.t 22), none⟩]))))))
       (.seq (.rg [⟨(some 8), .mov (.c (.p (.int .i64 0))), none⟩])
       (.block 4 (.loop (.seq (.seq (.rg [⟨(some 37), .mov (.t 8), none⟩,
           ⟨(some 38), .bin .lss (.t 37) (.c (.p (.int .i64 4))), none⟩])
         (.cond (.t 38) .skip
           (.exit 4)))
         (.seq (.block 5 (.seq (.rg [⟨(some 41), .mov (.t 8), none⟩,
            ⟨(some 42), .mov (.t 6), none⟩,
            ⟨(some 43), .bin .leq (.t 41) (.t 42), none⟩])
          (.cond (.t 43) (.rg [⟨(some 44), .mov (.t 3), none⟩,
              ⟨(some 45), .mov (.t 5), none⟩,
              ⟨(some 46), .mov (.t 8), none⟩,
              ⟨(some 47), .bin .mul (.c (.p (.int .i64 6))) (.t 46), none⟩,
              ⟨(some 48), .bin .sub (.c (.p (.int .i64 18))) (.t 47), none⟩,
              ⟨(some 49), .bin .shr (.t 45) (.t 48), none⟩,
              ⟨(some 50), .bin .and (.t 49) (.c (.p (.int .i64 63))), none⟩,
              ⟨(some 51), .idxs (.c (.p (.string ⟨#[65, 66, 67, 68, 69, 70, 71, 72, 73, 74, 75, 76, 77, 78, 79, 80, 81, 82, 83, 84, 85, 86, 87, 88, 89, 90, 97, 98, 99, 100, 101, 102, 103, 104, 105, 106, 107, 108, 109, 110, 111, 112, 113, 114, 115, 116, 117, 118, 119, 120, 121, 122, 48, 49, 50, 51, 52, 53, 54, 55, 56, 57, 43, 47]⟩))) (.t 50), none⟩,
              ⟨(some 52), .lit 1 [(.t 51)], none⟩,
              ⟨(some 53), .app 1 1 (.t 44) (.t 52), none⟩,
              ⟨(some 3), .mov (.t 53), none⟩])
            (.rg [⟨(some 54), .mov (.t 3), none⟩,
              ⟨(some 55), .lit 1 [(.c (.p (.int .u8 61)))], none⟩,
              ⟨(some 56), .app 1 1 (.t 54) (.t 55), none⟩,
              ⟨(some 3), .mov (.t 56), none⟩]))))
         (.rg [⟨(some 39), .mov (.t 8), none⟩,
           ⟨(some 40), .bin .add (.t 39) (.c (.p (.int .i64 1))), none⟩,
           ⟨(some 8), .mov (.t 40), none⟩])))))))))
      (.rg [⟨(some 13), .mov (.t 4), none⟩,
        ⟨(some 14), .bin .add (.t 13) (.c (.p (.int .i64 3))), none⟩,
        ⟨(some 4), .mov (.t 14), none⟩]))))))
    (.seq (.rg [⟨(some 57), .mov (.t 3), none⟩,
      ⟨(some 58), .b2s (.t 57), none⟩,
      ⟨(some 2), .mov (.t 58), none⟩])
    .ret))))
def r18 : List DR := [.tmp 2]
theorem c18_ok : Try.f18.body.bind (cCode Try.prog) = some c18 := by kernel_rfl
theorem r18_ok : cRes Try.prog Try.f18.results.toList = some r18 := by kernel_rfl

/-- given.example/pub-assaymark/impl.SumNew -/
def c19 : DC :=
  (.seq (.rg [⟨(some 6), .mov (.c (.p (.bool false))), none⟩,
      ⟨(some 7), .mov (.c (.p (.string ⟨#[]⟩))), none⟩,
      ⟨(some 8), .mov (.c (.p (.string ⟨#[]⟩))), none⟩])
    (.seq (.rg [⟨(some 10), .mov (.t 0), none⟩,
      ⟨(some 11), .callr 45 [(.t 10)], none⟩,
      ⟨(some 12), .mov (.t 2), none⟩,
      ⟨(some 13), .s2b (.t 12), none⟩,
      ⟨(some 14), .callr 44 [(.t 11), (.t 13)], none⟩,
      ⟨(some 9), .alloc 2 (.agg [.p (.int .u32 0), .p (.slice none 0 0)]), none⟩,
      ⟨none, .store 2 (.t 9) (.t 14), none⟩])
    (.seq (.seq (.rg [⟨(some 15), .mov (.t 1), none⟩])
    (.cond (.t 15) (.rg [⟨(some 16), .mov (.t 0), none⟩,
        ⟨(some 17), .callr 45 [(.t 16)], none⟩,
        ⟨(some 18), .mov (.t 2), none⟩,
        ⟨(some 19), .callr 46 [(.t 17), (.t 18)], none⟩,
        ⟨none, .store 2 (.t 9) (.t 19), none⟩])
      .skip))
    (.seq (.rgd [⟨⟨(some 20), .load true 2 (.t 9), none⟩, 0, [0]⟩,
      ⟨⟨(some 21), .call 47 [(.t 20)], none⟩, 0, [0]⟩,
      ⟨⟨(some 22), .load true 2 (.t 9), none⟩, 0, [0]⟩,
      ⟨⟨(some 23), .call 48 [(.t 22)], none⟩, 1, [0]⟩,
      ⟨⟨(some 24), .b2s (.t 23), none⟩, 2, [2, 0]⟩,
      ⟨⟨(some 25), .load true 2 (.t 9), none⟩, 0, [0, 2]⟩,
      ⟨⟨(some 26), .call 49 [(.t 25)], none⟩, 2, [2]⟩,
      ⟨⟨(some 6), .mov (.t 21), none⟩, 3, [2]⟩,
      ⟨⟨(some 7), .mov (.t 24), none⟩, 3, []⟩,
      ⟨⟨(some 8), .mov (.t 26), none⟩, 3, []⟩])
    .ret))))
def r19 : List DR := [.tmp 6, .tmp 7, .tmp 8]
theorem c19_ok : Try.f19.body.bind (cCode Try.prog) = some c19 := by kernel_rfl
theorem r19_ok : cRes Try.prog Try.f19.results.toList = some r19 := by kernel_rfl

/-- given.example/pub-assaymark/spec.SumLen -/
def c20 : DC :=
  (.seq (.rg [⟨(some 2), .mov (.c (.p (.int .i64 0))), none⟩])
    (.seq (.rg [⟨(some 3), .lit 1 [(.c (.p (.int .i64 32))), (.c (.p (.int .i64 20))), (.c (.p (.int .i64 4))), (.c (.p (.int .i64 4))), (.c (.p (.int .i64 8))), (.c (.p (.int .i64 16))), (.c (.p (.int .i64 64))), (.c (.p (.int .i64 8))), (.c (.p (.int .i64 8))), (.c (.p (.int .i64 16)))], none⟩,
      ⟨(some 4), .mov (.t 0), none⟩,
      ⟨(some 5), .iaddr 1 (.t 3) (.t 4), none⟩,
      ⟨(some 6), .load false 1 (.t 5), none⟩,
      ⟨(some 2), .mov (.t 6), none⟩])
    .ret))
def r20 : List DR := [.tmp 2]
theorem c20_ok : Try.f20.body.bind (cCode Try.prog) = some c20 := by kernel_rfl
theorem r20_ok : cRes Try.prog Try.f20.results.toList = some r20 := by kernel_rfl

/-- given.example/pub-assaymark/pub/miniogo.NewChecksum -/
def c44 : DC :=
  (.seq (.rg [⟨(some 4), .alloc 2 (.agg [.p (.int .u32 0), .p (.slice none 0 0)]), none⟩])
    (.seq (.seq (.rg [⟨(some 5), .mov (.t 0), none⟩,
      ⟨(some 6), .callr 106 [(.t 5)], none⟩,
      ⟨(some 7), .mov (.t 6), none⟩,
      ⟨(some 8), .mov (.t 1), (some (7, true))⟩,
      ⟨(some 9), .lenl (.t 8), (some (7, true))⟩,
      ⟨(some 10), .mov (.t 0), (some (7, true))⟩,
      ⟨(some 11), .callr 107 [(.t 10)], (some (7, true))⟩,
      ⟨(some 12), .bin .eql (.t 9) (.t 11), (some (7, true))⟩,
      ⟨(some 13), .pick (.t 7) (.t 12) (.c (.p (.bool false))), none⟩])
    (.cond (.t 13) (.seq (.rg [⟨(some 14), .mov (.t 0), none⟩,
        ⟨(some 15), .mov (.t 1), none⟩,
        ⟨(some 16), .bld [.p (.int .u32 0), .p (.slice none 0 0)] [(0, 1, (.t 14)), (1, 1, (.t 15))], none⟩,
        ⟨none, .store 2 (.t 4) (.t 16), none⟩])
      .ret)
      .skip))
    (.seq (.rg [⟨(some 17), .bld [.p (.int .u32 0), .p (.slice none 0 0)] [], none⟩,
      ⟨none, .store 2 (.t 4) (.t 17), none⟩])
    .ret)))
def r44 : List DR := [.cell 4 true 2]
theorem c44_ok : Try.f44.body.bind (cCode Try.prog) = some c44 := by kernel_rfl
theorem r44_ok : cRes Try.prog Try.f44.results.toList = some r44 := by kernel_rfl

/-- given.example/pub-assaymark/impl.sumType -/
def c45 : DC :=
  (.seq (.rg [⟨(some 2), .mov (.c (.p (.int .u32 0))), none⟩])
    (.seq (.seq (.rg [⟨(some 3), .mov (.t 0), none⟩,
      ⟨(some 4), .bin .lss (.t 3) (.c (.p (.int .i64 0))), none⟩,
      ⟨(some 5), .mov (.t 4), none⟩,
      ⟨(some 6), .mov (.t 0), (some (5, false))⟩,
      ⟨(some 7), .bin .gtr (.t 6) (.c (.p (.int .i64 9))), (some (5, false))⟩,
      ⟨(some 8), .pick (.t 5) (.c (.p (.bool true))) (.t 7), none⟩])
    (.cond (.t 8) (.seq (.rg [⟨(some 2), .mov (.c (.p (.int .u32 0))), none⟩])
      .ret)
      .skip))
    (.seq (.rg [⟨(some 9), .mov (.t 0), none⟩,
      ⟨(some 10), .bin .shl (.c (.p (.int .u32 1))) (.t 9), none⟩,
      ⟨(some 2), .mov (.t 10), none⟩])
    .ret)))
def r45 : List DR := [.tmp 2]
theorem c45_ok : Try.f45.body.bind (cCode Try.prog) = some c45 := by kernel_rfl
theorem r45_ok : cRes Try.prog Try.f45.results.toList = some r45 := by kernel_rfl

/-- given.example/pub-assaymark/pub/miniogo.NewChecksumString -/
def c46 : DC :=
  (.seq (.rg [⟨(some 4), .alloc 2 (.agg [.p (.int .u32 0), .p (.slice none 0 0)]), none⟩])
    (.seq (.rg [⟨(some 8), .callr 108 [], none⟩,
      ⟨(some 9), .mov (.t 1), none⟩,
      ⟨(some 10), .callr 109 [(.t 8), (.t 9)], none⟩,
      ⟨(some 7), .mov (.t 10), none⟩,
      ⟨(some 11), .ext (.t 7) 0, none⟩,
      ⟨(some 12), .ext (.t 7) 1, none⟩,
      ⟨(some 5), .mov (.t 11), none⟩,
      ⟨(some 6), .mov (.t 12), none⟩])
    (.seq (.seq (.rg [⟨(some 13), .mov (.t 0), none⟩,
      ⟨(some 14), .callr 106 [(.t 13)], none⟩,
      ⟨(some 15), .mov (.t 14), none⟩,
      ⟨(some 16), .mov (.t 5), (some (15, true))⟩,
      ⟨(some 17), .lenl (.t 16), (some (15, true))⟩,
      ⟨(some 18), .mov (.t 0), (some (15, true))⟩,
      ⟨(some 19), .callr 107 [(.t 18)], (some (15, true))⟩,
      ⟨(some 20), .bin .eql (.t 17) (.t 19), (some (15, true))⟩,
      ⟨(some 21), .pick (.t 15) (.t 20) (.c (.p (.bool false))), none⟩])
    (.cond (.t 21) (.seq (.rg [⟨(some 22), .mov (.t 0), none⟩,
        ⟨(some 23), .mov (.t 5), none⟩,
        ⟨(some 24), .bld [.p (.int .u32 0), .p (.slice none 0 0)] [(0, 1, (.t 22)), (1, 1, (.t 23))], none⟩,
        ⟨none, .store 2 (.t 4) (.t 24), none⟩])
      .ret)
      .skip))
    (.seq (.rg [⟨(some 25), .bld [.p (.int .u32 0), .p (.slice none 0 0)] [], none⟩,
      ⟨none, .store 2 (.t 4) (.t 25), none⟩])
    .ret))))
def r46 : List DR := [.cell 4 true 2]
theorem c46_ok : Try.f46.body.bind (cCode Try.prog) = some c46 := by kernel_rfl
theorem r46_ok : cRes Try.prog Try.f46.results.toList = some r46 := by kernel_rfl

/-- (given.example/pub-assaymark/pub/miniogo.Checksum).IsSet -/
def c47 : DC :=
  (.seq (.rg [⟨(some 1), .box (.t 0), none⟩,
      ⟨(some 2), .mov (.c (.p (.bool false))), none⟩])
    (.seq (.rgd [⟨⟨(some 3), .faddr false 0 1 (.t 1), none⟩, 0, [0]⟩,
      ⟨⟨(some 4), .load false 1 (.t 3), none⟩, 0, [0]⟩,
      ⟨⟨(some 5), .call 106 [(.t 4)], none⟩, 0, []⟩,
      ⟨⟨(some 6), .mov (.t 5), none⟩, 1, []⟩,
      ⟨⟨(some 7), .faddr false 1 1 (.t 1), (some (6, true))⟩, 1, [1]⟩,
      ⟨⟨(some 8), .load false 1 (.t 7), (some (6, true))⟩, 1, [1]⟩,
      ⟨⟨(some 9), .lenl (.t 8), (some (6, true))⟩, 1, [1]⟩,
      ⟨⟨(some 10), .faddr false 0 1 (.t 1), (some (6, true))⟩, 1, [1]⟩,
      ⟨⟨(some 11), .load false 1 (.t 10), (some (6, true))⟩, 1, [1]⟩,
      ⟨⟨(some 12), .call 107 [(.t 11)], (some (6, true))⟩, 1, [1]⟩,
      ⟨⟨(some 13), .bin .eql (.t 9) (.t 12), (some (6, true))⟩, 2, []⟩,
      ⟨⟨(some 14), .pick (.t 6) (.t 13) (.c (.p (.bool false))), none⟩, 2, []⟩,
      ⟨⟨(some 2), .mov (.t 14), none⟩, 2, []⟩])
    .ret))
def r47 : List DR := [.tmp 2]
theorem c47_ok : Try.f47.body.bind (cCode Try.prog) = some c47 := by kernel_rfl
theorem r47_ok : cRes Try.prog Try.f47.results.toList = some r47 := by kernel_rfl

/-- (given.example/pub-assaymark/pub/miniogo.Checksum).Raw -/
def c48 : DC :=
  (.seq (.rg [⟨(some 1), .box (.t 0), none⟩,
      ⟨(some 2), .mov (.c (.p (.slice none 0 0))), none⟩])
    (.seq (.seq (.rg [⟨(some 3), .load true 2 (.t 1), none⟩,
      ⟨(some 4), .callr 47 [(.t 3)], none⟩,
      ⟨(some 5), .un .not (.t 4), none⟩])
    (.cond (.t 5) (.seq (.rg [⟨(some 2), .mov (.c (.p (.slice none 0 0))), none⟩])
      .ret)
      .skip))
    (.seq (.rg [⟨(some 6), .faddr false 1 1 (.t 1), none⟩,
      ⟨(some 7), .load false 1 (.t 6), none⟩,
      ⟨(some 2), .mov (.t 7), none⟩])
    .ret)))
def r48 : List DR := [.tmp 2]
theorem c48_ok : Try.f48.body.bind (cCode Try.prog) = some c48 := by kernel_rfl
theorem r48_ok : cRes Try.prog Try.f48.results.toList = some r48 := by kernel_rfl

/-- (given.example/pub-assaymark/pub/miniogo.Checksum).Encoded -/
def c49 : DC :=
  (.seq (.rg [⟨(some 1), .box (.t 0), none⟩,
      ⟨(some 2), .mov (.c (.p (.string ⟨#[]⟩))), none⟩])
    (.seq (.seq (.rg [⟨(some 3), .load true 2 (.t 1), none⟩,
      ⟨(some 4), .callr 47 [(.t 3)], none⟩,
      ⟨(some 5), .un .not (.t 4), none⟩])
    (.cond (.t 5) (.seq (.rg [⟨(some 2), .mov (.c (.p (.string ⟨#[]⟩))), none⟩])
      .ret)
      .skip))
    (.seq (.rgd [⟨⟨(some 6), .call 108 [], none⟩, 0, [0]⟩,
      ⟨⟨(some 7), .faddr false 1 1 (.t 1), none⟩, 0, [0]⟩,
      ⟨⟨(some 8), .load false 1 (.t 7), none⟩, 0, [0]⟩,
      ⟨⟨(some 9), .call 110 [(.t 6), (.t 8)], none⟩, 1, []⟩,
      ⟨⟨(some 2), .mov (.t 9), none⟩, 2, []⟩])
    .ret)))
def r49 : List DR := [.tmp 2]
theorem c49_ok : Try.f49.body.bind (cCode Try.prog) = some c49 := by kernel_rfl
theorem r49_ok : cRes Try.prog Try.f49.results.toList = some r49 := by kernel_rfl

/-- (given.example/pub-assaymark/pub/miniogo.ChecksumType).IsSet -/
def c106 : DC :=
  (.seq (.rg [⟨(some 2), .mov (.c (.p (.bool false))), none⟩])
    (.seq (.rg [⟨(some 3), .mov (.t 0), none⟩,
      ⟨(some 4), .bin .and (.t 3) (.c (.p (.int .u32 1023))), none⟩,
      ⟨(some 5), .callr 133 [(.t 4)], none⟩,
      ⟨(some 6), .bin .eql (.t 5) (.c (.p (.int .i64 1))), none⟩,
      ⟨(some 2), .mov (.t 6), none⟩])
    .ret))
def r106 : List DR := [.tmp 2]
theorem c106_ok : Try.f106.body.bind (cCode Try.prog) = some c106 := by kernel_rfl
theorem r106_ok : cRes Try.prog Try.f106.results.toList = some r106 := by kernel_rfl

/-- (given.example/pub-assaymark/pub/miniogo.ChecksumType).RawByteLen -/
def c107 : DC :=
  (.seq (.rg [⟨(some 2), .mov (.c (.p (.int .i64 0))), none⟩])
    (.seq (.seq (.rg [⟨(some 3), .mov (.t 0), none⟩,
      ⟨(some 4), .bin .and (.t 3) (.c (.p (.int .u32 1023))), none⟩])
    (.block 0 (.seq (.seq (.rg [⟨(some 6), .bin .eql (.t 4) (.c (.p (.int .u32 4))), none⟩,
       ⟨(some 5), .mov (.t 6), none⟩])
     (.cond (.t 5) .skip
       (.rg [⟨(some 7), .bin .eql (.t 4) (.c (.p (.int .u32 8))), none⟩,
         ⟨(some 5), .mov (.t 7), none⟩])))
     (.cond (.t 5) (.seq (.rg [⟨(some 2), .mov (.c (.p (.int .i64 4))), none⟩])
       .ret)
       (.seq (.rg [⟨(some 9), .bin .eql (.t 4) (.c (.p (.int .u32 2))), none⟩,
         ⟨(some 8), .mov (.t 9), none⟩])
       (.cond (.t 8) (.seq (.rg [⟨(some 2), .mov (.c (.p (.int .i64 20))), none⟩])
         .ret)
         (.seq (.rg [⟨(some 11), .bin .eql (.t 4) (.c (.p (.int .u32 1))), none⟩,
           ⟨(some 10), .mov (.t 11), none⟩])
         (.cond (.t 10) (.seq (.rg [⟨(some 2), .mov (.c (.p (.int .i64 32))), none⟩])
           .ret)
           (.seq (.rg [⟨(some 13), .bin .eql (.t 4) (.c (.p (.int .u32 16))), none⟩,
             ⟨(some 12), .mov (.t 13), none⟩])
           (.cond (.t 12) (.seq (.rg [⟨(some 2), .mov (.c (.p (.int .i64 8))), none⟩])
             .ret)
             (.seq (.seq (.rg [⟨(some 15), .bin .eql (.t 4) (.c (.p (.int .u32 128))), none⟩,
               ⟨(some 14), .mov (.t 15), none⟩])
             (.cond (.t 14) .skip
               (.rg [⟨(some 16), .bin .eql (.t 4) (.c (.p (.int .u32 256))), none⟩,
                 ⟨(some 14), .mov (.t 16), none⟩])))
             (.cond (.t 14) (.seq (.rg [⟨(some 2), .mov (.c (.p (.int .i64 8))), none⟩])
               .ret)
               (.seq (.rg [⟨(some 18), .bin .eql (.t 4) (.c (.p (.int .u32 32))), none⟩,
                 ⟨(some 17), .mov (.t 18), none⟩])
               (.cond (.t 17) (.seq (.rg [⟨(some 2), .mov (.c (.p (.int .i64 16))), none⟩])
                 .ret)
                 (.seq (.rg [⟨(some 20), .bin .eql (.t 4) (.c (.p (.int .u32 64))), none⟩,
                   ⟨(some 19), .mov (.t 20), none⟩])
                 (.cond (.t 19) (.seq (.rg [⟨(some 2), .mov (.c (.p (.int .i64 64))), none⟩])
                   .ret)
                   (.seq (.rg [⟨(some 22), .bin .eql (.t 4) (.c (.p (.int .u32 512))), none⟩,
                     ⟨(some 21), .mov (.t 22), none⟩])
                   (.cond (.t 21) (.seq (.rg [⟨(some 2), .mov (.c (.p (.int .i64 16))), none⟩])
                     .ret)
                     .skip))))))))))))))))))
    (.seq (.rg [⟨(some 2), .mov (.c (.p (.int .i64 0))), none⟩])
    .ret)))
def r107 : List DR := [.tmp 2]
theorem c107_ok : Try.f107.body.bind (cCode Try.prog) = some c107 := by kernel_rfl
theorem r107_ok : cRes Try.prog Try.f107.results.toList = some r107 := by kernel_rfl

/-- given.example/pub-assaymark/pub/zzbase64.StdEncoding -/
def c108 : DC :=
  (.seq (.rg [⟨(some 0), .mov (.c (.p (.pointer none))), none⟩])
    (.seq (.rg [⟨(some 1), .callr 134 [(.c (.p (.string ⟨#[65, 66, 67, 68, 69, 70, 71, 72, 73, 74, 75, 76, 77, 78, 79, 80, 81, 82, 83, 84, 85, 86, 87, 88, 89, 90, 97, 98, 99, 100, 101, 102, 103, 104, 105, 106, 107, 108, 109, 110, 111, 112, 113, 114, 115, 116, 117, 118, 119, 120, 121, 122, 48, 49, 50, 51, 52, 53, 54, 55, 56, 57, 43, 47]⟩)))], none⟩,
      ⟨(some 0), .mov (.t 1), none⟩])
    .ret))
def r108 : List DR := [.tmp 0]
theorem c108_ok : Try.f108.body.bind (cCode Try.prog) = some c108 := by kernel_rfl
theorem r108_ok : cRes Try.prog Try.f108.results.toList = some r108 := by kernel_rfl

/-- (*given.example/pub-assaymark/pub/zzbase64.Encoding).DecodeString -/
def c109 : DC :=
  (.seq (.rg [⟨(some 4), .mov (.c (.p (.slice none 0 0))), none⟩,
      ⟨(some 5), .mov (.c (.p .nilIface)), none⟩])
    (.seq (.rg [⟨(some 9), .mov (.t 0), none⟩,
      ⟨(some 10), .mov (.t 1), none⟩,
      ⟨(some 11), .lens (.t 10), none⟩,
      ⟨(some 12), .callr 135 [(.t 9), (.t 11)], none⟩,
      ⟨(some 13), .mks false 1 1 (.p (.int .u8 0)) (.t 12) (.t 12), none⟩,
      ⟨(some 6), .mov (.t 13), none⟩])
    (.seq (.rg [⟨(some 15), .mov (.t 0), none⟩,
      ⟨(some 16), .mov (.t 6), none⟩,
      ⟨(some 17), .mov (.t 1), none⟩,
      ⟨(some 18), .s2b (.t 17), none⟩,
      ⟨(some 19), .callr 136 [(.t 15), (.t 16), (.t 18)], none⟩,
      ⟨(some 14), .mov (.t 19), none⟩,
      ⟨(some 20), .ext (.t 14) 0, none⟩,
      ⟨(some 21), .ext (.t 14) 1, none⟩,
      ⟨(some 7), .mov (.t 20), none⟩,
      ⟨(some 8), .mov (.t 21), none⟩])
    (.seq (.rg [⟨(some 22), .mov (.t 6), none⟩,
      ⟨(some 23), .mov (.t 7), none⟩,
      ⟨(some 24), .slcl 1 (.t 22) none (some (.t 23)), none⟩,
      ⟨(some 25), .mov (.t 8), none⟩,
      ⟨(some 4), .mov (.t 24), none⟩,
      ⟨(some 5), .mov (.t 25), none⟩])
    .ret))))
def r109 : List DR := [.tmp 4, .tmp 5]
theorem c109_ok : Try.f109.body.bind (cCode Try.prog) = some c109 := by kernel_rfl
theorem r109_ok : cRes Try.prog Try.f109.results.toList = some r109 := by kernel_rfl

/-- (*given.example/pub-assaymark/pub/zzbase64.Encoding).EncodeToString -/
def c110 : DC :=
  (.seq (.rg [⟨(some 4), .mov (.c (.p (.string ⟨#[]⟩))), none⟩])
    (.seq (.rg [⟨(some 6), .mov (.t 0), none⟩,
      ⟨(some 7), .mov (.t 1), none⟩,
      ⟨(some 8), .lenl (.t 7), none⟩,
      ⟨(some 9), .callr 137 [(.t 6), (.t 8)], none⟩,
      ⟨(some 10), .mks false 1 1 (.p (.int .u8 0)) (.t 9) (.t 9), none⟩,
      ⟨(some 5), .mov (.t 10), none⟩])
    (.seq (.rg [⟨(some 11), .mov (.t 0), none⟩,
      ⟨(some 12), .mov (.t 5), none⟩,
      ⟨(some 13), .mov (.t 1), none⟩,
      ⟨(some 14), .callr 138 [(.t 11), (.t 12), (.t 13)], none⟩])
    (.seq (.rg [⟨(some 15), .mov (.t 5), none⟩,
      ⟨(some 16), .b2s (.t 15), none⟩,
      ⟨(some 4), .mov (.t 16), none⟩])
    .ret))))
def r110 : List DR := [.tmp 4]
theorem c110_ok : Try.f110.body.bind (cCode Try.prog) = some c110 := by kernel_rfl
theorem r110_ok : cRes Try.prog Try.f110.results.toList = some r110 := by kernel_rfl

/-- math/bits.OnesCount32 -/
def c133 : DC :=
  (.seq (.rg [⟨(some 2), .mov (.c (.p (.int .i64 0))), none⟩])
    (.seq (.rgd [⟨⟨(some 3), .mov (.t 0), none⟩, 0, []⟩,
      ⟨⟨(some 4), .bin .shr (.t 3) (.c (.p (.int .u64 24))), none⟩, 0, []⟩,
      ⟨⟨(some 5), .idxs (.c (.p (.string ⟨#[0, 1, 1, 2, 1, 2, 2, 3, 1, 2, 2, 3, 2, 3, 3, 4, 1, 2, 2, 3, 2, 3, 3, 4, 2, 3, 3, 4, 3, 4, 4, 5, 1, 2, 2, 3, 2, 3, 3, 4, 2, 3, 3, 4, 3, 4, 4, 5, 2, 3, 3, 4, 3, 4, 4, 5, 3, 4, 4, 5, 4, 5, 5, 6, 1, 2, 2, 3, 2, 3, 3, 4, 2, 3, 3, 4, 3, 4, 4, 5, 2, 3, 3, 4, 3, 4, 4, 5, 3, 4, 4, 5, 4, 5, 5, 6, 2, 3, 3, 4, 3, 4, 4, 5, 3, 4, 4, 5, 4, 5, 5, 6, 3, 4, 4, 5, 4, 5, 5, 6, 4, 5, 5, 6, 5, 6, 6, 7, 1, 2, 2, 3, 2, 3, 3, 4, 2, 3, 3, 4, 3, 4, 4, 5, 2, 3, 3, 4, 3, 4, 4, 5, 3, 4, 4, 5, 4, 5, 5, 6, 2, 3, 3, 4, 3, 4, 4, 5, 3, 4, 4, 5, 4, 5, 5, 6, 3, 4, 4, 5, 4, 5, 5, 6, 4, 5, 5, 6, 5, 6, 6, 7, 2, 3, 3, 4, 3, 4, 4, 5, 3, 4, 4, 5, 4, 5, 5, 6, 3, 4, 4, 5, 4, 5, 5, 6, 4, 5, 5, 6, 5, 6, 6, 7, 3, 4, 4, 5, 4, 5, 5, 6, 4, 5, 5, 6, 5, 6, 6, 7, 4, 5, 5, 6, 5, 6, 6, 7, 5, 6, 6, 7, 6, 7, 7, 8]⟩))) (.t 4), none⟩, 0, []⟩,
      ⟨⟨(some 6), .mov (.t 0), none⟩, 0, []⟩,
      ⟨⟨(some 7), .bin .shr (.t 6) (.c (.p (.int .u64 16))), none⟩, 0, []⟩,
      ⟨⟨(some 8), .bin .and (.t 7) (.c (.p (.int .u32 255))), none⟩, 0, []⟩,
      ⟨⟨(some 9), .idxs (.c (.p (.string ⟨#[0, 1, 1, 2, 1, 2, 2, 3, 1, 2, 2, 3, 2, 3, 3, 4, 1, 2, 2, 3, 2, 3, 3, 4, 2, 3, 3, 4, 3, 4, 4, 5, 1, 2, 2, 3, 2, 3, 3, 4, 2, 3, 3, 4, 3, 4, 4, 5, 2, 3, 3, 4, 3, 4, 4, 5, 3, 4, 4, 5, 4, 5, 5, 6, 1, 2, 2, 3, 2, 3, 3, 4, 2, 3, 3, 4, 3, 4, 4, 5, 2, 3, 3, 4, 3, 4, 4, 5, 3, 4, 4, 5, 4, 5, 5, 6, 2, 3, 3, 4, 3, 4, 4, 5, 3, 4, 4, 5, 4, 5, 5, 6, 3, 4, 4, 5, 4, 5, 5, 6, 4, 5, 5, 6, 5, 6, 6, 7, 1, 2, 2, 3, 2, 3, 3, 4, 2, 3, 3, 4, 3, 4, 4, 5, 2, 3, 3, 4, 3, 4, 4, 5, 3, 4, 4, 5, 4, 5, 5, 6, 2, 3, 3, 4, 3, 4, 4, 5, 3, 4, 4, 5, 4, 5, 5, 6, 3, 4, 4, 5, 4, 5, 5, 6, 4, 5, 5, 6, 5, 6, 6, 7, 2, 3, 3, 4, 3, 4, 4, 5, 3, 4, 4, 5, 4, 5, 5, 6, 3, 4, 4, 5, 4, 5, 5, 6, 4, 5, 5, 6, 5, 6, 6, 7, 3, 4, 4, 5, 4, 5, 5, 6, 4, 5, 5, 6, 5, 6, 6, 7, 4, 5, 5, 6, 5, 6, 6, 7, 5, 6, 6, 7, 6, 7, 7, 8]⟩))) (.t 8), none⟩, 0, []⟩,
      ⟨⟨(some 10), .bin .add (.t 5) (.t 9), none⟩, 0, []⟩,
      ⟨⟨(some 11), .mov (.t 0), none⟩, 0, []⟩,
      ⟨⟨(some 12), .bin .shr (.t 11) (.c (.p (.int .u64 8))), none⟩, 0, []⟩,
      ⟨⟨(some 13), .bin .and (.t 12) (.c (.p (.int .u32 255))), none⟩, 0, []⟩,
      ⟨⟨(some 14), .idxs (.c (.p (.string ⟨#[0, 1, 1, 2, 1, 2, 2, 3, 1, 2, 2, 3, 2, 3, 3, 4, 1, 2, 2, 3, 2, 3, 3, 4, 2, 3, 3, 4, 3, 4, 4, 5, 1, 2, 2, 3, 2, 3, 3, 4, 2, 3, 3, 4, 3, 4, 4, 5, 2, 3, 3, 4, 3, 4, 4, 5, 3, 4, 4, 5, 4, 5, 5, 6, 1, 2, 2, 3, 2, 3, 3, 4, 2, 3, 3, 4, 3, 4, 4, 5, 2, 3, 3, 4, 3, 4, 4, 5, 3, 4, 4, 5, 4, 5, 5, 6, 2, 3, 3, 4, 3, 4, 4, 5, 3, 4, 4, 5, 4, 5, 5, 6, 3, 4, 4, 5, 4, 5, 5, 6, 4, 5, 5, 6, 5, 6, 6, 7, 1, 2, 2, 3, 2, 3, 3, 4, 2, 3, 3, 4, 3, 4, 4, 5, 2, 3, 3, 4, 3, 4, 4, 5, 3, 4, 4, 5, 4, 5, 5, 6, 2, 3, 3, 4, 3, 4, 4, 5, 3, 4, 4, 5, 4, 5, 5, 6, 3, 4, 4, 5, 4, 5, 5, 6, 4, 5, 5, 6, 5, 6, 6, 7, 2, 3, 3, 4, 3, 4, 4, 5, 3, 4, 4, 5, 4, 5, 5, 6, 3, 4, 4, 5, 4, 5, 5, 6, 4, 5, 5, 6, 5, 6, 6, 7, 3, 4, 4, 5, 4, 5, 5, 6, 4, 5, 5, 6, 5, 6, 6, 7, 4, 5, 5, 6, 5, 6, 6, 7, 5, 6, 6, 7, 6, 7, 7, 8]⟩))) (.t 13), none⟩, 0, []⟩,
      ⟨⟨(some 15), .bin .add (.t 10) (.t 14), none⟩, 0, []⟩,
      ⟨⟨(some 16), .mov (.t 0), none⟩, 0, []⟩,
      ⟨⟨(some 17), .bin .and (.t 16) (.c (.p (.int .u32 255))), none⟩, 0, []⟩,
      ⟨⟨(some 18), .idxs (.c (.p (.string ⟨#[0, 1, 1, 2, 1, 2, 2, 3, 1, 2, 2, 3, 2, 3, 3, 4, 1, 2, 2, 3, 2, 3, 3, 4, 2, 3, 3, 4, 3, 4, 4, 5, 1, 2, 2, 3, 2, 3, 3, 4, 2, 3, 3, 4, 3, 4, 4, 5, 2, 3, 3, 4, 3, 4, 4, 5, 3, 4, 4, 5, 4, 5, 5, 6, 1, 2, 2, 3, 2, 3, 3, 4, 2, 3, 3, 4, 3, 4, 4, 5, 2, 3, 3, 4, 3, 4, 4, 5, 3, 4, 4, 5, 4, 5, 5, 6, 2, 3, 3, 4, 3, 4, 4, 5, 3, 4, 4, 5, 4, 5, 5, 6, 3, 4, 4, 5, 4, 5, 5, 6, 4, 5, 5, 6, 5, 6, 6, 7, 1, 2, 2, 3, 2, 3, 3, 4, 2, 3, 3, 4, 3, 4, 4, 5, 2, 3, 3, 4, 3, 4, 4, 5, 3, 4, 4, 5, 4, 5, 5, 6, 2, 3, 3, 4, 3, 4, 4, 5, 3, 4, 4, 5, 4, 5, 5, 6, 3, 4, 4, 5, 4, 5, 5, 6, 4, 5, 5, 6, 5, 6, 6, 7, 2, 3, 3, 4, 3, 4, 4, 5, 3, 4, 4, 5, 4, 5, 5, 6, 3, 4, 4, 5, 4, 5, 5, 6, 4, 5, 5, 6, 5, 6, 6, 7, 3, 4, 4, 5, 4, 5, 5, 6, 4, 5, 5, 6, 5, 6, 6, 7, 4, 5, 5, 6, 5, 6, 6, 7, 5, 6, 6, 7, 6, 7, 7, 8]⟩))) (.t 17), none⟩, 0, []⟩,
      ⟨⟨(some 19), .bin .add (.t 15) (.t 18), none⟩, 0, []⟩,
      ⟨⟨(some 20), .cint .i64 (.t 19), none⟩, 0, []⟩,
      ⟨⟨(some 2), .mov (.t 20), none⟩, 0, []⟩])
    .ret))
def r133 : List DR := [.tmp 2]
theorem c133_ok : Try.f133.body.bind (cCode Try.prog) = some c133 := by kernel_rfl
theorem r133_ok : cRes Try.prog Try.f133.results.toList = some r133 := by kernel_rfl

/-- given.example/pub-assaymark/pub/zzbase64.NewEncoding -/
def c134 : DC :=
  (.seq (.rg [⟨(some 2), .mov (.c (.p (.pointer none))), none⟩])
    (.seq (.seq (.rg [⟨(some 5), .mov (.t 0), none⟩,
      ⟨(some 6), .lens (.t 5), none⟩,
      ⟨(some 7), .bin .neq (.t 6) (.c (.p (.int .i64 64))), none⟩])
    (.cond (.t 7) (.rg [⟨(some 8), .ifc 9 (.c (.p (.string ⟨#[101, 110, 99, 111, 100, 105, 110, 103, 32, 97, 108, 112, 104, 97, 98, 101, 116, 32, 105, 115, 32, 110, 111, 116, 32, 54, 52, 45, 98, 121, 116, 101, 115, 32, 108, 111, 110, 103]⟩))), none⟩,
        ⟨none, .stop, none⟩])
      .skip))
    (.seq (.rg [⟨(some 9), .alloc 322 (.agg [.p (.int .u8 0), .p (.int .u8 0), .p (.int .u8 0), .p (.int .u8 0), .p (.int .u8 0), .p (.int .u8 0), .p (.int .u8 0), .p (.int .u8 0), .p (.int .u8 0), .p (.int .u8 0), .p (.int .u8 0), .p (.int .u8 0), .p (.int .u8 0), .p (.int .u8 0), .p (.int .u8 0), .p (.int .u8 0), .p (.int .u8 0), .p (.int .u8 0), .p (.int .u8 0), .p (.int .u8 0), .p (.int .u8 0), .p (.int .u8 0), .p (.int .u8 0), .p (.int .u8 0), .p (.int .u8 0), .p (.int .u8 0), .p (.int .u8 0), .p (.int .u8 0), .p (.int .u8 0), .p (.int .u8 0), .p (.int .u8 0), .p (.int .u8 0), .p (.int .u8 0), .p (.int .u8 0), .p (.int .u8 0), .p (.int .u8 0), .p (.int .u8 0), .p (.int .u8 0), .p (.int .u8 0), .p (.int .u8 0), .p (.int .u8 0), .p (.int .u8 0), .p (.int .u8 0), .p (.int .u8 0), .p (.int .u8 0), .p (.int .u8 0), .p (.int .u8 0), .p (.int .u8 0), .p (.int .u8 0), .p (.int .u8 0), .p (.int .u8 0), .p (.int .u8 0), .p (.int .u8 0), .p (.int .u8 0), .p (.int .u8 0), .p (.int .u8 0), .p (.int .u8 0), .p (.int .u8 0), .p (.int .u8 0), .p (.int .u8 0), .p (.int .u8 0), .p (.int .u8 0), .p (.int .u8 0), .p (.int .u8 0), .p (.int .u8 0), .p (.int .u8 0), .p (.int .u8 0), .p (.int .u8 0), .p (.int .u8 0), .p (.int .u8 0), .p (.int .u8 0), .p (.int .u8 0), .p (.int .u8 0), .p (.int .u8 0), .p (.int .u8 0), .p (.int .u8 0), .p (.int .u8 0), .p (.int .u8 0), .p (.int .u8 0), .p (.int .u8 0), .p (.int .u8 0), .p (.int .u8 0), .p (.int .u8 0), .p (.int .u8 0), .p (.int .u8 0), .p (.int .u8 0), .p (.int .u8 0), .p (.int .u8 0), .p (.int .u8 0), .p (.int .u8 0), .p (.int .u8 0), .p (.int .u8 0), .p (.int .u8 0), .p (.int .u8 0), .p (.int .u8 0), .p (.int .u8 0), .p (.int .u8 0), .p (.int .u8 0), .p (.int .u8 0), .p (.int .u8 0), .p (.int .u8 0), .p (.int .u8 0), .p (.int .u8 0), .p (.int .u8 0), .p (.int .u8 0), .p (.int .u8 0), .p (.int .u8 0), .p (.int .u8 0), .p (.int .u8 0), .p (.int .u8 0), .p (.int .u8 0), .p (.int .u8 0), .p (.int .u8 0), .p (.int .u8 0), .p (.int .u8 0), .p (.int .u8 0), .p (.int .u8 0), .p (.int .u8 0), .p (.int .u8 0), .p (.int .u8 0), .p (.int .u8 0), .p (.int .u8 0), .p (.int .u8 0), .p (.int .u8 0), .p (.int .u8 0), .p (.int .u8 0), .p (.int .u8 0), .p (.int .u8 0), .p (.int .u8 0), .p (.int .u8 0), .p (.int .u8 0), .p (.int .u8 0), .p (.int .u8 0), .p (.int .u8 0), .p (.int .u8 0), .p (.int .u8 0), .p (.int .u8 0), .p (.int .u8 0), .p (.int .u8 0), .p (.int .u8 0), .p (.int .u8 0), .p (.int .u8 0), .p (.int .u8 0), .p (.int .u8 0), .p (.int .u8 0), .p (.int .u8 0), .p (.int .u8 0), .p (.int .u8 0), .p (.int .u8 0), .p (.int .u8 0), .p (.int .u8 0), .p (.int .u8 0), .p (.int .u8 0), .p (.int .u8 0), .p (.int .u8 0), .p (.int .u8 0), .p (.int .u8 0), .p (.int .u8 0), .p (.int .u8 0), .p (.int .u8 0), .p (.int .u8 0), .p (.int .u8 0), .p (.int .u8 0), .p (.int .u8 0), .p (.int .u8 0), .p (.int .u8 0), .p (.int .u8 0), .p (.int .u8 0), .p (.int .u8 0), .p (.int .u8 0), .p (.int .u8 0), .p (.int .u8 0), .p (.int .u8 0), .p (.int .u8 0), .p (.int .u8 0), .p (.int .u8 0), .p (.int .u8 0), .p (.int .u8 0), .p (.int .u8 0), .p (.int .u8 0), .p (.int .u8 0), .p (.int .u8 0), .p (.int .u8 0), .p (.int .u8 0), .p (.int .u8 0), .p (.int .u8 0), .p (.int .u8 0), .p (.int .u8 0), .p (.int .u8 0), .p (.int .u8 0), .p (.int .u8 0), .p (.int .u8 0), .p (.int .u8 0), .p (.int .u8 0), .p (.int .u8 0), .p (.int .u8 0), .p (.int .u8 0), .p (.int .u8 0), .p (.int .u8 0), .p (.int .u8 0), .p (.int .u8 0), .p (.int .u8 0), .p (.int .u8 0), .p (.int .u8 0), .p (.int .u8 0), .p (.int .u8 0), .p (.int .u8 0), .p (.int .u8 0), .p (.int .u8 0), .p (.int .u8 0), .p (.int .u8 0), .p (.int .u8 0), .p (.int .u8 0), .p (.int .u8 0), .p (.int .u8 0), .p (.int .u8 0), .p (.int .u8 0), .p (.int .u8 0), .p (.int .u8 0), .p (.int .u8 0), .p (.int .u8 0), .p (.int .u8 0), .p (.int .u8 0), .p (.int .u8 0), .p (.int .u8 0), .p (.int .u8 0), .p (.int .u8 0), .p (.int .u8 0), .p (.int .u8 0), .p (.int .u8 0), .p (.int .u8 0), .p (.int .u8 0), .p (.int .u8 0), .p (.int .u8 0), .p (.int .u8 0), .p (.int .u8 0), .p (.int .u8 0), .p (.int .u8 0), .p (.int .u8 0), .p (.int .u8 0), .p (.int .u8 0), .p (.int .u8 0), .p (.int .u8 0), .p (.int .u8 0), .p (.int .u8 0), .p (.int .u8 0), .p (.int .u8 0), .p (.int .u8 0), .p (.int .u8 0), .p (.int .u8 0), .p (.int .u8 0), .p (.int .u8 0), .p (.int .u8 0), .p (.int .u8 0), .p (.int .u8 0), .p (.int .u8 0), .p (.int .u8 0), .p (.int .u8 0), .p (.int .u8 0), .p (.int .u8 0), .p (.int .u8 0), .p (.int .u8 0), .p (.int .u8 0), .p (.int .u8 0), .p (.int .u8 0), .p (.int .u8 0), .p (.int .u8 0), .p (.int .u8 0), .p (.int .u8 0), .p (.int .u8 0), .p (.int .u8 0), .p (.int .u8 0), .p (.int .u8 0), .p (.int .u8 0), .p (.int .u8 0), .p (.int .u8 0), .p (.int .u8 0), .p (.int .u8 0), .p (.int .u8 0), .p (.int .u8 0), .p (.int .u8 0), .p (.int .u8 0), .p (.int .u8 0), .p (.int .u8 0), .p (.int .u8 0), .p (.int .u8 0), .p (.int .u8 0), .p (.int .u8 0), .p (.int .u8 0), .p (.int .u8 0), .p (.int .u8 0), .p (.int .u8 0), .p (.int .u8 0), .p (.int .u8 0), .p (.int .u8 0), .p (.int .u8 0), .p (.int .u8 0), .p (.int .u8 0), .p (.int .u8 0), .p (.int .u8 0), .p (.int .u8 0), .p (.int .u8 0), .p (.int .u8 0), .p (.int .u8 0), .p (.int .u8 0), .p (.int .u8 0), .p (.int .u8 0), .p (.int .u8 0), .p (.int .u8 0), .p (.int .u8 0), .p (.int .u8 0), .p (.int .u8 0), .p (.int .u8 0), .p (.int .u8 0), .p (.int .u8 0), .p (.int .u8 0), .p (.int .u8 0), .p (.int .u8 0), .p (.int .u8 0), .p (.int .u8 0), .p (.int .i32 0), .p (.bool false)]), none⟩,
      ⟨(some 3), .mov (.t 9), none⟩])
    (.seq (.rg [⟨(some 10), .mov (.t 3), none⟩,
      ⟨(some 11), .nilchk .ptr (.t 10), none⟩,
      ⟨(some 12), .faddr false 320 1 (.t 11), none⟩,
      ⟨none, .store 1 (.t 12) (.c (.p (.int .i32 61))), none⟩])
    (.seq (.rg [⟨(some 13), .mov (.t 3), none⟩,
      ⟨(some 14), .nilchk .ptr (.t 13), none⟩,
      ⟨(some 15), .faddr true 0 64 (.t 14), none⟩,
      ⟨(some 16), .slca 64 1 false (.t 15) none none, none⟩,
      ⟨(some 17), .mov (.t 0), none⟩,
      ⟨(some 18), .cpy 1 (.t 16) (.t 17), none⟩])
    (.seq (.rg [⟨(some 19), .mov (.t 3), none⟩,
      ⟨(some 20), .nilchk .ptr (.t 19), none⟩,
      ⟨(some 21), .faddr true 64 256 (.t 20), none⟩,
      ⟨(some 22), .slca 256 1 false (.t 21) none none, none⟩,
      ⟨(some 23), .cpy 1 (.t 22) (.c (.p (.string ⟨#[255, 255, 255, 255, 255, 255, 255, 255, 255, 255, 255, 255, 255, 255, 255, 255, 255, 255, 255, 255, 255, 255, 255, 255, 255, 255, 255, 255, 255, 255, 255, 255, 255, 255, 255, 255, 255, 255, 255, 255, 255, 255, 255, 255, 255, 255, 255, 255, 255, 255, 255, 255, 255, 255, 255, 255, 255, 255, 255, 255, 255, 255, 255, 255, 255, 255, 255, 255, 255, 255, 255, 255, 255, 255, 255, 255, 255, 255, 255, 255, 255, 255, 255, 255, 255, 255, 255, 255, 255, 255, 255, 255, 255, 255, 255, 255, 255, 255, 255, 255, 255, 255, 255, 255, 255, 255, 255, 255, 255, 255, 255, 255, 255, 255, 255, 255, 255, 255, 255, 255, 255, 255, 255, 255, 255, 255, 255, 255, 255, 255, 255, 255, 255, 255, 255, 255, 255, 255, 255, 255, 255, 255, 255, 255, 255, 255, 255, 255, 255, 255, 255, 255, 255, 255, 255, 255, 255, 255, 255, 255, 255, 255, 255, 255, 255, 255, 255, 255, 255, 255, 255, 255, 255, 255, 255, 255, 255, 255, 255, 255, 255, 255, 255, 255, 255, 255, 255, 255, 255, 255, 255, 255, 255, 255, 255, 255, 255, 255, 255, 255, 255, 255, 255, 255, 255, 255, 255, 255, 255, 255, 255, 255, 255, 255, 255, 255, 255, 255, 255, 255, 255, 255, 255, 255, 255, 255, 255, 255, 255, 255, 255, 255, 255, 255, 255, 255, 255, 255, 255, 255, 255, 255, 255, 255, 255, 255, 255, 255, 255, 255, 255, 255, 255, 255, 255, 255]⟩))), none⟩])
    (.seq (.seq (.rg [⟨(some 4), .mov (.c (.p (.int .i64 0))), none⟩])
    (.block 0 (.loop (.seq (.seq (.rg [⟨(some 24), .mov (.t 4), none⟩,
        ⟨(some 25), .mov (.t 0), none⟩,
        ⟨(some 26), .lens (.t 25), none⟩,
        ⟨(some 27), .bin .lss (.t 24) (.t 26), none⟩])
      (.cond (.t 27) .skip
        (.exit 0)))
      (.seq (.block 1 (.seq (.block 2 (.seq (.rg [⟨(some 31), .mov (.t 0), none⟩,
          ⟨(some 32), .mov (.t 4), none⟩,
          ⟨(some 33), .idxs (.t 31) (.t 32), none⟩,
          ⟨(some 34), .bin .eql (.t 33) (.c (.p (.int .u8 10))), none⟩,
          ⟨(some 35), .mov (.t 34), none⟩,
          ⟨(some 36), .mov (.t 0), (some (35, false))⟩,
          ⟨(some 37), .mov (.t 4), (some (35, false))⟩,
          ⟨(some 38), .idxs (.t 36) (.t 37), (some (35, false))⟩,
          ⟨(some 39), .bin .eql (.t 38) (.c (.p (.int .u8 13))), (some (35, false))⟩,
          ⟨(some 40), .pick (.t 35) (.c (.p (.bool true))) (.t 39), none⟩,
          ⟨(some 30), .mov (.t 40), none⟩])
        (.cond (.t 30) (.rg [⟨(some 41), .ifc 9 (.c (.p (.string ⟨#[101, 110, 99, 111, 100, 105, 110, 103, 32, 97, 108, 112, 104, 97, 98, 101, 116, 32, 99, 111, 110, 116, 97, 105, 110, 115, 32, 110, 101, 119, 108, 105, 110, 101, 32, 99, 104, 97, 114, 97, 99, 116, 101, 114]⟩))), none⟩,
            ⟨none, .stop, none⟩])
          (.seq (.rgd [⟨⟨(some 43), .mov (.t 3), none⟩, 0, []⟩,
            ⟨⟨(some 44), .mov (.t 0), none⟩, 0, [0]⟩,
            ⟨⟨(some 45), .mov (.t 4), none⟩, 0, [0]⟩,
            ⟨⟨(some 46), .idxs (.t 44) (.t 45), none⟩, 0, [0]⟩,
            ⟨⟨(some 47), .nilchk .ptr (.t 43), none⟩, 0, [0]⟩,
            ⟨⟨(some 48), .faddr true 64 256 (.t 47), none⟩, 0, [0]⟩,
            ⟨⟨(some 49), .iaddra 256 1 false (.t 48) (.t 46), none⟩, 0, [0]⟩,
            ⟨⟨(some 50), .load false 1 (.t 49), none⟩, 0, [0]⟩,
            ⟨⟨(some 51), .bin .neq (.t 50) (.c (.p (.int .u8 255))), none⟩, 0, []⟩,
            ⟨⟨(some 42), .mov (.t 51), none⟩, 0, []⟩])
          (.cond (.t 42) (.rg [⟨(some 52), .ifc 9 (.c (.p (.string ⟨#[101, 110, 99, 111, 100, 105, 110, 103, 32, 97, 108, 112, 104, 97, 98, 101, 116, 32, 105, 110, 99, 108, 117, 100, 101, 115, 32, 100, 117, 112, 108, 105, 99, 97, 116, 101, 32, 115, 121, 109, 98, 111, 108, 115]⟩))), none⟩,
              ⟨none, .stop, none⟩])
            .skip)))))
       (.rgd [⟨⟨(some 53), .mov (.t 3), none⟩, 0, []⟩,
         ⟨⟨(some 54), .mov (.t 0), none⟩, 0, [0]⟩,
         ⟨⟨(some 55), .mov (.t 4), none⟩, 0, [0]⟩,
         ⟨⟨(some 56), .idxs (.t 54) (.t 55), none⟩, 0, [0]⟩,
         ⟨⟨(some 57), .mov (.t 4), none⟩, 0, [0]⟩,
         ⟨⟨(some 58), .cint .u8 (.t 57), none⟩, 0, [0]⟩,
         ⟨⟨(some 59), .nilchk .ptr (.t 53), none⟩, 0, [0]⟩,
         ⟨⟨(some 60), .faddr true 64 256 (.t 59), none⟩, 0, [0]⟩,
         ⟨⟨(some 61), .iaddra 256 1 false (.t 60) (.t 56), none⟩, 0, [0]⟩,
         ⟨⟨none, .store 1 (.t 61) (.t 58), none⟩, 0, []⟩])))
      (.rg [⟨(some 28), .mov (.t 4), none⟩,
        ⟨(some 29), .bin .add (.t 28) (.c (.p (.int .i64 1))), none⟩,
        ⟨(some 4), .mov (.t 29), none⟩]))))))
    (.seq (.rg [⟨(some 62), .mov (.t 3), none⟩,
      ⟨(some 2), .mov (.t 62), none⟩])
    .ret))))))))
def r134 : List DR := [.tmp 2]
theorem c134_ok : Try.f134.body.bind (cCode Try.prog) = some c134 := by kernel_rfl
theorem r134_ok : cRes Try.prog Try.f134.results.toList = some r134 := by kernel_rfl

/-- (*given.example/pub-assaymark/pub/zzbase64.Encoding).DecodedLen -/
def c135 : DC :=
  (.seq (.rg [⟨(some 4), .mov (.c (.p (.int .i64 0))), none⟩])
    (.seq (.rg [⟨(some 5), .mov (.t 1), none⟩,
      ⟨(some 6), .mov (.t 0), none⟩,
      ⟨(some 7), .nilchk .ptr (.t 6), none⟩,
      ⟨(some 8), .faddr false 320 1 (.t 7), none⟩,
      ⟨(some 9), .load false 1 (.t 8), none⟩,
      ⟨(some 10), .callr 150 [(.t 5), (.t 9)], none⟩,
      ⟨(some 4), .mov (.t 10), none⟩])
    .ret))
def r135 : List DR := [.tmp 4]
theorem c135_ok : Try.f135.body.bind (cCode Try.prog) = some c135 := by kernel_rfl
theorem r135_ok : cRes Try.prog Try.f135.results.toList = some r135 := by kernel_rfl

/-- (*given.example/pub-assaymark/pub/zzbase64.Encoding).Decode -/
def c136 : DC :=
  (.seq (.rg [⟨(some 6), .mov (.c (.p (.int .i64 0))), none⟩,
      ⟨(some 7), .mov (.c (.p .nilIface)), none⟩])
    (.seq (.seq (.rg [⟨(some 18), .mov (.t 2), none⟩,
      ⟨(some 19), .lenl (.t 18), none⟩,
      ⟨(some 20), .bin .eql (.t 19) (.c (.p (.int .i64 0))), none⟩])
    (.cond (.t 20) (.seq (.rg [⟨(some 6), .mov (.c (.p (.int .i64 0))), none⟩,
        ⟨(some 7), .mov (.c (.p .nilIface)), none⟩])
      .ret)
      .skip))
    (.seq (.rg [⟨(some 21), .mov (.t 0), none⟩,
      ⟨(some 22), .nilchk .ptr (.t 21), none⟩,
      ⟨(some 23), .faddr true 64 256 (.t 22), none⟩,
      ⟨(some 24), .load true 256 (.t 23), none⟩])
    (.seq (.rg [⟨(some 8), .mov (.c (.p (.int .i64 0))), none⟩])
    (.seq (.block 0 (.loop (.seq (.seq (.rg [⟨(some 25), .mov (.c (.p (.bool true))), none⟩,
        ⟨(some 26), .mov (.t 2), (some (25, true))⟩,
        ⟨(some 27), .lenl (.t 26), (some (25, true))⟩,
        ⟨(some 28), .mov (.t 8), (some (25, true))⟩,
        ⟨(some 29), .bin .sub (.t 27) (.t 28), (some (25, true))⟩,
        ⟨(some 30), .bin .geq (.t 29) (.c (.p (.int .i64 8))), (some (25, true))⟩,
        ⟨(some 31), .pick (.t 25) (.t 30) (.c (.p (.bool false))), none⟩,
        ⟨(some 32), .mov (.t 31), none⟩,
        ⟨(some 33), .mov (.t 1), (some (32, true))⟩,
        ⟨(some 34), .lenl (.t 33), (some (32, true))⟩,
        ⟨(some 35), .mov (.t 6), (some (32, true))⟩,
        ⟨(some 36), .bin .sub (.t 34) (.t 35), (some (32, true))⟩,
        ⟨(some 37), .bin .geq (.t 36) (.c (.p (.int .i64 8))), (some (32, true))⟩,
        ⟨(some 38), .pick (.t 32) (.t 37) (.c (.p (.bool false))), none⟩])
      (.cond (.t 38) .skip
        (.exit 0)))
      (.block 1 (.seq (.rg [⟨(some 39), .mov (.t 2), none⟩,
         ⟨(some 40), .mov (.t 8), none⟩,
         ⟨(some 41), .mov (.t 8), none⟩,
         ⟨(some 42), .bin .add (.t 41) (.c (.p (.int .i64 8))), none⟩,
         ⟨(some 43), .slcl 1 (.t 39) (some (.t 40)) (some (.t 42)), none⟩,
         ⟨(some 9), .mov (.t 43), none⟩])
       (.seq (.rgd [⟨⟨(some 45), .mov (.t 0), none⟩, 0, [0]⟩,
         ⟨⟨(some 46), .mov (.t 9), none⟩, 0, [0]⟩,
         ⟨⟨(some 47), .iaddr 1 (.t 46) (.c (.p (.int .i64 0))), none⟩, 0, [0]⟩,
         ⟨⟨(some 48), .load false 1 (.t 47), none⟩, 0, [0]⟩,
         ⟨⟨(some 49), .nilchk .ptr (.t 45), none⟩, 0, [0]⟩,
         ⟨⟨(some 50), .faddr true 64 256 (.t 49), none⟩, 0, [0]⟩,
         ⟨⟨(some 51), .iaddra 256 1 false (.t 50) (.t 48), none⟩, 0, [0]⟩,
         ⟨⟨(some 52), .load false 1 (.t 51), none⟩, 0, [0]⟩,
         ⟨⟨(some 53), .mov (.t 0), none⟩, 0, [0]⟩,
         ⟨⟨(some 54), .mov (.t 9), none⟩, 0, [0]⟩,
         ⟨⟨(some 55), .iaddr 1 (.t 54) (.c (.p (.int .i64 1))), none⟩, 0, [0]⟩,
         ⟨⟨(some 56), .load false 1 (.t 55), none⟩, 0, [0]⟩,
         ⟨⟨(some 57), .nilchk .ptr (.t 53), none⟩, 0, [0]⟩,
         ⟨⟨(some 58), .faddr true 64 256 (.t 57), none⟩, 0, [0]⟩,
         ⟨⟨(some 59), .iaddra 256 1 false (.t 58) (.t 56), none⟩, 0, [0]⟩,
         ⟨⟨(some 60), .load false 1 (.t 59), none⟩, 0, [0]⟩,
         ⟨⟨(some 61), .mov (.t 0), none⟩, 0, [0]⟩,
         ⟨⟨(some 62), .mov (.t 9), none⟩, 0, [0]⟩,
         ⟨⟨(some 63), .iaddr 1 (.t 62) (.c (.p (.int .i64 2))), none⟩, 0, [0]⟩,
         ⟨⟨(some 64), .load false 1 (.t 63), none⟩, 0, [0]⟩,
         ⟨⟨(some 65), .nilchk .ptr (.t 61), none⟩, 0, [0]⟩,
         ⟨⟨(some 66), .faddr true 64 256 (.t 65), none⟩, 0, [0]⟩,
         ⟨⟨(some 67), .iaddra 256 1 false (.t 66) (.t 64), none⟩, 0, [0]⟩,
         ⟨⟨(some 68), .load false 1 (.t 67), none⟩, 0, [0]⟩,
         ⟨⟨(some 69), .mov (.t 0), none⟩, 0, [0]⟩,
         ⟨⟨(some 70), .mov (.t 9), none⟩, 0, [0]⟩,
         ⟨⟨(some 71), .iaddr 1 (.t 70) (.c (.p (.int .i64 3))), none⟩, 0, [0]⟩,
         ⟨⟨(some 72), .load false 1 (.t 71), none⟩, 0, [0]⟩,
         ⟨⟨(some 73), .nilchk .ptr (.t 69), none⟩, 0, [0]⟩,
         ⟨⟨(some 74), .faddr true 64 256 (.t 73), none⟩, 0, [0]⟩,
         ⟨⟨(some 75), .iaddra 256 1 false (.t 74) (.t 72), none⟩, 0, [0]⟩,
         ⟨⟨(some 76), .load false 1 (.t 75), none⟩, 0, [0]⟩,
         ⟨⟨(some 77), .mov (.t 0), none⟩, 0, [0]⟩,
         ⟨⟨(some 78), .mov (.t 9), none⟩, 0, [0]⟩,
         ⟨⟨(some 79), .iaddr 1 (.t 78) (.c (.p (.int .i64 4))), none⟩, 0, [0]⟩,
         ⟨⟨(some 80), .load false 1 (.t 79), none⟩, 0, [0]⟩,
         ⟨⟨(some 81), .nilchk .ptr (.t 77), none⟩, 0, [0]⟩,
         ⟨⟨(some 82), .faddr true 64 256 (.t 81), none⟩, 0, [0]⟩,
         ⟨⟨(some 83), .iaddra 256 1 false (.t 82) (.t 80), none⟩, 0, [0]⟩,
         ⟨⟨(some 84), .load false 1 (.t 83), none⟩, 0, [0]⟩,
         ⟨⟨(some 85), .mov (.t 0), none⟩, 0, [0]⟩,
         ⟨⟨(some 86), .mov (.t 9), none⟩, 0, [0]⟩,
         ⟨⟨(some 87), .iaddr 1 (.t 86) (.c (.p (.int .i64 5))), none⟩, 0, [0]⟩,
         ⟨⟨(some 88), .load false 1 (.t 87), none⟩, 0, [0]⟩,
         ⟨⟨(some 89), .nilchk .ptr (.t 85), none⟩, 0, [0]⟩,
         ⟨⟨(some 90), .faddr true 64 256 (.t 89), none⟩, 0, [0]⟩,
         ⟨⟨(some 91), .iaddra 256 1 false (.t 90) (.t 88), none⟩, 0, [0]⟩,
         ⟨⟨(some 92), .load false 1 (.t 91), none⟩, 0, [0]⟩,
         ⟨⟨(some 93), .mov (.t 0), none⟩, 0, [0]⟩,
         ⟨⟨(some 94), .mov (.t 9), none⟩, 0, [0]⟩,
         ⟨⟨(some 95), .iaddr 1 (.t 94) (.c (.p (.int .i64 6))), none⟩, 0, [0]⟩,
         ⟨⟨(some 96), .load false 1 (.t 95), none⟩, 0, [0]⟩,
         ⟨⟨(some 97), .nilchk .ptr (.t 93), none⟩, 0, [0]⟩,
         ⟨⟨(some 98), .faddr true 64 256 (.t 97), none⟩, 0, [0]⟩,
         ⟨⟨(some 99), .iaddra 256 1 false (.t 98) (.t 96), none⟩, 0, [0]⟩,
         ⟨⟨(some 100), .load false 1 (.t 99), none⟩, 0, [0]⟩,
         ⟨⟨(some 101), .mov (.t 0), none⟩, 0, [0]⟩,
         ⟨⟨(some 102), .mov (.t 9), none⟩, 0, [0]⟩,
         ⟨⟨(some 103), .iaddr 1 (.t 102) (.c (.p (.int .i64 7))), none⟩, 0, [0]⟩,
         ⟨⟨(some 104), .load false 1 (.t 103), none⟩, 0, [0]⟩,
         ⟨⟨(some 105), .nilchk .ptr (.t 101), none⟩, 0, [0]⟩,
         ⟨⟨(some 106), .faddr true 64 256 (.t 105), none⟩, 0, [0]⟩,
         ⟨⟨(some 107), .iaddra 256 1 false (.t 106) (.t 104), none⟩, 0, [0]⟩,
         ⟨⟨(some 108), .load false 1 (.t 107), none⟩, 0, [0]⟩,
         ⟨⟨(some 109), .call 151 [(.t 52), (.t 60), (.t 68), (.t 76), (.t 84), (.t 92), (.t 100), (.t 108)], none⟩, 0, []⟩,
         ⟨⟨(some 44), .mov (.t 109), none⟩, 1, []⟩,
         ⟨⟨(some 110), .ext (.t 44) 0, none⟩, 1, []⟩,
         ⟨⟨(some 111), .ext (.t 44) 1, none⟩, 1, []⟩,
         ⟨⟨(some 10), .mov (.t 110), none⟩, 1, []⟩,
         ⟨⟨(some 11), .mov (.t 111), none⟩, 1, []⟩])
       (.seq (.rg [⟨(some 112), .mov (.t 11), none⟩])
       (.cond (.t 112) (.seq (.rgd [⟨⟨(some 113), .load true 0 (.g 0), none⟩, 0, [0]⟩,
           ⟨⟨(some 114), .mov (.t 1), none⟩, 0, [0]⟩,
           ⟨⟨(some 115), .mov (.t 6), none⟩, 0, [0]⟩,
           ⟨⟨(some 116), .slcl 1 (.t 114) (some (.t 115)) none, none⟩, 0, [0]⟩,
           ⟨⟨(some 117), .mov (.t 10), none⟩, 0, [0]⟩,
           ⟨⟨(some 118), .call 152 [(.t 113), (.t 116), (.t 117)], none⟩, 0, []⟩])
         (.seq (.rg [⟨(some 119), .mov (.t 6), none⟩,
           ⟨(some 120), .bin .add (.t 119) (.c (.p (.int .i64 6))), none⟩,
           ⟨(some 6), .mov (.t 120), none⟩])
         (.rg [⟨(some 121), .mov (.t 8), none⟩,
           ⟨(some 122), .bin .add (.t 121) (.c (.p (.int .i64 8))), none⟩,
           ⟨(some 8), .mov (.t 122), none⟩])))
         (.seq (.rg [⟨(some 12), .mov (.c (.p (.int .i64 0))), none⟩])
         (.seq (.rg [⟨(some 124), .mov (.t 0), none⟩,
           ⟨(some 125), .mov (.t 1), none⟩,
           ⟨(some 126), .mov (.t 6), none⟩,
           ⟨(some 127), .slcl 1 (.t 125) (some (.t 126)) none, none⟩,
           ⟨(some 128), .mov (.t 2), none⟩,
           ⟨(some 129), .mov (.t 8), none⟩,
           ⟨(some 130), .callr 153 [(.t 124), (.t 127), (.t 128), (.t 129)], none⟩,
           ⟨(some 123), .mov (.t 130), none⟩,
           ⟨(some 131), .ext (.t 123) 0, none⟩,
           ⟨(some 132), .ext (.t 123) 1, none⟩,
           ⟨(some 133), .ext (.t 123) 2, none⟩,
           ⟨(some 8), .mov (.t 131), none⟩,
           ⟨(some 12), .mov (.t 132), none⟩,
           ⟨(some 7), .mov (.t 133), none⟩])
         (.seq (.rg [⟨(some 134), .mov (.t 6), none⟩,
           ⟨(some 135), .mov (.t 12), none⟩,
           ⟨(some 136), .bin .add (.t 134) (.t 135), none⟩,
           ⟨(some 6), .mov (.t 136), none⟩])
         (.seq (.rg [⟨(some 137), .mov (.t 7), none⟩,
           ⟨(some 138), .eqn true .iface (.t 137), none⟩])
         (.cond (.t 138) (.seq (.rg [⟨(some 139), .mov (.t 6), none⟩,
             ⟨(some 140), .mov (.t 7), none⟩,
             ⟨(some 6), .mov (.t 139), none⟩,
             ⟨(some 7), .mov (.t 140), none⟩])
           .ret)
           .skip)))))))))))))
    (.seq (.block 2 (.loop (.seq (.seq (.rg [⟨(some 141), .mov (.t 2), none⟩,
        ⟨(some 142), .lenl (.t 141), none⟩,
        ⟨(some 143), .mov (.t 8), none⟩,
        ⟨(some 144), .bin .sub (.t 142) (.t 143), none⟩,
        ⟨(some 145), .bin .geq (.t 144) (.c (.p (.int .i64 4))), none⟩,
        ⟨(some 146), .mov (.t 145), none⟩,
        ⟨(some 147), .mov (.t 1), (some (146, true))⟩,
        ⟨(some 148), .lenl (.t 147), (some (146, true))⟩,
        ⟨(some 149), .mov (.t 6), (some (146, true))⟩,
        ⟨(some 150), .bin .sub (.t 148) (.t 149), (some (146, true))⟩,
        ⟨(some 151), .bin .geq (.t 150) (.c (.p (.int .i64 4))), (some (146, true))⟩,
        ⟨(some 152), .pick (.t 146) (.t 151) (.c (.p (.bool false))), none⟩])
      (.cond (.t 152) .skip
        (.exit 2)))
      (.block 3 (.seq (.rg [⟨(some 153), .mov (.t 2), none⟩,
         ⟨(some 154), .mov (.t 8), none⟩,
         ⟨(some 155), .mov (.t 8), none⟩,
         ⟨(some 156), .bin .add (.t 155) (.c (.p (.int .i64 4))), none⟩,
         ⟨(some 157), .slcl 1 (.t 153) (some (.t 154)) (some (.t 156)), none⟩,
         ⟨(some 13), .mov (.t 157), none⟩])
       (.seq (.rgd [⟨⟨(some 159), .mov (.t 0), none⟩, 0, [0]⟩,
         ⟨⟨(some 160), .mov (.t 13), none⟩, 0, [0]⟩,
         ⟨⟨(some 161), .iaddr 1 (.t 160) (.c (.p (.int .i64 0))), none⟩, 0, [0]⟩,
         ⟨⟨(some 162), .load false 1 (.t 161), none⟩, 0, [0]⟩,
         ⟨⟨(some 163), .nilchk .ptr (.t 159), none⟩, 0, [0]⟩,
         ⟨⟨(some 164), .faddr true 64 256 (.t 163), none⟩, 0, [0]⟩,
         ⟨⟨(some 165), .iaddra 256 1 false (.t 164) (.t 162), none⟩, 0, [0]⟩,
         ⟨⟨(some 166), .load false 1 (.t 165), none⟩, 0, [0]⟩,
         ⟨⟨(some 167), .mov (.t 0), none⟩, 0, [0]⟩,
         ⟨⟨(some 168), .mov (.t 13), none⟩, 0, [0]⟩,
         ⟨⟨(some 169), .iaddr 1 (.t 168) (.c (.p (.int .i64 1))), none⟩, 0, [0]⟩,
         ⟨⟨(some 170), .load false 1 (.t 169), none⟩, 0, [0]⟩,
         ⟨⟨(some 171), .nilchk .ptr (.t 167), none⟩, 0, [0]⟩,
         ⟨⟨(some 172), .faddr true 64 256 (.t 171), none⟩, 0, [0]⟩,
         ⟨⟨(some 173), .iaddra 256 1 false (.t 172) (.t 170), none⟩, 0, [0]⟩,
         ⟨⟨(some 174), .load false 1 (.t 173), none⟩, 0, [0]⟩,
         ⟨⟨(some 175), .mov (.t 0), none⟩, 0, [0]⟩,
         ⟨⟨(some 176), .mov (.t 13), none⟩, 0, [0]⟩,
         ⟨⟨(some 177), .iaddr 1 (.t 176) (.c (.p (.int .i64 2))), none⟩, 0, [0]⟩,
         ⟨⟨(some 178), .load false 1 (.t 177), none⟩, 0, [0]⟩,
         ⟨⟨(some 179), .nilchk .ptr (.t 175), none⟩, 0, [0]⟩,
         ⟨⟨(some 180), .faddr true 64 256 (.t 179), none⟩, 0, [0]⟩,
         ⟨⟨(some 181), .iaddra 256 1 false (.t 180) (.t 178), none⟩, 0, [0]⟩,
         ⟨⟨(some 182), .load false 1 (.t 181), none⟩, 0, [0]⟩,
         ⟨⟨(some 183), .mov (.t 0), none⟩, 0, [0]⟩,
         ⟨⟨(some 184), .mov (.t 13), none⟩, 0, [0]⟩,
         ⟨⟨(some 185), .iaddr 1 (.t 184) (.c (.p (.int .i64 3))), none⟩, 0, [0]⟩,
         ⟨⟨(some 186), .load false 1 (.t 185), none⟩, 0, [0]⟩,
         ⟨⟨(some 187), .nilchk .ptr (.t 183), none⟩, 0, [0]⟩,
         ⟨⟨(some 188), .faddr true 64 256 (.t 187), none⟩, 0, [0]⟩,
         ⟨⟨(some 189), .iaddra 256 1 false (.t 188) (.t 186), none⟩, 0, [0]⟩,
         ⟨⟨(some 190), .load false 1 (.t 189), none⟩, 0, [0]⟩,
         ⟨⟨(some 191), .call 154 [(.t 166), (.t 174), (.t 182), (.t 190)], none⟩, 0, []⟩,
         ⟨⟨(some 158), .mov (.t 191), none⟩, 1, []⟩,
         ⟨⟨(some 192), .ext (.t 158) 0, none⟩, 1, []⟩,
         ⟨⟨(some 193), .ext (.t 158) 1, none⟩, 1, []⟩,
         ⟨⟨(some 14), .mov (.t 192), none⟩, 1, []⟩,
         ⟨⟨(some 15), .mov (.t 193), none⟩, 1, []⟩])
       (.seq (.rg [⟨(some 194), .mov (.t 15), none⟩])
       (.cond (.t 194) (.seq (.rgd [⟨⟨(some 195), .load true 0 (.g 0), none⟩, 0, [0]⟩,
           ⟨⟨(some 196), .mov (.t 1), none⟩, 0, [0]⟩,
           ⟨⟨(some 197), .mov (.t 6), none⟩, 0, [0]⟩,
           ⟨⟨(some 198), .slcl 1 (.t 196) (some (.t 197)) none, none⟩, 0, [0]⟩,
           ⟨⟨(some 199), .mov (.t 14), none⟩, 0, [0]⟩,
           ⟨⟨(some 200), .call 155 [(.t 195), (.t 198), (.t 199)], none⟩, 0, []⟩])
         (.seq (.rg [⟨(some 201), .mov (.t 6), none⟩,
           ⟨(some 202), .bin .add (.t 201) (.c (.p (.int .i64 3))), none⟩,
           ⟨(some 6), .mov (.t 202), none⟩])
         (.rg [⟨(some 203), .mov (.t 8), none⟩,
           ⟨(some 204), .bin .add (.t 203) (.c (.p (.int .i64 4))), none⟩,
           ⟨(some 8), .mov (.t 204), none⟩])))
         (.seq (.rg [⟨(some 16), .mov (.c (.p (.int .i64 0))), none⟩])
         (.seq (.rg [⟨(some 206), .mov (.t 0), none⟩,
           ⟨(some 207), .mov (.t 1), none⟩,
           ⟨(some 208), .mov (.t 6), none⟩,
           ⟨(some 209), .slcl 1 (.t 207) (some (.t 208)) none, none⟩,
           ⟨(some 210), .mov (.t 2), none⟩,
           ⟨(some 211), .mov (.t 8), none⟩,
           ⟨(some 212), .callr 153 [(.t 206), (.t 209), (.t 210), (.t 211)], none⟩,
           ⟨(some 205), .mov (.t 212), none⟩,
           ⟨(some 213), .ext (.t 205) 0, none⟩,
           ⟨(some 214), .ext (.t 205) 1, none⟩,
           ⟨(some 215), .ext (.t 205) 2, none⟩,
           ⟨(some 8), .mov (.t 213), none⟩,
           ⟨(some 16), .mov (.t 214), none⟩,
           ⟨(some 7), .mov (.t 215), none⟩])
         (.seq (.rg [⟨(some 216), .mov (.t 6), none⟩,
           ⟨(some 217), .mov (.t 16), none⟩,
           ⟨(some 218), .bin .add (.t 216) (.t 217), none⟩,
           ⟨(some 6), .mov (.t 218), none⟩])
         (.seq (.rg [⟨(some 219), .mov (.t 7), none⟩,
           ⟨(some 220), .eqn true .iface (.t 219), none⟩])
         (.cond (.t 220) (.seq (.rg [⟨(some 221), .mov (.t 6), none⟩,
             ⟨(some 222), .mov (.t 7), none⟩,
             ⟨(some 6), .mov (.t 221), none⟩,
             ⟨(some 7), .mov (.t 222), none⟩])
           .ret)
           .skip)))))))))))))
    (.seq (.block 4 (.loop (.seq (.seq (.rg [⟨(some 223), .mov (.t 8), none⟩,
        ⟨(some 224), .mov (.t 2), none⟩,
        ⟨(some 225), .lenl (.t 224), none⟩,
        ⟨(some 226), .bin .lss (.t 223) (.t 225), none⟩])
      (.cond (.t 226) .skip
        (.exit 4)))
      (.block 5 (.seq (.rg [⟨(some 17), .mov (.c (.p (.int .i64 0))), none⟩])
       (.seq (.rg [⟨(some 228), .mov (.t 0), none⟩,
         ⟨(some 229), .mov (.t 1), none⟩,
         ⟨(some 230), .mov (.t 6), none⟩,
         ⟨(some 231), .slcl 1 (.t 229) (some (.t 230)) none, none⟩,
         ⟨(some 232), .mov (.t 2), none⟩,
         ⟨(some 233), .mov (.t 8), none⟩,
         ⟨(some 234), .callr 153 [(.t 228), (.t 231), (.t 232), (.t 233)], none⟩,
         ⟨(some 227), .mov (.t 234), none⟩,
         ⟨(some 235), .ext (.t 227) 0, none⟩,
         ⟨(some 236), .ext (.t 227) 1, none⟩,
         ⟨(some 237), .ext (.t 227) 2, none⟩,
         ⟨(some 8), .mov (.t 235), none⟩,
         ⟨(some 17), .mov (.t 236), none⟩,
         ⟨(some 7), .mov (.t 237), none⟩])
       (.seq (.rg [⟨(some 238), .mov (.t 6), none⟩,
         ⟨(some 239), .mov (.t 17), none⟩,
         ⟨(some 240), .bin .add (.t 238) (.t 239), none⟩,
         ⟨(some 6), .mov (.t 240), none⟩])
       (.seq (.rg [⟨(some 241), .mov (.t 7), none⟩,
         ⟨(some 242), .eqn true .iface (.t 241), none⟩])
       (.cond (.t 242) (.seq (.rg [⟨(some 243), .mov (.t 6), none⟩,
           ⟨(some 244), .mov (.t 7), none⟩,
           ⟨(some 6), .mov (.t 243), none⟩,
           ⟨(some 7), .mov (.t 244), none⟩])
         .ret)
         .skip)))))))))
    (.seq (.rg [⟨(some 245), .mov (.t 6), none⟩,
      ⟨(some 246), .mov (.t 7), none⟩,
      ⟨(some 6), .mov (.t 245), none⟩,
      ⟨(some 7), .mov (.t 246), none⟩])
    .ret))))))))
def r136 : List DR := [.tmp 6, .tmp 7]
theorem c136_ok : Try.f136.body.bind (cCode Try.prog) = some c136 := by kernel_rfl
theorem r136_ok : cRes Try.prog Try.f136.results.toList = some r136 := by kernel_rfl

/-- (*given.example/pub-assaymark/pub/zzbase64.Encoding).EncodedLen -/
def c137 : DC :=
  (.seq (.rg [⟨(some 4), .mov (.c (.p (.int .i64 0))), none⟩])
    (.seq (.seq (.rg [⟨(some 5), .mov (.t 0), none⟩,
      ⟨(some 6), .nilchk .ptr (.t 5), none⟩,
      ⟨(some 7), .faddr false 320 1 (.t 6), none⟩,
      ⟨(some 8), .load false 1 (.t 7), none⟩,
      ⟨(some 9), .bin .eql (.t 8) (.c (.p (.int .i32 (-1)))), none⟩])
    (.cond (.t 9) (.seq (.rg [⟨(some 10), .mov (.t 1), none⟩,
        ⟨(some 11), .bin .quo (.t 10) (.c (.p (.int .i64 3))), none⟩,
        ⟨(some 12), .bin .mul (.t 11) (.c (.p (.int .i64 4))), none⟩,
        ⟨(some 13), .mov (.t 1), none⟩,
        ⟨(some 14), .bin .rem (.t 13) (.c (.p (.int .i64 3))), none⟩,
        ⟨(some 15), .bin .mul (.t 14) (.c (.p (.int .i64 8))), none⟩,
        ⟨(some 16), .bin .add (.t 15) (.c (.p (.int .i64 5))), none⟩,
        ⟨(some 17), .bin .quo (.t 16) (.c (.p (.int .i64 6))), none⟩,
        ⟨(some 18), .bin .add (.t 12) (.t 17), none⟩,
        ⟨(some 4), .mov (.t 18), none⟩])
      .ret)
      .skip))
    (.seq (.rg [⟨(some 19), .mov (.t 1), none⟩,
      ⟨(some 20), .bin .add (.t 19) (.c (.p (.int .i64 2))), none⟩,
      ⟨(some 21), .bin .quo (.t 20) (.c (.p (.int .i64 3))), none⟩,
      ⟨(some 22), .bin .mul (.t 21) (.c (.p (.int .i64 4))), none⟩,
      ⟨(some 4), .mov (.t 22), none⟩])
    .ret)))
def r137 : List DR := [.tmp 4]
theorem c137_ok : Try.f137.body.bind (cCode Try.prog) = some c137 := by kernel_rfl
theorem r137_ok : cRes Try.prog Try.f137.results.toList = some r137 := by kernel_rfl

/-- (*given.example/pub-assaymark/pub/zzbase64.Encoding).Encode -/
def c138 : DC :=
  (.seq (.seq (.rg [⟨(some 9), .mov (.t 2), none⟩,
      ⟨(some 10), .lenl (.t 9), none⟩,
      ⟨(some 11), .bin .eql (.t 10) (.c (.p (.int .i64 0))), none⟩])
    (.cond (.t 11) .ret
      .skip))
    (.seq (.rg [⟨(some 12), .mov (.t 0), none⟩,
      ⟨(some 13), .nilchk .ptr (.t 12), none⟩,
      ⟨(some 14), .faddr true 0 64 (.t 13), none⟩,
      ⟨(some 15), .load true 64 (.t 14), none⟩])
    (.seq (.block 0 (.loop (.seq (.seq (.rg [⟨(some 16), .mov (.t 2), none⟩,
        ⟨(some 17), .lenl (.t 16), none⟩,
        ⟨(some 18), .bin .geq (.t 17) (.c (.p (.int .i64 3))), none⟩])
      (.cond (.t 18) .skip
        (.exit 0)))
      (.block 1 (.seq (.rgd [⟨⟨(some 19), .mov (.t 2), none⟩, 0, [0]⟩,
         ⟨⟨(some 20), .iaddr 1 (.t 19) (.c (.p (.int .i64 0))), none⟩, 0, [0]⟩,
         ⟨⟨(some 21), .load false 1 (.t 20), none⟩, 0, [0]⟩,
         ⟨⟨(some 22), .cint .u64 (.t 21), none⟩, 0, [0]⟩,
         ⟨⟨(some 23), .bin .shl (.t 22) (.c (.p (.int .u64 16))), none⟩, 0, [0]⟩,
         ⟨⟨(some 24), .mov (.t 2), none⟩, 0, [0]⟩,
         ⟨⟨(some 25), .iaddr 1 (.t 24) (.c (.p (.int .i64 1))), none⟩, 0, [0]⟩,
         ⟨⟨(some 26), .load false 1 (.t 25), none⟩, 0, [0]⟩,
         ⟨⟨(some 27), .cint .u64 (.t 26), none⟩, 0, [0]⟩,
         ⟨⟨(some 28), .bin .shl (.t 27) (.c (.p (.int .u64 8))), none⟩, 0, [0]⟩,
         ⟨⟨(some 29), .bin .or (.t 23) (.t 28), none⟩, 0, [0]⟩,
         ⟨⟨(some 30), .mov (.t 2), none⟩, 0, [0]⟩,
         ⟨⟨(some 31), .iaddr 1 (.t 30) (.c (.p (.int .i64 2))), none⟩, 0, [0]⟩,
         ⟨⟨(some 32), .load false 1 (.t 31), none⟩, 0, [0]⟩,
         ⟨⟨(some 33), .cint .u64 (.t 32), none⟩, 0, [0]⟩,
         ⟨⟨(some 34), .bin .or (.t 29) (.t 33), none⟩, 0, []⟩,
         ⟨⟨(some 6), .mov (.t 34), none⟩, 0, []⟩])
       (.seq (.rg [⟨(some 35), .mov (.t 1), none⟩,
         ⟨(some 36), .iaddr 1 (.t 35) (.c (.p (.int .i64 3))), none⟩,
         ⟨(some 37), .load false 1 (.t 36), none⟩])
       (.seq (.rg [⟨(some 38), .mov (.t 1), none⟩,
         ⟨(some 39), .mov (.t 0), none⟩,
         ⟨(some 40), .mov (.t 6), none⟩,
         ⟨(some 41), .bin .shr (.t 40) (.c (.p (.int .u64 18))), none⟩,
         ⟨(some 42), .bin .and (.t 41) (.c (.p (.int .u64 63))), none⟩,
         ⟨(some 43), .nilchk .ptr (.t 39), none⟩,
         ⟨(some 44), .faddr true 0 64 (.t 43), none⟩,
         ⟨(some 45), .iaddra 64 1 false (.t 44) (.t 42), none⟩,
         ⟨(some 46), .load false 1 (.t 45), none⟩,
         ⟨(some 47), .iaddr 1 (.t 38) (.c (.p (.int .i64 0))), none⟩,
         ⟨none, .store 1 (.t 47) (.t 46), none⟩])
       (.seq (.rg [⟨(some 48), .mov (.t 1), none⟩,
         ⟨(some 49), .mov (.t 0), none⟩,
         ⟨(some 50), .mov (.t 6), none⟩,
         ⟨(some 51), .bin .shr (.t 50) (.c (.p (.int .u64 12))), none⟩,
         ⟨(some 52), .bin .and (.t 51) (.c (.p (.int .u64 63))), none⟩,
         ⟨(some 53), .nilchk .ptr (.t 49), none⟩,
         ⟨(some 54), .faddr true 0 64 (.t 53), none⟩,
         ⟨(some 55), .iaddra 64 1 false (.t 54) (.t 52), none⟩,
         ⟨(some 56), .load false 1 (.t 55), none⟩,
         ⟨(some 57), .iaddr 1 (.t 48) (.c (.p (.int .i64 1))), none⟩,
         ⟨none, .store 1 (.t 57) (.t 56), none⟩])
       (.seq (.rg [⟨(some 58), .mov (.t 1), none⟩,
         ⟨(some 59), .mov (.t 0), none⟩,
         ⟨(some 60), .mov (.t 6), none⟩,
         ⟨(some 61), .bin .shr (.t 60) (.c (.p (.int .u64 6))), none⟩,
         ⟨(some 62), .bin .and (.t 61) (.c (.p (.int .u64 63))), none⟩,
         ⟨(some 63), .nilchk .ptr (.t 59), none⟩,
         ⟨(some 64), .faddr true 0 64 (.t 63), none⟩,
         ⟨(some 65), .iaddra 64 1 false (.t 64) (.t 62), none⟩,
         ⟨(some 66), .load false 1 (.t 65), none⟩,
         ⟨(some 67), .iaddr 1 (.t 58) (.c (.p (.int .i64 2))), none⟩,
         ⟨none, .store 1 (.t 67) (.t 66), none⟩])
       (.seq (.rg [⟨(some 68), .mov (.t 1), none⟩,
         ⟨(some 69), .mov (.t 0), none⟩,
         ⟨(some 70), .mov (.t 6), none⟩,
         ⟨(some 71), .bin .and (.t 70) (.c (.p (.int .u64 63))), none⟩,
         ⟨(some 72), .nilchk .ptr (.t 69), none⟩,
         ⟨(some 73), .faddr true 0 64 (.t 72), none⟩,
         ⟨(some 74), .iaddra 64 1 false (.t 73) (.t 71), none⟩,
         ⟨(some 75), .load false 1 (.t 74), none⟩,
         ⟨(some 76), .iaddr 1 (.t 68) (.c (.p (.int .i64 3))), none⟩,
         ⟨none, .store 1 (.t 76) (.t 75), none⟩])
       (.seq (.rg [⟨(some 77), .mov (.t 2), none⟩,
         ⟨(some 78), .slcl 1 (.t 77) (some (.c (.p (.int .i64 3)))) none, none⟩,
         ⟨(some 2), .mov (.t 78), none⟩])
       (.rg [⟨(some 79), .mov (.t 1), none⟩,
         ⟨(some 80), .slcl 1 (.t 79) (some (.c (.p (.int .i64 4)))) none, none⟩,
         ⟨(some 1), .mov (.t 80), none⟩]))))))))))))
    (.seq (.rg [⟨(some 81), .mov (.t 2), none⟩,
      ⟨(some 82), .lenl (.t 81), none⟩])
    (.block 2 (.seq (.rg [⟨(some 84), .bin .eql (.t 82) (.c (.p (.int .i64 0))), none⟩,
       ⟨(some 83), .mov (.t 84), none⟩])
     (.cond (.t 83) .ret
       (.seq (.rg [⟨(some 86), .bin .eql (.t 82) (.c (.p (.int .i64 1))), none⟩,
         ⟨(some 85), .mov (.t 86), none⟩])
       (.cond (.t 85) (.seq (.rg [⟨(some 87), .mov (.t 2), none⟩,
           ⟨(some 88), .iaddr 1 (.t 87) (.c (.p (.int .i64 0))), none⟩,
           ⟨(some 89), .load false 1 (.t 88), none⟩,
           ⟨(some 90), .cint .u64 (.t 89), none⟩,
           ⟨(some 91), .bin .shl (.t 90) (.c (.p (.int .u64 16))), none⟩,
           ⟨(some 7), .mov (.t 91), none⟩])
         (.seq (.rg [⟨(some 92), .mov (.t 1), none⟩,
           ⟨(some 93), .mov (.t 0), none⟩,
           ⟨(some 94), .mov (.t 7), none⟩,
           ⟨(some 95), .bin .shr (.t 94) (.c (.p (.int .u64 18))), none⟩,
           ⟨(some 96), .bin .and (.t 95) (.c (.p (.int .u64 63))), none⟩,
           ⟨(some 97), .nilchk .ptr (.t 93), none⟩,
           ⟨(some 98), .faddr true 0 64 (.t 97), none⟩,
           ⟨(some 99), .iaddra 64 1 false (.t 98) (.t 96), none⟩,
           ⟨(some 100), .load false 1 (.t 99), none⟩,
           ⟨(some 101), .iaddr 1 (.t 92) (.c (.p (.int .i64 0))), none⟩,
           ⟨none, .store 1 (.t 101) (.t 100), none⟩])
         (.seq (.rg [⟨(some 102), .mov (.t 1), none⟩,
           ⟨(some 103), .mov (.t 0), none⟩,
           ⟨(some 104), .mov (.t 7), none⟩,
           ⟨(some 105), .bin .shr (.t 104) (.c (.p (.int .u64 12))), none⟩,
           ⟨(some 106), .bin .and (.t 105) (.c (.p (.int .u64 63))), none⟩,
           ⟨(some 107), .nilchk .ptr (.t 103), none⟩,
           ⟨(some 108), .faddr true 0 64 (.t 107), none⟩,
           ⟨(some 109), .iaddra 64 1 false (.t 108) (.t 106), none⟩,
           ⟨(some 110), .load false 1 (.t 109), none⟩,
           ⟨(some 111), .iaddr 1 (.t 102) (.c (.p (.int .i64 1))), none⟩,
           ⟨none, .store 1 (.t 111) (.t 110), none⟩])
         (.seq (.rg [⟨(some 112), .mov (.t 0), none⟩,
           ⟨(some 113), .nilchk .ptr (.t 112), none⟩,
           ⟨(some 114), .faddr false 320 1 (.t 113), none⟩,
           ⟨(some 115), .load false 1 (.t 114), none⟩,
           ⟨(some 116), .bin .neq (.t 115) (.c (.p (.int .i32 (-1)))), none⟩])
         (.cond (.t 116) (.seq (.rg [⟨(some 117), .mov (.t 1), none⟩,
             ⟨(some 118), .mov (.t 0), none⟩,
             ⟨(some 119), .nilchk .ptr (.t 118), none⟩,
             ⟨(some 120), .faddr false 320 1 (.t 119), none⟩,
             ⟨(some 121), .load false 1 (.t 120), none⟩,
             ⟨(some 122), .cint .u8 (.t 121), none⟩,
             ⟨(some 123), .iaddr 1 (.t 117) (.c (.p (.int .i64 2))), none⟩,
             ⟨none, .store 1 (.t 123) (.t 122), none⟩])
           (.rg [⟨(some 124), .mov (.t 1), none⟩,
             ⟨(some 125), .mov (.t 0), none⟩,
             ⟨(some 126), .nilchk .ptr (.t 125), none⟩,
             ⟨(some 127), .faddr false 320 1 (.t 126), none⟩,
             ⟨(some 128), .load false 1 (.t 127), none⟩,
             ⟨(some 129), .cint .u8 (.t 128), none⟩,
             ⟨(some 130), .iaddr 1 (.t 124) (.c (.p (.int .i64 3))), none⟩,
             ⟨none, .store 1 (.t 130) (.t 129), none⟩]))
           .skip)))))
         (.seq (.rg [⟨(some 132), .bin .eql (.t 82) (.c (.p (.int .i64 2))), none⟩,
           ⟨(some 131), .mov (.t 132), none⟩])
         (.cond (.t 131) (.seq (.rgd [⟨⟨(some 133), .mov (.t 2), none⟩, 0, [0]⟩,
             ⟨⟨(some 134), .iaddr 1 (.t 133) (.c (.p (.int .i64 0))), none⟩, 0, [0]⟩,
             ⟨⟨(some 135), .load false 1 (.t 134), none⟩, 0, [0]⟩,
             ⟨⟨(some 136), .cint .u64 (.t 135), none⟩, 0, [0]⟩,
             ⟨⟨(some 137), .bin .shl (.t 136) (.c (.p (.int .u64 16))), none⟩, 0, [0]⟩,
             ⟨⟨(some 138), .mov (.t 2), none⟩, 0, [0]⟩,
             ⟨⟨(some 139), .iaddr 1 (.t 138) (.c (.p (.int .i64 1))), none⟩, 0, [0]⟩,
             ⟨⟨(some 140), .load false 1 (.t 139), none⟩, 0, [0]⟩,
             ⟨⟨(some 141), .cint .u64 (.t 140), none⟩, 0, [0]⟩,
             ⟨⟨(some 142), .bin .shl (.t 141) (.c (.p (.int .u64 8))), none⟩, 0, [0]⟩,
             ⟨⟨(some 143), .bin .or (.t 137) (.t 142), none⟩, 0, []⟩,
             ⟨⟨(some 8), .mov (.t 143), none⟩, 0, []⟩])
           (.seq (.rg [⟨(some 144), .mov (.t 1), none⟩,
             ⟨(some 145), .mov (.t 0), none⟩,
             ⟨(some 146), .mov (.t 8), none⟩,
             ⟨(some 147), .bin .shr (.t 146) (.c (.p (.int .u64 18))), none⟩,
             ⟨(some 148), .bin .and (.t 147) (.c (.p (.int .u64 63))), none⟩,
             ⟨(some 149), .nilchk .ptr (.t 145), none⟩,
             ⟨(some 150), .faddr true 0 64 (.t 149), none⟩,
             ⟨(some 151), .iaddra 64 1 false (.t 150) (.t 148), none⟩,
             ⟨(some 152), .load false 1 (.t 151), none⟩,
             ⟨(some 153), .iaddr 1 (.t 144) (.c (.p (.int .i64 0))), none⟩,
             ⟨none, .store 1 (.t 153) (.t 152), none⟩])
           (.seq (.rg [⟨(some 154), .mov (.t 1), none⟩,
             ⟨(some 155), .mov (.t 0), none⟩,
             ⟨(some 156), .mov (.t 8), none⟩,
             ⟨(some 157), .bin .shr (.t 156) (.c (.p (.int .u64 12))), none⟩,
             ⟨(some 158), .bin .and (.t 157) (.c (.p (.int .u64 63))), none⟩,
             ⟨(some 159), .nilchk .ptr (.t 155), none⟩,
             ⟨(some 160), .faddr true 0 64 (.t 159), none⟩,
             ⟨(some 161), .iaddra 64 1 false (.t 160) (.t 158), none⟩,
             ⟨(some 162), .load false 1 (.t 161), none⟩,
             ⟨(some 163), .iaddr 1 (.t 154) (.c (.p (.int .i64 1))), none⟩,
             ⟨none, .store 1 (.t 163) (.t 162), none⟩])
           (.seq (.rg [⟨(some 164), .mov (.t 1), none⟩,
             ⟨(some 165), .mov (.t 0), none⟩,
             ⟨(some 166), .mov (.t 8), none⟩,
             ⟨(some 167), .bin .shr (.t 166) (.c (.p (.int .u64 6))), none⟩,
             ⟨(some 168), .bin .and (.t 167) (.c (.p (.int .u64 63))), none⟩,
             ⟨(some 169), .nilchk .ptr (.t 165), none⟩,
             ⟨(some 170), .faddr true 0 64 (.t 169), none⟩,
             ⟨(some 171), .iaddra 64 1 false (.t 170) (.t 168), none⟩,
             ⟨(some 172), .load false 1 (.t 171), none⟩,
             ⟨(some 173), .iaddr 1 (.t 164) (.c (.p (.int .i64 2))), none⟩,
             ⟨none, .store 1 (.t 173) (.t 172), none⟩])
           (.seq (.rg [⟨(some 174), .mov (.t 0), none⟩,
             ⟨(some 175), .nilchk .ptr (.t 174), none⟩,
             ⟨(some 176), .faddr false 320 1 (.t 175), none⟩,
             ⟨(some 177), .load false 1 (.t 176), none⟩,
             ⟨(some 178), .bin .neq (.t 177) (.c (.p (.int .i32 (-1)))), none⟩])
           (.cond (.t 178) (.rg [⟨(some 179), .mov (.t 1), none⟩,
               ⟨(some 180), .mov (.t 0), none⟩,
               ⟨(some 181), .nilchk .ptr (.t 180), none⟩,
               ⟨(some 182), .faddr false 320 1 (.t 181), none⟩,
               ⟨(some 183), .load false 1 (.t 182), none⟩,
               ⟨(some 184), .cint .u8 (.t 183), none⟩,
               ⟨(some 185), .iaddr 1 (.t 179) (.c (.p (.int .i64 3))), none⟩,
               ⟨none, .store 1 (.t 185) (.t 184), none⟩])
             .skip))))))
           .skip)))))))))))
def r138 : List DR := []
theorem c138_ok : Try.f138.body.bind (cCode Try.prog) = some c138 := by kernel_rfl
theorem r138_ok : cRes Try.prog Try.f138.results.toList = some r138 := by kernel_rfl

/-- given.example/pub-assaymark/pub/zzbase64.decodedLen -/
def c150 : DC :=
  (.seq (.rg [⟨(some 4), .mov (.c (.p (.int .i64 0))), none⟩])
    (.seq (.seq (.rg [⟨(some 5), .mov (.t 1), none⟩,
      ⟨(some 6), .bin .eql (.t 5) (.c (.p (.int .i32 (-1)))), none⟩])
    (.cond (.t 6) (.seq (.rg [⟨(some 7), .mov (.t 0), none⟩,
        ⟨(some 8), .bin .quo (.t 7) (.c (.p (.int .i64 4))), none⟩,
        ⟨(some 9), .bin .mul (.t 8) (.c (.p (.int .i64 3))), none⟩,
        ⟨(some 10), .mov (.t 0), none⟩,
        ⟨(some 11), .bin .rem (.t 10) (.c (.p (.int .i64 4))), none⟩,
        ⟨(some 12), .bin .mul (.t 11) (.c (.p (.int .i64 6))), none⟩,
        ⟨(some 13), .bin .quo (.t 12) (.c (.p (.int .i64 8))), none⟩,
        ⟨(some 14), .bin .add (.t 9) (.t 13), none⟩,
        ⟨(some 4), .mov (.t 14), none⟩])
      .ret)
      .skip))
    (.seq (.rg [⟨(some 15), .mov (.t 0), none⟩,
      ⟨(some 16), .bin .quo (.t 15) (.c (.p (.int .i64 4))), none⟩,
      ⟨(some 17), .bin .mul (.t 16) (.c (.p (.int .i64 3))), none⟩,
      ⟨(some 4), .mov (.t 17), none⟩])
    .ret)))
def r150 : List DR := [.tmp 4]
theorem c150_ok : Try.f150.body.bind (cCode Try.prog) = some c150 := by kernel_rfl
theorem r150_ok : cRes Try.prog Try.f150.results.toList = some r150 := by kernel_rfl

/-- given.example/pub-assaymark/pub/zzbase64.assemble64 -/
def c151 : DC :=
  (.seq (.rg [⟨(some 16), .mov (.c (.p (.int .u64 0))), none⟩,
      ⟨(some 17), .mov (.c (.p (.bool false))), none⟩])
    (.seq (.seq (.rg [⟨(some 18), .mov (.t 0), none⟩,
      ⟨(some 19), .mov (.t 1), none⟩,
      ⟨(some 20), .bin .or (.t 18) (.t 19), none⟩,
      ⟨(some 21), .mov (.t 2), none⟩,
      ⟨(some 22), .bin .or (.t 20) (.t 21), none⟩,
      ⟨(some 23), .mov (.t 3), none⟩,
      ⟨(some 24), .bin .or (.t 22) (.t 23), none⟩,
      ⟨(some 25), .mov (.t 4), none⟩,
      ⟨(some 26), .bin .or (.t 24) (.t 25), none⟩,
      ⟨(some 27), .mov (.t 5), none⟩,
      ⟨(some 28), .bin .or (.t 26) (.t 27), none⟩,
      ⟨(some 29), .mov (.t 6), none⟩,
      ⟨(some 30), .bin .or (.t 28) (.t 29), none⟩,
      ⟨(some 31), .mov (.t 7), none⟩,
      ⟨(some 32), .bin .or (.t 30) (.t 31), none⟩,
      ⟨(some 33), .bin .eql (.t 32) (.c (.p (.int .u8 255))), none⟩])
    (.cond (.t 33) (.seq (.rg [⟨(some 16), .mov (.c (.p (.int .u64 0))), none⟩,
        ⟨(some 17), .mov (.c (.p (.bool false))), none⟩])
      .ret)
      .skip))
    (.seq (.rg [⟨(some 34), .mov (.t 0), none⟩,
      ⟨(some 35), .cint .u64 (.t 34), none⟩,
      ⟨(some 36), .bin .shl (.t 35) (.c (.p (.int .u64 58))), none⟩,
      ⟨(some 37), .mov (.t 1), none⟩,
      ⟨(some 38), .cint .u64 (.t 37), none⟩,
      ⟨(some 39), .bin .shl (.t 38) (.c (.p (.int .u64 52))), none⟩,
      ⟨(some 40), .bin .or (.t 36) (.t 39), none⟩,
      ⟨(some 41), .mov (.t 2), none⟩,
      ⟨(some 42), .cint .u64 (.t 41), none⟩,
      ⟨(some 43), .bin .shl (.t 42) (.c (.p (.int .u64 46))), none⟩,
      ⟨(some 44), .bin .or (.t 40) (.t 43), none⟩,
      ⟨(some 45), .mov (.t 3), none⟩,
      ⟨(some 46), .cint .u64 (.t 45), none⟩,
      ⟨(some 47), .bin .shl (.t 46) (.c (.p (.int .u64 40))), none⟩,
      ⟨(some 48), .bin .or (.t 44) (.t 47), none⟩,
      ⟨(some 49), .mov (.t 4), none⟩,
      ⟨(some 50), .cint .u64 (.t 49), none⟩,
      ⟨(some 51), .bin .shl (.t 50) (.c (.p (.int .u64 34))), none⟩,
      ⟨(some 52), .bin .or (.t 48) (.t 51), none⟩,
      ⟨(some 53), .mov (.t 5), none⟩,
      ⟨(some 54), .cint .u64 (.t 53), none⟩,
      ⟨(some 55), .bin .shl (.t 54) (.c (.p (.int .u64 28))), none⟩,
      ⟨(some 56), .bin .or (.t 52) (.t 55), none⟩,
      ⟨(some 57), .mov (.t 6), none⟩,
      ⟨(some 58), .cint .u64 (.t 57), none⟩,
      ⟨(some 59), .bin .shl (.t 58) (.c (.p (.int .u64 22))), none⟩,
      ⟨(some 60), .bin .or (.t 56) (.t 59), none⟩,
      ⟨(some 61), .mov (.t 7), none⟩,
      ⟨(some 62), .cint .u64 (.t 61), none⟩,
      ⟨(some 63), .bin .shl (.t 62) (.c (.p (.int .u64 16))), none⟩,
      ⟨(some 64), .bin .or (.t 60) (.t 63), none⟩,
      ⟨(some 16), .mov (.t 64), none⟩,
      ⟨(some 17), .mov (.c (.p (.bool true))), none⟩])
    .ret)))
def r151 : List DR := [.tmp 16, .tmp 17]
theorem c151_ok : Try.f151.body.bind (cCode Try.prog) = some c151 := by kernel_rfl
theorem r151_ok : cRes Try.prog Try.f151.results.toList = some r151 := by kernel_rfl

/-- (encoding/binary.bigEndian).PutUint64 -/
def c152 : DC :=
  (.seq (.rg [⟨(some 3), .box (.t 0), none⟩])
    (.seq (.rg [⟨(some 6), .mov (.t 1), none⟩,
      ⟨(some 7), .iaddr 1 (.t 6) (.c (.p (.int .i64 7))), none⟩,
      ⟨(some 8), .load false 1 (.t 7), none⟩])
    (.seq (.rg [⟨(some 9), .mov (.t 1), none⟩,
      ⟨(some 10), .mov (.t 2), none⟩,
      ⟨(some 11), .bin .shr (.t 10) (.c (.p (.int .u64 56))), none⟩,
      ⟨(some 12), .cint .u8 (.t 11), none⟩,
      ⟨(some 13), .iaddr 1 (.t 9) (.c (.p (.int .i64 0))), none⟩,
      ⟨none, .store 1 (.t 13) (.t 12), none⟩])
    (.seq (.rg [⟨(some 14), .mov (.t 1), none⟩,
      ⟨(some 15), .mov (.t 2), none⟩,
      ⟨(some 16), .bin .shr (.t 15) (.c (.p (.int .u64 48))), none⟩,
      ⟨(some 17), .cint .u8 (.t 16), none⟩,
      ⟨(some 18), .iaddr 1 (.t 14) (.c (.p (.int .i64 1))), none⟩,
      ⟨none, .store 1 (.t 18) (.t 17), none⟩])
    (.seq (.rg [⟨(some 19), .mov (.t 1), none⟩,
      ⟨(some 20), .mov (.t 2), none⟩,
      ⟨(some 21), .bin .shr (.t 20) (.c (.p (.int .u64 40))), none⟩,
      ⟨(some 22), .cint .u8 (.t 21), none⟩,
      ⟨(some 23), .iaddr 1 (.t 19) (.c (.p (.int .i64 2))), none⟩,
      ⟨none, .store 1 (.t 23) (.t 22), none⟩])
    (.seq (.rg [⟨(some 24), .mov (.t 1), none⟩,
      ⟨(some 25), .mov (.t 2), none⟩,
      ⟨(some 26), .bin .shr (.t 25) (.c (.p (.int .u64 32))), none⟩,
      ⟨(some 27), .cint .u8 (.t 26), none⟩,
      ⟨(some 28), .iaddr 1 (.t 24) (.c (.p (.int .i64 3))), none⟩,
      ⟨none, .store 1 (.t 28) (.t 27), none⟩])
    (.seq (.rg [⟨(some 29), .mov (.t 1), none⟩,
      ⟨(some 30), .mov (.t 2), none⟩,
      ⟨(some 31), .bin .shr (.t 30) (.c (.p (.int .u64 24))), none⟩,
      ⟨(some 32), .cint .u8 (.t 31), none⟩,
      ⟨(some 33), .iaddr 1 (.t 29) (.c (.p (.int .i64 4))), none⟩,
      ⟨none, .store 1 (.t 33) (.t 32), none⟩])
    (.seq (.rg [⟨(some 34), .mov (.t 1), none⟩,
      ⟨(some 35), .mov (.t 2), none⟩,
      ⟨(some 36), .bin .shr (.t 35) (.c (.p (.int .u64 16))), none⟩,
      ⟨(some 37), .cint .u8 (.t 36), none⟩,
      ⟨(some 38), .iaddr 1 (.t 34) (.c (.p (.int .i64 5))), none⟩,
      ⟨none, .store 1 (.t 38) (.t 37), none⟩])
    (.seq (.rg [⟨(some 39), .mov (.t 1), none⟩,
      ⟨(some 40), .mov (.t 2), none⟩,
      ⟨(some 41), .bin .shr (.t 40) (.c (.p (.int .u64 8))), none⟩,
      ⟨(some 42), .cint .u8 (.t 41), none⟩,
      ⟨(some 43), .iaddr 1 (.t 39) (.c (.p (.int .i64 6))), none⟩,
      ⟨none, .store 1 (.t 43) (.t 42), none⟩])
    (.rg [⟨(some 44), .mov (.t 1), none⟩,
      ⟨(some 45), .mov (.t 2), none⟩,
      ⟨(some 46), .cint .u8 (.t 45), none⟩,
      ⟨(some 47), .iaddr 1 (.t 44) (.c (.p (.int .i64 7))), none⟩,
      ⟨none, .store 1 (.t 47) (.t 46), none⟩]))))))))))
def r152 : List DR := []
theorem c152_ok : Try.f152.body.bind (cCode Try.prog) = some c152 := by kernel_rfl
theorem r152_ok : cRes Try.prog Try.f152.results.toList = some r152 := by kernel_rfl

/-- (*given.example/pub-assaymark/pub/zzbase64.Encoding).decodeQuantum -/
def c153 : DC :=
  (.seq (.rg [⟨(some 8), .mov (.c (.p (.int .i64 0))), none⟩,
      ⟨(some 9), .mov (.c (.p (.int .i64 0))), none⟩,
      ⟨(some 10), .mov (.c (.p .nilIface)), none⟩])
    (.seq (.rg [⟨(some 11), .alloc 4 (.agg [.p (.int .u8 0), .p (.int .u8 0), .p (.int .u8 0), .p (.int .u8 0)]), none⟩])
    (.seq (.rg [⟨(some 12), .mov (.c (.p (.int .i64 4))), none⟩])
    (.seq (.rg [⟨(some 17), .mov (.t 0), none⟩,
      ⟨(some 18), .nilchk .ptr (.t 17), none⟩,
      ⟨(some 19), .faddr true 64 256 (.t 18), none⟩,
      ⟨(some 20), .load true 256 (.t 19), none⟩])
    (.seq (.seq (.rg [⟨(some 13), .mov (.c (.p (.int .i64 0))), none⟩])
    (.block 0 (.loop (.seq (.seq (.rg [⟨(some 21), .mov (.t 13), none⟩,
        ⟨(some 22), .bin .lss (.t 21) (.c (.p (.int .i64 4))), none⟩])
      (.cond (.t 22) .skip
        (.exit 0)))
      (.seq (.block 1 (.seq (.seq (.rg [⟨(some 25), .mov (.t 2), none⟩,
         ⟨(some 26), .lenl (.t 25), none⟩,
         ⟨(some 27), .mov (.t 3), none⟩,
         ⟨(some 28), .bin .eql (.t 26) (.t 27), none⟩])
       (.cond (.t 28) (.seq (.block 2 (.seq (.rg [⟨(some 30), .mov (.t 13), none⟩,
            ⟨(some 31), .bin .eql (.t 30) (.c (.p (.int .i64 0))), none⟩,
            ⟨(some 29), .mov (.t 31), none⟩])
          (.cond (.t 29) (.seq (.rg [⟨(some 32), .mov (.t 3), none⟩,
              ⟨(some 8), .mov (.t 32), none⟩,
              ⟨(some 9), .mov (.c (.p (.int .i64 0))), none⟩,
              ⟨(some 10), .mov (.c (.p .nilIface)), none⟩])
            .ret)
            (.seq (.seq (.rg [⟨(some 34), .mov (.t 13), none⟩,
              ⟨(some 35), .bin .eql (.t 34) (.c (.p (.int .i64 1))), none⟩,
              ⟨(some 33), .mov (.t 35), none⟩])
            (.cond (.t 33) .skip
              (.rg [⟨(some 36), .mov (.t 0), none⟩,
                ⟨(some 37), .nilchk .ptr (.t 36), none⟩,
                ⟨(some 38), .faddr false 320 1 (.t 37), none⟩,
                ⟨(some 39), .load false 1 (.t 38), none⟩,
                ⟨(some 40), .bin .neq (.t 39) (.c (.p (.int .i32 (-1)))), none⟩,
                ⟨(some 33), .mov (.t 40), none⟩])))
            (.cond (.t 33) (.seq (.rg [⟨(some 41), .mov (.t 3), none⟩,
                ⟨(some 42), .mov (.t 3), none⟩,
                ⟨(some 43), .mov (.t 13), none⟩,
                ⟨(some 44), .bin .sub (.t 42) (.t 43), none⟩,
                ⟨(some 45), .ifc 205 (.t 44), none⟩,
                ⟨(some 8), .mov (.t 41), none⟩,
                ⟨(some 9), .mov (.c (.p (.int .i64 0))), none⟩,
                ⟨(some 10), .mov (.t 45), none⟩])
              .ret)
              .skip)))))
         (.seq (.rg [⟨(some 46), .mov (.t 13), none⟩,
           ⟨(some 12), .mov (.t 46), none⟩])
         (.exit 0)))
         .skip))
       (.seq (.rg [⟨(some 47), .mov (.t 2), none⟩,
         ⟨(some 48), .mov (.t 3), none⟩,
         ⟨(some 49), .iaddr 1 (.t 47) (.t 48), none⟩,
         ⟨(some 50), .load false 1 (.t 49), none⟩,
         ⟨(some 14), .mov (.t 50), none⟩])
       (.seq (.rg [⟨(some 51), .mov (.t 3), none⟩,
         ⟨(some 52), .bin .add (.t 51) (.c (.p (.int .i64 1))), none⟩,
         ⟨(some 3), .mov (.t 52), none⟩])
       (.seq (.rg [⟨(some 53), .mov (.t 0), none⟩,
         ⟨(some 54), .mov (.t 14), none⟩,
         ⟨(some 55), .nilchk .ptr (.t 53), none⟩,
         ⟨(some 56), .faddr true 64 256 (.t 55), none⟩,
         ⟨(some 57), .iaddra 256 1 false (.t 56) (.t 54), none⟩,
         ⟨(some 58), .load false 1 (.t 57), none⟩,
         ⟨(some 15), .mov (.t 58), none⟩])
       (.seq (.seq (.rg [⟨(some 59), .mov (.t 15), none⟩,
         ⟨(some 60), .bin .neq (.t 59) (.c (.p (.int .u8 255))), none⟩])
       (.cond (.t 60) (.seq (.rg [⟨(some 61), .mov (.t 13), none⟩,
           ⟨(some 62), .mov (.t 15), none⟩,
           ⟨(some 63), .iaddra 4 1 false (.t 11) (.t 61), none⟩,
           ⟨none, .store 1 (.t 63) (.t 62), none⟩])
         (.exit 1))
         .skip))
       (.seq (.seq (.rg [⟨(some 64), .mov (.t 14), none⟩,
         ⟨(some 65), .bin .eql (.t 64) (.c (.p (.int .u8 10))), none⟩,
         ⟨(some 66), .mov (.t 65), none⟩,
         ⟨(some 67), .mov (.t 14), (some (66, false))⟩,
         ⟨(some 68), .bin .eql (.t 67) (.c (.p (.int .u8 13))), (some (66, false))⟩,
         ⟨(some 69), .pick (.t 66) (.c (.p (.bool true))) (.t 68), none⟩])
       (.cond (.t 69) (.seq (.rg [⟨(some 70), .mov (.t 13), none⟩,
           ⟨(some 71), .bin .sub (.t 70) (.c (.p (.int .i64 1))), none⟩,
           ⟨(some 13), .mov (.t 71), none⟩])
         (.exit 1))
         .skip))
       (.seq (.seq (.rg [⟨(some 72), .mov (.t 14), none⟩,
         ⟨(some 73), .cint .i32 (.t 72), none⟩,
         ⟨(some 74), .mov (.t 0), none⟩,
         ⟨(some 75), .nilchk .ptr (.t 74), none⟩,
         ⟨(some 76), .faddr false 320 1 (.t 75), none⟩,
         ⟨(some 77), .load false 1 (.t 76), none⟩,
         ⟨(some 78), .bin .neq (.t 73) (.t 77), none⟩])
       (.cond (.t 78) (.seq (.rg [⟨(some 79), .mov (.t 3), none⟩,
           ⟨(some 80), .mov (.t 3), none⟩,
           ⟨(some 81), .bin .sub (.t 80) (.c (.p (.int .i64 1))), none⟩,
           ⟨(some 82), .ifc 205 (.t 81), none⟩,
           ⟨(some 8), .mov (.t 79), none⟩,
           ⟨(some 9), .mov (.c (.p (.int .i64 0))), none⟩,
           ⟨(some 10), .mov (.t 82), none⟩])
         .ret)
         .skip))
       (.seq (.seq (.rg [⟨(some 83), .mov (.t 13), none⟩])
       (.block 3 (.seq (.seq (.rg [⟨(some 85), .bin .eql (.t 83) (.c (.p (.int .i64 0))), none⟩,
          ⟨(some 84), .mov (.t 85), none⟩])
        (.cond (.t 84) .skip
          (.rg [⟨(some 86), .bin .eql (.t 83) (.c (.p (.int .i64 1))), none⟩,
            ⟨(some 84), .mov (.t 86), none⟩])))
        (.cond (.t 84) (.seq (.rg [⟨(some 87), .mov (.t 3), none⟩,
            ⟨(some 88), .mov (.t 3), none⟩,
            ⟨(some 89), .bin .sub (.t 88) (.c (.p (.int .i64 1))), none⟩,
            ⟨(some 90), .ifc 205 (.t 89), none⟩,
            ⟨(some 8), .mov (.t 87), none⟩,
            ⟨(some 9), .mov (.c (.p (.int .i64 0))), none⟩,
            ⟨(some 10), .mov (.t 90), none⟩])
          .ret)
          (.seq (.rg [⟨(some 92), .bin .eql (.t 83) (.c (.p (.int .i64 2))), none⟩,
            ⟨(some 91), .mov (.t 92), none⟩])
          (.cond (.t 91) (.seq (.block 4 (.loop (.seq (.seq (.rg [⟨(some 93), .mov (.t 3), none⟩,
                ⟨(some 94), .mov (.t 2), none⟩,
                ⟨(some 95), .lenl (.t 94), none⟩,
                ⟨(some 96), .bin .lss (.t 93) (.t 95), none⟩,
                ⟨(some 97), .mov (.t 96), none⟩,
                ⟨(some 98), .mov (.t 2), (some (97, true))⟩,
                ⟨(some 99), .mov (.t 3), (some (97, true))⟩,
                ⟨(some 100), .iaddr 1 (.t 98) (.t 99), (some (97, true))⟩,
                ⟨(some 101), .load false 1 (.t 100), (some (97, true))⟩,
                ⟨(some 102), .bin .eql (.t 101) (.c (.p (.int .u8 10))), (some (97, true))⟩,
                ⟨(some 103), .mov (.t 102), (some (97, true))⟩,
                ⟨(some 104), .mov (.t 2), (some (103, false))⟩,
                ⟨(some 105), .mov (.t 3), (some (103, false))⟩,
                ⟨(some 106), .iaddr 1 (.t 104) (.t 105), (some (103, false))⟩,
                ⟨(some 107), .load false 1 (.t 106), (some (103, false))⟩,
                ⟨(some 108), .bin .eql (.t 107) (.c (.p (.int .u8 13))), (some (103, false))⟩,
                ⟨(some 109), .pick (.t 103) (.c (.p (.bool true))) (.t 108), (some (97, true))⟩,
                ⟨(some 110), .pick (.t 97) (.t 109) (.c (.p (.bool false))), none⟩])
              (.cond (.t 110) .skip
                (.exit 4)))
              (.block 5 (.rg [⟨(some 111), .mov (.t 3), none⟩,
                 ⟨(some 112), .bin .add (.t 111) (.c (.p (.int .i64 1))), none⟩,
                 ⟨(some 3), .mov (.t 112), none⟩])))))
            (.seq (.seq (.rg [⟨(some 113), .mov (.t 3), none⟩,
              ⟨(some 114), .mov (.t 2), none⟩,
              ⟨(some 115), .lenl (.t 114), none⟩,
              ⟨(some 116), .bin .eql (.t 113) (.t 115), none⟩])
            (.cond (.t 116) (.seq (.rg [⟨(some 117), .mov (.t 3), none⟩,
                ⟨(some 118), .mov (.t 2), none⟩,
                ⟨(some 119), .lenl (.t 118), none⟩,
                ⟨(some 120), .ifc 205 (.t 119), none⟩,
                ⟨(some 8), .mov (.t 117), none⟩,
                ⟨(some 9), .mov (.c (.p (.int .i64 0))), none⟩,
                ⟨(some 10), .mov (.t 120), none⟩])
              .ret)
              .skip))
            (.seq (.seq (.rgd [⟨⟨(some 121), .mov (.t 2), none⟩, 0, [0]⟩,
              ⟨⟨(some 122), .mov (.t 3), none⟩, 0, [0]⟩,
              ⟨⟨(some 123), .iaddr 1 (.t 121) (.t 122), none⟩, 0, [0]⟩,
              ⟨⟨(some 124), .load false 1 (.t 123), none⟩, 0, [0]⟩,
              ⟨⟨(some 125), .cint .i32 (.t 124), none⟩, 0, [0]⟩,
              ⟨⟨(some 126), .mov (.t 0), none⟩, 0, [0]⟩,
              ⟨⟨(some 127), .nilchk .ptr (.t 126), none⟩, 0, [0]⟩,
              ⟨⟨(some 128), .faddr false 320 1 (.t 127), none⟩, 0, [0]⟩,
              ⟨⟨(some 129), .load false 1 (.t 128), none⟩, 0, [0]⟩,
              ⟨⟨(some 130), .bin .neq (.t 125) (.t 129), none⟩, 0, []⟩])
            (.cond (.t 130) (.seq (.rg [⟨(some 131), .mov (.t 3), none⟩,
                ⟨(some 132), .mov (.t 3), none⟩,
                ⟨(some 133), .bin .sub (.t 132) (.c (.p (.int .i64 1))), none⟩,
                ⟨(some 134), .ifc 205 (.t 133), none⟩,
                ⟨(some 8), .mov (.t 131), none⟩,
                ⟨(some 9), .mov (.c (.p (.int .i64 0))), none⟩,
                ⟨(some 10), .mov (.t 134), none⟩])
              .ret)
              .skip))
            (.rg [⟨(some 135), .mov (.t 3), none⟩,
              ⟨(some 136), .bin .add (.t 135) (.c (.p (.int .i64 1))), none⟩,
              ⟨(some 3), .mov (.t 136), none⟩]))))
            .skip))))))
       (.seq (.block 6 (.loop (.seq (.seq (.rg [⟨(some 137), .mov (.t 3), none⟩,
           ⟨(some 138), .mov (.t 2), none⟩,
           ⟨(some 139), .lenl (.t 138), none⟩,
           ⟨(some 140), .bin .lss (.t 137) (.t 139), none⟩,
           ⟨(some 141), .mov (.t 140), none⟩,
           ⟨(some 142), .mov (.t 2), (some (141, true))⟩,
           ⟨(some 143), .mov (.t 3), (some (141, true))⟩,
           ⟨(some 144), .iaddr 1 (.t 142) (.t 143), (some (141, true))⟩,
           ⟨(some 145), .load false 1 (.t 144), (some (141, true))⟩,
           ⟨(some 146), .bin .eql (.t 145) (.c (.p (.int .u8 10))), (some (141, true))⟩,
           ⟨(some 147), .mov (.t 146), (some (141, true))⟩,
           ⟨(some 148), .mov (.t 2), (some (147, false))⟩,
           ⟨(some 149), .mov (.t 3), (some (147, false))⟩,
           ⟨(some 150), .iaddr 1 (.t 148) (.t 149), (some (147, false))⟩,
           ⟨(some 151), .load false 1 (.t 150), (some (147, false))⟩,
           ⟨(some 152), .bin .eql (.t 151) (.c (.p (.int .u8 13))), (some (147, false))⟩,
           ⟨(some 153), .pick (.t 147) (.c (.p (.bool true))) (.t 152), (some (141, true))⟩,
           ⟨(some 154), .pick (.t 141) (.t 153) (.c (.p (.bool false))), none⟩])
         (.cond (.t 154) .skip
           (.exit 6)))
         (.block 7 (.rg [⟨(some 155), .mov (.t 3), none⟩,
            ⟨(some 156), .bin .add (.t 155) (.c (.p (.int .i64 1))), none⟩,
            ⟨(some 3), .mov (.t 156), none⟩])))))
       (.seq (.seq (.rg [⟨(some 157), .mov (.t 3), none⟩,
         ⟨(some 158), .mov (.t 2), none⟩,
         ⟨(some 159), .lenl (.t 158), none⟩,
         ⟨(some 160), .bin .lss (.t 157) (.t 159), none⟩])
       (.cond (.t 160) (.rg [⟨(some 161), .mov (.t 3), none⟩,
           ⟨(some 162), .ifc 205 (.t 161), none⟩,
           ⟨(some 10), .mov (.t 162), none⟩])
         .skip))
       (.seq (.rg [⟨(some 163), .mov (.t 13), none⟩,
         ⟨(some 12), .mov (.t 163), none⟩])
       (.exit 0)))))))))))))
      (.rg [⟨(some 23), .mov (.t 13), none⟩,
        ⟨(some 24), .bin .add (.t 23) (.c (.p (.int .i64 1))), none⟩,
        ⟨(some 13), .mov (.t 24), none⟩]))))))
    (.seq (.rg [⟨(some 164), .iaddra 4 1 false (.t 11) (.c (.p (.int .i64 0))), none⟩,
      ⟨(some 165), .load false 1 (.t 164), none⟩,
      ⟨(some 166), .cint .u64 (.t 165), none⟩,
      ⟨(some 167), .bin .shl (.t 166) (.c (.p (.int .u64 18))), none⟩,
      ⟨(some 168), .iaddra 4 1 false (.t 11) (.c (.p (.int .i64 1))), none⟩,
      ⟨(some 169), .load false 1 (.t 168), none⟩,
      ⟨(some 170), .cint .u64 (.t 169), none⟩,
      ⟨(some 171), .bin .shl (.t 170) (.c (.p (.int .u64 12))), none⟩,
      ⟨(some 172), .bin .or (.t 167) (.t 171), none⟩,
      ⟨(some 173), .iaddra 4 1 false (.t 11) (.c (.p (.int .i64 2))), none⟩,
      ⟨(some 174), .load false 1 (.t 173), none⟩,
      ⟨(some 175), .cint .u64 (.t 174), none⟩,
      ⟨(some 176), .bin .shl (.t 175) (.c (.p (.int .u64 6))), none⟩,
      ⟨(some 177), .bin .or (.t 172) (.t 176), none⟩,
      ⟨(some 178), .iaddra 4 1 false (.t 11) (.c (.p (.int .i64 3))), none⟩,
      ⟨(some 179), .load false 1 (.t 178), none⟩,
      ⟨(some 180), .cint .u64 (.t 179), none⟩,
      ⟨(some 181), .bin .or (.t 177) (.t 180), none⟩,
      ⟨(some 16), .mov (.t 181), none⟩])
    (.seq (.rg [⟨(some 182), .mov (.t 16), none⟩,
      ⟨(some 183), .bin .shr (.t 182) (.c (.p (.int .u64 0))), none⟩,
      ⟨(some 184), .cint .u8 (.t 183), none⟩,
      ⟨(some 185), .mov (.t 16), none⟩,
      ⟨(some 186), .bin .shr (.t 185) (.c (.p (.int .u64 8))), none⟩,
      ⟨(some 187), .cint .u8 (.t 186), none⟩,
      ⟨(some 188), .mov (.t 16), none⟩,
      ⟨(some 189), .bin .shr (.t 188) (.c (.p (.int .u64 16))), none⟩,
      ⟨(some 190), .cint .u8 (.t 189), none⟩,
      ⟨(some 191), .iaddra 4 1 false (.t 11) (.c (.p (.int .i64 2))), none⟩,
      ⟨none, .store 1 (.t 191) (.t 184), none⟩,
      ⟨(some 192), .iaddra 4 1 false (.t 11) (.c (.p (.int .i64 1))), none⟩,
      ⟨none, .store 1 (.t 192) (.t 187), none⟩,
      ⟨(some 193), .iaddra 4 1 false (.t 11) (.c (.p (.int .i64 0))), none⟩,
      ⟨none, .store 1 (.t 193) (.t 190), none⟩])
    (.seq (.seq (.rg [⟨(some 194), .mov (.t 12), none⟩])
    (.block 8 (.seq (.block 11 (.seq (.block 10 (.seq (.block 9 (.seq (.seq (.seq (.rg [⟨(some 196), .bin .eql (.t 194) (.c (.p (.int .i64 4))), none⟩,
          ⟨(some 195), .mov (.t 196), none⟩])
        (.cond (.t 195) (.exit 9)
          .skip))
        (.seq (.seq (.rg [⟨(some 198), .bin .eql (.t 194) (.c (.p (.int .i64 3))), none⟩,
          ⟨(some 197), .mov (.t 198), none⟩])
        (.cond (.t 197) (.exit 10)
          .skip))
        (.seq (.rg [⟨(some 200), .bin .eql (.t 194) (.c (.p (.int .i64 2))), none⟩,
          ⟨(some 199), .mov (.t 200), none⟩])
        (.cond (.t 199) (.exit 11)
          .skip))))
        (.exit 8)))
       (.seq (.rg [⟨(some 201), .mov (.t 1), none⟩,
         ⟨(some 202), .iaddra 4 1 false (.t 11) (.c (.p (.int .i64 2))), none⟩,
         ⟨(some 203), .load false 1 (.t 202), none⟩,
         ⟨(some 204), .iaddr 1 (.t 201) (.c (.p (.int .i64 2))), none⟩,
         ⟨none, .store 1 (.t 204) (.t 203), none⟩])
       (.rg [⟨(some 205), .iaddra 4 1 false (.t 11) (.c (.p (.int .i64 2))), none⟩,
         ⟨none, .store 1 (.t 205) (.c (.p (.int .u8 0))), none⟩]))))
      (.seq (.rg [⟨(some 206), .mov (.t 1), none⟩,
        ⟨(some 207), .iaddra 4 1 false (.t 11) (.c (.p (.int .i64 1))), none⟩,
        ⟨(some 208), .load false 1 (.t 207), none⟩,
        ⟨(some 209), .iaddr 1 (.t 206) (.c (.p (.int .i64 1))), none⟩,
        ⟨none, .store 1 (.t 209) (.t 208), none⟩])
      (.seq (.seq (.rg [⟨(some 210), .mov (.t 0), none⟩,
        ⟨(some 211), .nilchk .ptr (.t 210), none⟩,
        ⟨(some 212), .faddr false 321 1 (.t 211), none⟩,
        ⟨(some 213), .load false 1 (.t 212), none⟩,
        ⟨(some 214), .mov (.t 213), none⟩,
        ⟨(some 215), .iaddra 4 1 false (.t 11) (.c (.p (.int .i64 2))), (some (214, true))⟩,
        ⟨(some 216), .load false 1 (.t 215), (some (214, true))⟩,
        ⟨(some 217), .bin .neq (.t 216) (.c (.p (.int .u8 0))), (some (214, true))⟩,
        ⟨(some 218), .pick (.t 214) (.t 217) (.c (.p (.bool false))), none⟩])
      (.cond (.t 218) (.seq (.rg [⟨(some 219), .mov (.t 3), none⟩,
          ⟨(some 220), .mov (.t 3), none⟩,
          ⟨(some 221), .bin .sub (.t 220) (.c (.p (.int .i64 1))), none⟩,
          ⟨(some 222), .ifc 205 (.t 221), none⟩,
          ⟨(some 8), .mov (.t 219), none⟩,
          ⟨(some 9), .mov (.c (.p (.int .i64 0))), none⟩,
          ⟨(some 10), .mov (.t 222), none⟩])
        .ret)
        .skip))
      (.rg [⟨(some 223), .iaddra 4 1 false (.t 11) (.c (.p (.int .i64 1))), none⟩,
        ⟨none, .store 1 (.t 223) (.c (.p (.int .u8 0))), none⟩])))))
     (.seq (.seq (.rg [⟨(some 224), .mov (.t 1), none⟩,
       ⟨(some 225), .iaddra 4 1 false (.t 11) (.c (.p (.int .i64 0))), none⟩,
       ⟨(some 226), .load false 1 (.t 225), none⟩,
       ⟨(some 227), .iaddr 1 (.t 224) (.c (.p (.int .i64 0))), none⟩,
       ⟨none, .store 1 (.t 227) (.t 226), none⟩])
     (.seq (.rg [⟨(some 228), .mov (.t 0), none⟩,
       ⟨(some 229), .nilchk .ptr (.t 228), none⟩,
       ⟨(some 230), .faddr false 321 1 (.t 229), none⟩,
       ⟨(some 231), .load false 1 (.t 230), none⟩,
       ⟨(some 232), .mov (.t 231), none⟩,
       ⟨(some 233), .iaddra 4 1 false (.t 11) (.c (.p (.int .i64 1))), (some (232, true))⟩,
       ⟨(some 234), .load false 1 (.t 233), (some (232, true))⟩,
       ⟨(some 235), .bin .neq (.t 234) (.c (.p (.int .u8 0))), (some (232, true))⟩,
       ⟨(some 236), .mov (.t 235), (some (232, true))⟩,
       ⟨(some 237), .iaddra 4 1 false (.t 11) (.c (.p (.int .i64 2))), (some (236, false))⟩,
       ⟨(some 238), .load false 1 (.t 237), (some (236, false))⟩,
       ⟨(some 239), .bin .neq (.t 238) (.c (.p (.int .u8 0))), (some (236, false))⟩,
       ⟨(some 240), .pick (.t 236) (.c (.p (.bool true))) (.t 239), (some (232, true))⟩,
       ⟨(some 241), .pick (.t 232) (.t 240) (.c (.p (.bool false))), none⟩])
     (.cond (.t 241) (.seq (.rg [⟨(some 242), .mov (.t 3), none⟩,
         ⟨(some 243), .mov (.t 3), none⟩,
         ⟨(some 244), .bin .sub (.t 243) (.c (.p (.int .i64 2))), none⟩,
         ⟨(some 245), .ifc 205 (.t 244), none⟩,
         ⟨(some 8), .mov (.t 242), none⟩,
         ⟨(some 9), .mov (.c (.p (.int .i64 0))), none⟩,
         ⟨(some 10), .mov (.t 245), none⟩])
       .ret)
       .skip)))
     (.exit 8)))))
    (.seq (.rg [⟨(some 246), .mov (.t 3), none⟩,
      ⟨(some 247), .mov (.t 12), none⟩,
      ⟨(some 248), .bin .sub (.t 247) (.c (.p (.int .i64 1))), none⟩,
      ⟨(some 249), .mov (.t 10), none⟩,
      ⟨(some 8), .mov (.t 246), none⟩,
      ⟨(some 9), .mov (.t 248), none⟩,
      ⟨(some 10), .mov (.t 249), none⟩])
    .ret)))))))))
def r153 : List DR := [.tmp 8, .tmp 9, .tmp 10]
theorem c153_ok : Try.f153.body.bind (cCode Try.prog) = some c153 := by kernel_rfl
theorem r153_ok : cRes Try.prog Try.f153.results.toList = some r153 := by kernel_rfl

/-- given.example/pub-assaymark/pub/zzbase64.assemble32 -/
def c154 : DC :=
  (.seq (.rg [⟨(some 8), .mov (.c (.p (.int .u32 0))), none⟩,
      ⟨(some 9), .mov (.c (.p (.bool false))), none⟩])
    (.seq (.seq (.rg [⟨(some 10), .mov (.t 0), none⟩,
      ⟨(some 11), .mov (.t 1), none⟩,
      ⟨(some 12), .bin .or (.t 10) (.t 11), none⟩,
      ⟨(some 13), .mov (.t 2), none⟩,
      ⟨(some 14), .bin .or (.t 12) (.t 13), none⟩,
      ⟨(some 15), .mov (.t 3), none⟩,
      ⟨(some 16), .bin .or (.t 14) (.t 15), none⟩,
      ⟨(some 17), .bin .eql (.t 16) (.c (.p (.int .u8 255))), none⟩])
    (.cond (.t 17) (.seq (.rg [⟨(some 8), .mov (.c (.p (.int .u32 0))), none⟩,
        ⟨(some 9), .mov (.c (.p (.bool false))), none⟩])
      .ret)
      .skip))
    (.seq (.rg [⟨(some 18), .mov (.t 0), none⟩,
      ⟨(some 19), .cint .u32 (.t 18), none⟩,
      ⟨(some 20), .bin .shl (.t 19) (.c (.p (.int .u64 26))), none⟩,
      ⟨(some 21), .mov (.t 1), none⟩,
      ⟨(some 22), .cint .u32 (.t 21), none⟩,
      ⟨(some 23), .bin .shl (.t 22) (.c (.p (.int .u64 20))), none⟩,
      ⟨(some 24), .bin .or (.t 20) (.t 23), none⟩,
      ⟨(some 25), .mov (.t 2), none⟩,
      ⟨(some 26), .cint .u32 (.t 25), none⟩,
      ⟨(some 27), .bin .shl (.t 26) (.c (.p (.int .u64 14))), none⟩,
      ⟨(some 28), .bin .or (.t 24) (.t 27), none⟩,
      ⟨(some 29), .mov (.t 3), none⟩,
      ⟨(some 30), .cint .u32 (.t 29), none⟩,
      ⟨(some 31), .bin .shl (.t 30) (.c (.p (.int .u64 8))), none⟩,
      ⟨(some 32), .bin .or (.t 28) (.t 31), none⟩,
      ⟨(some 8), .mov (.t 32), none⟩,
      ⟨(some 9), .mov (.c (.p (.bool true))), none⟩])
    .ret)))
def r154 : List DR := [.tmp 8, .tmp 9]
theorem c154_ok : Try.f154.body.bind (cCode Try.prog) = some c154 := by kernel_rfl
theorem r154_ok : cRes Try.prog Try.f154.results.toList = some r154 := by kernel_rfl

/-- (encoding/binary.bigEndian).PutUint32 -/
def c155 : DC :=
  (.seq (.rg [⟨(some 3), .box (.t 0), none⟩])
    (.seq (.rg [⟨(some 6), .mov (.t 1), none⟩,
      ⟨(some 7), .iaddr 1 (.t 6) (.c (.p (.int .i64 3))), none⟩,
      ⟨(some 8), .load false 1 (.t 7), none⟩])
    (.seq (.rg [⟨(some 9), .mov (.t 1), none⟩,
      ⟨(some 10), .mov (.t 2), none⟩,
      ⟨(some 11), .bin .shr (.t 10) (.c (.p (.int .u64 24))), none⟩,
      ⟨(some 12), .cint .u8 (.t 11), none⟩,
      ⟨(some 13), .iaddr 1 (.t 9) (.c (.p (.int .i64 0))), none⟩,
      ⟨none, .store 1 (.t 13) (.t 12), none⟩])
    (.seq (.rg [⟨(some 14), .mov (.t 1), none⟩,
      ⟨(some 15), .mov (.t 2), none⟩,
      ⟨(some 16), .bin .shr (.t 15) (.c (.p (.int .u64 16))), none⟩,
      ⟨(some 17), .cint .u8 (.t 16), none⟩,
      ⟨(some 18), .iaddr 1 (.t 14) (.c (.p (.int .i64 1))), none⟩,
      ⟨none, .store 1 (.t 18) (.t 17), none⟩])
    (.seq (.rg [⟨(some 19), .mov (.t 1), none⟩,
      ⟨(some 20), .mov (.t 2), none⟩,
      ⟨(some 21), .bin .shr (.t 20) (.c (.p (.int .u64 8))), none⟩,
      ⟨(some 22), .cint .u8 (.t 21), none⟩,
      ⟨(some 23), .iaddr 1 (.t 19) (.c (.p (.int .i64 2))), none⟩,
      ⟨none, .store 1 (.t 23) (.t 22), none⟩])
    (.rg [⟨(some 24), .mov (.t 1), none⟩,
      ⟨(some 25), .mov (.t 2), none⟩,
      ⟨(some 26), .cint .u8 (.t 25), none⟩,
      ⟨(some 27), .iaddr 1 (.t 24) (.c (.p (.int .i64 3))), none⟩,
      ⟨none, .store 1 (.t 27) (.t 26), none⟩]))))))
def r155 : List DR := []
theorem c155_ok : Try.f155.body.bind (cCode Try.prog) = some c155 := by kernel_rfl
theorem r155_ok : cRes Try.prog Try.f155.results.toList = some r155 := by kernel_rfl

def tab : Tab := fun f => match f with
  | 5 => some (c5, r5, 64)
  | 18 => some (c18, r18, 59)
  | 19 => some (c19, r19, 27)
  | 20 => some (c20, r20, 7)
  | 44 => some (c44, r44, 18)
  | 45 => some (c45, r45, 11)
  | 46 => some (c46, r46, 26)
  | 47 => some (c47, r47, 15)
  | 48 => some (c48, r48, 8)
  | 49 => some (c49, r49, 10)
  | 106 => some (c106, r106, 7)
  | 107 => some (c107, r107, 23)
  | 108 => some (c108, r108, 2)
  | 109 => some (c109, r109, 26)
  | 110 => some (c110, r110, 17)
  | 133 => some (c133, r133, 21)
  | 134 => some (c134, r134, 63)
  | 135 => some (c135, r135, 11)
  | 136 => some (c136, r136, 247)
  | 137 => some (c137, r137, 23)
  | 138 => some (c138, r138, 186)
  | 150 => some (c150, r150, 18)
  | 151 => some (c151, r151, 65)
  | 152 => some (c152, r152, 48)
  | 153 => some (c153, r153, 250)
  | 154 => some (c154, r154, 33)
  | 155 => some (c155, r155, 28)
  | _ => none
theorem tab_ok : TabOk Try.prog tab := by
  intro f d rs n h
  unfold tab at h
  split at h
  · cases h; exact ⟨_, Try.func5, c5_ok, r5_ok, rfl⟩
  · cases h; exact ⟨_, Try.func18, c18_ok, r18_ok, rfl⟩
  · cases h; exact ⟨_, Try.func19, c19_ok, r19_ok, rfl⟩
  · cases h; exact ⟨_, Try.func20, c20_ok, r20_ok, rfl⟩
  · cases h; exact ⟨_, Try.func44, c44_ok, r44_ok, rfl⟩
  · cases h; exact ⟨_, Try.func45, c45_ok, r45_ok, rfl⟩
  · cases h; exact ⟨_, Try.func46, c46_ok, r46_ok, rfl⟩
  · cases h; exact ⟨_, Try.func47, c47_ok, r47_ok, rfl⟩
  · cases h; exact ⟨_, Try.func48, c48_ok, r48_ok, rfl⟩
  · cases h; exact ⟨_, Try.func49, c49_ok, r49_ok, rfl⟩
  · cases h; exact ⟨_, Try.func106, c106_ok, r106_ok, rfl⟩
  · cases h; exact ⟨_, Try.func107, c107_ok, r107_ok, rfl⟩
  · cases h; exact ⟨_, Try.func108, c108_ok, r108_ok, rfl⟩
  · cases h; exact ⟨_, Try.func109, c109_ok, r109_ok, rfl⟩
  · cases h; exact ⟨_, Try.func110, c110_ok, r110_ok, rfl⟩
  · cases h; exact ⟨_, Try.func133, c133_ok, r133_ok, rfl⟩
  · cases h; exact ⟨_, Try.func134, c134_ok, r134_ok, rfl⟩
  · cases h; exact ⟨_, Try.func135, c135_ok, r135_ok, rfl⟩
  · cases h; exact ⟨_, Try.func136, c136_ok, r136_ok, rfl⟩
  · cases h; exact ⟨_, Try.func137, c137_ok, r137_ok, rfl⟩
  · cases h; exact ⟨_, Try.func138, c138_ok, r138_ok, rfl⟩
  · cases h; exact ⟨_, Try.func150, c150_ok, r150_ok, rfl⟩
  · cases h; exact ⟨_, Try.func151, c151_ok, r151_ok, rfl⟩
  · cases h; exact ⟨_, Try.func152, c152_ok, r152_ok, rfl⟩
  · cases h; exact ⟨_, Try.func153, c153_ok, r153_ok, rfl⟩
  · cases h; exact ⟨_, Try.func154, c154_ok, r154_ok, rfl⟩
  · cases h; exact ⟨_, Try.func155, c155_ok, r155_ok, rfl⟩
  · cases h
end Go.Proofs.Ytdgnjngbheecnaa
