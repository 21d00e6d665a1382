/- The codes of the functions, in the small language of Den. -/
import Derived.Test.YtdgnjngbheecnaaLibE
import Derived.Test.YtdgnjngbheecnaaProg
set_option linter.unusedVariables false
set_option linter.unusedSimpArgs false
set_option maxRecDepth 100000
namespace Go.Proofs.Ytdgnjngbheecnaa
open Go Go.Den Go.Proofs

/-- given.example/pub-assaymark/laws.FnNoticeEqual -/
def c3 : DC :=
  (.seq (.rg [⟨(some 5), .box (.t 0), none⟩,
      ⟨(some 10), .mov (.c (.p (.bool false))), none⟩])
    (.seq (.seq (.rg [⟨(some 14), .load true 9 (.t 5), none⟩,
      ⟨(some 15), .callr 8 [(.t 14)], none⟩,
      ⟨(some 16), .un .not (.t 15), none⟩,
      ⟨(some 17), .mov (.t 16), none⟩,
      ⟨(some 18), .mov (.t 1), (some (17, false))⟩,
      ⟨(some 19), .callr 9 [(.t 18)], (some (17, false))⟩,
      ⟨(some 20), .un .not (.t 19), (some (17, false))⟩,
      ⟨(some 21), .pick (.t 17) (.c (.p (.bool true))) (.t 20), none⟩,
      ⟨(some 22), .mov (.t 21), none⟩,
      ⟨(some 23), .mov (.t 2), (some (22, false))⟩,
      ⟨(some 24), .lens (.t 23), (some (22, false))⟩,
      ⟨(some 25), .bin .gtr (.t 24) (.c (.p (.int .i64 2147483647))), (some (22, false))⟩,
      ⟨(some 26), .pick (.t 22) (.c (.p (.bool true))) (.t 25), none⟩,
      ⟨(some 27), .mov (.t 26), none⟩,
      ⟨(some 28), .mov (.t 3), (some (27, false))⟩,
      ⟨(some 29), .lens (.t 28), (some (27, false))⟩,
      ⟨(some 30), .bin .gtr (.t 29) (.c (.p (.int .i64 2147483647))), (some (27, false))⟩,
      ⟨(some 31), .pick (.t 27) (.c (.p (.bool true))) (.t 30), none⟩])
    (.cond (.t 31) (.seq (.rg [⟨(some 10), .mov (.c (.p (.bool true))), none⟩])
      .ret)
      .skip))
    (.seq (.rg [⟨(some 32), .load true 9 (.t 5), none⟩,
      ⟨(some 33), .callr 10 [(.t 32)], none⟩,
      ⟨none, .store 9 (.t 5) (.t 33), none⟩])
    (.seq (.rg [⟨(some 34), .mov (.t 1), none⟩,
      ⟨(some 35), .callr 11 [(.t 34)], none⟩,
      ⟨(some 1), .mov (.t 35), none⟩])
    (.seq (.rg [⟨(some 36), .mov (.t 2), none⟩,
      ⟨(some 37), .lit 1 [(.t 36)], none⟩,
      ⟨(some 38), .callr 12 [(.t 37)], none⟩,
      ⟨(some 39), .mov (.t 3), none⟩,
      ⟨(some 40), .lit 1 [(.t 39)], none⟩,
      ⟨(some 41), .callr 12 [(.t 40)], none⟩,
      ⟨(some 11), .mov (.t 38), none⟩,
      ⟨(some 12), .mov (.t 41), none⟩])
    (.seq (.seq (.rg [⟨(some 42), .mov (.t 4), none⟩])
    (.cond (.t 42) (.rgd [⟨⟨(some 43), .lit 1 [], none⟩, 0, [0]⟩,
        ⟨⟨(some 44), .faddr false 6 1 (.t 5), none⟩, 0, [0]⟩,
        ⟨⟨(some 45), .load false 1 (.t 44), none⟩, 0, [0]⟩,
        ⟨⟨(some 46), .app 1 16 (.t 43) (.t 45), none⟩, 1, [0]⟩,
        ⟨⟨(some 47), .faddr false 7 1 (.t 5), none⟩, 0, [0]⟩,
        ⟨⟨(some 48), .load false 1 (.t 47), none⟩, 0, [0]⟩,
        ⟨⟨(some 49), .faddr false 8 1 (.t 5), none⟩, 0, [0]⟩,
        ⟨⟨(some 50), .load false 1 (.t 49), none⟩, 0, [0]⟩,
        ⟨⟨(some 1), .mov (.t 46), none⟩, 2, [0]⟩,
        ⟨⟨(some 11), .mov (.t 48), none⟩, 2, [0]⟩,
        ⟨⟨(some 12), .mov (.t 50), none⟩, 2, []⟩])
      .skip))
    (.seq (.rg [⟨(some 13), .mov (.c (.fn (.func 13) [] [])), none⟩])
    (.seq (.rgd [⟨⟨(some 51), .load true 9 (.t 5), none⟩, 0, [0]⟩,
      ⟨⟨(some 52), .mov (.t 1), none⟩, 0, [0]⟩,
      ⟨⟨(some 53), .mov (.t 13), none⟩, 0, [0]⟩,
      ⟨⟨(some 54), .mov (.t 11), none⟩, 0, [0]⟩,
      ⟨⟨(some 55), .callv false (.t 53) [(.t 54)], none⟩, 0, [0]⟩,
      ⟨⟨(some 56), .mov (.t 13), none⟩, 0, [0]⟩,
      ⟨⟨(some 57), .mov (.t 12), none⟩, 0, [0]⟩,
      ⟨⟨(some 58), .callv false (.t 56) [(.t 57)], none⟩, 1, [0]⟩,
      ⟨⟨(some 59), .call 14 [(.t 51), (.t 52), (.t 55), (.t 58)], none⟩, 2, [0]⟩,
      ⟨⟨(some 60), .load true 9 (.t 5), none⟩, 0, [0]⟩,
      ⟨⟨(some 61), .mov (.t 1), none⟩, 0, [0]⟩,
      ⟨⟨(some 62), .mov (.t 13), none⟩, 0, [0]⟩,
      ⟨⟨(some 63), .mov (.t 11), none⟩, 0, [0]⟩,
      ⟨⟨(some 64), .callv false (.t 62) [(.t 63)], none⟩, 3, [0]⟩,
      ⟨⟨(some 65), .mov (.t 13), none⟩, 0, [0]⟩,
      ⟨⟨(some 66), .mov (.t 12), none⟩, 0, [0]⟩,
      ⟨⟨(some 67), .callv false (.t 65) [(.t 66)], none⟩, 4, [0]⟩,
      ⟨⟨(some 68), .call 15 [(.t 60), (.t 61), (.t 64), (.t 67)], none⟩, 5, []⟩,
      ⟨⟨(some 69), .eqb false (.t 59) (.t 68), none⟩, 6, []⟩,
      ⟨⟨(some 70), .mov (.t 69), none⟩, 6, []⟩,
      ⟨⟨(some 71), .bld [.p (.int .i64 0), .p (.string ⟨#[]⟩), .p (.string ⟨#[]⟩), .p (.string ⟨#[]⟩), .p (.string ⟨#[]⟩), .p (.string ⟨#[]⟩), .p (.slice none 0 0), .p (.slice none 0 0), .p (.slice none 0 0)] [], (some (70, true))⟩, 6, []⟩,
      ⟨⟨(some 72), .call 14 [(.t 71), (.c (.p (.slice none 0 0))), (.c (.p (.string ⟨#[]⟩))), (.c (.p (.string ⟨#[]⟩)))], (some (70, true))⟩, 6, []⟩,
      ⟨⟨(some 73), .pick (.t 70) (.t 72) (.c (.p (.bool false))), none⟩, 7, []⟩,
      ⟨⟨(some 10), .mov (.t 73), none⟩, 7, []⟩])
    .ret))))))))
def r3 : List DR := [.tmp 10]
theorem c3_ok : Try.f3.body.bind (cCode Try.prog) = some c3 := by kernel_rfl
theorem r3_ok : cRes Try.prog Try.f3.results.toList = some r3 := by kernel_rfl

/-- given.example/pub-assaymark/laws.zzFits12 -/
def c8 : DC :=
  (.seq (.rg [⟨(some 1), .box (.t 0), none⟩,
      ⟨(some 2), .mov (.c (.p (.bool false))), none⟩])
    (.seq (.seq (.rg [⟨(some 3), .faddr true 1 5 (.t 1), none⟩,
      ⟨(some 4), .load true 5 (.t 3), none⟩,
      ⟨(some 5), .callr 32 [(.t 4)], none⟩,
      ⟨(some 6), .un .not (.t 5), none⟩])
    (.cond (.t 6) (.seq (.rg [⟨(some 2), .mov (.c (.p (.bool false))), none⟩])
      .ret)
      .skip))
    (.seq (.seq (.rg [⟨(some 7), .faddr false 6 1 (.t 1), none⟩,
      ⟨(some 8), .load false 1 (.t 7), none⟩,
      ⟨(some 9), .callr 9 [(.t 8)], none⟩,
      ⟨(some 10), .un .not (.t 9), none⟩])
    (.cond (.t 10) (.seq (.rg [⟨(some 2), .mov (.c (.p (.bool false))), none⟩])
      .ret)
      .skip))
    (.seq (.seq (.rg [⟨(some 11), .faddr false 7 1 (.t 1), none⟩,
      ⟨(some 12), .load false 1 (.t 11), none⟩,
      ⟨(some 13), .callr 9 [(.t 12)], none⟩,
      ⟨(some 14), .un .not (.t 13), none⟩])
    (.cond (.t 14) (.seq (.rg [⟨(some 2), .mov (.c (.p (.bool false))), none⟩])
      .ret)
      .skip))
    (.seq (.seq (.rg [⟨(some 15), .faddr false 8 1 (.t 1), none⟩,
      ⟨(some 16), .load false 1 (.t 15), none⟩,
      ⟨(some 17), .callr 9 [(.t 16)], none⟩,
      ⟨(some 18), .un .not (.t 17), none⟩])
    (.cond (.t 18) (.seq (.rg [⟨(some 2), .mov (.c (.p (.bool false))), none⟩])
      .ret)
      .skip))
    (.seq (.rg [⟨(some 2), .mov (.c (.p (.bool true))), none⟩])
    .ret))))))
def r8 : List DR := [.tmp 2]
theorem c8_ok : Try.f8.body.bind (cCode Try.prog) = some c8 := by kernel_rfl
theorem r8_ok : cRes Try.prog Try.f8.results.toList = some r8 := by kernel_rfl

/-- given.example/pub-assaymark/laws.zzFits8 -/
def c9 : DC :=
  (.seq (.rg [⟨(some 2), .mov (.c (.p (.bool false))), none⟩])
    (.seq (.seq (.rg [⟨(some 5), .mov (.t 0), none⟩,
      ⟨(some 6), .lenl (.t 5), none⟩,
      ⟨(some 7), .bin .gtr (.t 6) (.c (.p (.int .i64 2147483647))), none⟩])
    (.cond (.t 7) (.seq (.rg [⟨(some 2), .mov (.c (.p (.bool false))), none⟩])
      .ret)
      .skip))
    (.seq (.seq (.rg [⟨(some 8), .mov (.t 0), none⟩,
      ⟨(some 9), .lenl (.t 8), none⟩,
      ⟨(some 10), .mov (.c (.p (.int .i64 0))), none⟩])
    (.block 0 (.loop (.seq (.rg [⟨(some 11), .bin .lss (.t 10) (.t 9), none⟩])
      (.seq (.cond (.t 11) .skip
        (.exit 0))
      (.seq (.block 1 (.seq (.rg [⟨(some 12), .iaddr 1 (.t 8) (.t 10), none⟩,
         ⟨(some 13), .load false 1 (.t 12), none⟩,
         ⟨(some 4), .mov (.t 13), none⟩])
       (.seq (.rg [⟨(some 14), .mov (.t 4), none⟩,
         ⟨(some 15), .lens (.t 14), none⟩,
         ⟨(some 16), .bin .gtr (.t 15) (.c (.p (.int .i64 2147483647))), none⟩])
       (.cond (.t 16) (.seq (.rg [⟨(some 2), .mov (.c (.p (.bool false))), none⟩])
         .ret)
         .skip))))
      (.rg [⟨(some 17), .bin .add (.t 10) (.c (.p (.int .i64 1))), none⟩,
        ⟨(some 10), .mov (.t 17), none⟩])))))))
    (.seq (.rg [⟨(some 2), .mov (.c (.p (.bool true))), none⟩])
    .ret))))
def r9 : List DR := [.tmp 2]
theorem c9_ok : Try.f9.body.bind (cCode Try.prog) = some c9 := by kernel_rfl
theorem r9_ok : cRes Try.prog Try.f9.results.toList = some r9 := by kernel_rfl

/-- given.example/pub-assaymark/laws.ntPlain -/
def c10 : DC :=
  (.seq (.rg [⟨(some 1), .box (.t 0), none⟩,
      ⟨(some 2), .alloc 9 (.agg [.p (.int .i64 0), .p (.string ⟨#[]⟩), .p (.string ⟨#[]⟩), .p (.string ⟨#[]⟩), .p (.string ⟨#[]⟩), .p (.string ⟨#[]⟩), .p (.slice none 0 0), .p (.slice none 0 0), .p (.slice none 0 0)]), none⟩])
    (.seq (.rgd [⟨⟨(some 3), .faddr false 0 1 (.t 1), none⟩, 0, [0]⟩,
      ⟨⟨(some 4), .load false 1 (.t 3), none⟩, 0, [0]⟩,
      ⟨⟨(some 5), .cint .u64 (.t 4), none⟩, 0, [0]⟩,
      ⟨⟨(some 6), .bin .rem (.t 5) (.c (.p (.int .u64 3))), none⟩, 0, [0]⟩,
      ⟨⟨(some 7), .cint .i64 (.t 6), none⟩, 0, [0]⟩,
      ⟨⟨(some 8), .faddr true 1 5 (.t 1), none⟩, 0, [0]⟩,
      ⟨⟨(some 9), .load true 5 (.t 8), none⟩, 0, [0]⟩,
      ⟨⟨(some 10), .call 33 [(.t 9)], none⟩, 0, [0]⟩,
      ⟨⟨(some 11), .faddr false 6 1 (.t 1), none⟩, 0, [0]⟩,
      ⟨⟨(some 12), .load false 1 (.t 11), none⟩, 0, [0]⟩,
      ⟨⟨(some 13), .call 11 [(.t 12)], none⟩, 1, [0]⟩,
      ⟨⟨(some 14), .faddr false 7 1 (.t 1), none⟩, 0, [0]⟩,
      ⟨⟨(some 15), .load false 1 (.t 14), none⟩, 0, [0]⟩,
      ⟨⟨(some 16), .call 12 [(.t 15)], none⟩, 2, [0]⟩,
      ⟨⟨(some 17), .faddr false 8 1 (.t 1), none⟩, 0, [0]⟩,
      ⟨⟨(some 18), .load false 1 (.t 17), none⟩, 0, [0]⟩,
      ⟨⟨(some 19), .call 12 [(.t 18)], none⟩, 3, [0]⟩,
      ⟨⟨(some 20), .bld [.p (.int .i64 0), .p (.string ⟨#[]⟩), .p (.string ⟨#[]⟩), .p (.string ⟨#[]⟩), .p (.string ⟨#[]⟩), .p (.string ⟨#[]⟩), .p (.slice none 0 0), .p (.slice none 0 0), .p (.slice none 0 0)] [(0, 1, (.t 7)), (1, 5, (.t 10)), (6, 1, (.t 13)), (7, 1, (.t 16)), (8, 1, (.t 19))], none⟩, 4, []⟩,
      ⟨⟨none, .store 9 (.t 2) (.t 20), none⟩, 4, []⟩])
    .ret))
def r10 : List DR := [.cell 2 true 9]
theorem c10_ok : Try.f10.body.bind (cCode Try.prog) = some c10 := by kernel_rfl
theorem r10_ok : cRes Try.prog Try.f10.results.toList = some r10 := by kernel_rfl

/-- given.example/pub-assaymark/laws.ntEvents -/
def c11 : DC :=
  (.seq (.rg [⟨(some 2), .mov (.c (.p (.slice none 0 0))), none⟩])
    (.seq (.rg [⟨(some 3), .mov (.c (.p (.slice none 0 0))), none⟩])
    (.seq (.seq (.rg [⟨(some 6), .mov (.t 0), none⟩,
      ⟨(some 7), .callr 34 [(.t 6)], none⟩,
      ⟨(some 8), .mov (.t 0), none⟩,
      ⟨(some 9), .lenl (.t 8), none⟩,
      ⟨(some 10), .mm false (.t 9) (.c (.p (.int .i64 4))), none⟩,
      ⟨(some 11), .slcl 1 (.t 7) none (some (.t 10)), none⟩,
      ⟨(some 12), .lenl (.t 11), none⟩,
      ⟨(some 13), .mov (.c (.p (.int .i64 0))), none⟩])
    (.block 0 (.loop (.seq (.rg [⟨(some 14), .bin .lss (.t 13) (.t 12), none⟩])
      (.seq (.cond (.t 14) .skip
        (.exit 0))
      (.seq (.block 1 (.seq (.rg [⟨(some 15), .iaddr 1 (.t 11) (.t 13), none⟩,
         ⟨(some 16), .load false 1 (.t 15), none⟩,
         ⟨(some 5), .mov (.t 16), none⟩])
       (.seq (.rg [⟨(some 17), .mov (.t 3), none⟩,
         ⟨(some 18), .mov (.t 5), none⟩,
         ⟨(some 19), .callr 31 [(.t 17), (.t 18)], none⟩,
         ⟨(some 20), .un .not (.t 19), none⟩])
       (.cond (.t 20) (.rg [⟨(some 21), .mov (.t 3), none⟩,
           ⟨(some 22), .mov (.t 5), none⟩,
           ⟨(some 23), .lit 1 [(.t 22)], none⟩,
           ⟨(some 24), .app 1 16 (.t 21) (.t 23), none⟩,
           ⟨(some 3), .mov (.t 24), none⟩])
         .skip))))
      (.rg [⟨(some 25), .bin .add (.t 13) (.c (.p (.int .i64 1))), none⟩,
        ⟨(some 13), .mov (.t 25), none⟩])))))))
    (.seq (.rg [⟨(some 26), .mov (.t 3), none⟩,
      ⟨(some 2), .mov (.t 26), none⟩])
    .ret))))
def r11 : List DR := [.tmp 2]
theorem c11_ok : Try.f11.body.bind (cCode Try.prog) = some c11 := by kernel_rfl
theorem r11_ok : cRes Try.prog Try.f11.results.toList = some r11 := by kernel_rfl

/-- given.example/pub-assaymark/laws.ntOne -/
def c12 : DC :=
  (.seq (.rg [⟨(some 2), .mov (.c (.p (.slice none 0 0))), none⟩])
    (.seq (.seq (.rg [⟨(some 4), .mov (.t 0), none⟩,
      ⟨(some 5), .mov (.t 0), none⟩,
      ⟨(some 6), .lenl (.t 5), none⟩,
      ⟨(some 7), .mm false (.t 6) (.c (.p (.int .i64 1))), none⟩,
      ⟨(some 8), .slcl 1 (.t 4) none (some (.t 7)), none⟩,
      ⟨(some 9), .callr 34 [(.t 8)], none⟩,
      ⟨(some 3), .mov (.t 9), none⟩])
    (.seq (.rg [⟨(some 10), .mov (.t 3), none⟩,
      ⟨(some 11), .lenl (.t 10), none⟩,
      ⟨(some 12), .bin .gtr (.t 11) (.c (.p (.int .i64 0))), none⟩,
      ⟨(some 13), .mov (.t 12), none⟩,
      ⟨(some 14), .mov (.t 3), (some (13, true))⟩,
      ⟨(some 15), .iaddr 1 (.t 14) (.c (.p (.int .i64 0))), (some (13, true))⟩,
      ⟨(some 16), .load false 1 (.t 15), (some (13, true))⟩,
      ⟨(some 17), .bin .neq (.t 16) (.c (.p (.string ⟨#[]⟩))), (some (13, true))⟩,
      ⟨(some 18), .pick (.t 13) (.t 17) (.c (.p (.bool false))), none⟩])
    (.cond (.t 18) (.seq (.rg [⟨(some 19), .mov (.t 3), none⟩,
        ⟨(some 2), .mov (.t 19), none⟩])
      .ret)
      .skip)))
    (.seq (.rg [⟨(some 2), .mov (.c (.p (.slice none 0 0))), none⟩])
    .ret)))
def r12 : List DR := [.tmp 2]
theorem c12_ok : Try.f12.body.bind (cCode Try.prog) = some c12 := by kernel_rfl
theorem r12_ok : cRes Try.prog Try.f12.results.toList = some r12 := by kernel_rfl

/-- given.example/pub-assaymark/laws.FnNoticeEqual$1 -/
def c13 : DC :=
  (.seq (.rg [⟨(some 2), .mov (.c (.p (.string ⟨#[]⟩))), none⟩])
    (.seq (.seq (.rg [⟨(some 3), .mov (.t 0), none⟩,
      ⟨(some 4), .lenl (.t 3), none⟩,
      ⟨(some 5), .bin .eql (.t 4) (.c (.p (.int .i64 0))), none⟩])
    (.cond (.t 5) (.seq (.rg [⟨(some 2), .mov (.c (.p (.string ⟨#[]⟩))), none⟩])
      .ret)
      .skip))
    (.seq (.rg [⟨(some 6), .mov (.t 0), none⟩,
      ⟨(some 7), .iaddr 1 (.t 6) (.c (.p (.int .i64 0))), none⟩,
      ⟨(some 8), .load false 1 (.t 7), none⟩,
      ⟨(some 2), .mov (.t 8), none⟩])
    .ret)))
def r13 : List DR := [.tmp 2]
theorem c13_ok : Try.f13.body.bind (cCode Try.prog) = some c13 := by kernel_rfl
theorem r13_ok : cRes Try.prog Try.f13.results.toList = some r13 := by kernel_rfl

/-- given.example/pub-assaymark/impl.NoticeEqual -/
def c14 : DC :=
  (.seq (.rg [⟨(some 4), .box (.t 0), none⟩,
      ⟨(some 8), .mov (.c (.p (.bool false))), none⟩])
    (.seq (.rg [⟨(some 10), .load true 9 (.t 4), none⟩,
      ⟨(some 11), .callr 35 [(.t 10)], none⟩,
      ⟨(some 9), .alloc 8 (.agg [.p (.string ⟨#[]⟩), .p (.string ⟨#[]⟩), .p (.string ⟨#[]⟩), .p (.string ⟨#[]⟩), .p (.string ⟨#[]⟩), .p (.string ⟨#[]⟩), .p (.slice none 0 0), .p (.pointer none)]), none⟩,
      ⟨none, .store 8 (.t 9) (.t 11), none⟩])
    (.seq (.rg [⟨(some 12), .mov (.t 1), none⟩,
      ⟨(some 13), .callr 37 [(.t 12)], none⟩,
      ⟨(some 14), .mov (.t 2), none⟩,
      ⟨(some 15), .mov (.t 3), none⟩,
      ⟨(some 16), .callr 36 [(.t 9), (.t 13), (.t 14), (.t 15)], none⟩,
      ⟨(some 8), .mov (.t 16), none⟩])
    .ret)))
def r14 : List DR := [.tmp 8]
theorem c14_ok : Try.f14.body.bind (cCode Try.prog) = some c14 := by kernel_rfl
theorem r14_ok : cRes Try.prog Try.f14.results.toList = some r14 := by kernel_rfl

/-- given.example/pub-assaymark/spec.NoticeIs -/
def c15 : DC :=
  (.seq (.rg [⟨(some 4), .box (.t 0), none⟩,
      ⟨(some 8), .mov (.c (.p (.bool false))), none⟩])
    (.seq (.rg [⟨(some 9), .faddr false 6 1 (.t 4), none⟩,
      ⟨(some 10), .load false 1 (.t 9), none⟩,
      ⟨(some 11), .mov (.t 1), none⟩,
      ⟨(some 12), .callr 38 [(.t 10), (.t 11)], none⟩,
      ⟨(some 13), .mov (.t 12), none⟩,
      ⟨(some 14), .faddr false 7 1 (.t 4), (some (13, true))⟩,
      ⟨(some 15), .load false 1 (.t 14), (some (13, true))⟩,
      ⟨(some 16), .callr 39 [(.t 15)], (some (13, true))⟩,
      ⟨(some 17), .mov (.t 2), (some (13, true))⟩,
      ⟨(some 18), .bin .eql (.t 16) (.t 17), (some (13, true))⟩,
      ⟨(some 19), .pick (.t 13) (.t 18) (.c (.p (.bool false))), none⟩,
      ⟨(some 20), .mov (.t 19), none⟩,
      ⟨(some 21), .faddr false 8 1 (.t 4), (some (20, true))⟩,
      ⟨(some 22), .load false 1 (.t 21), (some (20, true))⟩,
      ⟨(some 23), .callr 39 [(.t 22)], (some (20, true))⟩,
      ⟨(some 24), .mov (.t 3), (some (20, true))⟩,
      ⟨(some 25), .bin .eql (.t 23) (.t 24), (some (20, true))⟩,
      ⟨(some 26), .pick (.t 20) (.t 25) (.c (.p (.bool false))), none⟩,
      ⟨(some 8), .mov (.t 26), none⟩])
    .ret))
def r15 : List DR := [.tmp 8]
theorem c15_ok : Try.f15.body.bind (cCode Try.prog) = some c15 := by kernel_rfl
theorem r15_ok : cRes Try.prog Try.f15.results.toList = some r15 := by kernel_rfl

/-- given.example/pub-assaymark/laws.setTexts -/
def c26 : DC :=
  (.seq (.rg [⟨(some 2), .mov (.c (.p (.slice none 0 0))), none⟩])
    (.seq (.rg [⟨(some 3), .mov (.c (.p (.slice none 0 0))), none⟩])
    (.seq (.seq (.rg [⟨(some 6), .mov (.t 0), none⟩,
      ⟨(some 7), .mov (.t 0), none⟩,
      ⟨(some 8), .lenl (.t 7), none⟩,
      ⟨(some 9), .mm false (.t 8) (.c (.p (.int .i64 10))), none⟩,
      ⟨(some 10), .slcl 1 (.t 6) none (some (.t 9)), none⟩,
      ⟨(some 11), .lenl (.t 10), none⟩,
      ⟨(some 12), .mov (.c (.p (.int .i64 0))), none⟩])
    (.block 0 (.loop (.seq (.rg [⟨(some 13), .bin .lss (.t 12) (.t 11), none⟩])
      (.seq (.cond (.t 13) .skip
        (.exit 0))
      (.seq (.block 1 (.seq (.rg [⟨(some 14), .iaddr 1 (.t 10) (.t 12), none⟩,
         ⟨(some 15), .load false 1 (.t 14), none⟩,
         ⟨(some 5), .mov (.t 15), none⟩])
       (.rg [⟨(some 16), .mov (.t 3), none⟩,
         ⟨(some 17), .mov (.t 5), none⟩,
         ⟨(some 18), .mov (.t 5), none⟩,
         ⟨(some 19), .lens (.t 18), none⟩,
         ⟨(some 20), .mm false (.t 19) (.c (.p (.int .i64 20))), none⟩,
         ⟨(some 21), .slcs (.t 17) none (some (.t 20)), none⟩,
         ⟨(some 22), .lit 1 [(.t 21)], none⟩,
         ⟨(some 23), .app 1 16 (.t 16) (.t 22), none⟩,
         ⟨(some 3), .mov (.t 23), none⟩])))
      (.rg [⟨(some 24), .bin .add (.t 12) (.c (.p (.int .i64 1))), none⟩,
        ⟨(some 12), .mov (.t 24), none⟩])))))))
    (.seq (.rg [⟨(some 25), .mov (.t 3), none⟩,
      ⟨(some 2), .mov (.t 25), none⟩])
    .ret))))
def r26 : List DR := [.tmp 2]
theorem c26_ok : Try.f26.body.bind (cCode Try.prog) = some c26 := by kernel_rfl
theorem r26_ok : cRes Try.prog Try.f26.results.toList = some r26 := by kernel_rfl

/-- given.example/pub-assaymark/spec.SetOf -/
def c28 : DC :=
  (.seq (.rg [⟨(some 2), .mov (.c (.p (.slice none 0 0))), none⟩])
    (.seq (.rg [⟨(some 3), .mov (.c (.p (.slice none 0 0))), none⟩])
    (.seq (.seq (.rg [⟨(some 7), .mov (.t 0), none⟩,
      ⟨(some 8), .lenl (.t 7), none⟩,
      ⟨(some 9), .mov (.c (.p (.int .i64 0))), none⟩])
    (.block 0 (.loop (.seq (.rg [⟨(some 10), .bin .lss (.t 9) (.t 8), none⟩])
      (.seq (.cond (.t 10) .skip
        (.exit 0))
      (.seq (.block 1 (.seq (.rg [⟨(some 11), .iaddr 1 (.t 7) (.t 9), none⟩,
         ⟨(some 12), .load false 1 (.t 11), none⟩,
         ⟨(some 5), .mov (.t 12), none⟩])
       (.seq (.rg [⟨(some 6), .mov (.c (.p (.int .i64 0))), none⟩])
       (.seq (.block 2 (.loop (.seq (.seq (.rg [⟨(some 13), .mov (.t 6), none⟩,
           ⟨(some 14), .mov (.t 3), none⟩,
           ⟨(some 15), .lenl (.t 14), none⟩,
           ⟨(some 16), .bin .lss (.t 13) (.t 15), none⟩,
           ⟨(some 17), .mov (.t 16), none⟩,
           ⟨(some 18), .mov (.t 3), (some (17, true))⟩,
           ⟨(some 19), .mov (.t 6), (some (17, true))⟩,
           ⟨(some 20), .iaddr 1 (.t 18) (.t 19), (some (17, true))⟩,
           ⟨(some 21), .load false 1 (.t 20), (some (17, true))⟩,
           ⟨(some 22), .mov (.t 5), (some (17, true))⟩,
           ⟨(some 23), .bin .lss (.t 21) (.t 22), (some (17, true))⟩,
           ⟨(some 24), .pick (.t 17) (.t 23) (.c (.p (.bool false))), none⟩])
         (.cond (.t 24) .skip
           (.exit 2)))
         (.block 3 (.rg [⟨(some 25), .mov (.t 6), none⟩,
            ⟨(some 26), .bin .add (.t 25) (.c (.p (.int .i64 1))), none⟩,
            ⟨(some 6), .mov (.t 26), none⟩])))))
       (.seq (.rg [⟨(some 27), .mov (.t 6), none⟩,
         ⟨(some 28), .mov (.t 3), none⟩,
         ⟨(some 29), .lenl (.t 28), none⟩,
         ⟨(some 30), .bin .eql (.t 27) (.t 29), none⟩,
         ⟨(some 31), .mov (.t 30), none⟩,
         ⟨(some 32), .mov (.t 3), (some (31, false))⟩,
         ⟨(some 33), .mov (.t 6), (some (31, false))⟩,
         ⟨(some 34), .iaddr 1 (.t 32) (.t 33), (some (31, false))⟩,
         ⟨(some 35), .load false 1 (.t 34), (some (31, false))⟩,
         ⟨(some 36), .mov (.t 5), (some (31, false))⟩,
         ⟨(some 37), .bin .neq (.t 35) (.t 36), (some (31, false))⟩,
         ⟨(some 38), .pick (.t 31) (.c (.p (.bool true))) (.t 37), none⟩])
       (.cond (.t 38) (.rgd [⟨⟨(some 39), .mov (.t 3), none⟩, 0, [0]⟩,
           ⟨⟨(some 40), .mov (.t 6), none⟩, 0, [0]⟩,
           ⟨⟨(some 41), .slcl 1 (.t 39) none (some (.t 40)), none⟩, 0, [0]⟩,
           ⟨⟨(some 42), .mov (.t 5), none⟩, 0, [0]⟩,
           ⟨⟨(some 43), .lit 1 [(.t 42)], none⟩, 0, [0]⟩,
           ⟨⟨(some 44), .mov (.t 3), none⟩, 0, [0]⟩,
           ⟨⟨(some 45), .mov (.t 6), none⟩, 0, [0]⟩,
           ⟨⟨(some 46), .slcl 1 (.t 44) (some (.t 45)) none, none⟩, 0, [0]⟩,
           ⟨⟨(some 47), .app 1 16 (.t 43) (.t 46), none⟩, 1, [0]⟩,
           ⟨⟨(some 48), .app 1 16 (.t 41) (.t 47), none⟩, 2, []⟩,
           ⟨⟨(some 3), .mov (.t 48), none⟩, 3, []⟩])
         .skip))))))
      (.rg [⟨(some 49), .bin .add (.t 9) (.c (.p (.int .i64 1))), none⟩,
        ⟨(some 9), .mov (.t 49), none⟩])))))))
    (.seq (.rg [⟨(some 50), .mov (.t 3), none⟩,
      ⟨(some 2), .mov (.t 50), none⟩])
    .ret))))
def r28 : List DR := [.tmp 2]
theorem c28_ok : Try.f28.body.bind (cCode Try.prog) = some c28 := by kernel_rfl
theorem r28_ok : cRes Try.prog Try.f28.results.toList = some r28 := by kernel_rfl

/-- given.example/pub-assaymark/spec.SetSame -/
def c29 : DC :=
  (.seq (.rg [⟨(some 4), .mov (.c (.p (.bool false))), none⟩])
    (.seq (.seq (.rg [⟨(some 7), .mov (.t 0), none⟩,
      ⟨(some 8), .lenl (.t 7), none⟩,
      ⟨(some 9), .mov (.t 1), none⟩,
      ⟨(some 10), .lenl (.t 9), none⟩,
      ⟨(some 11), .bin .neq (.t 8) (.t 10), none⟩])
    (.cond (.t 11) (.seq (.rg [⟨(some 4), .mov (.c (.p (.bool false))), none⟩])
      .ret)
      .skip))
    (.seq (.seq (.rg [⟨(some 12), .mov (.t 0), none⟩,
      ⟨(some 13), .lenl (.t 12), none⟩,
      ⟨(some 14), .mov (.c (.p (.int .i64 0))), none⟩])
    (.block 0 (.loop (.seq (.rg [⟨(some 15), .bin .lss (.t 14) (.t 13), none⟩])
      (.seq (.cond (.t 15) .skip
        (.exit 0))
      (.seq (.block 1 (.seq (.rg [⟨(some 16), .mov (.t 14), none⟩,
         ⟨(some 17), .iaddr 1 (.t 12) (.t 14), none⟩,
         ⟨(some 18), .load false 1 (.t 17), none⟩,
         ⟨(some 5), .mov (.t 16), none⟩,
         ⟨(some 6), .mov (.t 18), none⟩])
       (.seq (.rg [⟨(some 19), .mov (.t 6), none⟩,
         ⟨(some 20), .mov (.t 1), none⟩,
         ⟨(some 21), .mov (.t 5), none⟩,
         ⟨(some 22), .iaddr 1 (.t 20) (.t 21), none⟩,
         ⟨(some 23), .load false 1 (.t 22), none⟩,
         ⟨(some 24), .bin .neq (.t 19) (.t 23), none⟩])
       (.cond (.t 24) (.seq (.rg [⟨(some 4), .mov (.c (.p (.bool false))), none⟩])
         .ret)
         .skip))))
      (.rg [⟨(some 25), .bin .add (.t 14) (.c (.p (.int .i64 1))), none⟩,
        ⟨(some 14), .mov (.t 25), none⟩])))))))
    (.seq (.rg [⟨(some 4), .mov (.c (.p (.bool true))), none⟩])
    .ret))))
def r29 : List DR := [.tmp 4]
theorem c29_ok : Try.f29.body.bind (cCode Try.prog) = some c29 := by kernel_rfl
theorem r29_ok : cRes Try.prog Try.f29.results.toList = some r29 := by kernel_rfl

/-- given.example/pub-assaymark/spec.SetHas -/
def c31 : DC :=
  (.seq (.rg [⟨(some 4), .mov (.c (.p (.bool false))), none⟩])
    (.seq (.seq (.rg [⟨(some 7), .mov (.t 0), none⟩,
      ⟨(some 8), .lenl (.t 7), none⟩,
      ⟨(some 9), .mov (.c (.p (.int .i64 0))), none⟩])
    (.block 0 (.loop (.seq (.rg [⟨(some 10), .bin .lss (.t 9) (.t 8), none⟩])
      (.seq (.cond (.t 10) .skip
        (.exit 0))
      (.seq (.block 1 (.seq (.rg [⟨(some 11), .iaddr 1 (.t 7) (.t 9), none⟩,
         ⟨(some 12), .load false 1 (.t 11), none⟩,
         ⟨(some 6), .mov (.t 12), none⟩])
       (.seq (.rg [⟨(some 13), .mov (.t 6), none⟩,
         ⟨(some 14), .mov (.t 1), none⟩,
         ⟨(some 15), .bin .eql (.t 13) (.t 14), none⟩])
       (.cond (.t 15) (.seq (.rg [⟨(some 4), .mov (.c (.p (.bool true))), none⟩])
         .ret)
         .skip))))
      (.rg [⟨(some 16), .bin .add (.t 9) (.c (.p (.int .i64 1))), none⟩,
        ⟨(some 9), .mov (.t 16), none⟩])))))))
    (.seq (.rg [⟨(some 4), .mov (.c (.p (.bool false))), none⟩])
    .ret)))
def r31 : List DR := [.tmp 4]
theorem c31_ok : Try.f31.body.bind (cCode Try.prog) = some c31 := by kernel_rfl
theorem r31_ok : cRes Try.prog Try.f31.results.toList = some r31 := by kernel_rfl

/-- given.example/pub-assaymark/laws.zzFits9 -/
def c32 : DC :=
  (.seq (.rg [⟨(some 1), .box (.t 0), none⟩,
      ⟨(some 2), .mov (.c (.p (.bool false))), none⟩])
    (.seq (.seq (.rg [⟨(some 3), .faddr false 0 1 (.t 1), none⟩,
      ⟨(some 4), .load false 1 (.t 3), none⟩,
      ⟨(some 5), .lens (.t 4), none⟩,
      ⟨(some 6), .bin .gtr (.t 5) (.c (.p (.int .i64 2147483647))), none⟩])
    (.cond (.t 6) (.seq (.rg [⟨(some 2), .mov (.c (.p (.bool false))), none⟩])
      .ret)
      .skip))
    (.seq (.seq (.rg [⟨(some 7), .faddr false 1 1 (.t 1), none⟩,
      ⟨(some 8), .load false 1 (.t 7), none⟩,
      ⟨(some 9), .lens (.t 8), none⟩,
      ⟨(some 10), .bin .gtr (.t 9) (.c (.p (.int .i64 2147483647))), none⟩])
    (.cond (.t 10) (.seq (.rg [⟨(some 2), .mov (.c (.p (.bool false))), none⟩])
      .ret)
      .skip))
    (.seq (.seq (.rg [⟨(some 11), .faddr false 2 1 (.t 1), none⟩,
      ⟨(some 12), .load false 1 (.t 11), none⟩,
      ⟨(some 13), .lens (.t 12), none⟩,
      ⟨(some 14), .bin .gtr (.t 13) (.c (.p (.int .i64 2147483647))), none⟩])
    (.cond (.t 14) (.seq (.rg [⟨(some 2), .mov (.c (.p (.bool false))), none⟩])
      .ret)
      .skip))
    (.seq (.seq (.rg [⟨(some 15), .faddr false 3 1 (.t 1), none⟩,
      ⟨(some 16), .load false 1 (.t 15), none⟩,
      ⟨(some 17), .lens (.t 16), none⟩,
      ⟨(some 18), .bin .gtr (.t 17) (.c (.p (.int .i64 2147483647))), none⟩])
    (.cond (.t 18) (.seq (.rg [⟨(some 2), .mov (.c (.p (.bool false))), none⟩])
      .ret)
      .skip))
    (.seq (.seq (.rg [⟨(some 19), .faddr false 4 1 (.t 1), none⟩,
      ⟨(some 20), .load false 1 (.t 19), none⟩,
      ⟨(some 21), .lens (.t 20), none⟩,
      ⟨(some 22), .bin .gtr (.t 21) (.c (.p (.int .i64 2147483647))), none⟩])
    (.cond (.t 22) (.seq (.rg [⟨(some 2), .mov (.c (.p (.bool false))), none⟩])
      .ret)
      .skip))
    (.seq (.rg [⟨(some 2), .mov (.c (.p (.bool true))), none⟩])
    .ret)))))))
def r32 : List DR := [.tmp 2]
theorem c32_ok : Try.f32.body.bind (cCode Try.prog) = some c32 := by kernel_rfl
theorem r32_ok : cRes Try.prog Try.f32.results.toList = some r32 := by kernel_rfl

/-- given.example/pub-assaymark/laws.arnPlain -/
def c33 : DC :=
  (.seq (.rg [⟨(some 1), .box (.t 0), none⟩,
      ⟨(some 2), .alloc 5 (.agg [.p (.string ⟨#[]⟩), .p (.string ⟨#[]⟩), .p (.string ⟨#[]⟩), .p (.string ⟨#[]⟩), .p (.string ⟨#[]⟩)]), none⟩])
    (.seq (.rgd [⟨⟨(some 3), .faddr false 0 1 (.t 1), none⟩, 0, [0]⟩,
      ⟨⟨(some 4), .load false 1 (.t 3), none⟩, 0, [0]⟩,
      ⟨⟨(some 5), .call 93 [(.t 4)], none⟩, 0, [0]⟩,
      ⟨⟨(some 6), .faddr false 1 1 (.t 1), none⟩, 0, [0]⟩,
      ⟨⟨(some 7), .load false 1 (.t 6), none⟩, 0, [0]⟩,
      ⟨⟨(some 8), .call 93 [(.t 7)], none⟩, 1, [0]⟩,
      ⟨⟨(some 9), .faddr false 2 1 (.t 1), none⟩, 0, [0]⟩,
      ⟨⟨(some 10), .load false 1 (.t 9), none⟩, 0, [0]⟩,
      ⟨⟨(some 11), .call 93 [(.t 10)], none⟩, 2, [0]⟩,
      ⟨⟨(some 12), .faddr false 3 1 (.t 1), none⟩, 0, [0]⟩,
      ⟨⟨(some 13), .load false 1 (.t 12), none⟩, 0, [0]⟩,
      ⟨⟨(some 14), .call 93 [(.t 13)], none⟩, 3, [0]⟩,
      ⟨⟨(some 15), .faddr false 4 1 (.t 1), none⟩, 0, [0]⟩,
      ⟨⟨(some 16), .load false 1 (.t 15), none⟩, 0, [0]⟩,
      ⟨⟨(some 17), .call 93 [(.t 16)], none⟩, 4, []⟩,
      ⟨⟨(some 18), .bld [.p (.string ⟨#[]⟩), .p (.string ⟨#[]⟩), .p (.string ⟨#[]⟩), .p (.string ⟨#[]⟩), .p (.string ⟨#[]⟩)] [(0, 1, (.t 5)), (1, 1, (.t 8)), (2, 1, (.t 11)), (3, 1, (.t 14)), (4, 1, (.t 17))], none⟩, 5, []⟩,
      ⟨⟨none, .store 5 (.t 2) (.t 18), none⟩, 5, []⟩])
    .ret))
def r33 : List DR := [.cell 2 true 5]
theorem c33_ok : Try.f33.body.bind (cCode Try.prog) = some c33 := by kernel_rfl
theorem r33_ok : cRes Try.prog Try.f33.results.toList = some r33 := by kernel_rfl

/-- given.example/pub-assaymark/laws.setPlain -/
def c34 : DC :=
  (.seq (.rg [⟨(some 2), .mov (.c (.p (.slice none 0 0))), none⟩])
    (.seq (.rg [⟨(some 3), .mov (.c (.p (.slice none 0 0))), none⟩])
    (.seq (.seq (.rg [⟨(some 9), .mov (.t 0), none⟩,
      ⟨(some 10), .callr 26 [(.t 9)], none⟩,
      ⟨(some 11), .lenl (.t 10), none⟩,
      ⟨(some 12), .mov (.c (.p (.int .i64 0))), none⟩])
    (.block 0 (.loop (.seq (.rg [⟨(some 13), .bin .lss (.t 12) (.t 11), none⟩])
      (.seq (.cond (.t 13) .skip
        (.exit 0))
      (.seq (.block 1 (.seq (.rg [⟨(some 14), .iaddr 1 (.t 10) (.t 12), none⟩,
         ⟨(some 15), .load false 1 (.t 14), none⟩,
         ⟨(some 5), .mov (.t 15), none⟩])
       (.seq (.rg [⟨(some 6), .mov (.c (.p (.slice none 0 0))), none⟩])
       (.seq (.seq (.rg [⟨(some 16), .mov (.t 5), none⟩,
         ⟨(some 17), .s2b (.t 16), none⟩,
         ⟨(some 18), .lenl (.t 17), none⟩,
         ⟨(some 19), .mov (.c (.p (.int .i64 0))), none⟩])
       (.block 2 (.loop (.seq (.rg [⟨(some 20), .bin .lss (.t 19) (.t 18), none⟩])
         (.seq (.cond (.t 20) .skip
           (.exit 2))
         (.seq (.block 3 (.seq (.rg [⟨(some 21), .iaddr 1 (.t 17) (.t 19), none⟩,
            ⟨(some 22), .load false 1 (.t 21), none⟩,
            ⟨(some 8), .mov (.t 22), none⟩])
          (.seq (.rg [⟨(some 23), .mov (.t 8), none⟩,
            ⟨(some 24), .bin .geq (.t 23) (.c (.p (.int .u8 32))), none⟩,
            ⟨(some 25), .mov (.t 24), none⟩,
            ⟨(some 26), .mov (.t 8), (some (25, true))⟩,
            ⟨(some 27), .bin .leq (.t 26) (.c (.p (.int .u8 126))), (some (25, true))⟩,
            ⟨(some 28), .pick (.t 25) (.t 27) (.c (.p (.bool false))), none⟩])
          (.cond (.t 28) (.rg [⟨(some 29), .mov (.t 6), none⟩,
              ⟨(some 30), .mov (.t 8), none⟩,
              ⟨(some 31), .lit 1 [(.t 30)], none⟩,
              ⟨(some 32), .app 1 1 (.t 29) (.t 31), none⟩,
              ⟨(some 6), .mov (.t 32), none⟩])
            .skip))))
         (.rg [⟨(some 33), .bin .add (.t 19) (.c (.p (.int .i64 1))), none⟩,
           ⟨(some 19), .mov (.t 33), none⟩])))))))
       (.rg [⟨(some 34), .mov (.t 3), none⟩,
         ⟨(some 35), .mov (.t 6), none⟩,
         ⟨(some 36), .b2s (.t 35), none⟩,
         ⟨(some 37), .lit 1 [(.t 36)], none⟩,
         ⟨(some 38), .app 1 16 (.t 34) (.t 37), none⟩,
         ⟨(some 3), .mov (.t 38), none⟩])))))
      (.rg [⟨(some 39), .bin .add (.t 12) (.c (.p (.int .i64 1))), none⟩,
        ⟨(some 12), .mov (.t 39), none⟩])))))))
    (.seq (.rg [⟨(some 40), .mov (.t 3), none⟩,
      ⟨(some 2), .mov (.t 40), none⟩])
    .ret))))
def r34 : List DR := [.tmp 2]
theorem c34_ok : Try.f34.body.bind (cCode Try.prog) = some c34 := by kernel_rfl
theorem r34_ok : cRes Try.prog Try.f34.results.toList = some r34 := by kernel_rfl

/-- given.example/pub-assaymark/impl.noticeOf -/
def c35 : DC :=
  (.seq (.rg [⟨(some 1), .box (.t 0), none⟩,
      ⟨(some 2), .alloc 8 (.agg [.p (.string ⟨#[]⟩), .p (.string ⟨#[]⟩), .p (.string ⟨#[]⟩), .p (.string ⟨#[]⟩), .p (.string ⟨#[]⟩), .p (.string ⟨#[]⟩), .p (.slice none 0 0), .p (.pointer none)]), none⟩])
    (.seq (.rg [⟨(some 8), .faddr true 1 5 (.t 1), none⟩,
      ⟨(some 9), .load true 5 (.t 8), none⟩,
      ⟨(some 10), .callr 95 [(.t 9)], none⟩,
      ⟨(some 11), .callr 94 [(.t 10)], none⟩,
      ⟨(some 3), .alloc 8 (.agg [.p (.string ⟨#[]⟩), .p (.string ⟨#[]⟩), .p (.string ⟨#[]⟩), .p (.string ⟨#[]⟩), .p (.string ⟨#[]⟩), .p (.string ⟨#[]⟩), .p (.slice none 0 0), .p (.pointer none)]), none⟩,
      ⟨none, .store 8 (.t 3) (.t 11), none⟩])
    (.seq (.rg [⟨(some 12), .faddr false 6 1 (.t 1), none⟩,
      ⟨(some 13), .load false 1 (.t 12), none⟩,
      ⟨(some 14), .callr 37 [(.t 13)], none⟩,
      ⟨(some 15), .callr 96 [(.t 3), (.t 14)], none⟩])
    (.seq (.seq (.rg [⟨(some 16), .faddr false 7 1 (.t 1), none⟩,
      ⟨(some 17), .load false 1 (.t 16), none⟩,
      ⟨(some 18), .lenl (.t 17), none⟩,
      ⟨(some 19), .mov (.c (.p (.int .i64 0))), none⟩])
    (.block 0 (.loop (.seq (.rg [⟨(some 20), .bin .lss (.t 19) (.t 18), none⟩])
      (.seq (.cond (.t 20) .skip
        (.exit 0))
      (.seq (.block 1 (.seq (.rg [⟨(some 21), .iaddr 1 (.t 17) (.t 19), none⟩,
         ⟨(some 22), .load false 1 (.t 21), none⟩,
         ⟨(some 5), .mov (.t 22), none⟩])
       (.rg [⟨(some 23), .mov (.t 5), none⟩,
         ⟨(some 24), .callr 97 [(.t 3), (.t 23)], none⟩])))
      (.rg [⟨(some 25), .bin .add (.t 19) (.c (.p (.int .i64 1))), none⟩,
        ⟨(some 19), .mov (.t 25), none⟩])))))))
    (.seq (.seq (.rg [⟨(some 26), .faddr false 8 1 (.t 1), none⟩,
      ⟨(some 27), .load false 1 (.t 26), none⟩,
      ⟨(some 28), .lenl (.t 27), none⟩,
      ⟨(some 29), .mov (.c (.p (.int .i64 0))), none⟩])
    (.block 2 (.loop (.seq (.rg [⟨(some 30), .bin .lss (.t 29) (.t 28), none⟩])
      (.seq (.cond (.t 30) .skip
        (.exit 2))
      (.seq (.block 3 (.seq (.rg [⟨(some 31), .iaddr 1 (.t 27) (.t 29), none⟩,
         ⟨(some 32), .load false 1 (.t 31), none⟩,
         ⟨(some 7), .mov (.t 32), none⟩])
       (.rg [⟨(some 33), .mov (.t 7), none⟩,
         ⟨(some 34), .callr 98 [(.t 3), (.t 33)], none⟩])))
      (.rg [⟨(some 35), .bin .add (.t 29) (.c (.p (.int .i64 1))), none⟩,
        ⟨(some 29), .mov (.t 35), none⟩])))))))
    (.seq (.rg [⟨(some 36), .load true 8 (.t 3), none⟩,
      ⟨none, .store 8 (.t 2) (.t 36), none⟩])
    .ret))))))
def r35 : List DR := [.cell 2 true 8]
theorem c35_ok : Try.f35.body.bind (cCode Try.prog) = some c35 := by kernel_rfl
theorem r35_ok : cRes Try.prog Try.f35.results.toList = some r35 := by kernel_rfl

/-- (*given.example/pub-assaymark/pub/miniogo/pkg/notification.Config).Equal -/
def c36 : DC :=
  (.seq (.rg [⟨(some 8), .mov (.c (.p (.bool false))), none⟩])
    (.seq (.seq (.rg [⟨(some 13), .mov (.t 0), none⟩,
      ⟨(some 14), .eqn false .ptr (.t 13), none⟩])
    (.cond (.t 14) (.seq (.rg [⟨(some 8), .mov (.c (.p (.bool false))), none⟩])
      .ret)
      .skip))
    (.seq (.rg [⟨(some 15), .mov (.t 0), none⟩,
      ⟨(some 16), .nilchk .ptr (.t 15), none⟩,
      ⟨(some 17), .faddr false 6 1 (.t 16), none⟩,
      ⟨(some 18), .load false 1 (.t 17), none⟩,
      ⟨(some 19), .mov (.t 1), none⟩,
      ⟨(some 20), .callr 99 [(.t 18), (.t 19)], none⟩,
      ⟨(some 9), .mov (.t 20), none⟩])
    (.seq (.rg [⟨(some 10), .mov (.c (.p (.slice none 0 0))), none⟩])
    (.seq (.seq (.rg [⟨(some 21), .mov (.t 2), none⟩,
      ⟨(some 22), .bin .neq (.t 21) (.c (.p (.string ⟨#[]⟩))), none⟩])
    (.cond (.t 22) (.rg [⟨(some 23), .mov (.t 10), none⟩,
        ⟨(some 24), .mov (.t 2), none⟩,
        ⟨(some 25), .bld [.p (.string ⟨#[]⟩), .p (.string ⟨#[]⟩)] [(0, 1, (.c (.p (.string ⟨#[112, 114, 101, 102, 105, 120]⟩)))), (1, 1, (.t 24))], none⟩,
        ⟨(some 26), .lit 2 [(.t 25)], none⟩,
        ⟨(some 27), .app 2 32 (.t 23) (.t 26), none⟩,
        ⟨(some 10), .mov (.t 27), none⟩])
      .skip))
    (.seq (.seq (.rg [⟨(some 28), .mov (.t 3), none⟩,
      ⟨(some 29), .bin .neq (.t 28) (.c (.p (.string ⟨#[]⟩))), none⟩])
    (.cond (.t 29) (.rg [⟨(some 30), .mov (.t 10), none⟩,
        ⟨(some 31), .mov (.t 3), none⟩,
        ⟨(some 32), .bld [.p (.string ⟨#[]⟩), .p (.string ⟨#[]⟩)] [(0, 1, (.c (.p (.string ⟨#[115, 117, 102, 102, 105, 120]⟩)))), (1, 1, (.t 31))], none⟩,
        ⟨(some 33), .lit 2 [(.t 32)], none⟩,
        ⟨(some 34), .app 2 32 (.t 30) (.t 33), none⟩,
        ⟨(some 10), .mov (.t 34), none⟩])
      .skip))
    (.seq (.rg [⟨(some 11), .mov (.c (.p (.slice none 0 0))), none⟩])
    (.seq (.seq (.rg [⟨(some 35), .mov (.t 0), none⟩,
      ⟨(some 36), .nilchk .ptr (.t 35), none⟩,
      ⟨(some 37), .faddr false 7 1 (.t 36), none⟩,
      ⟨(some 38), .load false 1 (.t 37), none⟩,
      ⟨(some 39), .eqn true .ptr (.t 38), none⟩])
    (.cond (.t 39) (.rg [⟨(some 40), .mov (.t 0), none⟩,
        ⟨(some 41), .nilchk .ptr (.t 40), none⟩,
        ⟨(some 42), .faddr false 7 1 (.t 41), none⟩,
        ⟨(some 43), .load false 1 (.t 42), none⟩,
        ⟨(some 44), .nilchk .ptr (.t 43), none⟩,
        ⟨(some 45), .faddr true 0 1 (.t 44), none⟩,
        ⟨(some 46), .faddr false 0 1 (.t 45), none⟩,
        ⟨(some 47), .load false 1 (.t 46), none⟩,
        ⟨(some 11), .mov (.t 47), none⟩])
      .skip))
    (.seq (.rg [⟨(some 48), .mov (.t 11), none⟩,
      ⟨(some 49), .mov (.t 10), none⟩,
      ⟨(some 50), .callr 100 [(.t 48), (.t 49)], none⟩,
      ⟨(some 12), .mov (.t 50), none⟩])
    (.seq (.rg [⟨(some 51), .mov (.t 9), none⟩,
      ⟨(some 52), .mov (.t 51), none⟩,
      ⟨(some 53), .mov (.t 12), (some (52, true))⟩,
      ⟨(some 54), .pick (.t 52) (.t 53) (.c (.p (.bool false))), none⟩,
      ⟨(some 8), .mov (.t 54), none⟩])
    .ret))))))))))
def r36 : List DR := [.tmp 8]
theorem c36_ok : Try.f36.body.bind (cCode Try.prog) = some c36 := by kernel_rfl
theorem r36_ok : cRes Try.prog Try.f36.results.toList = some r36 := by kernel_rfl

/-- given.example/pub-assaymark/impl.events -/
def c37 : DC :=
  (.seq (.rg [⟨(some 2), .mov (.c (.p (.slice none 0 0))), none⟩])
    (.seq (.seq (.rg [⟨(some 5), .mov (.t 0), none⟩,
      ⟨(some 6), .lenl (.t 5), none⟩,
      ⟨(some 7), .mov (.c (.p (.int .i64 0))), none⟩])
    (.block 0 (.loop (.seq (.rg [⟨(some 8), .bin .lss (.t 7) (.t 6), none⟩])
      (.seq (.cond (.t 8) .skip
        (.exit 0))
      (.seq (.block 1 (.seq (.rg [⟨(some 9), .iaddr 1 (.t 5) (.t 7), none⟩,
         ⟨(some 10), .load false 1 (.t 9), none⟩,
         ⟨(some 4), .mov (.t 10), none⟩])
       (.rg [⟨(some 11), .mov (.t 2), none⟩,
         ⟨(some 12), .mov (.t 4), none⟩,
         ⟨(some 13), .lit 1 [(.t 12)], none⟩,
         ⟨(some 14), .app 1 16 (.t 11) (.t 13), none⟩,
         ⟨(some 2), .mov (.t 14), none⟩])))
      (.rg [⟨(some 15), .bin .add (.t 7) (.c (.p (.int .i64 1))), none⟩,
        ⟨(some 7), .mov (.t 15), none⟩])))))))
    (.seq (.rg [⟨(some 16), .mov (.t 2), none⟩,
      ⟨(some 2), .mov (.t 16), none⟩])
    .ret)))
def r37 : List DR := [.tmp 2]
theorem c37_ok : Try.f37.body.bind (cCode Try.prog) = some c37 := by kernel_rfl
theorem r37_ok : cRes Try.prog Try.f37.results.toList = some r37 := by kernel_rfl

/-- given.example/pub-assaymark/spec.SameEvents -/
def c38 : DC :=
  (.seq (.rg [⟨(some 4), .mov (.c (.p (.bool false))), none⟩])
    (.seq (.rg [⟨(some 5), .mov (.t 0), none⟩,
      ⟨(some 6), .callr 28 [(.t 5)], none⟩,
      ⟨(some 7), .mov (.t 1), none⟩,
      ⟨(some 8), .callr 28 [(.t 7)], none⟩,
      ⟨(some 9), .callr 29 [(.t 6), (.t 8)], none⟩,
      ⟨(some 4), .mov (.t 9), none⟩])
    .ret))
def r38 : List DR := [.tmp 4]
theorem c38_ok : Try.f38.body.bind (cCode Try.prog) = some c38 := by kernel_rfl
theorem r38_ok : cRes Try.prog Try.f38.results.toList = some r38 := by kernel_rfl

/-- given.example/pub-assaymark/spec.first -/
def c39 : DC :=
  (.seq (.rg [⟨(some 2), .mov (.c (.p (.string ⟨#[]⟩))), none⟩])
    (.seq (.seq (.rg [⟨(some 3), .mov (.t 0), none⟩,
      ⟨(some 4), .lenl (.t 3), none⟩,
      ⟨(some 5), .bin .eql (.t 4) (.c (.p (.int .i64 0))), none⟩])
    (.cond (.t 5) (.seq (.rg [⟨(some 2), .mov (.c (.p (.string ⟨#[]⟩))), none⟩])
      .ret)
      .skip))
    (.seq (.rg [⟨(some 6), .mov (.t 0), none⟩,
      ⟨(some 7), .iaddr 1 (.t 6) (.c (.p (.int .i64 0))), none⟩,
      ⟨(some 8), .load false 1 (.t 7), none⟩,
      ⟨(some 2), .mov (.t 8), none⟩])
    .ret)))
def r39 : List DR := [.tmp 2]
theorem c39_ok : Try.f39.body.bind (cCode Try.prog) = some c39 := by kernel_rfl
theorem r39_ok : cRes Try.prog Try.f39.results.toList = some r39 := by kernel_rfl

/-- (given.example/pub-assaymark/pub/miniogo/pkg/set.Set[string]).Add -/
def c67 : DC :=
  (.rg [⟨(some 4), .mov (.t 0), none⟩,
      ⟨(some 5), .mov (.t 1), none⟩,
      ⟨(some 6), .bld [] [], none⟩,
      ⟨none, .mupd .str (.t 4) (.t 5) (.t 6), none⟩])
def r67 : List DR := []
theorem c67_ok : Try.f67.body.bind (cCode Try.prog) = some c67 := by kernel_rfl
theorem r67_ok : cRes Try.prog Try.f67.results.toList = some r67 := by kernel_rfl

/-- (given.example/pub-assaymark/pub/miniogo/pkg/set.Set[string]).Difference -/
def c72 : DC :=
  (.seq (.rg [⟨(some 4), .mov (.c (.p (.map none))), none⟩])
    (.seq (.rg [⟨(some 9), .callr 125 [], none⟩,
      ⟨(some 5), .mov (.t 9), none⟩])
    (.seq (.seq (.rg [⟨(some 10), .mov (.t 0), none⟩,
      ⟨(some 11), .rngm (.t 10), none⟩])
    (.block 0 (.loop (.seq (.rg [⟨(some 12), .nxtm (.t 11), none⟩,
        ⟨(some 13), .ext (.t 12) 0, none⟩])
      (.seq (.cond (.t 13) .skip
        (.exit 0))
      (.block 1 (.seq (.rg [⟨(some 14), .ent (.t 11), none⟩,
         ⟨(some 15), .ext (.t 14) 0, none⟩,
         ⟨(some 6), .mov (.t 15), none⟩])
       (.seq (.rg [⟨(some 17), .mov (.t 1), none⟩,
         ⟨(some 18), .mov (.t 6), none⟩,
         ⟨(some 19), .look .str (.agg []) true (.t 17) (.t 18), none⟩,
         ⟨(some 16), .mov (.t 19), none⟩,
         ⟨(some 20), .ext (.t 16) 0, none⟩,
         ⟨(some 21), .ext (.t 16) 1, none⟩,
         ⟨(some 7), .alloc 0 (.agg []), none⟩,
         ⟨none, .store 0 (.t 7) (.t 20), none⟩,
         ⟨(some 8), .mov (.t 21), none⟩])
       (.seq (.rg [⟨(some 22), .mov (.t 8), none⟩,
         ⟨(some 23), .un .not (.t 22), none⟩])
       (.cond (.t 23) (.rg [⟨(some 24), .mov (.t 5), none⟩,
           ⟨(some 25), .mov (.t 6), none⟩,
           ⟨(some 26), .callr 67 [(.t 24), (.t 25)], none⟩])
         .skip))))))))))
    (.seq (.rg [⟨(some 27), .mov (.t 5), none⟩,
      ⟨(some 4), .mov (.t 27), none⟩])
    .ret))))
def r72 : List DR := [.tmp 4]
theorem c72_ok : Try.f72.body.bind (cCode Try.prog) = some c72 := by kernel_rfl
theorem r72_ok : cRes Try.prog Try.f72.results.toList = some r72 := by kernel_rfl

/-- (given.example/pub-assaymark/pub/miniogo/pkg/set.Set[string]).IsEmpty -/
def c75 : DC :=
  (.seq (.rg [⟨(some 2), .mov (.c (.p (.bool false))), none⟩])
    (.seq (.rg [⟨(some 3), .mov (.t 0), none⟩,
      ⟨(some 4), .lenm (.t 3), none⟩,
      ⟨(some 5), .bin .eql (.t 4) (.c (.p (.int .i64 0))), none⟩,
      ⟨(some 2), .mov (.t 5), none⟩])
    .ret))
def r75 : List DR := [.tmp 2]
theorem c75_ok : Try.f75.body.bind (cCode Try.prog) = some c75 := by kernel_rfl
theorem r75_ok : cRes Try.prog Try.f75.results.toList = some r75 := by kernel_rfl

/-- (given.example/pub-assaymark/pub/miniogo/pkg/set.StringSet).Add -/
def c82 : DC :=
  (.rg [⟨(some 4), .mov (.t 0), none⟩,
      ⟨(some 5), .mov (.t 1), none⟩,
      ⟨(some 6), .callr 67 [(.t 4), (.t 5)], none⟩])
def r82 : List DR := []
theorem c82_ok : Try.f82.body.bind (cCode Try.prog) = some c82 := by kernel_rfl
theorem r82_ok : cRes Try.prog Try.f82.results.toList = some r82 := by kernel_rfl

/-- (given.example/pub-assaymark/pub/miniogo/pkg/set.StringSet).Difference -/
def c87 : DC :=
  (.seq (.rg [⟨(some 4), .mov (.c (.p (.map none))), none⟩])
    (.seq (.rg [⟨(some 5), .mov (.t 0), none⟩,
      ⟨(some 6), .mov (.t 1), none⟩,
      ⟨(some 7), .callr 72 [(.t 5), (.t 6)], none⟩,
      ⟨(some 4), .mov (.t 7), none⟩])
    .ret))
def r87 : List DR := [.tmp 4]
theorem c87_ok : Try.f87.body.bind (cCode Try.prog) = some c87 := by kernel_rfl
theorem r87_ok : cRes Try.prog Try.f87.results.toList = some r87 := by kernel_rfl

/-- (given.example/pub-assaymark/pub/miniogo/pkg/set.StringSet).IsEmpty -/
def c90 : DC :=
  (.seq (.rg [⟨(some 2), .mov (.c (.p (.bool false))), none⟩])
    (.seq (.rg [⟨(some 3), .mov (.t 0), none⟩,
      ⟨(some 4), .callr 75 [(.t 3)], none⟩,
      ⟨(some 2), .mov (.t 4), none⟩])
    .ret))
def r90 : List DR := [.tmp 2]
theorem c90_ok : Try.f90.body.bind (cCode Try.prog) = some c90 := by kernel_rfl
theorem r90_ok : cRes Try.prog Try.f90.results.toList = some r90 := by kernel_rfl

/-- given.example/pub-assaymark/laws.arnPart -/
def c93 : DC :=
  (.seq (.rg [⟨(some 2), .mov (.c (.p (.string ⟨#[]⟩))), none⟩])
    (.seq (.rg [⟨(some 3), .mov (.c (.p (.slice none 0 0))), none⟩])
    (.seq (.seq (.rg [⟨(some 6), .mov (.t 0), none⟩,
      ⟨(some 7), .mov (.t 0), none⟩,
      ⟨(some 8), .lens (.t 7), none⟩,
      ⟨(some 9), .mm false (.t 8) (.c (.p (.int .i64 20))), none⟩,
      ⟨(some 10), .slcs (.t 6) none (some (.t 9)), none⟩,
      ⟨(some 11), .s2b (.t 10), none⟩,
      ⟨(some 12), .lenl (.t 11), none⟩,
      ⟨(some 13), .mov (.c (.p (.int .i64 0))), none⟩])
    (.block 0 (.loop (.seq (.rg [⟨(some 14), .bin .lss (.t 13) (.t 12), none⟩])
      (.seq (.cond (.t 14) .skip
        (.exit 0))
      (.seq (.block 1 (.seq (.rg [⟨(some 15), .iaddr 1 (.t 11) (.t 13), none⟩,
         ⟨(some 16), .load false 1 (.t 15), none⟩,
         ⟨(some 5), .mov (.t 16), none⟩])
       (.seq (.rg [⟨(some 17), .mov (.t 5), none⟩,
         ⟨(some 18), .bin .neq (.t 17) (.c (.p (.int .u8 58))), none⟩])
       (.cond (.t 18) (.rg [⟨(some 19), .mov (.t 3), none⟩,
           ⟨(some 20), .mov (.t 5), none⟩,
           ⟨(some 21), .lit 1 [(.t 20)], none⟩,
           ⟨(some 22), .app 1 1 (.t 19) (.t 21), none⟩,
           ⟨(some 3), .mov (.t 22), none⟩])
         .skip))))
      (.rg [⟨(some 23), .bin .add (.t 13) (.c (.p (.int .i64 1))), none⟩,
        ⟨(some 13), .mov (.t 23), none⟩])))))))
    (.seq (.rg [⟨(some 24), .mov (.t 3), none⟩,
      ⟨(some 25), .b2s (.t 24), none⟩,
      ⟨(some 2), .mov (.t 25), none⟩])
    .ret))))
def r93 : List DR := [.tmp 2]
theorem c93_ok : Try.f93.body.bind (cCode Try.prog) = some c93 := by kernel_rfl
theorem r93_ok : cRes Try.prog Try.f93.results.toList = some r93 := by kernel_rfl

/-- given.example/pub-assaymark/pub/miniogo/pkg/notification.NewConfig -/
def c94 : DC :=
  (.seq (.rg [⟨(some 1), .box (.t 0), none⟩,
      ⟨(some 2), .alloc 8 (.agg [.p (.string ⟨#[]⟩), .p (.string ⟨#[]⟩), .p (.string ⟨#[]⟩), .p (.string ⟨#[]⟩), .p (.string ⟨#[]⟩), .p (.string ⟨#[]⟩), .p (.slice none 0 0), .p (.pointer none)]), none⟩])
    (.seq (.rg [⟨(some 3), .load true 5 (.t 1), none⟩,
      ⟨(some 4), .bld [.p (.slice none 0 0)] [], none⟩,
      ⟨(some 5), .box (.t 4), none⟩,
      ⟨(some 6), .bld [.p (.string ⟨#[]⟩), .p (.string ⟨#[]⟩), .p (.string ⟨#[]⟩), .p (.string ⟨#[]⟩), .p (.string ⟨#[]⟩), .p (.string ⟨#[]⟩), .p (.slice none 0 0), .p (.pointer none)] [(1, 5, (.t 3)), (7, 1, (.t 5))], none⟩,
      ⟨none, .store 8 (.t 2) (.t 6), none⟩])
    .ret))
def r94 : List DR := [.cell 2 true 8]
theorem c94_ok : Try.f94.body.bind (cCode Try.prog) = some c94 := by kernel_rfl
theorem r94_ok : cRes Try.prog Try.f94.results.toList = some r94 := by kernel_rfl

/-- given.example/pub-assaymark/impl.arnOf -/
def c95 : DC :=
  (.seq (.rg [⟨(some 1), .box (.t 0), none⟩,
      ⟨(some 2), .alloc 5 (.agg [.p (.string ⟨#[]⟩), .p (.string ⟨#[]⟩), .p (.string ⟨#[]⟩), .p (.string ⟨#[]⟩), .p (.string ⟨#[]⟩)]), none⟩])
    (.seq (.rg [⟨(some 3), .faddr false 0 1 (.t 1), none⟩,
      ⟨(some 4), .load false 1 (.t 3), none⟩,
      ⟨(some 5), .faddr false 1 1 (.t 1), none⟩,
      ⟨(some 6), .load false 1 (.t 5), none⟩,
      ⟨(some 7), .faddr false 2 1 (.t 1), none⟩,
      ⟨(some 8), .load false 1 (.t 7), none⟩,
      ⟨(some 9), .faddr false 3 1 (.t 1), none⟩,
      ⟨(some 10), .load false 1 (.t 9), none⟩,
      ⟨(some 11), .faddr false 4 1 (.t 1), none⟩,
      ⟨(some 12), .load false 1 (.t 11), none⟩,
      ⟨(some 13), .callr 127 [(.t 4), (.t 6), (.t 8), (.t 10), (.t 12)], none⟩,
      ⟨none, .store 5 (.t 2) (.t 13), none⟩])
    .ret))
def r95 : List DR := [.cell 2 true 5]
theorem c95_ok : Try.f95.body.bind (cCode Try.prog) = some c95 := by kernel_rfl
theorem r95_ok : cRes Try.prog Try.f95.results.toList = some r95 := by kernel_rfl

/-- (*given.example/pub-assaymark/pub/miniogo/pkg/notification.Config).AddEvents -/
def c96 : DC :=
  (.rg [⟨(some 4), .mov (.t 0), none⟩,
      ⟨(some 5), .mov (.t 0), none⟩,
      ⟨(some 6), .nilchk .ptr (.t 5), none⟩,
      ⟨(some 7), .faddr false 6 1 (.t 6), none⟩,
      ⟨(some 8), .load false 1 (.t 7), none⟩,
      ⟨(some 9), .mov (.t 1), none⟩,
      ⟨(some 10), .app 1 16 (.t 8) (.t 9), none⟩,
      ⟨(some 11), .nilchk .ptr (.t 4), none⟩,
      ⟨(some 12), .faddr false 6 1 (.t 11), none⟩,
      ⟨none, .store 1 (.t 12) (.t 10), none⟩])
def r96 : List DR := []
theorem c96_ok : Try.f96.body.bind (cCode Try.prog) = some c96 := by kernel_rfl
theorem r96_ok : cRes Try.prog Try.f96.results.toList = some r96 := by kernel_rfl

/-- (*given.example/pub-assaymark/pub/miniogo/pkg/notification.Config).AddFilterPrefix -/
def c97 : DC :=
  (.seq (.seq (.rg [⟨(some 6), .mov (.t 0), none⟩,
      ⟨(some 7), .nilchk .ptr (.t 6), none⟩,
      ⟨(some 8), .faddr false 7 1 (.t 7), none⟩,
      ⟨(some 9), .load false 1 (.t 8), none⟩,
      ⟨(some 10), .eqn false .ptr (.t 9), none⟩])
    (.cond (.t 10) (.rg [⟨(some 11), .mov (.t 0), none⟩,
        ⟨(some 12), .bld [.p (.slice none 0 0)] [], none⟩,
        ⟨(some 13), .box (.t 12), none⟩,
        ⟨(some 14), .nilchk .ptr (.t 11), none⟩,
        ⟨(some 15), .faddr false 7 1 (.t 14), none⟩,
        ⟨none, .store 1 (.t 15) (.t 13), none⟩])
      .skip))
    (.seq (.rg [⟨(some 16), .mov (.t 1), none⟩,
      ⟨(some 17), .bld [.p (.string ⟨#[]⟩), .p (.string ⟨#[]⟩)] [(0, 1, (.c (.p (.string ⟨#[112, 114, 101, 102, 105, 120]⟩)))), (1, 1, (.t 16))], none⟩,
      ⟨(some 4), .alloc 2 (.agg [.p (.string ⟨#[]⟩), .p (.string ⟨#[]⟩)]), none⟩,
      ⟨none, .store 2 (.t 4) (.t 17), none⟩])
    (.seq (.seq (.rg [⟨(some 18), .mov (.t 0), none⟩,
      ⟨(some 19), .nilchk .ptr (.t 18), none⟩,
      ⟨(some 20), .faddr false 7 1 (.t 19), none⟩,
      ⟨(some 21), .load false 1 (.t 20), none⟩,
      ⟨(some 22), .nilchk .ptr (.t 21), none⟩,
      ⟨(some 23), .faddr true 0 1 (.t 22), none⟩,
      ⟨(some 24), .faddr false 0 1 (.t 23), none⟩,
      ⟨(some 25), .load false 1 (.t 24), none⟩,
      ⟨(some 26), .lenl (.t 25), none⟩,
      ⟨(some 27), .mov (.c (.p (.int .i64 0))), none⟩])
    (.block 0 (.loop (.seq (.rg [⟨(some 28), .bin .lss (.t 27) (.t 26), none⟩])
      (.seq (.cond (.t 28) .skip
        (.exit 0))
      (.seq (.block 1 (.seq (.rg [⟨(some 29), .mov (.t 27), none⟩,
         ⟨(some 5), .mov (.t 29), none⟩])
       (.seq (.rg [⟨(some 30), .mov (.t 0), none⟩,
         ⟨(some 31), .nilchk .ptr (.t 30), none⟩,
         ⟨(some 32), .faddr false 7 1 (.t 31), none⟩,
         ⟨(some 33), .load false 1 (.t 32), none⟩,
         ⟨(some 34), .nilchk .ptr (.t 33), none⟩,
         ⟨(some 35), .faddr true 0 1 (.t 34), none⟩,
         ⟨(some 36), .faddr false 0 1 (.t 35), none⟩,
         ⟨(some 37), .load false 1 (.t 36), none⟩,
         ⟨(some 38), .mov (.t 5), none⟩,
         ⟨(some 39), .iaddr 2 (.t 37) (.t 38), none⟩,
         ⟨(some 40), .faddr false 0 1 (.t 39), none⟩,
         ⟨(some 41), .load false 1 (.t 40), none⟩,
         ⟨(some 42), .bin .eql (.t 41) (.c (.p (.string ⟨#[112, 114, 101, 102, 105, 120]⟩))), none⟩])
       (.cond (.t 42) (.seq (.rgd [⟨⟨(some 43), .mov (.t 0), none⟩, 0, [0]⟩,
           ⟨⟨(some 44), .nilchk .ptr (.t 43), none⟩, 0, [0]⟩,
           ⟨⟨(some 45), .faddr false 7 1 (.t 44), none⟩, 0, [0]⟩,
           ⟨⟨(some 46), .load false 1 (.t 45), none⟩, 0, [0]⟩,
           ⟨⟨(some 47), .nilchk .ptr (.t 46), none⟩, 0, [0]⟩,
           ⟨⟨(some 48), .faddr true 0 1 (.t 47), none⟩, 0, [0]⟩,
           ⟨⟨(some 49), .faddr false 0 1 (.t 48), none⟩, 0, [0]⟩,
           ⟨⟨(some 50), .load false 1 (.t 49), none⟩, 0, [0]⟩,
           ⟨⟨(some 51), .mov (.t 5), none⟩, 0, [0]⟩,
           ⟨⟨(some 52), .load true 2 (.t 4), none⟩, 0, [0]⟩,
           ⟨⟨(some 53), .iaddr 2 (.t 50) (.t 51), none⟩, 0, [0]⟩,
           ⟨⟨none, .store 2 (.t 53) (.t 52), none⟩, 0, []⟩])
         .ret)
         .skip))))
      (.rg [⟨(some 54), .bin .add (.t 27) (.c (.p (.int .i64 1))), none⟩,
        ⟨(some 27), .mov (.t 54), none⟩])))))))
    (.rgv [⟨⟨(some 55), .mov (.t 0), none⟩, 0, [0]⟩,
      ⟨⟨(some 56), .nilchk .ptr (.t 55), none⟩, 0, [0]⟩,
      ⟨⟨(some 57), .faddr false 7 1 (.t 56), none⟩, 0, [0]⟩,
      ⟨⟨(some 58), .load false 1 (.t 57), none⟩, 0, [0]⟩,
      ⟨⟨(some 59), .mov (.t 0), none⟩, 0, [0]⟩,
      ⟨⟨(some 60), .nilchk .ptr (.t 59), none⟩, 0, [0]⟩,
      ⟨⟨(some 61), .faddr false 7 1 (.t 60), none⟩, 0, [0]⟩,
      ⟨⟨(some 62), .load false 1 (.t 61), none⟩, 0, [0]⟩,
      ⟨⟨(some 63), .nilchk .ptr (.t 62), none⟩, 0, [0]⟩,
      ⟨⟨(some 64), .faddr true 0 1 (.t 63), none⟩, 0, [0]⟩,
      ⟨⟨(some 65), .faddr false 0 1 (.t 64), none⟩, 0, [0]⟩,
      ⟨⟨(some 66), .load false 1 (.t 65), none⟩, 0, [0]⟩,
      ⟨⟨(some 67), .load true 2 (.t 4), none⟩, 0, [0]⟩,
      ⟨⟨(some 68), .lit 2 [(.t 67)], none⟩, 0, [0]⟩,
      ⟨⟨(some 69), .app 2 32 (.t 66) (.t 68), none⟩, 1, [0]⟩,
      ⟨⟨(some 70), .nilchk .ptr (.t 58), none⟩, 2, [2]⟩,
      ⟨⟨(some 71), .faddr true 0 1 (.t 70), none⟩, 2, [2]⟩,
      ⟨⟨(some 72), .faddr false 0 1 (.t 71), none⟩, 2, [2]⟩,
      ⟨⟨none, .store 1 (.t 72) (.t 69), none⟩, 2, []⟩]))))
def r97 : List DR := []
theorem c97_ok : Try.f97.body.bind (cCodeV [9] Try.prog) = some c97 := by kernel_rfl
theorem r97_ok : cRes Try.prog Try.f97.results.toList = some r97 := by kernel_rfl

/-- (*given.example/pub-assaymark/pub/miniogo/pkg/notification.Config).AddFilterSuffix -/
def c98 : DC :=
  (.seq (.seq (.rg [⟨(some 6), .mov (.t 0), none⟩,
      ⟨(some 7), .nilchk .ptr (.t 6), none⟩,
      ⟨(some 8), .faddr false 7 1 (.t 7), none⟩,
      ⟨(some 9), .load false 1 (.t 8), none⟩,
      ⟨(some 10), .eqn false .ptr (.t 9), none⟩])
    (.cond (.t 10) (.rg [⟨(some 11), .mov (.t 0), none⟩,
        ⟨(some 12), .bld [.p (.slice none 0 0)] [], none⟩,
        ⟨(some 13), .box (.t 12), none⟩,
        ⟨(some 14), .nilchk .ptr (.t 11), none⟩,
        ⟨(some 15), .faddr false 7 1 (.t 14), none⟩,
        ⟨none, .store 1 (.t 15) (.t 13), none⟩])
      .skip))
    (.seq (.rg [⟨(some 16), .mov (.t 1), none⟩,
      ⟨(some 17), .bld [.p (.string ⟨#[]⟩), .p (.string ⟨#[]⟩)] [(0, 1, (.c (.p (.string ⟨#[115, 117, 102, 102, 105, 120]⟩)))), (1, 1, (.t 16))], none⟩,
      ⟨(some 4), .alloc 2 (.agg [.p (.string ⟨#[]⟩), .p (.string ⟨#[]⟩)]), none⟩,
      ⟨none, .store 2 (.t 4) (.t 17), none⟩])
    (.seq (.seq (.rg [⟨(some 18), .mov (.t 0), none⟩,
      ⟨(some 19), .nilchk .ptr (.t 18), none⟩,
      ⟨(some 20), .faddr false 7 1 (.t 19), none⟩,
      ⟨(some 21), .load false 1 (.t 20), none⟩,
      ⟨(some 22), .nilchk .ptr (.t 21), none⟩,
      ⟨(some 23), .faddr true 0 1 (.t 22), none⟩,
      ⟨(some 24), .faddr false 0 1 (.t 23), none⟩,
      ⟨(some 25), .load false 1 (.t 24), none⟩,
      ⟨(some 26), .lenl (.t 25), none⟩,
      ⟨(some 27), .mov (.c (.p (.int .i64 0))), none⟩])
    (.block 0 (.loop (.seq (.rg [⟨(some 28), .bin .lss (.t 27) (.t 26), none⟩])
      (.seq (.cond (.t 28) .skip
        (.exit 0))
      (.seq (.block 1 (.seq (.rg [⟨(some 29), .mov (.t 27), none⟩,
         ⟨(some 5), .mov (.t 29), none⟩])
       (.seq (.rg [⟨(some 30), .mov (.t 0), none⟩,
         ⟨(some 31), .nilchk .ptr (.t 30), none⟩,
         ⟨(some 32), .faddr false 7 1 (.t 31), none⟩,
         ⟨(some 33), .load false 1 (.t 32), none⟩,
         ⟨(some 34), .nilchk .ptr (.t 33), none⟩,
         ⟨(some 35), .faddr true 0 1 (.t 34), none⟩,
         ⟨(some 36), .faddr false 0 1 (.t 35), none⟩,
         ⟨(some 37), .load false 1 (.t 36), none⟩,
         ⟨(some 38), .mov (.t 5), none⟩,
         ⟨(some 39), .iaddr 2 (.t 37) (.t 38), none⟩,
         ⟨(some 40), .faddr false 0 1 (.t 39), none⟩,
         ⟨(some 41), .load false 1 (.t 40), none⟩,
         ⟨(some 42), .bin .eql (.t 41) (.c (.p (.string ⟨#[115, 117, 102, 102, 105, 120]⟩))), none⟩])
       (.cond (.t 42) (.seq (.rgd [⟨⟨(some 43), .mov (.t 0), none⟩, 0, [0]⟩,
           ⟨⟨(some 44), .nilchk .ptr (.t 43), none⟩, 0, [0]⟩,
           ⟨⟨(some 45), .faddr false 7 1 (.t 44), none⟩, 0, [0]⟩,
           ⟨⟨(some 46), .load false 1 (.t 45), none⟩, 0, [0]⟩,
           ⟨⟨(some 47), .nilchk .ptr (.t 46), none⟩, 0, [0]⟩,
           ⟨⟨(some 48), .faddr true 0 1 (.t 47), none⟩, 0, [0]⟩,
           ⟨⟨(some 49), .faddr false 0 1 (.t 48), none⟩, 0, [0]⟩,
           ⟨⟨(some 50), .load false 1 (.t 49), none⟩, 0, [0]⟩,
           ⟨⟨(some 51), .mov (.t 5), none⟩, 0, [0]⟩,
           ⟨⟨(some 52), .load true 2 (.t 4), none⟩, 0, [0]⟩,
           ⟨⟨(some 53), .iaddr 2 (.t 50) (.t 51), none⟩, 0, [0]⟩,
           ⟨⟨none, .store 2 (.t 53) (.t 52), none⟩, 0, []⟩])
         .ret)
         .skip))))
      (.rg [⟨(some 54), .bin .add (.t 27) (.c (.p (.int .i64 1))), none⟩,
        ⟨(some 27), .mov (.t 54), none⟩])))))))
    (.rgv [⟨⟨(some 55), .mov (.t 0), none⟩, 0, [0]⟩,
      ⟨⟨(some 56), .nilchk .ptr (.t 55), none⟩, 0, [0]⟩,
      ⟨⟨(some 57), .faddr false 7 1 (.t 56), none⟩, 0, [0]⟩,
      ⟨⟨(some 58), .load false 1 (.t 57), none⟩, 0, [0]⟩,
      ⟨⟨(some 59), .mov (.t 0), none⟩, 0, [0]⟩,
      ⟨⟨(some 60), .nilchk .ptr (.t 59), none⟩, 0, [0]⟩,
      ⟨⟨(some 61), .faddr false 7 1 (.t 60), none⟩, 0, [0]⟩,
      ⟨⟨(some 62), .load false 1 (.t 61), none⟩, 0, [0]⟩,
      ⟨⟨(some 63), .nilchk .ptr (.t 62), none⟩, 0, [0]⟩,
      ⟨⟨(some 64), .faddr true 0 1 (.t 63), none⟩, 0, [0]⟩,
      ⟨⟨(some 65), .faddr false 0 1 (.t 64), none⟩, 0, [0]⟩,
      ⟨⟨(some 66), .load false 1 (.t 65), none⟩, 0, [0]⟩,
      ⟨⟨(some 67), .load true 2 (.t 4), none⟩, 0, [0]⟩,
      ⟨⟨(some 68), .lit 2 [(.t 67)], none⟩, 0, [0]⟩,
      ⟨⟨(some 69), .app 2 32 (.t 66) (.t 68), none⟩, 1, [0]⟩,
      ⟨⟨(some 70), .nilchk .ptr (.t 58), none⟩, 2, [2]⟩,
      ⟨⟨(some 71), .faddr true 0 1 (.t 70), none⟩, 2, [2]⟩,
      ⟨⟨(some 72), .faddr false 0 1 (.t 71), none⟩, 2, [2]⟩,
      ⟨⟨none, .store 1 (.t 72) (.t 69), none⟩, 2, []⟩]))))
def r98 : List DR := []
theorem c98_ok : Try.f98.body.bind (cCodeV [9] Try.prog) = some c98 := by kernel_rfl
theorem r98_ok : cRes Try.prog Try.f98.results.toList = some r98 := by kernel_rfl

/-- given.example/pub-assaymark/pub/miniogo/pkg/notification.EqualEventTypeList -/
def c99 : DC :=
  (.seq (.rg [⟨(some 4), .mov (.c (.p (.bool false))), none⟩])
    (.seq (.seq (.rg [⟨(some 11), .mov (.t 0), none⟩,
      ⟨(some 12), .lenl (.t 11), none⟩,
      ⟨(some 13), .mov (.t 1), none⟩,
      ⟨(some 14), .lenl (.t 13), none⟩,
      ⟨(some 15), .bin .neq (.t 12) (.t 14), none⟩])
    (.cond (.t 15) (.seq (.rg [⟨(some 4), .mov (.c (.p (.bool false))), none⟩])
      .ret)
      .skip))
    (.seq (.rg [⟨(some 16), .callr 128 [], none⟩,
      ⟨(some 5), .mov (.t 16), none⟩])
    (.seq (.seq (.rg [⟨(some 17), .mov (.t 0), none⟩,
      ⟨(some 18), .lenl (.t 17), none⟩,
      ⟨(some 19), .mov (.c (.p (.int .i64 0))), none⟩])
    (.block 0 (.loop (.seq (.rg [⟨(some 20), .bin .lss (.t 19) (.t 18), none⟩])
      (.seq (.cond (.t 20) .skip
        (.exit 0))
      (.seq (.block 1 (.seq (.rg [⟨(some 21), .iaddr 1 (.t 17) (.t 19), none⟩,
         ⟨(some 22), .load false 1 (.t 21), none⟩,
         ⟨(some 7), .mov (.t 22), none⟩])
       (.rg [⟨(some 23), .mov (.t 5), none⟩,
         ⟨(some 24), .mov (.t 7), none⟩,
         ⟨(some 25), .callr 82 [(.t 23), (.t 24)], none⟩])))
      (.rg [⟨(some 26), .bin .add (.t 19) (.c (.p (.int .i64 1))), none⟩,
        ⟨(some 19), .mov (.t 26), none⟩])))))))
    (.seq (.rg [⟨(some 27), .callr 128 [], none⟩,
      ⟨(some 8), .mov (.t 27), none⟩])
    (.seq (.seq (.rg [⟨(some 28), .mov (.t 1), none⟩,
      ⟨(some 29), .lenl (.t 28), none⟩,
      ⟨(some 30), .mov (.c (.p (.int .i64 0))), none⟩])
    (.block 2 (.loop (.seq (.rg [⟨(some 31), .bin .lss (.t 30) (.t 29), none⟩])
      (.seq (.cond (.t 31) .skip
        (.exit 2))
      (.seq (.block 3 (.seq (.rg [⟨(some 32), .iaddr 1 (.t 28) (.t 30), none⟩,
         ⟨(some 33), .load false 1 (.t 32), none⟩,
         ⟨(some 10), .mov (.t 33), none⟩])
       (.rg [⟨(some 34), .mov (.t 8), none⟩,
         ⟨(some 35), .mov (.t 10), none⟩,
         ⟨(some 36), .callr 82 [(.t 34), (.t 35)], none⟩])))
      (.rg [⟨(some 37), .bin .add (.t 30) (.c (.p (.int .i64 1))), none⟩,
        ⟨(some 30), .mov (.t 37), none⟩])))))))
    (.seq (.rg [⟨(some 38), .mov (.t 5), none⟩,
      ⟨(some 39), .mov (.t 8), none⟩,
      ⟨(some 40), .callr 87 [(.t 38), (.t 39)], none⟩,
      ⟨(some 41), .callr 90 [(.t 40)], none⟩,
      ⟨(some 4), .mov (.t 41), none⟩])
    .ret)))))))
def r99 : List DR := [.tmp 4]
theorem c99_ok : Try.f99.body.bind (cCode Try.prog) = some c99 := by kernel_rfl
theorem r99_ok : cRes Try.prog Try.f99.results.toList = some r99 := by kernel_rfl

/-- given.example/pub-assaymark/pub/miniogo/pkg/notification.EqualFilterRuleList -/
def c100 : DC :=
  (.seq (.rg [⟨(some 4), .mov (.c (.p (.bool false))), none⟩])
    (.seq (.seq (.rg [⟨(some 11), .mov (.t 0), none⟩,
      ⟨(some 12), .lenl (.t 11), none⟩,
      ⟨(some 13), .mov (.t 1), none⟩,
      ⟨(some 14), .lenl (.t 13), none⟩,
      ⟨(some 15), .bin .neq (.t 12) (.t 14), none⟩])
    (.cond (.t 15) (.seq (.rg [⟨(some 4), .mov (.c (.p (.bool false))), none⟩])
      .ret)
      .skip))
    (.seq (.rg [⟨(some 16), .callr 128 [], none⟩,
      ⟨(some 5), .mov (.t 16), none⟩])
    (.seq (.seq (.rg [⟨(some 17), .mov (.t 0), none⟩,
      ⟨(some 18), .lenl (.t 17), none⟩,
      ⟨(some 19), .mov (.c (.p (.int .i64 0))), none⟩])
    (.block 0 (.loop (.seq (.rg [⟨(some 20), .bin .lss (.t 19) (.t 18), none⟩])
      (.seq (.cond (.t 20) .skip
        (.exit 0))
      (.seq (.block 1 (.seq (.rg [⟨(some 21), .iaddr 2 (.t 17) (.t 19), none⟩,
         ⟨(some 22), .load true 2 (.t 21), none⟩,
         ⟨(some 7), .alloc 2 (.agg [.p (.string ⟨#[]⟩), .p (.string ⟨#[]⟩)]), none⟩,
         ⟨none, .store 2 (.t 7) (.t 22), none⟩])
       (.rg [⟨(some 23), .mov (.t 5), none⟩,
         ⟨(some 24), .faddr false 0 1 (.t 7), none⟩,
         ⟨(some 25), .load false 1 (.t 24), none⟩,
         ⟨(some 26), .bin .add (.t 25) (.c (.p (.string ⟨#[45]⟩))), none⟩,
         ⟨(some 27), .faddr false 1 1 (.t 7), none⟩,
         ⟨(some 28), .load false 1 (.t 27), none⟩,
         ⟨(some 29), .bin .add (.t 26) (.t 28), none⟩,
         ⟨(some 30), .callr 82 [(.t 23), (.t 29)], none⟩])))
      (.rg [⟨(some 31), .bin .add (.t 19) (.c (.p (.int .i64 1))), none⟩,
        ⟨(some 19), .mov (.t 31), none⟩])))))))
    (.seq (.rg [⟨(some 32), .callr 128 [], none⟩,
      ⟨(some 8), .mov (.t 32), none⟩])
    (.seq (.seq (.rg [⟨(some 33), .mov (.t 1), none⟩,
      ⟨(some 34), .lenl (.t 33), none⟩,
      ⟨(some 35), .mov (.c (.p (.int .i64 0))), none⟩])
    (.block 2 (.loop (.seq (.rg [⟨(some 36), .bin .lss (.t 35) (.t 34), none⟩])
      (.seq (.cond (.t 36) .skip
        (.exit 2))
      (.seq (.block 3 (.seq (.rg [⟨(some 37), .iaddr 2 (.t 33) (.t 35), none⟩,
         ⟨(some 38), .load true 2 (.t 37), none⟩,
         ⟨(some 10), .alloc 2 (.agg [.p (.string ⟨#[]⟩), .p (.string ⟨#[]⟩)]), none⟩,
         ⟨none, .store 2 (.t 10) (.t 38), none⟩])
       (.rg [⟨(some 39), .mov (.t 8), none⟩,
         ⟨(some 40), .faddr false 0 1 (.t 10), none⟩,
         ⟨(some 41), .load false 1 (.t 40), none⟩,
         ⟨(some 42), .bin .add (.t 41) (.c (.p (.string ⟨#[45]⟩))), none⟩,
         ⟨(some 43), .faddr false 1 1 (.t 10), none⟩,
         ⟨(some 44), .load false 1 (.t 43), none⟩,
         ⟨(some 45), .bin .add (.t 42) (.t 44), none⟩,
         ⟨(some 46), .callr 82 [(.t 39), (.t 45)], none⟩])))
      (.rg [⟨(some 47), .bin .add (.t 35) (.c (.p (.int .i64 1))), none⟩,
        ⟨(some 35), .mov (.t 47), none⟩])))))))
    (.seq (.rg [⟨(some 48), .mov (.t 5), none⟩,
      ⟨(some 49), .mov (.t 8), none⟩,
      ⟨(some 50), .callr 87 [(.t 48), (.t 49)], none⟩,
      ⟨(some 51), .callr 90 [(.t 50)], none⟩,
      ⟨(some 4), .mov (.t 51), none⟩])
    .ret)))))))
def r100 : List DR := [.tmp 4]
theorem c100_ok : Try.f100.body.bind (cCode Try.prog) = some c100 := by kernel_rfl
theorem r100_ok : cRes Try.prog Try.f100.results.toList = some r100 := by kernel_rfl

/-- given.example/pub-assaymark/pub/miniogo/pkg/set.New[string] -/
def c125 : DC :=
  (.seq (.rg [⟨(some 0), .mov (.c (.p (.map none))), none⟩])
    (.seq (.rg [⟨(some 1), .mkmap, none⟩,
      ⟨(some 0), .mov (.t 1), none⟩])
    .ret))
def r125 : List DR := [.tmp 0]
theorem c125_ok : Try.f125.body.bind (cCode Try.prog) = some c125 := by kernel_rfl
theorem r125_ok : cRes Try.prog Try.f125.results.toList = some r125 := by kernel_rfl

/-- given.example/pub-assaymark/pub/miniogo/pkg/notification.NewArn -/
def c127 : DC :=
  (.seq (.rg [⟨(some 10), .alloc 5 (.agg [.p (.string ⟨#[]⟩), .p (.string ⟨#[]⟩), .p (.string ⟨#[]⟩), .p (.string ⟨#[]⟩), .p (.string ⟨#[]⟩)]), none⟩])
    (.seq (.rg [⟨(some 11), .mov (.t 0), none⟩,
      ⟨(some 12), .mov (.t 1), none⟩,
      ⟨(some 13), .mov (.t 2), none⟩,
      ⟨(some 14), .mov (.t 3), none⟩,
      ⟨(some 15), .mov (.t 4), none⟩,
      ⟨(some 16), .bld [.p (.string ⟨#[]⟩), .p (.string ⟨#[]⟩), .p (.string ⟨#[]⟩), .p (.string ⟨#[]⟩), .p (.string ⟨#[]⟩)] [(0, 1, (.t 11)), (1, 1, (.t 12)), (2, 1, (.t 13)), (3, 1, (.t 14)), (4, 1, (.t 15))], none⟩,
      ⟨none, .store 5 (.t 10) (.t 16), none⟩])
    .ret))
def r127 : List DR := [.cell 10 true 5]
theorem c127_ok : Try.f127.body.bind (cCode Try.prog) = some c127 := by kernel_rfl
theorem r127_ok : cRes Try.prog Try.f127.results.toList = some r127 := by kernel_rfl

/-- given.example/pub-assaymark/pub/miniogo/pkg/set.NewStringSet -/
def c128 : DC :=
  (.seq (.rg [⟨(some 0), .mov (.c (.p (.map none))), none⟩])
    (.seq (.rg [⟨(some 1), .callr 125 [], none⟩,
      ⟨(some 0), .mov (.t 1), none⟩])
    .ret))
def r128 : List DR := [.tmp 0]
theorem c128_ok : Try.f128.body.bind (cCode Try.prog) = some c128 := by kernel_rfl
theorem r128_ok : cRes Try.prog Try.f128.results.toList = some r128 := by kernel_rfl

end Go.Proofs.Ytdgnjngbheecnaa
