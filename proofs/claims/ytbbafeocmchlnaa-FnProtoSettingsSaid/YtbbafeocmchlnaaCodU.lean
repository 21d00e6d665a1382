/- The codes of the functions, in the small language of Den. -/
import Derived.Test.YtbbafeocmchlnaaHeD
set_option linter.unusedVariables false
set_option linter.unusedSimpArgs false
set_option maxRecDepth 100000
namespace Go.Proofs.Ytbbafeocmchlnaa
open Go Go.Den Go.Proofs

/-- given.example/pub-assaymark/laws.FnProtoSettings -/
def c7 : DC :=
  (.seq (.rg [⟨(some 4), .mov (.c (.p (.bool false))), none⟩])
    (.seq (.seq (.rg [⟨(some 7), .mov (.t 0), none⟩,
      ⟨(some 8), .callr 26 [(.t 7)], none⟩,
      ⟨(some 9), .un .not (.t 8), none⟩])
    (.cond (.t 9) (.seq (.rg [⟨(some 4), .mov (.c (.p (.bool true))), none⟩])
      .ret)
      .skip))
    (.seq (.rg [⟨(some 10), .mov (.t 0), none⟩,
      ⟨(some 11), .callr 27 [(.t 10)], none⟩,
      ⟨(some 0), .mov (.t 11), none⟩])
    (.seq (.seq (.rg [⟨(some 12), .mov (.t 0), none⟩,
      ⟨(some 13), .callr 28 [(.t 12)], none⟩,
      ⟨(some 14), .un .not (.t 13), none⟩,
      ⟨(some 15), .mov (.t 14), none⟩,
      ⟨(some 16), .mov (.t 1), (some (15, false))⟩,
      ⟨(some 17), .bin .leq (.t 16) (.c (.p (.int .u64 54429))), (some (15, false))⟩,
      ⟨(some 18), .pick (.t 15) (.c (.p (.bool true))) (.t 17), none⟩])
    (.cond (.t 18) (.seq (.rg [⟨(some 19), .callr 14 [], none⟩,
        ⟨(some 4), .mov (.t 19), none⟩])
      .ret)
      .skip))
    (.seq (.rg [⟨(some 21), .mov (.t 0), none⟩,
      ⟨(some 22), .mov (.t 1), none⟩,
      ⟨(some 23), .callr 29 [(.t 21), (.t 22)], none⟩,
      ⟨(some 20), .mov (.t 23), none⟩,
      ⟨(some 24), .ext (.t 20) 0, none⟩,
      ⟨(some 25), .ext (.t 20) 1, none⟩,
      ⟨(some 5), .mov (.t 24), none⟩,
      ⟨(some 6), .mov (.t 25), none⟩])
    (.seq (.rg [⟨(some 26), .mov (.t 6), none⟩,
      ⟨(some 27), .mov (.t 26), none⟩,
      ⟨(some 28), .mov (.t 5), (some (27, true))⟩,
      ⟨(some 29), .mov (.t 0), (some (27, true))⟩,
      ⟨(some 30), .callr 30 [(.t 29)], (some (27, true))⟩,
      ⟨(some 31), .bin .eql (.t 28) (.t 30), (some (27, true))⟩,
      ⟨(some 32), .pick (.t 27) (.t 31) (.c (.p (.bool false))), none⟩,
      ⟨(some 33), .mov (.t 32), none⟩,
      ⟨(some 34), .callr 14 [], (some (33, true))⟩,
      ⟨(some 35), .pick (.t 33) (.t 34) (.c (.p (.bool false))), none⟩,
      ⟨(some 4), .mov (.t 35), none⟩])
    .ret))))))
def r7 : List DR := [.tmp 4]
theorem c7_ok : Try.f7.body.bind (cCode Try.prog) = some c7 := by kernel_rfl
theorem r7_ok : cRes Try.prog Try.f7.results.toList = some r7 := by kernel_rfl

/-- given.example/pub-assaymark/laws.zzFits24 -/
def c26 : DC :=
  (.seq (.rg [⟨(some 2), .mov (.c (.p (.bool false))), none⟩])
    (.seq (.seq (.rg [⟨(some 5), .mov (.t 0), none⟩,
      ⟨(some 6), .lenl (.t 5), none⟩,
      ⟨(some 7), .bin .gtr (.t 6) (.c (.p (.int .i64 2147483647))), none⟩])
    (.cond (.t 7) (.seq (.rg [⟨(some 2), .mov (.c (.p (.bool false))), none⟩])
      .ret)
      .skip))
    (.seq (.seq (.rg [⟨(some 8), .mov (.t 0), none⟩,
      ⟨(some 9), .lenl (.t 8), none⟩,
      ⟨(some 10), .mov (.c (.p (.int .i64 0))), none⟩])
    (.block 0 (.loop (.seq (.rg [⟨(some 11), .bin .lss (.t 10) (.t 9), none⟩])
      (.seq (.cond (.t 11) .skip
        (.exit 0))
      (.seq (.block 1 (.seq (.rg [⟨(some 12), .iaddr 6 (.t 8) (.t 10), none⟩,
         ⟨(some 13), .load true 6 (.t 12), none⟩,
         ⟨(some 4), .alloc 6 (.agg [.p (.string ⟨#[]⟩), .p (.int .i64 0), .p (.string ⟨#[]⟩), .p (.int .i64 0), .p (.bool false), .p (.bool false)]), none⟩,
         ⟨none, .store 6 (.t 4) (.t 13), none⟩])
       (.seq (.rg [⟨(some 14), .load true 6 (.t 4), none⟩,
         ⟨(some 15), .callr 66 [(.t 14)], none⟩,
         ⟨(some 16), .un .not (.t 15), none⟩])
       (.cond (.t 16) (.seq (.rg [⟨(some 2), .mov (.c (.p (.bool false))), none⟩])
         .ret)
         .skip))))
      (.rg [⟨(some 17), .bin .add (.t 10) (.c (.p (.int .i64 1))), none⟩,
        ⟨(some 10), .mov (.t 17), none⟩])))))))
    (.seq (.rg [⟨(some 2), .mov (.c (.p (.bool true))), none⟩])
    .ret))))
def r26 : List DR := [.tmp 2]
theorem c26_ok : Try.f26.body.bind (cCode Try.prog) = some c26 := by kernel_rfl
theorem r26_ok : cRes Try.prog Try.f26.results.toList = some r26 := by kernel_rfl

/-- given.example/pub-assaymark/laws.plainSettings -/
def c27 : DC :=
  (.seq (.rg [⟨(some 2), .mov (.c (.p (.slice none 0 0))), none⟩])
    (.seq (.rg [⟨(some 3), .mov (.c (.p (.slice none 0 0))), none⟩])
    (.seq (.seq (.rg [⟨(some 6), .mov (.t 0), none⟩,
      ⟨(some 7), .lenl (.t 6), none⟩,
      ⟨(some 8), .mov (.c (.p (.int .i64 0))), none⟩])
    (.block 0 (.loop (.seq (.rg [⟨(some 9), .bin .lss (.t 8) (.t 7), none⟩])
      (.seq (.cond (.t 9) .skip
        (.exit 0))
      (.seq (.block 1 (.seq (.rg [⟨(some 10), .iaddr 6 (.t 6) (.t 8), none⟩,
         ⟨(some 11), .load true 6 (.t 10), none⟩,
         ⟨(some 5), .alloc 6 (.agg [.p (.string ⟨#[]⟩), .p (.int .i64 0), .p (.string ⟨#[]⟩), .p (.int .i64 0), .p (.bool false), .p (.bool false)]), none⟩,
         ⟨none, .store 6 (.t 5) (.t 11), none⟩])
       (.seq (.rg [⟨(some 12), .faddr false 5 1 (.t 5), none⟩,
         ⟨none, .store 1 (.t 12) (.c (.p (.bool false))), none⟩])
       (.rg [⟨(some 13), .mov (.t 3), none⟩,
         ⟨(some 14), .load true 6 (.t 5), none⟩,
         ⟨(some 15), .lit 6 [(.t 14)], none⟩,
         ⟨(some 16), .app 6 56 (.t 13) (.t 15), none⟩,
         ⟨(some 3), .mov (.t 16), none⟩]))))
      (.rg [⟨(some 17), .bin .add (.t 8) (.c (.p (.int .i64 1))), none⟩,
        ⟨(some 8), .mov (.t 17), none⟩])))))))
    (.seq (.rg [⟨(some 18), .mov (.t 3), none⟩,
      ⟨(some 2), .mov (.t 18), none⟩])
    .ret))))
def r27 : List DR := [.tmp 2]
theorem c27_ok : Try.f27.body.bind (cCode Try.prog) = some c27 := by kernel_rfl
theorem r27_ok : cRes Try.prog Try.f27.results.toList = some r27 := by kernel_rfl

/-- given.example/pub-assaymark/laws.settingsGood -/
def c28 : DC :=
  (.seq (.rg [⟨(some 2), .mov (.c (.p (.bool false))), none⟩])
    (.seq (.seq (.rg [⟨(some 5), .mov (.t 0), none⟩,
      ⟨(some 6), .lenl (.t 5), none⟩,
      ⟨(some 7), .mov (.c (.p (.int .i64 0))), none⟩])
    (.block 0 (.loop (.seq (.rg [⟨(some 8), .bin .lss (.t 7) (.t 6), none⟩])
      (.seq (.cond (.t 8) .skip
        (.exit 0))
      (.seq (.block 1 (.seq (.rg [⟨(some 9), .iaddr 6 (.t 5) (.t 7), none⟩,
         ⟨(some 10), .load true 6 (.t 9), none⟩,
         ⟨(some 4), .alloc 6 (.agg [.p (.string ⟨#[]⟩), .p (.int .i64 0), .p (.string ⟨#[]⟩), .p (.int .i64 0), .p (.bool false), .p (.bool false)]), none⟩,
         ⟨none, .store 6 (.t 4) (.t 10), none⟩])
       (.seq (.rg [⟨(some 11), .faddr false 0 1 (.t 4), none⟩,
         ⟨(some 12), .load false 1 (.t 11), none⟩,
         ⟨(some 13), .bin .eql (.t 12) (.c (.p (.string ⟨#[]⟩))), none⟩,
         ⟨(some 14), .mov (.t 13), none⟩,
         ⟨(some 15), .faddr false 1 1 (.t 4), (some (14, false))⟩,
         ⟨(some 16), .load false 1 (.t 15), (some (14, false))⟩,
         ⟨(some 17), .bin .lss (.t 16) (.c (.p (.int .i64 0))), (some (14, false))⟩,
         ⟨(some 18), .pick (.t 14) (.c (.p (.bool true))) (.t 17), none⟩,
         ⟨(some 19), .mov (.t 18), none⟩,
         ⟨(some 20), .faddr false 1 1 (.t 4), (some (19, false))⟩,
         ⟨(some 21), .load false 1 (.t 20), (some (19, false))⟩,
         ⟨(some 22), .bin .gtr (.t 21) (.c (.p (.int .i64 2))), (some (19, false))⟩,
         ⟨(some 23), .pick (.t 19) (.c (.p (.bool true))) (.t 22), none⟩,
         ⟨(some 24), .mov (.t 23), none⟩,
         ⟨(some 25), .faddr false 0 1 (.t 4), (some (24, false))⟩,
         ⟨(some 26), .load false 1 (.t 25), (some (24, false))⟩,
         ⟨(some 27), .faddr false 2 1 (.t 4), (some (24, false))⟩,
         ⟨(some 28), .load false 1 (.t 27), (some (24, false))⟩,
         ⟨(some 29), .lit 1 [(.t 26), (.t 28)], (some (24, false))⟩,
         ⟨(some 30), .callr 13 [(.t 29)], (some (24, false))⟩,
         ⟨(some 31), .un .not (.t 30), (some (24, false))⟩,
         ⟨(some 32), .pick (.t 24) (.c (.p (.bool true))) (.t 31), none⟩,
         ⟨(some 33), .mov (.t 32), none⟩,
         ⟨(some 34), .faddr false 5 1 (.t 4), (some (33, false))⟩,
         ⟨(some 35), .load false 1 (.t 34), (some (33, false))⟩,
         ⟨(some 36), .mov (.t 35), (some (33, false))⟩,
         ⟨(some 37), .faddr false 1 1 (.t 4), (some (36, true))⟩,
         ⟨(some 38), .load false 1 (.t 37), (some (36, true))⟩,
         ⟨(some 39), .bin .neq (.t 38) (.c (.p (.int .i64 0))), (some (36, true))⟩,
         ⟨(some 40), .pick (.t 36) (.t 39) (.c (.p (.bool false))), (some (33, false))⟩,
         ⟨(some 41), .pick (.t 33) (.c (.p (.bool true))) (.t 40), none⟩])
       (.cond (.t 41) (.seq (.rg [⟨(some 2), .mov (.c (.p (.bool false))), none⟩])
         .ret)
         .skip))))
      (.rg [⟨(some 42), .bin .add (.t 7) (.c (.p (.int .i64 1))), none⟩,
        ⟨(some 7), .mov (.t 42), none⟩])))))))
    (.seq (.rg [⟨(some 43), .mov (.t 0), none⟩,
      ⟨(some 44), .lenl (.t 43), none⟩,
      ⟨(some 45), .bin .leq (.t 44) (.c (.p (.int .i64 10))), none⟩,
      ⟨(some 2), .mov (.t 45), none⟩])
    .ret)))
def r28 : List DR := [.tmp 2]
theorem c28_ok : Try.f28.body.bind (cCode Try.prog) = some c28 := by kernel_rfl
theorem r28_ok : cRes Try.prog Try.f28.results.toList = some r28 := by kernel_rfl

/-- given.example/pub-assaymark/impl.ProtoSettings -/
def c29 : DC :=
  (.seq (.rg [⟨(some 4), .mov (.c (.p (.string ⟨#[]⟩))), none⟩,
      ⟨(some 5), .mov (.c (.p (.bool false))), none⟩])
    (.seq (.rg [⟨(some 8), .alloc 1 (.agg [.p (.slice none 0 0)]), none⟩,
      ⟨(some 6), .mov (.t 8), none⟩])
    (.seq (.rg [⟨(some 9), .mov (.t 0), none⟩,
      ⟨(some 10), .callr 67 [(.t 9)], none⟩,
      ⟨(some 11), .mov (.t 6), none⟩,
      ⟨(some 12), .mov (.t 1), none⟩,
      ⟨(some 13), .callr 68 [(.t 10), (.t 11), (.t 12)], none⟩,
      ⟨(some 7), .mov (.t 13), none⟩])
    (.seq (.rgd [⟨⟨(some 14), .mov (.t 6), none⟩, 0, []⟩,
      ⟨⟨(some 15), .nilchk .ptr (.t 14), none⟩, 0, [0]⟩,
      ⟨⟨(some 16), .faddr false 0 1 (.t 15), none⟩, 0, [0]⟩,
      ⟨⟨(some 17), .load false 1 (.t 16), none⟩, 0, [0]⟩,
      ⟨⟨(some 18), .b2s (.t 17), none⟩, 0, [0]⟩,
      ⟨⟨(some 19), .mov (.t 7), none⟩, 0, [0]⟩,
      ⟨⟨(some 20), .eqn false .iface (.t 19), none⟩, 0, [0]⟩,
      ⟨⟨(some 4), .mov (.t 18), none⟩, 0, []⟩,
      ⟨⟨(some 5), .mov (.t 20), none⟩, 0, []⟩])
    .ret))))
def r29 : List DR := [.tmp 4, .tmp 5]
theorem c29_ok : Try.f29.body.bind (cCode Try.prog) = some c29 := by kernel_rfl
theorem r29_ok : cRes Try.prog Try.f29.results.toList = some r29 := by kernel_rfl

/-- given.example/pub-assaymark/spec.ProtoSettingsTell -/
def c30 : DC :=
  (.seq (.rg [⟨(some 2), .mov (.c (.p (.string ⟨#[]⟩))), none⟩])
    (.seq (.rg [⟨(some 3), .mov (.c (.p (.string ⟨#[]⟩))), none⟩])
    (.seq (.seq (.rg [⟨(some 7), .mov (.t 0), none⟩,
      ⟨(some 8), .lenl (.t 7), none⟩,
      ⟨(some 9), .mov (.c (.p (.int .i64 0))), none⟩])
    (.block 0 (.loop (.seq (.rg [⟨(some 10), .bin .lss (.t 9) (.t 8), none⟩])
      (.seq (.cond (.t 10) .skip
        (.exit 0))
      (.seq (.block 1 (.seq (.rg [⟨(some 11), .iaddr 6 (.t 7) (.t 9), none⟩,
         ⟨(some 12), .load true 6 (.t 11), none⟩,
         ⟨(some 5), .alloc 6 (.agg [.p (.string ⟨#[]⟩), .p (.int .i64 0), .p (.string ⟨#[]⟩), .p (.int .i64 0), .p (.bool false), .p (.bool false)]), none⟩,
         ⟨none, .store 6 (.t 5) (.t 12), none⟩])
       (.seq (.rg [⟨(some 6), .mov (.c (.p (.int .u64 0))), none⟩])
       (.seq (.seq (.rg [⟨(some 13), .faddr false 4 1 (.t 5), none⟩,
         ⟨(some 14), .load false 1 (.t 13), none⟩])
       (.cond (.t 14) (.rg [⟨(some 15), .mov (.t 6), none⟩,
           ⟨(some 16), .bin .or (.t 15) (.c (.p (.int .u64 1))), none⟩,
           ⟨(some 6), .mov (.t 16), none⟩])
         .skip))
       (.seq (.seq (.rg [⟨(some 17), .faddr false 5 1 (.t 5), none⟩,
         ⟨(some 18), .load false 1 (.t 17), none⟩])
       (.cond (.t 18) (.rg [⟨(some 19), .mov (.t 6), none⟩,
           ⟨(some 20), .bin .or (.t 19) (.c (.p (.int .u64 2))), none⟩,
           ⟨(some 6), .mov (.t 20), none⟩])
         .skip))
       (.rgd [⟨⟨(some 21), .mov (.t 3), none⟩, 0, [0]⟩,
         ⟨⟨(some 22), .faddr false 0 1 (.t 5), none⟩, 0, [0]⟩,
         ⟨⟨(some 23), .load false 1 (.t 22), none⟩, 0, [0]⟩,
         ⟨⟨(some 24), .call 16 [(.t 23)], none⟩, 0, [0]⟩,
         ⟨⟨(some 25), .mov (.t 6), none⟩, 0, [0]⟩,
         ⟨⟨(some 26), .call 17 [(.t 25)], none⟩, 1, [0]⟩,
         ⟨⟨(some 27), .bin .add (.t 24) (.t 26), none⟩, 2, [0]⟩,
         ⟨⟨(some 28), .load true 6 (.t 5), none⟩, 0, [0]⟩,
         ⟨⟨(some 29), .call 69 [(.t 28)], none⟩, 2, []⟩,
         ⟨⟨(some 30), .call 16 [(.t 29)], none⟩, 3, []⟩,
         ⟨⟨(some 31), .bin .add (.t 27) (.t 30), none⟩, 4, []⟩,
         ⟨⟨(some 32), .bin .add (.t 21) (.t 31), none⟩, 4, []⟩,
         ⟨⟨(some 3), .mov (.t 32), none⟩, 4, []⟩]))))))
      (.rg [⟨(some 33), .bin .add (.t 9) (.c (.p (.int .i64 1))), none⟩,
        ⟨(some 9), .mov (.t 33), none⟩])))))))
    (.seq (.rg [⟨(some 34), .mov (.t 3), none⟩,
      ⟨(some 2), .mov (.t 34), none⟩])
    .ret))))
def r30 : List DR := [.tmp 2]
theorem c30_ok : Try.f30.body.bind (cCode Try.prog) = some c30 := by kernel_rfl
theorem r30_ok : cRes Try.prog Try.f30.results.toList = some r30 := by kernel_rfl

/-- given.example/pub-assaymark/laws.zzFits25 -/
def c66 : DC :=
  (.seq (.rg [⟨(some 1), .box (.t 0), none⟩,
      ⟨(some 2), .mov (.c (.p (.bool false))), none⟩])
    (.seq (.seq (.rg [⟨(some 3), .faddr false 0 1 (.t 1), none⟩,
      ⟨(some 4), .load false 1 (.t 3), none⟩,
      ⟨(some 5), .lens (.t 4), none⟩,
      ⟨(some 6), .bin .gtr (.t 5) (.c (.p (.int .i64 2147483647))), none⟩])
    (.cond (.t 6) (.seq (.rg [⟨(some 2), .mov (.c (.p (.bool false))), none⟩])
      .ret)
      .skip))
    (.seq (.seq (.rg [⟨(some 7), .faddr false 2 1 (.t 1), none⟩,
      ⟨(some 8), .load false 1 (.t 7), none⟩,
      ⟨(some 9), .lens (.t 8), none⟩,
      ⟨(some 10), .bin .gtr (.t 9) (.c (.p (.int .i64 2147483647))), none⟩])
    (.cond (.t 10) (.seq (.rg [⟨(some 2), .mov (.c (.p (.bool false))), none⟩])
      .ret)
      .skip))
    (.seq (.rg [⟨(some 2), .mov (.c (.p (.bool true))), none⟩])
    .ret))))
def r66 : List DR := [.tmp 2]
theorem c66_ok : Try.f66.body.bind (cCode Try.prog) = some c66 := by kernel_rfl
theorem r66_ok : cRes Try.prog Try.f66.results.toList = some r66 := by kernel_rfl

/-- given.example/pub-assaymark/impl.protoSettings -/
def c67 : DC :=
  (.seq (.rg [⟨(some 2), .mov (.c (.p (.slice none 0 0))), none⟩])
    (.seq (.seq (.rg [⟨(some 6), .mov (.t 0), none⟩,
      ⟨(some 7), .lenl (.t 6), none⟩,
      ⟨(some 8), .mov (.c (.p (.int .i64 0))), none⟩])
    (.block 0 (.loop (.seq (.rg [⟨(some 9), .bin .lss (.t 8) (.t 7), none⟩])
      (.seq (.cond (.t 9) .skip
        (.exit 0))
      (.seq (.block 1 (.seq (.rg [⟨(some 10), .iaddr 6 (.t 6) (.t 8), none⟩,
         ⟨(some 11), .load true 6 (.t 10), none⟩,
         ⟨(some 4), .alloc 6 (.agg [.p (.string ⟨#[]⟩), .p (.int .i64 0), .p (.string ⟨#[]⟩), .p (.int .i64 0), .p (.bool false), .p (.bool false)]), none⟩,
         ⟨none, .store 6 (.t 4) (.t 11), none⟩])
       (.seq (.rg [⟨(some 12), .faddr false 0 1 (.t 4), none⟩,
         ⟨(some 13), .load false 1 (.t 12), none⟩,
         ⟨(some 14), .faddr false 4 1 (.t 4), none⟩,
         ⟨(some 15), .load false 1 (.t 14), none⟩,
         ⟨(some 16), .faddr false 5 1 (.t 4), none⟩,
         ⟨(some 17), .load false 1 (.t 16), none⟩,
         ⟨(some 18), .bld [.p (.string ⟨#[]⟩), .p .nilIface, .p (.bool false), .p (.bool false)] [(0, 1, (.t 13)), (2, 1, (.t 15)), (3, 1, (.t 17))], none⟩,
         ⟨(some 5), .alloc 4 (.agg [.p (.string ⟨#[]⟩), .p .nilIface, .p (.bool false), .p (.bool false)]), none⟩,
         ⟨none, .store 4 (.t 5) (.t 18), none⟩])
       (.seq (.seq (.rg [⟨(some 19), .faddr false 1 1 (.t 4), none⟩,
         ⟨(some 20), .load false 1 (.t 19), none⟩])
       (.block 2 (.seq (.rg [⟨(some 22), .bin .eql (.t 20) (.c (.p (.int .i64 0))), none⟩,
          ⟨(some 21), .mov (.t 22), none⟩])
        (.cond (.t 21) (.rg [⟨(some 23), .faddr false 2 1 (.t 4), none⟩,
            ⟨(some 24), .load false 1 (.t 23), none⟩,
            ⟨(some 25), .ifc 9 (.t 24), none⟩,
            ⟨(some 26), .faddr false 1 1 (.t 5), none⟩,
            ⟨none, .store 1 (.t 26) (.t 25), none⟩])
          (.seq (.rg [⟨(some 28), .bin .eql (.t 20) (.c (.p (.int .i64 1))), none⟩,
            ⟨(some 27), .mov (.t 28), none⟩])
          (.cond (.t 27) (.rg [⟨(some 29), .faddr false 3 1 (.t 4), none⟩,
              ⟨(some 30), .load false 1 (.t 29), none⟩,
              ⟨(some 31), .ifc 3 (.t 30), none⟩,
              ⟨(some 32), .faddr false 1 1 (.t 5), none⟩,
              ⟨none, .store 1 (.t 32) (.t 31), none⟩])
            (.seq (.rg [⟨(some 34), .bin .eql (.t 20) (.c (.p (.int .i64 2))), none⟩,
              ⟨(some 33), .mov (.t 34), none⟩])
            (.cond (.t 33) (.rg [⟨(some 35), .faddr false 3 1 (.t 4), none⟩,
                ⟨(some 36), .load false 1 (.t 35), none⟩,
                ⟨(some 37), .bin .eql (.t 36) (.c (.p (.int .i64 1))), none⟩,
                ⟨(some 38), .ifc 4 (.t 37), none⟩,
                ⟨(some 39), .faddr false 1 1 (.t 5), none⟩,
                ⟨none, .store 1 (.t 39) (.t 38), none⟩])
              .skip))))))))
       (.rg [⟨(some 40), .mov (.t 2), none⟩,
         ⟨(some 41), .load true 4 (.t 5), none⟩,
         ⟨(some 42), .lit 4 [(.t 41)], none⟩,
         ⟨(some 43), .app 4 40 (.t 40) (.t 42), none⟩,
         ⟨(some 2), .mov (.t 43), none⟩])))))
      (.rg [⟨(some 44), .bin .add (.t 8) (.c (.p (.int .i64 1))), none⟩,
        ⟨(some 8), .mov (.t 44), none⟩])))))))
    (.seq (.rg [⟨(some 45), .mov (.t 2), none⟩,
      ⟨(some 2), .mov (.t 45), none⟩])
    .ret)))
def r67 : List DR := [.tmp 2]
theorem c67_ok : Try.f67.body.bind (cCode Try.prog) = some c67 := by kernel_rfl
theorem r67_ok : cRes Try.prog Try.f67.results.toList = some r67 := by kernel_rfl

/-- (given.example/pub-assaymark/pub/clickhousego/lib/proto.Settings).Encode -/
def c68 : DC :=
  (.seq (.rg [⟨(some 6), .mov (.c (.p .nilIface)), none⟩])
    (.seq (.seq (.rg [⟨(some 10), .mov (.t 0), none⟩,
      ⟨(some 11), .lenl (.t 10), none⟩,
      ⟨(some 12), .mov (.c (.p (.int .i64 0))), none⟩])
    (.block 0 (.loop (.seq (.rg [⟨(some 13), .bin .lss (.t 12) (.t 11), none⟩])
      (.seq (.cond (.t 13) .skip
        (.exit 0))
      (.seq (.block 1 (.seq (.rg [⟨(some 14), .iaddr 4 (.t 10) (.t 12), none⟩,
         ⟨(some 15), .load true 4 (.t 14), none⟩,
         ⟨(some 8), .alloc 4 (.agg [.p (.string ⟨#[]⟩), .p .nilIface, .p (.bool false), .p (.bool false)]), none⟩,
         ⟨none, .store 4 (.t 8) (.t 15), none⟩])
       (.seq (.rg [⟨(some 16), .mov (.t 1), none⟩,
         ⟨(some 17), .mov (.t 2), none⟩,
         ⟨(some 18), .callr 110 [(.t 8), (.t 16), (.t 17)], none⟩,
         ⟨(some 9), .mov (.t 18), none⟩])
       (.seq (.rg [⟨(some 19), .mov (.t 9), none⟩,
         ⟨(some 20), .eqn true .iface (.t 19), none⟩])
       (.cond (.t 20) (.seq (.rg [⟨(some 21), .mov (.t 9), none⟩,
           ⟨(some 6), .mov (.t 21), none⟩])
         .ret)
         .skip)))))
      (.rg [⟨(some 22), .bin .add (.t 12) (.c (.p (.int .i64 1))), none⟩,
        ⟨(some 12), .mov (.t 22), none⟩])))))))
    (.seq (.rg [⟨(some 6), .mov (.c (.p .nilIface)), none⟩])
    .ret)))
def r68 : List DR := [.tmp 6]
theorem c68_ok : Try.f68.body.bind (cCode Try.prog) = some c68 := by kernel_rfl
theorem r68_ok : cRes Try.prog Try.f68.results.toList = some r68 := by kernel_rfl

/-- given.example/pub-assaymark/spec.settingText -/
def c69 : DC :=
  (.seq (.rg [⟨(some 1), .box (.t 0), none⟩,
      ⟨(some 2), .mov (.c (.p (.string ⟨#[]⟩))), none⟩])
    (.seq (.seq (.rg [⟨(some 3), .faddr false 1 1 (.t 1), none⟩,
      ⟨(some 4), .load false 1 (.t 3), none⟩])
    (.block 0 (.seq (.rg [⟨(some 6), .bin .eql (.t 4) (.c (.p (.int .i64 1))), none⟩,
       ⟨(some 5), .mov (.t 6), none⟩])
     (.cond (.t 5) (.seq (.rg [⟨(some 7), .faddr false 3 1 (.t 1), none⟩,
         ⟨(some 8), .load false 1 (.t 7), none⟩,
         ⟨(some 9), .callr 111 [(.t 8)], none⟩,
         ⟨(some 2), .mov (.t 9), none⟩])
       .ret)
       (.seq (.rg [⟨(some 11), .bin .eql (.t 4) (.c (.p (.int .i64 2))), none⟩,
         ⟨(some 10), .mov (.t 11), none⟩])
       (.cond (.t 10) (.seq (.seq (.rg [⟨(some 12), .faddr false 3 1 (.t 1), none⟩,
           ⟨(some 13), .load false 1 (.t 12), none⟩,
           ⟨(some 14), .bin .eql (.t 13) (.c (.p (.int .i64 1))), none⟩])
         (.cond (.t 14) (.seq (.rg [⟨(some 2), .mov (.c (.p (.string ⟨#[116, 114, 117, 101]⟩))), none⟩])
           .ret)
           .skip))
         (.seq (.rg [⟨(some 2), .mov (.c (.p (.string ⟨#[102, 97, 108, 115, 101]⟩))), none⟩])
         .ret))
         .skip))))))
    (.seq (.rg [⟨(some 15), .faddr false 2 1 (.t 1), none⟩,
      ⟨(some 16), .load false 1 (.t 15), none⟩,
      ⟨(some 2), .mov (.t 16), none⟩])
    .ret)))
def r69 : List DR := [.tmp 2]
theorem c69_ok : Try.f69.body.bind (cCode Try.prog) = some c69 := by kernel_rfl
theorem r69_ok : cRes Try.prog Try.f69.results.toList = some r69 := by kernel_rfl

/-- given.example/pub-assaymark/pub/lightstrconv.FormatBool -/
def c108 : DC :=
  (.seq (.rg [⟨(some 2), .mov (.c (.p (.string ⟨#[]⟩))), none⟩])
    (.seq (.seq (.rg [⟨(some 3), .mov (.t 0), none⟩])
    (.cond (.t 3) (.seq (.rg [⟨(some 2), .mov (.c (.p (.string ⟨#[116, 114, 117, 101]⟩))), none⟩])
      .ret)
      .skip))
    (.seq (.rg [⟨(some 2), .mov (.c (.p (.string ⟨#[102, 97, 108, 115, 101]⟩))), none⟩])
    .ret)))
def r108 : List DR := [.tmp 2]
theorem c108_ok : Try.f108.body.bind (cCode Try.prog) = some c108 := by kernel_rfl
theorem r108_ok : cRes Try.prog Try.f108.results.toList = some r108 := by kernel_rfl

/-- (*given.example/pub-assaymark/pub/clickhousego/lib/proto.Setting).encode -/
def c110 : DC :=
  (.seq (.rg [⟨(some 6), .mov (.c (.p .nilIface)), none⟩])
    (.seq (.rg [⟨(some 14), .mov (.t 1), none⟩,
      ⟨(some 15), .mov (.t 0), none⟩,
      ⟨(some 16), .nilchk .ptr (.t 15), none⟩,
      ⟨(some 17), .faddr false 0 1 (.t 16), none⟩,
      ⟨(some 18), .load false 1 (.t 17), none⟩,
      ⟨(some 19), .callr 100 [(.t 14), (.t 18)], none⟩])
    (.seq (.seq (.rg [⟨(some 20), .mov (.t 2), none⟩,
      ⟨(some 21), .bin .leq (.t 20) (.c (.p (.int .u64 54429))), none⟩])
    (.cond (.t 21) (.seq (.rg [⟨(some 7), .mov (.c (.p (.int .u64 0))), none⟩])
      (.seq (.seq (.rg [⟨(some 22), .mov (.t 0), none⟩,
        ⟨(some 23), .nilchk .ptr (.t 22), none⟩,
        ⟨(some 24), .faddr false 1 1 (.t 23), none⟩,
        ⟨(some 25), .load false 1 (.t 24), none⟩])
      (.block 0 (.seq (.rg [⟨(some 27), .tas 3 (.p (.int .i64 0)) true (.t 25), none⟩,
         ⟨(some 28), .ext (.t 27) 1, none⟩,
         ⟨(some 29), .ext (.t 27) 0, none⟩])
       (.cond (.t 28) (.seq (.rg [⟨(some 8), .mov (.t 29), none⟩])
         (.rg [⟨(some 30), .mov (.t 8), none⟩,
           ⟨(some 31), .cint .u64 (.t 30), none⟩,
           ⟨(some 7), .mov (.t 31), none⟩]))
         (.seq (.rg [⟨(some 32), .tas 4 (.p (.bool false)) true (.t 25), none⟩,
           ⟨(some 33), .ext (.t 32) 1, none⟩,
           ⟨(some 34), .ext (.t 32) 0, none⟩])
         (.cond (.t 33) (.seq (.rg [⟨(some 9), .mov (.t 34), none⟩])
           (.seq (.rg [⟨(some 7), .mov (.c (.p (.int .u64 0))), none⟩])
           (.seq (.rg [⟨(some 35), .mov (.t 9), none⟩])
           (.cond (.t 35) (.rg [⟨(some 7), .mov (.c (.p (.int .u64 1))), none⟩])
             .skip))))
           (.seq (.rg [⟨(some 10), .mov (.t 25), none⟩])
           (.seq (.rg [⟨(some 26), .callr 114 [(.c (.p (.string ⟨#[113, 117, 101, 114, 121, 32, 115, 101, 116, 116, 105, 110, 103, 32, 37, 115, 32, 104, 97, 115, 32, 117, 110, 115, 117, 112, 112, 111, 114, 116, 101, 100, 32, 100, 97, 116, 97, 32, 116, 121, 112, 101]⟩)))], none⟩,
             ⟨(some 6), .mov (.t 26), none⟩])
           .ret))))))))
      (.seq (.rg [⟨(some 36), .mov (.t 1), none⟩,
        ⟨(some 37), .mov (.t 7), none⟩,
        ⟨(some 38), .callr 101 [(.t 36), (.t 37)], none⟩])
      (.seq (.rg [⟨(some 6), .mov (.c (.p .nilIface)), none⟩])
      .ret))))
      .skip))
    (.seq (.seq (.rg [⟨(some 11), .mov (.c (.p (.int .u64 0))), none⟩])
    (.seq (.seq (.rg [⟨(some 39), .mov (.t 0), none⟩,
      ⟨(some 40), .nilchk .ptr (.t 39), none⟩,
      ⟨(some 41), .faddr false 2 1 (.t 40), none⟩,
      ⟨(some 42), .load false 1 (.t 41), none⟩])
    (.cond (.t 42) (.rg [⟨(some 43), .mov (.t 11), none⟩,
        ⟨(some 44), .bin .or (.t 43) (.c (.p (.int .u64 1))), none⟩,
        ⟨(some 11), .mov (.t 44), none⟩])
      .skip))
    (.seq (.seq (.rg [⟨(some 45), .mov (.t 0), none⟩,
      ⟨(some 46), .nilchk .ptr (.t 45), none⟩,
      ⟨(some 47), .faddr false 3 1 (.t 46), none⟩,
      ⟨(some 48), .load false 1 (.t 47), none⟩])
    (.cond (.t 48) (.rg [⟨(some 49), .mov (.t 11), none⟩,
        ⟨(some 50), .bin .or (.t 49) (.c (.p (.int .u64 2))), none⟩,
        ⟨(some 11), .mov (.t 50), none⟩])
      .skip))
    (.rg [⟨(some 51), .mov (.t 1), none⟩,
      ⟨(some 52), .mov (.t 11), none⟩,
      ⟨(some 53), .callr 101 [(.t 51), (.t 52)], none⟩]))))
    (.seq (.seq (.rg [⟨(some 54), .mov (.t 0), none⟩,
      ⟨(some 55), .nilchk .ptr (.t 54), none⟩,
      ⟨(some 56), .faddr false 3 1 (.t 55), none⟩,
      ⟨(some 57), .load false 1 (.t 56), none⟩])
    (.cond (.t 57) (.seq (.rg [⟨(some 59), .mov (.t 0), none⟩,
        ⟨(some 60), .nilchk .ptr (.t 59), none⟩,
        ⟨(some 61), .faddr false 1 1 (.t 60), none⟩,
        ⟨(some 62), .load false 1 (.t 61), none⟩,
        ⟨(some 63), .callr 138 [(.t 62)], none⟩,
        ⟨(some 58), .mov (.t 63), none⟩,
        ⟨(some 64), .ext (.t 58) 0, none⟩,
        ⟨(some 65), .ext (.t 58) 1, none⟩,
        ⟨(some 12), .mov (.t 64), none⟩,
        ⟨(some 13), .mov (.t 65), none⟩])
      (.seq (.seq (.rg [⟨(some 66), .mov (.t 13), none⟩,
        ⟨(some 67), .eqn true .iface (.t 66), none⟩])
      (.cond (.t 67) (.seq (.rg [⟨(some 68), .mov (.t 13), none⟩,
          ⟨(some 6), .mov (.t 68), none⟩])
        .ret)
        .skip))
      (.rg [⟨(some 69), .mov (.t 1), none⟩,
        ⟨(some 70), .mov (.t 12), none⟩,
        ⟨(some 71), .callr 100 [(.t 69), (.t 70)], none⟩])))
      (.rg [⟨(some 72), .mov (.t 1), none⟩,
        ⟨(some 73), .mov (.t 0), none⟩,
        ⟨(some 74), .nilchk .ptr (.t 73), none⟩,
        ⟨(some 75), .faddr false 1 1 (.t 74), none⟩,
        ⟨(some 76), .load false 1 (.t 75), none⟩,
        ⟨(some 77), .callr 146 [(.t 76)], none⟩,
        ⟨(some 78), .callr 100 [(.t 72), (.t 77)], none⟩])))
    (.seq (.rg [⟨(some 6), .mov (.c (.p .nilIface)), none⟩])
    .ret))))))
def r110 : List DR := [.tmp 6]
theorem c110_ok : Try.f110.body.bind (cCode Try.prog) = some c110 := by kernel_rfl
theorem r110_ok : cRes Try.prog Try.f110.results.toList = some r110 := by kernel_rfl

/-- given.example/pub-assaymark/spec.protoDecimal -/
def c111 : DC :=
  (.seq (.rg [⟨(some 2), .mov (.c (.p (.string ⟨#[]⟩))), none⟩])
    (.seq (.seq (.rg [⟨(some 5), .mov (.t 0), none⟩,
      ⟨(some 6), .bin .eql (.t 5) (.c (.p (.int .i64 0))), none⟩])
    (.cond (.t 6) (.seq (.rg [⟨(some 2), .mov (.c (.p (.string ⟨#[48]⟩))), none⟩])
      .ret)
      .skip))
    (.seq (.rg [⟨(some 7), .mov (.t 0), none⟩,
      ⟨(some 8), .cint .u64 (.t 7), none⟩,
      ⟨(some 3), .mov (.c (.p (.string ⟨#[]⟩))), none⟩,
      ⟨(some 4), .mov (.t 8), none⟩])
    (.seq (.seq (.rg [⟨(some 9), .mov (.t 0), none⟩,
      ⟨(some 10), .bin .lss (.t 9) (.c (.p (.int .i64 0))), none⟩])
    (.cond (.t 10) (.rg [⟨(some 11), .mov (.t 4), none⟩,
        ⟨(some 12), .un .neg (.t 11), none⟩,
        ⟨(some 4), .mov (.t 12), none⟩])
      .skip))
    (.seq (.block 0 (.loop (.seq (.seq (.rg [⟨(some 13), .mov (.t 4), none⟩,
        ⟨(some 14), .bin .gtr (.t 13) (.c (.p (.int .u64 0))), none⟩])
      (.cond (.t 14) .skip
        (.exit 0)))
      (.block 1 (.seq (.rg [⟨(some 15), .mov (.t 4), none⟩,
         ⟨(some 16), .bin .rem (.t 15) (.c (.p (.int .u64 10))), none⟩,
         ⟨(some 17), .bin .add (.c (.p (.int .u64 48))) (.t 16), none⟩,
         ⟨(some 18), .cint .i32 (.t 17), none⟩,
         ⟨(some 19), .cstr (.t 18), none⟩,
         ⟨(some 20), .mov (.t 3), none⟩,
         ⟨(some 21), .bin .add (.t 19) (.t 20), none⟩,
         ⟨(some 3), .mov (.t 21), none⟩])
       (.rg [⟨(some 22), .mov (.t 4), none⟩,
         ⟨(some 23), .bin .quo (.t 22) (.c (.p (.int .u64 10))), none⟩,
         ⟨(some 4), .mov (.t 23), none⟩]))))))
    (.seq (.seq (.rg [⟨(some 24), .mov (.t 0), none⟩,
      ⟨(some 25), .bin .lss (.t 24) (.c (.p (.int .i64 0))), none⟩])
    (.cond (.t 25) (.rg [⟨(some 26), .mov (.t 3), none⟩,
        ⟨(some 27), .bin .add (.c (.p (.string ⟨#[45]⟩))) (.t 26), none⟩,
        ⟨(some 3), .mov (.t 27), none⟩])
      .skip))
    (.seq (.rg [⟨(some 28), .mov (.t 3), none⟩,
      ⟨(some 2), .mov (.t 28), none⟩])
    .ret)))))))
def r111 : List DR := [.tmp 2]
theorem c111_ok : Try.f111.body.bind (cCode Try.prog) = some c111 := by kernel_rfl
theorem r111_ok : cRes Try.prog Try.f111.results.toList = some r111 := by kernel_rfl

/-- given.example/pub-assaymark/pub/clickhousego/lib/proto.zzSprint -/
def c146 : DC :=
  (.seq (.rg [⟨(some 2), .mov (.c (.p (.string ⟨#[]⟩))), none⟩])
    (.seq (.seq (.rg [⟨(some 6), .mov (.t 0), none⟩])
    (.block 0 (.seq (.rg [⟨(some 7), .tas 9 (.p (.string ⟨#[]⟩)) true (.t 6), none⟩,
       ⟨(some 8), .ext (.t 7) 1, none⟩,
       ⟨(some 9), .ext (.t 7) 0, none⟩])
     (.cond (.t 8) (.seq (.rg [⟨(some 3), .mov (.t 9), none⟩])
       (.seq (.rg [⟨(some 10), .mov (.t 3), none⟩,
         ⟨(some 2), .mov (.t 10), none⟩])
       .ret))
       (.seq (.rg [⟨(some 11), .tas 3 (.p (.int .i64 0)) true (.t 6), none⟩,
         ⟨(some 12), .ext (.t 11) 1, none⟩,
         ⟨(some 13), .ext (.t 11) 0, none⟩])
       (.cond (.t 12) (.seq (.rg [⟨(some 4), .mov (.t 13), none⟩])
         (.seq (.rg [⟨(some 14), .mov (.t 4), none⟩,
           ⟨(some 15), .callr 173 [(.t 14)], none⟩,
           ⟨(some 2), .mov (.t 15), none⟩])
         .ret))
         (.seq (.rg [⟨(some 16), .tas 4 (.p (.bool false)) true (.t 6), none⟩,
           ⟨(some 17), .ext (.t 16) 1, none⟩,
           ⟨(some 18), .ext (.t 16) 0, none⟩])
         (.cond (.t 17) (.seq (.rg [⟨(some 5), .mov (.t 18), none⟩])
           (.seq (.rg [⟨(some 19), .mov (.t 5), none⟩,
             ⟨(some 20), .callr 108 [(.t 19)], none⟩,
             ⟨(some 2), .mov (.t 20), none⟩])
           .ret))
           .skip))))))))
    (.seq (.rg [⟨(some 2), .mov (.c (.p (.string ⟨#[]⟩))), none⟩])
    .ret)))
def r146 : List DR := [.tmp 2]
theorem c146_ok : Try.f146.body.bind (cCode Try.prog) = some c146 := by kernel_rfl
theorem r146_ok : cRes Try.prog Try.f146.results.toList = some r146 := by kernel_rfl

/-- given.example/pub-assaymark/pub/lightstrconv.Itoa -/
def c173 : DC :=
  (.seq (.rg [⟨(some 2), .mov (.c (.p (.string ⟨#[]⟩))), none⟩])
    (.seq (.rg [⟨(some 3), .mov (.t 0), none⟩,
      ⟨(some 4), .callr 188 [(.t 3), (.c (.p (.int .i64 10)))], none⟩,
      ⟨(some 2), .mov (.t 4), none⟩])
    .ret))
def r173 : List DR := [.tmp 2]
theorem c173_ok : Try.f173.body.bind (cCode Try.prog) = some c173 := by kernel_rfl
theorem r173_ok : cRes Try.prog Try.f173.results.toList = some r173 := by kernel_rfl

/-- given.example/pub-assaymark/pub/lightstrconv.FormatInt -/
def c188 : DC :=
  (.seq (.rg [⟨(some 4), .mov (.c (.p (.string ⟨#[]⟩))), none⟩])
    (.seq (.seq (.rg [⟨(some 5), .mov (.t 0), none⟩,
      ⟨(some 6), .bin .lss (.t 5) (.c (.p (.int .i64 0))), none⟩])
    (.cond (.t 6) (.seq (.rg [⟨(some 7), .mov (.t 0), none⟩,
        ⟨(some 8), .cint .u64 (.t 7), none⟩,
        ⟨(some 9), .un .neg (.t 8), none⟩,
        ⟨(some 10), .mov (.t 1), none⟩,
        ⟨(some 11), .callr 107 [(.t 9), (.t 10)], none⟩,
        ⟨(some 12), .bin .add (.c (.p (.string ⟨#[45]⟩))) (.t 11), none⟩,
        ⟨(some 4), .mov (.t 12), none⟩])
      .ret)
      .skip))
    (.seq (.rg [⟨(some 13), .mov (.t 0), none⟩,
      ⟨(some 14), .cint .u64 (.t 13), none⟩,
      ⟨(some 15), .mov (.t 1), none⟩,
      ⟨(some 16), .callr 107 [(.t 14), (.t 15)], none⟩,
      ⟨(some 4), .mov (.t 16), none⟩])
    .ret)))
def r188 : List DR := [.tmp 4]
theorem c188_ok : Try.f188.body.bind (cCode Try.prog) = some c188 := by kernel_rfl
theorem r188_ok : cRes Try.prog Try.f188.results.toList = some r188 := by kernel_rfl

end Go.Proofs.Ytbbafeocmchlnaa
