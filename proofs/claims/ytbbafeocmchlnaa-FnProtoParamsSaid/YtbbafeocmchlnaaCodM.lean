/- The codes of the functions, in the small language of Den. -/
import Derived.Test.YtbbafeocmchlnaaHeD
set_option linter.unusedVariables false
set_option linter.unusedSimpArgs false
set_option maxRecDepth 100000
namespace Go.Proofs.Ytbbafeocmchlnaa
open Go Go.Den Go.Proofs

/-- given.example/pub-assaymark/laws.FnProtoParams -/
def c4 : DC :=
  (.seq (.rg [⟨(some 4), .mov (.c (.p (.bool false))), none⟩])
    (.seq (.seq (.rg [⟨(some 9), .mov (.t 0), none⟩,
      ⟨(some 10), .callr 18 [(.t 9)], none⟩,
      ⟨(some 11), .un .not (.t 10), none⟩])
    (.cond (.t 11) (.seq (.rg [⟨(some 4), .mov (.c (.p (.bool true))), none⟩])
      .ret)
      .skip))
    (.seq (.seq (.rg [⟨(some 12), .mov (.t 0), none⟩,
      ⟨(some 13), .lenl (.t 12), none⟩,
      ⟨(some 14), .mov (.c (.p (.int .i64 0))), none⟩])
    (.block 0 (.loop (.seq (.rg [⟨(some 15), .bin .lss (.t 14) (.t 13), none⟩])
      (.seq (.cond (.t 15) .skip
        (.exit 0))
      (.seq (.block 1 (.seq (.rg [⟨(some 16), .iaddr 2 (.t 12) (.t 14), none⟩,
         ⟨(some 17), .load true 2 (.t 16), none⟩,
         ⟨(some 6), .alloc 2 (.agg [.p (.string ⟨#[]⟩), .p (.string ⟨#[]⟩)]), none⟩,
         ⟨none, .store 2 (.t 6) (.t 17), none⟩])
       (.seq (.rg [⟨(some 18), .load true 2 (.t 6), none⟩,
         ⟨(some 19), .callr 19 [(.t 18)], none⟩,
         ⟨(some 20), .un .not (.t 19), none⟩])
       (.cond (.t 20) (.seq (.rg [⟨(some 21), .callr 14 [], none⟩,
           ⟨(some 4), .mov (.t 21), none⟩])
         .ret)
         .skip))))
      (.rg [⟨(some 22), .bin .add (.t 14) (.c (.p (.int .i64 1))), none⟩,
        ⟨(some 14), .mov (.t 22), none⟩])))))))
    (.seq (.seq (.rg [⟨(some 23), .mov (.t 0), none⟩,
      ⟨(some 24), .lenl (.t 23), none⟩,
      ⟨(some 25), .bin .gtr (.t 24) (.c (.p (.int .i64 10))), none⟩])
    (.cond (.t 25) (.seq (.rg [⟨(some 26), .callr 14 [], none⟩,
        ⟨(some 4), .mov (.t 26), none⟩])
      .ret)
      .skip))
    (.seq (.rg [⟨(some 28), .mov (.t 0), none⟩,
      ⟨(some 29), .mov (.t 1), none⟩,
      ⟨(some 30), .callr 20 [(.t 28), (.t 29)], none⟩,
      ⟨(some 27), .mov (.t 30), none⟩,
      ⟨(some 31), .ext (.t 27) 0, none⟩,
      ⟨(some 32), .ext (.t 27) 1, none⟩,
      ⟨(some 7), .mov (.t 31), none⟩,
      ⟨(some 8), .mov (.t 32), none⟩])
    (.seq (.rg [⟨(some 33), .mov (.t 8), none⟩,
      ⟨(some 34), .mov (.t 33), none⟩,
      ⟨(some 35), .mov (.t 7), (some (34, true))⟩,
      ⟨(some 36), .mov (.t 0), (some (34, true))⟩,
      ⟨(some 37), .callr 21 [(.t 36)], (some (34, true))⟩,
      ⟨(some 38), .bin .eql (.t 35) (.t 37), (some (34, true))⟩,
      ⟨(some 39), .pick (.t 34) (.t 38) (.c (.p (.bool false))), none⟩,
      ⟨(some 40), .mov (.t 39), none⟩,
      ⟨(some 41), .callr 14 [], (some (40, true))⟩,
      ⟨(some 42), .pick (.t 40) (.t 41) (.c (.p (.bool false))), none⟩,
      ⟨(some 4), .mov (.t 42), none⟩])
    .ret))))))
def r4 : List DR := [.tmp 4]
theorem c4_ok : Try.f4.body.bind (cCode Try.prog) = some c4 := by kernel_rfl
theorem r4_ok : cRes Try.prog Try.f4.results.toList = some r4 := by kernel_rfl

/-- given.example/pub-assaymark/laws.zzFits26 -/
def c18 : DC :=
  (.seq (.rg [⟨(some 2), .mov (.c (.p (.bool false))), none⟩])
    (.seq (.seq (.rg [⟨(some 5), .mov (.t 0), none⟩,
      ⟨(some 6), .lenl (.t 5), none⟩,
      ⟨(some 7), .bin .gtr (.t 6) (.c (.p (.int .i64 2147483647))), none⟩])
    (.cond (.t 7) (.seq (.rg [⟨(some 2), .mov (.c (.p (.bool false))), none⟩])
      .ret)
      .skip))
    (.seq (.seq (.rg [⟨(some 8), .mov (.t 0), none⟩,
      ⟨(some 9), .lenl (.t 8), none⟩,
      ⟨(some 10), .mov (.c (.p (.int .i64 0))), none⟩])
    (.block 0 (.loop (.seq (.rg [⟨(some 11), .bin .lss (.t 10) (.t 9), none⟩])
      (.seq (.cond (.t 11) .skip
        (.exit 0))
      (.seq (.block 1 (.seq (.rg [⟨(some 12), .iaddr 2 (.t 8) (.t 10), none⟩,
         ⟨(some 13), .load true 2 (.t 12), none⟩,
         ⟨(some 4), .alloc 2 (.agg [.p (.string ⟨#[]⟩), .p (.string ⟨#[]⟩)]), none⟩,
         ⟨none, .store 2 (.t 4) (.t 13), none⟩])
       (.seq (.rg [⟨(some 14), .load true 2 (.t 4), none⟩,
         ⟨(some 15), .callr 55 [(.t 14)], none⟩,
         ⟨(some 16), .un .not (.t 15), none⟩])
       (.cond (.t 16) (.seq (.rg [⟨(some 2), .mov (.c (.p (.bool false))), none⟩])
         .ret)
         .skip))))
      (.rg [⟨(some 17), .bin .add (.t 10) (.c (.p (.int .i64 1))), none⟩,
        ⟨(some 10), .mov (.t 17), none⟩])))))))
    (.seq (.rg [⟨(some 2), .mov (.c (.p (.bool true))), none⟩])
    .ret))))
def r18 : List DR := [.tmp 2]
theorem c18_ok : Try.f18.body.bind (cCode Try.prog) = some c18 := by kernel_rfl
theorem r18_ok : cRes Try.prog Try.f18.results.toList = some r18 := by kernel_rfl

/-- given.example/pub-assaymark/laws.paramGood -/
def c19 : DC :=
  (.seq (.rg [⟨(some 1), .box (.t 0), none⟩,
      ⟨(some 2), .mov (.c (.p (.bool false))), none⟩])
    (.seq (.seq (.rg [⟨(some 4), .iaddra 2 1 false (.t 1) (.c (.p (.int .i64 1))), none⟩,
      ⟨(some 5), .load false 1 (.t 4), none⟩,
      ⟨(some 6), .lens (.t 5), none⟩,
      ⟨(some 7), .mov (.c (.p (.int .i64 0))), none⟩])
    (.block 0 (.loop (.seq (.rg [⟨(some 8), .bin .lss (.t 7) (.t 6), none⟩])
      (.seq (.cond (.t 8) .skip
        (.exit 0))
      (.seq (.block 1 (.seq (.rg [⟨(some 9), .mov (.t 7), none⟩,
         ⟨(some 3), .mov (.t 9), none⟩])
       (.seq (.rg [⟨(some 10), .iaddra 2 1 false (.t 1) (.c (.p (.int .i64 1))), none⟩,
         ⟨(some 11), .load false 1 (.t 10), none⟩,
         ⟨(some 12), .mov (.t 3), none⟩,
         ⟨(some 13), .idxs (.t 11) (.t 12), none⟩,
         ⟨(some 14), .bin .lss (.t 13) (.c (.p (.int .u8 32))), none⟩,
         ⟨(some 15), .mov (.t 14), none⟩,
         ⟨(some 16), .iaddra 2 1 false (.t 1) (.c (.p (.int .i64 1))), (some (15, false))⟩,
         ⟨(some 17), .load false 1 (.t 16), (some (15, false))⟩,
         ⟨(some 18), .mov (.t 3), (some (15, false))⟩,
         ⟨(some 19), .idxs (.t 17) (.t 18), (some (15, false))⟩,
         ⟨(some 20), .bin .geq (.t 19) (.c (.p (.int .u8 127))), (some (15, false))⟩,
         ⟨(some 21), .pick (.t 15) (.c (.p (.bool true))) (.t 20), none⟩])
       (.cond (.t 21) (.seq (.rg [⟨(some 2), .mov (.c (.p (.bool false))), none⟩])
         .ret)
         .skip))))
      (.rg [⟨(some 22), .bin .add (.t 7) (.c (.p (.int .i64 1))), none⟩,
        ⟨(some 7), .mov (.t 22), none⟩])))))))
    (.seq (.rg [⟨(some 23), .iaddra 2 1 false (.t 1) (.c (.p (.int .i64 0))), none⟩,
      ⟨(some 24), .load false 1 (.t 23), none⟩,
      ⟨(some 25), .bin .neq (.t 24) (.c (.p (.string ⟨#[]⟩))), none⟩,
      ⟨(some 26), .mov (.t 25), none⟩,
      ⟨(some 27), .iaddra 2 1 false (.t 1) (.c (.p (.int .i64 0))), (some (26, true))⟩,
      ⟨(some 28), .load false 1 (.t 27), (some (26, true))⟩,
      ⟨(some 29), .iaddra 2 1 false (.t 1) (.c (.p (.int .i64 1))), (some (26, true))⟩,
      ⟨(some 30), .load false 1 (.t 29), (some (26, true))⟩,
      ⟨(some 31), .lit 1 [(.t 28), (.t 30)], (some (26, true))⟩,
      ⟨(some 32), .callr 13 [(.t 31)], (some (26, true))⟩,
      ⟨(some 33), .pick (.t 26) (.t 32) (.c (.p (.bool false))), none⟩,
      ⟨(some 2), .mov (.t 33), none⟩])
    .ret)))
def r19 : List DR := [.tmp 2]
theorem c19_ok : Try.f19.body.bind (cCode Try.prog) = some c19 := by kernel_rfl
theorem r19_ok : cRes Try.prog Try.f19.results.toList = some r19 := by kernel_rfl

/-- given.example/pub-assaymark/impl.ProtoParams -/
def c20 : DC :=
  (.seq (.rg [⟨(some 4), .mov (.c (.p (.string ⟨#[]⟩))), none⟩,
      ⟨(some 5), .mov (.c (.p (.bool false))), none⟩])
    (.seq (.rg [⟨(some 8), .alloc 1 (.agg [.p (.slice none 0 0)]), none⟩,
      ⟨(some 6), .mov (.t 8), none⟩])
    (.seq (.rg [⟨(some 9), .mov (.t 0), none⟩,
      ⟨(some 10), .callr 56 [(.t 9)], none⟩,
      ⟨(some 11), .mov (.t 6), none⟩,
      ⟨(some 12), .mov (.t 1), none⟩,
      ⟨(some 13), .callr 57 [(.t 10), (.t 11), (.t 12)], none⟩,
      ⟨(some 7), .mov (.t 13), none⟩])
    (.seq (.rgd [⟨⟨(some 14), .mov (.t 6), none⟩, 0, []⟩,
      ⟨⟨(some 15), .nilchk .ptr (.t 14), none⟩, 0, [0]⟩,
      ⟨⟨(some 16), .faddr false 0 1 (.t 15), none⟩, 0, [0]⟩,
      ⟨⟨(some 17), .load false 1 (.t 16), none⟩, 0, [0]⟩,
      ⟨⟨(some 18), .b2s (.t 17), none⟩, 0, [0]⟩,
      ⟨⟨(some 19), .mov (.t 7), none⟩, 0, [0]⟩,
      ⟨⟨(some 20), .eqn false .iface (.t 19), none⟩, 0, [0]⟩,
      ⟨⟨(some 4), .mov (.t 18), none⟩, 0, []⟩,
      ⟨⟨(some 5), .mov (.t 20), none⟩, 0, []⟩])
    .ret))))
def r20 : List DR := [.tmp 4, .tmp 5]
theorem c20_ok : Try.f20.body.bind (cCode Try.prog) = some c20 := by kernel_rfl
theorem r20_ok : cRes Try.prog Try.f20.results.toList = some r20 := by kernel_rfl

/-- given.example/pub-assaymark/spec.ProtoParamsTell -/
def c21 : DC :=
  (.seq (.rg [⟨(some 2), .mov (.c (.p (.string ⟨#[]⟩))), none⟩])
    (.seq (.rg [⟨(some 3), .mov (.c (.p (.string ⟨#[]⟩))), none⟩])
    (.seq (.seq (.rg [⟨(some 6), .mov (.t 0), none⟩,
      ⟨(some 7), .lenl (.t 6), none⟩,
      ⟨(some 8), .mov (.c (.p (.int .i64 0))), none⟩])
    (.block 0 (.loop (.seq (.rg [⟨(some 9), .bin .lss (.t 8) (.t 7), none⟩])
      (.seq (.cond (.t 9) .skip
        (.exit 0))
      (.seq (.block 1 (.seq (.rg [⟨(some 10), .iaddr 2 (.t 6) (.t 8), none⟩,
         ⟨(some 11), .load true 2 (.t 10), none⟩,
         ⟨(some 5), .alloc 2 (.agg [.p (.string ⟨#[]⟩), .p (.string ⟨#[]⟩)]), none⟩,
         ⟨none, .store 2 (.t 5) (.t 11), none⟩])
       (.rgd [⟨⟨(some 12), .mov (.t 3), none⟩, 0, [0]⟩,
         ⟨⟨(some 13), .iaddra 2 1 false (.t 5) (.c (.p (.int .i64 0))), none⟩, 0, [0]⟩,
         ⟨⟨(some 14), .load false 1 (.t 13), none⟩, 0, [0]⟩,
         ⟨⟨(some 15), .call 16 [(.t 14)], none⟩, 0, [0]⟩,
         ⟨⟨(some 16), .call 17 [(.c (.p (.int .u64 2)))], none⟩, 1, [0]⟩,
         ⟨⟨(some 17), .bin .add (.t 15) (.t 16), none⟩, 2, [0]⟩,
         ⟨⟨(some 18), .iaddra 2 1 false (.t 5) (.c (.p (.int .i64 1))), none⟩, 0, [0]⟩,
         ⟨⟨(some 19), .load false 1 (.t 18), none⟩, 0, [0]⟩,
         ⟨⟨(some 20), .call 58 [(.t 19)], none⟩, 2, []⟩,
         ⟨⟨(some 21), .call 16 [(.t 20)], none⟩, 3, []⟩,
         ⟨⟨(some 22), .bin .add (.t 17) (.t 21), none⟩, 4, []⟩,
         ⟨⟨(some 23), .bin .add (.t 12) (.t 22), none⟩, 4, []⟩,
         ⟨⟨(some 3), .mov (.t 23), none⟩, 4, []⟩])))
      (.rg [⟨(some 24), .bin .add (.t 8) (.c (.p (.int .i64 1))), none⟩,
        ⟨(some 8), .mov (.t 24), none⟩])))))))
    (.seq (.rg [⟨(some 25), .mov (.t 3), none⟩,
      ⟨(some 2), .mov (.t 25), none⟩])
    .ret))))
def r21 : List DR := [.tmp 2]
theorem c21_ok : Try.f21.body.bind (cCode Try.prog) = some c21 := by kernel_rfl
theorem r21_ok : cRes Try.prog Try.f21.results.toList = some r21 := by kernel_rfl

/-- given.example/pub-assaymark/laws.zzFits27 -/
def c55 : DC :=
  (.seq (.rg [⟨(some 1), .box (.t 0), none⟩,
      ⟨(some 2), .mov (.c (.p (.bool false))), none⟩])
    (.seq (.seq (.rg [⟨(some 5), .load true 2 (.t 1), none⟩,
      ⟨(some 6), .mov (.c (.p (.int .i64 0))), none⟩])
    (.block 0 (.loop (.seq (.rg [⟨(some 7), .bin .lss (.t 6) (.c (.p (.int .i64 2))), none⟩])
      (.seq (.cond (.t 7) .skip
        (.exit 0))
      (.seq (.block 1 (.seq (.rg [⟨(some 8), .idxa 2 1 false (.t 5) (.t 6), none⟩,
         ⟨(some 4), .mov (.t 8), none⟩])
       (.seq (.rg [⟨(some 9), .mov (.t 4), none⟩,
         ⟨(some 10), .lens (.t 9), none⟩,
         ⟨(some 11), .bin .gtr (.t 10) (.c (.p (.int .i64 2147483647))), none⟩])
       (.cond (.t 11) (.seq (.rg [⟨(some 2), .mov (.c (.p (.bool false))), none⟩])
         .ret)
         .skip))))
      (.rg [⟨(some 12), .bin .add (.t 6) (.c (.p (.int .i64 1))), none⟩,
        ⟨(some 6), .mov (.t 12), none⟩])))))))
    (.seq (.rg [⟨(some 2), .mov (.c (.p (.bool true))), none⟩])
    .ret)))
def r55 : List DR := [.tmp 2]
theorem c55_ok : Try.f55.body.bind (cCode Try.prog) = some c55 := by kernel_rfl
theorem r55_ok : cRes Try.prog Try.f55.results.toList = some r55 := by kernel_rfl

/-- given.example/pub-assaymark/impl.protoParams -/
def c56 : DC :=
  (.seq (.rg [⟨(some 2), .mov (.c (.p (.slice none 0 0))), none⟩])
    (.seq (.seq (.rg [⟨(some 5), .mov (.t 0), none⟩,
      ⟨(some 6), .lenl (.t 5), none⟩,
      ⟨(some 7), .mov (.c (.p (.int .i64 0))), none⟩])
    (.block 0 (.loop (.seq (.rg [⟨(some 8), .bin .lss (.t 7) (.t 6), none⟩])
      (.seq (.cond (.t 8) .skip
        (.exit 0))
      (.seq (.block 1 (.seq (.rg [⟨(some 9), .iaddr 2 (.t 5) (.t 7), none⟩,
         ⟨(some 10), .load true 2 (.t 9), none⟩,
         ⟨(some 4), .alloc 2 (.agg [.p (.string ⟨#[]⟩), .p (.string ⟨#[]⟩)]), none⟩,
         ⟨none, .store 2 (.t 4) (.t 10), none⟩])
       (.rg [⟨(some 11), .mov (.t 2), none⟩,
         ⟨(some 12), .iaddra 2 1 false (.t 4) (.c (.p (.int .i64 0))), none⟩,
         ⟨(some 13), .load false 1 (.t 12), none⟩,
         ⟨(some 14), .iaddra 2 1 false (.t 4) (.c (.p (.int .i64 1))), none⟩,
         ⟨(some 15), .load false 1 (.t 14), none⟩,
         ⟨(some 16), .bld [.p (.string ⟨#[]⟩), .p (.string ⟨#[]⟩)] [(0, 1, (.t 13)), (1, 1, (.t 15))], none⟩,
         ⟨(some 17), .lit 2 [(.t 16)], none⟩,
         ⟨(some 18), .app 2 32 (.t 11) (.t 17), none⟩,
         ⟨(some 2), .mov (.t 18), none⟩])))
      (.rg [⟨(some 19), .bin .add (.t 7) (.c (.p (.int .i64 1))), none⟩,
        ⟨(some 7), .mov (.t 19), none⟩])))))))
    (.seq (.rg [⟨(some 20), .mov (.t 2), none⟩,
      ⟨(some 2), .mov (.t 20), none⟩])
    .ret)))
def r56 : List DR := [.tmp 2]
theorem c56_ok : Try.f56.body.bind (cCode Try.prog) = some c56 := by kernel_rfl
theorem r56_ok : cRes Try.prog Try.f56.results.toList = some r56 := by kernel_rfl

/-- (given.example/pub-assaymark/pub/clickhousego/lib/proto.Parameters).Encode -/
def c57 : DC :=
  (.seq (.rg [⟨(some 6), .mov (.c (.p .nilIface)), none⟩])
    (.seq (.seq (.rg [⟨(some 10), .mov (.t 0), none⟩,
      ⟨(some 11), .lenl (.t 10), none⟩,
      ⟨(some 12), .mov (.c (.p (.int .i64 0))), none⟩])
    (.block 0 (.loop (.seq (.rg [⟨(some 13), .bin .lss (.t 12) (.t 11), none⟩])
      (.seq (.cond (.t 13) .skip
        (.exit 0))
      (.seq (.block 1 (.seq (.rg [⟨(some 14), .iaddr 2 (.t 10) (.t 12), none⟩,
         ⟨(some 15), .load true 2 (.t 14), none⟩,
         ⟨(some 8), .alloc 2 (.agg [.p (.string ⟨#[]⟩), .p (.string ⟨#[]⟩)]), none⟩,
         ⟨none, .store 2 (.t 8) (.t 15), none⟩])
       (.seq (.rg [⟨(some 16), .mov (.t 1), none⟩,
         ⟨(some 17), .mov (.t 2), none⟩,
         ⟨(some 18), .callr 102 [(.t 8), (.t 16), (.t 17)], none⟩,
         ⟨(some 9), .mov (.t 18), none⟩])
       (.seq (.rg [⟨(some 19), .mov (.t 9), none⟩,
         ⟨(some 20), .eqn true .iface (.t 19), none⟩])
       (.cond (.t 20) (.seq (.rg [⟨(some 21), .mov (.t 9), none⟩,
           ⟨(some 6), .mov (.t 21), none⟩])
         .ret)
         .skip)))))
      (.rg [⟨(some 22), .bin .add (.t 12) (.c (.p (.int .i64 1))), none⟩,
        ⟨(some 12), .mov (.t 22), none⟩])))))))
    (.seq (.rg [⟨(some 6), .mov (.c (.p .nilIface)), none⟩])
    .ret)))
def r57 : List DR := [.tmp 6]
theorem c57_ok : Try.f57.body.bind (cCode Try.prog) = some c57 := by kernel_rfl
theorem r57_ok : cRes Try.prog Try.f57.results.toList = some r57 := by kernel_rfl

/-- given.example/pub-assaymark/spec.protoQuoted -/
def c58 : DC :=
  (.seq (.rg [⟨(some 2), .mov (.c (.p (.string ⟨#[]⟩))), none⟩])
    (.seq (.rg [⟨(some 5), .lit 1 [(.c (.p (.int .u8 39)))], none⟩,
      ⟨(some 3), .mov (.t 5), none⟩])
    (.seq (.seq (.rg [⟨(some 6), .mov (.t 0), none⟩,
      ⟨(some 7), .lens (.t 6), none⟩,
      ⟨(some 8), .mov (.c (.p (.int .i64 0))), none⟩])
    (.block 0 (.loop (.seq (.rg [⟨(some 9), .bin .lss (.t 8) (.t 7), none⟩])
      (.seq (.cond (.t 9) .skip
        (.exit 0))
      (.seq (.block 1 (.seq (.rg [⟨(some 10), .mov (.t 8), none⟩,
         ⟨(some 4), .mov (.t 10), none⟩])
       (.seq (.seq (.rg [⟨(some 11), .mov (.t 0), none⟩,
         ⟨(some 12), .mov (.t 4), none⟩,
         ⟨(some 13), .idxs (.t 11) (.t 12), none⟩,
         ⟨(some 14), .bin .eql (.t 13) (.c (.p (.int .u8 39))), none⟩,
         ⟨(some 15), .mov (.t 14), none⟩,
         ⟨(some 16), .mov (.t 0), (some (15, false))⟩,
         ⟨(some 17), .mov (.t 4), (some (15, false))⟩,
         ⟨(some 18), .idxs (.t 16) (.t 17), (some (15, false))⟩,
         ⟨(some 19), .bin .eql (.t 18) (.c (.p (.int .u8 92))), (some (15, false))⟩,
         ⟨(some 20), .pick (.t 15) (.c (.p (.bool true))) (.t 19), none⟩])
       (.cond (.t 20) (.rg [⟨(some 21), .mov (.t 3), none⟩,
           ⟨(some 22), .lit 1 [(.c (.p (.int .u8 92)))], none⟩,
           ⟨(some 23), .app 1 1 (.t 21) (.t 22), none⟩,
           ⟨(some 3), .mov (.t 23), none⟩])
         .skip))
       (.rg [⟨(some 24), .mov (.t 3), none⟩,
         ⟨(some 25), .mov (.t 0), none⟩,
         ⟨(some 26), .mov (.t 4), none⟩,
         ⟨(some 27), .idxs (.t 25) (.t 26), none⟩,
         ⟨(some 28), .lit 1 [(.t 27)], none⟩,
         ⟨(some 29), .app 1 1 (.t 24) (.t 28), none⟩,
         ⟨(some 3), .mov (.t 29), none⟩]))))
      (.rg [⟨(some 30), .bin .add (.t 8) (.c (.p (.int .i64 1))), none⟩,
        ⟨(some 8), .mov (.t 30), none⟩])))))))
    (.seq (.rg [⟨(some 31), .mov (.t 3), none⟩,
      ⟨(some 32), .lit 1 [(.c (.p (.int .u8 39)))], none⟩,
      ⟨(some 33), .app 1 1 (.t 31) (.t 32), none⟩,
      ⟨(some 34), .b2s (.t 33), none⟩,
      ⟨(some 2), .mov (.t 34), none⟩])
    .ret))))
def r58 : List DR := [.tmp 2]
theorem c58_ok : Try.f58.body.bind (cCode Try.prog) = some c58 := by kernel_rfl
theorem r58_ok : cRes Try.prog Try.f58.results.toList = some r58 := by kernel_rfl

/-- (*given.example/pub-assaymark/pub/clickhousego/lib/proto.Parameter).encode -/
def c102 : DC :=
  (.seq (.rg [⟨(some 6), .mov (.c (.p .nilIface)), none⟩])
    (.seq (.rg [⟨(some 9), .mov (.t 1), none⟩,
      ⟨(some 10), .mov (.t 0), none⟩,
      ⟨(some 11), .nilchk .ptr (.t 10), none⟩,
      ⟨(some 12), .faddr false 0 1 (.t 11), none⟩,
      ⟨(some 13), .load false 1 (.t 12), none⟩,
      ⟨(some 14), .callr 100 [(.t 9), (.t 13)], none⟩])
    (.seq (.rg [⟨(some 15), .mov (.t 1), none⟩,
      ⟨(some 16), .callr 101 [(.t 15), (.c (.p (.int .u64 2)))], none⟩])
    (.seq (.rg [⟨(some 18), .mov (.t 0), none⟩,
      ⟨(some 19), .nilchk .ptr (.t 18), none⟩,
      ⟨(some 20), .faddr false 1 1 (.t 19), none⟩,
      ⟨(some 21), .load false 1 (.t 20), none⟩,
      ⟨(some 22), .ifc 9 (.t 21), none⟩,
      ⟨(some 23), .callr 138 [(.t 22)], none⟩,
      ⟨(some 17), .mov (.t 23), none⟩,
      ⟨(some 24), .ext (.t 17) 0, none⟩,
      ⟨(some 25), .ext (.t 17) 1, none⟩,
      ⟨(some 7), .mov (.t 24), none⟩,
      ⟨(some 8), .mov (.t 25), none⟩])
    (.seq (.seq (.rg [⟨(some 26), .mov (.t 8), none⟩,
      ⟨(some 27), .eqn true .iface (.t 26), none⟩])
    (.cond (.t 27) (.seq (.rg [⟨(some 28), .mov (.t 8), none⟩,
        ⟨(some 6), .mov (.t 28), none⟩])
      .ret)
      .skip))
    (.seq (.rg [⟨(some 29), .mov (.t 1), none⟩,
      ⟨(some 30), .mov (.t 7), none⟩,
      ⟨(some 31), .callr 100 [(.t 29), (.t 30)], none⟩])
    (.seq (.rg [⟨(some 6), .mov (.c (.p .nilIface)), none⟩])
    .ret)))))))
def r102 : List DR := [.tmp 6]
theorem c102_ok : Try.f102.body.bind (cCode Try.prog) = some c102 := by kernel_rfl
theorem r102_ok : cRes Try.prog Try.f102.results.toList = some r102 := by kernel_rfl

/-- given.example/pub-assaymark/pub/clickhousego/lib/proto.encodeFieldDump -/
def c138 : DC :=
  (.seq (.rg [⟨(some 2), .mov (.c (.p (.string ⟨#[]⟩))), none⟩,
      ⟨(some 3), .mov (.c (.p .nilIface)), none⟩])
    (.seq (.seq (.rg [⟨(some 5), .mov (.t 0), none⟩])
    (.block 0 (.seq (.rg [⟨(some 6), .tas 9 (.p (.string ⟨#[]⟩)) true (.t 5), none⟩,
       ⟨(some 7), .ext (.t 6) 1, none⟩,
       ⟨(some 8), .ext (.t 6) 0, none⟩])
     (.cond (.t 7) (.seq (.rg [⟨(some 4), .mov (.t 8), none⟩])
       (.seq (.rg [⟨(some 9), .mov (.t 4), none⟩,
         ⟨(some 10), .callr 170 [(.t 9)], none⟩,
         ⟨(some 11), .bin .add (.c (.p (.string ⟨#[39]⟩))) (.t 10), none⟩,
         ⟨(some 12), .bin .add (.t 11) (.c (.p (.string ⟨#[39]⟩))), none⟩,
         ⟨(some 2), .mov (.t 12), none⟩,
         ⟨(some 3), .mov (.c (.p .nilIface)), none⟩])
       .ret))
       .skip))))
    (.seq (.rg [⟨(some 13), .callr 114 [(.c (.p (.string ⟨#[117, 110, 115, 117, 112, 112, 111, 114, 116, 101, 100, 32, 102, 105, 101, 108, 100, 32, 116, 121, 112, 101, 32, 37, 84]⟩)))], none⟩,
      ⟨(some 2), .mov (.c (.p (.string ⟨#[]⟩))), none⟩,
      ⟨(some 3), .mov (.t 13), none⟩])
    .ret)))
def r138 : List DR := [.tmp 2, .tmp 3]
theorem c138_ok : Try.f138.body.bind (cCode Try.prog) = some c138 := by kernel_rfl
theorem r138_ok : cRes Try.prog Try.f138.results.toList = some r138 := by kernel_rfl

/-- given.example/pub-assaymark/pub/clickhousego/lib/proto.fieldDumpEscaper -/
def c170 : DC :=
  (.seq (.rg [⟨(some 2), .mov (.c (.p (.string ⟨#[]⟩))), none⟩])
    (.seq (.rg [⟨(some 3), .mov (.c (.p (.slice none 0 0))), none⟩])
    (.seq (.seq (.rg [⟨(some 6), .mov (.t 0), none⟩,
      ⟨(some 7), .lens (.t 6), none⟩,
      ⟨(some 8), .mov (.c (.p (.int .i64 0))), none⟩])
    (.block 0 (.loop (.seq (.rg [⟨(some 9), .bin .lss (.t 8) (.t 7), none⟩])
      (.seq (.cond (.t 9) .skip
        (.exit 0))
      (.seq (.block 1 (.seq (.rg [⟨(some 10), .mov (.t 8), none⟩,
         ⟨(some 4), .mov (.t 10), none⟩])
       (.seq (.rg [⟨(some 11), .mov (.t 0), none⟩,
         ⟨(some 12), .mov (.t 4), none⟩,
         ⟨(some 13), .idxs (.t 11) (.t 12), none⟩,
         ⟨(some 5), .mov (.t 13), none⟩])
       (.seq (.rg [⟨(some 14), .mov (.t 5), none⟩])
       (.block 2 (.seq (.seq (.rg [⟨(some 20), .bin .eql (.t 14) (.c (.p (.int .u8 92))), none⟩,
          ⟨(some 19), .mov (.t 20), none⟩])
        (.cond (.t 19) .skip
          (.rg [⟨(some 21), .bin .eql (.t 14) (.c (.p (.int .u8 39))), none⟩,
            ⟨(some 19), .mov (.t 21), none⟩])))
        (.cond (.t 19) (.rg [⟨(some 22), .mov (.t 3), none⟩,
            ⟨(some 23), .mov (.t 5), none⟩,
            ⟨(some 24), .lit 1 [(.c (.p (.int .u8 92))), (.t 23)], none⟩,
            ⟨(some 25), .app 1 1 (.t 22) (.t 24), none⟩,
            ⟨(some 3), .mov (.t 25), none⟩])
          (.seq (.rg [⟨(some 27), .bin .eql (.t 14) (.c (.p (.int .u8 10))), none⟩,
            ⟨(some 26), .mov (.t 27), none⟩])
          (.cond (.t 26) (.rg [⟨(some 28), .mov (.t 3), none⟩,
              ⟨(some 29), .lit 1 [(.c (.p (.int .u8 92))), (.c (.p (.int .u8 110)))], none⟩,
              ⟨(some 30), .app 1 1 (.t 28) (.t 29), none⟩,
              ⟨(some 3), .mov (.t 30), none⟩])
            (.seq (.rg [⟨(some 32), .bin .eql (.t 14) (.c (.p (.int .u8 13))), none⟩,
              ⟨(some 31), .mov (.t 32), none⟩])
            (.cond (.t 31) (.rg [⟨(some 33), .mov (.t 3), none⟩,
                ⟨(some 34), .lit 1 [(.c (.p (.int .u8 92))), (.c (.p (.int .u8 114)))], none⟩,
                ⟨(some 35), .app 1 1 (.t 33) (.t 34), none⟩,
                ⟨(some 3), .mov (.t 35), none⟩])
              (.seq (.rg [⟨(some 37), .bin .eql (.t 14) (.c (.p (.int .u8 9))), none⟩,
                ⟨(some 36), .mov (.t 37), none⟩])
              (.cond (.t 36) (.rg [⟨(some 38), .mov (.t 3), none⟩,
                  ⟨(some 39), .lit 1 [(.c (.p (.int .u8 92))), (.c (.p (.int .u8 116)))], none⟩,
                  ⟨(some 40), .app 1 1 (.t 38) (.t 39), none⟩,
                  ⟨(some 3), .mov (.t 40), none⟩])
                (.seq (.rg [⟨(some 42), .bin .eql (.t 14) (.c (.p (.int .u8 0))), none⟩,
                  ⟨(some 41), .mov (.t 42), none⟩])
                (.cond (.t 41) (.rg [⟨(some 43), .mov (.t 3), none⟩,
                    ⟨(some 44), .lit 1 [(.c (.p (.int .u8 92))), (.c (.p (.int .u8 48)))], none⟩,
                    ⟨(some 45), .app 1 1 (.t 43) (.t 44), none⟩,
                    ⟨(some 3), .mov (.t 45), none⟩])
                  (.rg [⟨(some 15), .mov (.t 3), none⟩,
                    ⟨(some 16), .mov (.t 5), none⟩,
                    ⟨(some 17), .lit 1 [(.t 16)], none⟩,
                    ⟨(some 18), .app 1 1 (.t 15) (.t 17), none⟩,
                    ⟨(some 3), .mov (.t 18), none⟩]))))))))))))))))
      (.rg [⟨(some 46), .bin .add (.t 8) (.c (.p (.int .i64 1))), none⟩,
        ⟨(some 8), .mov (.t 46), none⟩])))))))
    (.seq (.rg [⟨(some 47), .mov (.t 3), none⟩,
      ⟨(some 48), .b2s (.t 47), none⟩,
      ⟨(some 2), .mov (.t 48), none⟩])
    .ret))))
def r170 : List DR := [.tmp 2]
theorem c170_ok : Try.f170.body.bind (cCode Try.prog) = some c170 := by kernel_rfl
theorem r170_ok : cRes Try.prog Try.f170.results.toList = some r170 := by kernel_rfl

end Go.Proofs.Ytbbafeocmchlnaa
