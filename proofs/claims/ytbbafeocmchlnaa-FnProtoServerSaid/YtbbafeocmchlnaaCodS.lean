/- The codes of the functions, in the small language of Den. -/
import Derived.Test.YtbbafeocmchlnaaRdC
set_option linter.unusedVariables false
set_option linter.unusedSimpArgs false
set_option maxRecDepth 100000
namespace Go.Proofs.Ytbbafeocmchlnaa
open Go Go.Den Go.Proofs

/-- (*given.example/pub-assaymark/pub/chgo/proto.Reader).Str -/
def c109 : DfC :=
  ⟨(.rg [⟨(some 2), .mov (.c (.p (.string ⟨#[]⟩))), none⟩,
      ⟨(some 3), .mov (.c (.p .nilIface)), none⟩]),
    [⟨(some 6), .mov (.t 0), none⟩, ⟨(some 7), .nilchk .ptr (.t 6), none⟩, ⟨(some 8), .faddr false 1 1 (.t 7), none⟩, ⟨(some 9), .load false 1 (.t 8), none⟩],
    none, 144, [(.t 9)],
    (.seq (.rg [⟨(some 11), .mov (.t 0), none⟩,
      ⟨(some 12), .callr 145 [(.t 11)], none⟩,
      ⟨(some 10), .mov (.t 12), none⟩,
      ⟨(some 13), .ext (.t 10) 0, none⟩,
      ⟨(some 14), .ext (.t 10) 1, none⟩,
      ⟨(some 4), .mov (.t 13), none⟩,
      ⟨(some 5), .mov (.t 14), none⟩])
    (.seq (.seq (.rg [⟨(some 15), .mov (.t 5), none⟩,
      ⟨(some 16), .eqn true .iface (.t 15), none⟩])
    (.cond (.t 16) (.seq (.rg [⟨(some 17), .mov (.t 5), none⟩,
        ⟨(some 18), .callr 140 [(.t 17), (.c (.p (.string ⟨#[114, 97, 119]⟩)))], none⟩,
        ⟨(some 2), .mov (.c (.p (.string ⟨#[]⟩))), none⟩,
        ⟨(some 3), .mov (.t 18), none⟩])
      .ret)
      .skip))
    (.seq (.rg [⟨(some 19), .mov (.t 4), none⟩,
      ⟨(some 20), .b2s (.t 19), none⟩,
      ⟨(some 21), .mov (.t 5), none⟩,
      ⟨(some 2), .mov (.t 20), none⟩,
      ⟨(some 3), .mov (.t 21), none⟩])
    .ret)))⟩
def r109 : List DR := [.tmp 2, .tmp 3]
theorem c109_ok : Try.f109.body.bind (cDef Try.prog) = some c109 := by kernel_rfl
theorem r109_ok : cRes Try.prog Try.f109.results.toList = some r109 := by kernel_rfl

/-- (*given.example/pub-assaymark/pub/chgo/proto.Buffer).Reset -/
def c144 : DC :=
  (.rg [⟨(some 2), .mov (.t 0), none⟩,
      ⟨(some 3), .mov (.t 0), none⟩,
      ⟨(some 4), .nilchk .ptr (.t 3), none⟩,
      ⟨(some 5), .faddr false 0 1 (.t 4), none⟩,
      ⟨(some 6), .load false 1 (.t 5), none⟩,
      ⟨(some 7), .slcl 1 (.t 6) none (some (.c (.p (.int .i64 0)))), none⟩,
      ⟨(some 8), .nilchk .ptr (.t 2), none⟩,
      ⟨(some 9), .faddr false 0 1 (.t 8), none⟩,
      ⟨none, .store 1 (.t 9) (.t 7), none⟩])
def r144 : List DR := []
theorem c144_ok : Try.f144.body.bind (cCode Try.prog) = some c144 := by kernel_rfl
theorem r144_ok : cRes Try.prog Try.f144.results.toList = some r144 := by kernel_rfl

/-- (*given.example/pub-assaymark/pub/chgo/proto.Reader).StrRaw -/
def c145 : DC :=
  (.seq (.rg [⟨(some 2), .mov (.c (.p (.slice none 0 0))), none⟩,
      ⟨(some 3), .mov (.c (.p .nilIface)), none⟩])
    (.seq (.rg [⟨(some 8), .mov (.t 0), none⟩,
      ⟨(some 9), .callr 172 [(.t 8)], none⟩,
      ⟨(some 7), .mov (.t 9), none⟩,
      ⟨(some 10), .ext (.t 7) 0, none⟩,
      ⟨(some 11), .ext (.t 7) 1, none⟩,
      ⟨(some 4), .mov (.t 10), none⟩,
      ⟨(some 5), .mov (.t 11), none⟩])
    (.seq (.seq (.rg [⟨(some 12), .mov (.t 5), none⟩,
      ⟨(some 13), .eqn true .iface (.t 12), none⟩])
    (.cond (.t 13) (.seq (.rg [⟨(some 14), .mov (.t 5), none⟩,
        ⟨(some 15), .callr 140 [(.t 14), (.c (.p (.string ⟨#[114, 101, 97, 100, 32, 108, 101, 110, 103, 116, 104]⟩)))], none⟩,
        ⟨(some 2), .mov (.c (.p (.slice none 0 0))), none⟩,
        ⟨(some 3), .mov (.t 15), none⟩])
      .ret)
      .skip))
    (.seq (.seq (.rg [⟨(some 16), .mov (.t 0), none⟩,
      ⟨(some 17), .mov (.t 4), none⟩,
      ⟨(some 18), .callr 171 [(.t 16), (.t 17)], none⟩,
      ⟨(some 6), .mov (.t 18), none⟩])
    (.seq (.rg [⟨(some 19), .mov (.t 6), none⟩,
      ⟨(some 20), .eqn true .iface (.t 19), none⟩])
    (.cond (.t 20) (.seq (.rg [⟨(some 21), .mov (.t 6), none⟩,
        ⟨(some 22), .callr 140 [(.t 21), (.c (.p (.string ⟨#[114, 101, 97, 100, 32, 115, 116, 114]⟩)))], none⟩,
        ⟨(some 2), .mov (.c (.p (.slice none 0 0))), none⟩,
        ⟨(some 3), .mov (.t 22), none⟩])
      .ret)
      .skip)))
    (.seq (.rg [⟨(some 23), .mov (.t 0), none⟩,
      ⟨(some 24), .nilchk .ptr (.t 23), none⟩,
      ⟨(some 25), .faddr false 1 1 (.t 24), none⟩,
      ⟨(some 26), .load false 1 (.t 25), none⟩,
      ⟨(some 27), .nilchk .ptr (.t 26), none⟩,
      ⟨(some 28), .faddr false 0 1 (.t 27), none⟩,
      ⟨(some 29), .load false 1 (.t 28), none⟩,
      ⟨(some 2), .mov (.t 29), none⟩,
      ⟨(some 3), .mov (.c (.p .nilIface)), none⟩])
    .ret)))))
def r145 : List DR := [.tmp 2, .tmp 3]
theorem c145_ok : Try.f145.body.bind (cCode Try.prog) = some c145 := by kernel_rfl
theorem r145_ok : cRes Try.prog Try.f145.results.toList = some r145 := by kernel_rfl

/-- (*given.example/pub-assaymark/pub/chgo/proto.Reader).StrLen -/
def c172 : DC :=
  (.seq (.rg [⟨(some 2), .mov (.c (.p (.int .i64 0))), none⟩,
      ⟨(some 3), .mov (.c (.p .nilIface)), none⟩])
    (.seq (.rg [⟨(some 7), .mov (.t 0), none⟩,
      ⟨(some 8), .callr 187 [(.t 7)], none⟩,
      ⟨(some 6), .mov (.t 8), none⟩,
      ⟨(some 9), .ext (.t 6) 0, none⟩,
      ⟨(some 10), .ext (.t 6) 1, none⟩,
      ⟨(some 4), .mov (.t 9), none⟩,
      ⟨(some 5), .mov (.t 10), none⟩])
    (.seq (.seq (.rg [⟨(some 11), .mov (.t 5), none⟩,
      ⟨(some 12), .eqn true .iface (.t 11), none⟩])
    (.cond (.t 12) (.seq (.rg [⟨(some 13), .mov (.t 5), none⟩,
        ⟨(some 14), .callr 140 [(.t 13), (.c (.p (.string ⟨#[114, 101, 97, 100, 32, 108, 101, 110, 103, 116, 104]⟩)))], none⟩,
        ⟨(some 2), .mov (.c (.p (.int .i64 0))), none⟩,
        ⟨(some 3), .mov (.t 14), none⟩])
      .ret)
      .skip))
    (.seq (.seq (.rg [⟨(some 15), .mov (.t 4), none⟩,
      ⟨(some 16), .bin .lss (.t 15) (.c (.p (.int .i64 0))), none⟩])
    (.cond (.t 16) (.seq (.rg [⟨(some 17), .mov (.t 4), none⟩,
        ⟨(some 18), .ifc 3 (.t 17), none⟩,
        ⟨(some 19), .lit 1 [(.t 18)], none⟩,
        ⟨(some 20), .callr 143 [(.c (.p (.string ⟨#[115, 105, 122, 101, 32, 37, 100, 32, 105, 115, 32, 105, 110, 118, 97, 108, 105, 100]⟩))), (.t 19)], none⟩,
        ⟨(some 2), .mov (.c (.p (.int .i64 0))), none⟩,
        ⟨(some 3), .mov (.t 20), none⟩])
      .ret)
      .skip))
    (.seq (.rg [⟨(some 21), .mov (.t 4), none⟩,
      ⟨(some 2), .mov (.t 21), none⟩,
      ⟨(some 3), .mov (.c (.p .nilIface)), none⟩])
    .ret)))))
def r172 : List DR := [.tmp 2, .tmp 3]
theorem c172_ok : Try.f172.body.bind (cCode Try.prog) = some c172 := by kernel_rfl
theorem r172_ok : cRes Try.prog Try.f172.results.toList = some r172 := by kernel_rfl

/-- (*given.example/pub-assaymark/pub/chgo/proto.Reader).Int -/
def c187 : DC :=
  (.seq (.rg [⟨(some 2), .mov (.c (.p (.int .i64 0))), none⟩,
      ⟨(some 3), .mov (.c (.p .nilIface)), none⟩])
    (.seq (.rg [⟨(some 7), .mov (.t 0), none⟩,
      ⟨(some 8), .callr 104 [(.t 7)], none⟩,
      ⟨(some 6), .mov (.t 8), none⟩,
      ⟨(some 9), .ext (.t 6) 0, none⟩,
      ⟨(some 10), .ext (.t 6) 1, none⟩,
      ⟨(some 4), .mov (.t 9), none⟩,
      ⟨(some 5), .mov (.t 10), none⟩])
    (.seq (.seq (.rg [⟨(some 11), .mov (.t 5), none⟩,
      ⟨(some 12), .eqn true .iface (.t 11), none⟩])
    (.cond (.t 12) (.seq (.rg [⟨(some 13), .mov (.t 5), none⟩,
        ⟨(some 14), .callr 140 [(.t 13), (.c (.p (.string ⟨#[117, 118, 97, 114, 105, 110, 116]⟩)))], none⟩,
        ⟨(some 2), .mov (.c (.p (.int .i64 0))), none⟩,
        ⟨(some 3), .mov (.t 14), none⟩])
      .ret)
      .skip))
    (.seq (.rg [⟨(some 15), .mov (.t 4), none⟩,
      ⟨(some 16), .cint .i64 (.t 15), none⟩,
      ⟨(some 2), .mov (.t 16), none⟩,
      ⟨(some 3), .mov (.c (.p .nilIface)), none⟩])
    .ret))))
def r187 : List DR := [.tmp 2, .tmp 3]
theorem c187_ok : Try.f187.body.bind (cCode Try.prog) = some c187 := by kernel_rfl
theorem r187_ok : cRes Try.prog Try.f187.results.toList = some r187 := by kernel_rfl

/-- (*given.example/pub-assaymark/pub/clickhousego/lib/proto.TableColumns).Decode -/
def c64 : DC :=
  (.seq (.rg [⟨(some 6), .mov (.c (.p .nilIface)), none⟩])
    (.seq (.seq (.rg [⟨(some 8), .mov (.t 0), none⟩,
      ⟨(some 9), .mov (.t 1), none⟩,
      ⟨(some 10), .callr 109 [(.t 9)], none⟩,
      ⟨(some 7), .mov (.t 10), none⟩,
      ⟨(some 11), .ext (.t 7) 0, none⟩,
      ⟨(some 12), .ext (.t 7) 1, none⟩,
      ⟨(some 13), .nilchk .ptr (.t 8), none⟩,
      ⟨(some 14), .faddr false 0 1 (.t 13), none⟩,
      ⟨none, .store 1 (.t 14) (.t 11), none⟩,
      ⟨(some 6), .mov (.t 12), none⟩])
    (.seq (.rg [⟨(some 15), .mov (.t 6), none⟩,
      ⟨(some 16), .eqn true .iface (.t 15), none⟩])
    (.cond (.t 16) (.seq (.rg [⟨(some 17), .mov (.t 6), none⟩,
        ⟨(some 6), .mov (.t 17), none⟩])
      .ret)
      .skip)))
    (.seq (.seq (.rg [⟨(some 19), .mov (.t 0), none⟩,
      ⟨(some 20), .mov (.t 1), none⟩,
      ⟨(some 21), .callr 109 [(.t 20)], none⟩,
      ⟨(some 18), .mov (.t 21), none⟩,
      ⟨(some 22), .ext (.t 18) 0, none⟩,
      ⟨(some 23), .ext (.t 18) 1, none⟩,
      ⟨(some 24), .nilchk .ptr (.t 19), none⟩,
      ⟨(some 25), .faddr false 1 1 (.t 24), none⟩,
      ⟨none, .store 1 (.t 25) (.t 22), none⟩,
      ⟨(some 6), .mov (.t 23), none⟩])
    (.seq (.rg [⟨(some 26), .mov (.t 6), none⟩,
      ⟨(some 27), .eqn true .iface (.t 26), none⟩])
    (.cond (.t 27) (.seq (.rg [⟨(some 28), .mov (.t 6), none⟩,
        ⟨(some 6), .mov (.t 28), none⟩])
      .ret)
      .skip)))
    (.seq (.rg [⟨(some 6), .mov (.c (.p .nilIface)), none⟩])
    .ret))))
def r64 : List DR := [.tmp 6]
theorem c64_ok : Try.f64.body.bind (cCode Try.prog) = some c64 := by kernel_rfl
theorem r64_ok : cRes Try.prog Try.f64.results.toList = some r64 := by kernel_rfl

/-- (*given.example/pub-assaymark/pub/clickhousego/lib/proto.TableColumns).String -/
def c65 : DC :=
  (.seq (.rg [⟨(some 2), .mov (.c (.p (.string ⟨#[]⟩))), none⟩])
    (.seq (.rgd [⟨⟨(some 3), .mov (.t 0), none⟩, 0, [0]⟩,
      ⟨⟨(some 4), .nilchk .ptr (.t 3), none⟩, 0, [0]⟩,
      ⟨⟨(some 5), .faddr false 0 1 (.t 4), none⟩, 0, [0]⟩,
      ⟨⟨(some 6), .load false 1 (.t 5), none⟩, 0, [0]⟩,
      ⟨⟨(some 7), .bin .add (.c (.p (.string ⟨#[102, 105, 114, 115, 116, 61]⟩))) (.t 6), none⟩, 0, [0]⟩,
      ⟨⟨(some 8), .bin .add (.t 7) (.c (.p (.string ⟨#[44, 32, 115, 101, 99, 111, 110, 100, 61]⟩))), none⟩, 0, [0]⟩,
      ⟨⟨(some 9), .mov (.t 0), none⟩, 0, [0]⟩,
      ⟨⟨(some 10), .nilchk .ptr (.t 9), none⟩, 0, [0]⟩,
      ⟨⟨(some 11), .faddr false 1 1 (.t 10), none⟩, 0, [0]⟩,
      ⟨⟨(some 12), .load false 1 (.t 11), none⟩, 0, [0]⟩,
      ⟨⟨(some 13), .bin .add (.t 8) (.t 12), none⟩, 0, []⟩,
      ⟨⟨(some 2), .mov (.t 13), none⟩, 0, []⟩])
    .ret))
def r65 : List DR := [.tmp 2]
theorem c65_ok : Try.f65.body.bind (cCode Try.prog) = some c65 := by kernel_rfl
theorem r65_ok : cRes Try.prog Try.f65.results.toList = some r65 := by kernel_rfl

/-- given.example/pub-assaymark/impl.ProtoTableRead -/
def c25 : DC :=
  (.seq (.rg [⟨(some 4), .alloc 3 (.agg [.p (.string ⟨#[]⟩), .p (.string ⟨#[]⟩), .p (.string ⟨#[]⟩)]), none⟩,
      ⟨(some 5), .mov (.c (.p (.int .i64 0))), none⟩,
      ⟨(some 6), .mov (.c (.p (.bool false))), none⟩])
    (.seq (.rg [⟨(some 9), .mov (.t 0), none⟩,
      ⟨(some 10), .callr 60 [(.t 9)], none⟩,
      ⟨(some 7), .mov (.t 10), none⟩])
    (.seq (.rg [⟨(some 8), .alloc 2 (.agg [.p (.string ⟨#[]⟩), .p (.string ⟨#[]⟩)]), none⟩])
    (.seq (.seq (.rg [⟨(some 11), .mov (.t 7), none⟩,
      ⟨(some 12), .mov (.t 1), none⟩,
      ⟨(some 13), .callr 64 [(.t 8), (.t 11), (.t 12)], none⟩,
      ⟨(some 14), .eqn true .iface (.t 13), none⟩])
    (.cond (.t 14) (.seq (.rg [⟨(some 15), .load true 3 (.t 4), none⟩,
        ⟨none, .store 3 (.t 4) (.t 15), none⟩,
        ⟨(some 5), .mov (.c (.p (.int .i64 0))), none⟩,
        ⟨(some 6), .mov (.c (.p (.bool false))), none⟩])
      .ret)
      .skip))
    (.seq (.rgd [⟨⟨(some 16), .faddr false 0 1 (.t 8), none⟩, 0, [0]⟩,
      ⟨⟨(some 17), .load false 1 (.t 16), none⟩, 0, [0]⟩,
      ⟨⟨(some 18), .faddr false 1 1 (.t 8), none⟩, 0, [0]⟩,
      ⟨⟨(some 19), .load false 1 (.t 18), none⟩, 0, [0]⟩,
      ⟨⟨(some 20), .call 65 [(.t 8)], none⟩, 0, [0]⟩,
      ⟨⟨(some 21), .bld [.p (.string ⟨#[]⟩), .p (.string ⟨#[]⟩), .p (.string ⟨#[]⟩)] [(0, 1, (.t 17)), (1, 1, (.t 19)), (2, 1, (.t 20))], none⟩, 1, []⟩,
      ⟨⟨(some 22), .mov (.t 7), none⟩, 0, [0]⟩,
      ⟨⟨(some 23), .call 63 [(.t 22)], none⟩, 1, [0]⟩,
      ⟨⟨none, .store 3 (.t 4) (.t 21), none⟩, 2, []⟩,
      ⟨⟨(some 5), .mov (.t 23), none⟩, 3, []⟩,
      ⟨⟨(some 6), .mov (.c (.p (.bool true))), none⟩, 3, []⟩])
    .ret)))))
def r25 : List DR := [.cell 4 true 3, .tmp 5, .tmp 6]
theorem c25_ok : Try.f25.body.bind (cCode Try.prog) = some c25 := by kernel_rfl
theorem r25_ok : cRes Try.prog Try.f25.results.toList = some r25 := by kernel_rfl

/-- given.example/pub-assaymark/laws.FnProtoTable -/
def c6 : DC :=
  (.seq (.rg [⟨(some 10), .mov (.c (.p (.bool false))), none⟩])
    (.seq (.seq (.rg [⟨(some 18), .mov (.t 0), none⟩,
      ⟨(some 19), .lens (.t 18), none⟩,
      ⟨(some 20), .bin .gtr (.t 19) (.c (.p (.int .i64 2147483647))), none⟩,
      ⟨(some 21), .mov (.t 20), none⟩,
      ⟨(some 22), .mov (.t 1), (some (21, false))⟩,
      ⟨(some 23), .lens (.t 22), (some (21, false))⟩,
      ⟨(some 24), .bin .gtr (.t 23) (.c (.p (.int .i64 2147483647))), (some (21, false))⟩,
      ⟨(some 25), .pick (.t 21) (.c (.p (.bool true))) (.t 24), none⟩,
      ⟨(some 26), .mov (.t 25), none⟩,
      ⟨(some 27), .mov (.t 2), (some (26, false))⟩,
      ⟨(some 28), .lens (.t 27), (some (26, false))⟩,
      ⟨(some 29), .bin .gtr (.t 28) (.c (.p (.int .i64 2147483647))), (some (26, false))⟩,
      ⟨(some 30), .pick (.t 26) (.c (.p (.bool true))) (.t 29), none⟩])
    (.cond (.t 30) (.seq (.rg [⟨(some 10), .mov (.c (.p (.bool true))), none⟩])
      .ret)
      .skip))
    (.seq (.seq (.rg [⟨(some 31), .mov (.t 0), none⟩,
      ⟨(some 32), .mov (.t 1), none⟩,
      ⟨(some 33), .mov (.t 2), none⟩,
      ⟨(some 34), .lit 1 [(.t 31), (.t 32), (.t 33)], none⟩,
      ⟨(some 35), .callr 13 [(.t 34)], none⟩,
      ⟨(some 36), .un .not (.t 35), none⟩])
    (.cond (.t 36) (.seq (.rg [⟨(some 37), .callr 14 [], none⟩,
        ⟨(some 10), .mov (.t 37), none⟩])
      .ret)
      .skip))
    (.seq (.rg [⟨(some 38), .mov (.t 0), none⟩,
      ⟨(some 39), .callr 16 [(.t 38)], none⟩,
      ⟨(some 40), .mov (.t 1), none⟩,
      ⟨(some 41), .callr 16 [(.t 40)], none⟩,
      ⟨(some 42), .bin .add (.t 39) (.t 41), none⟩,
      ⟨(some 11), .mov (.t 42), none⟩])
    (.seq (.rg [⟨(some 44), .mov (.t 11), none⟩,
      ⟨(some 45), .mov (.t 2), none⟩,
      ⟨(some 46), .bin .add (.t 44) (.t 45), none⟩,
      ⟨(some 47), .mov (.t 3), none⟩,
      ⟨(some 48), .callr 25 [(.t 46), (.t 47)], none⟩,
      ⟨(some 43), .mov (.t 48), none⟩,
      ⟨(some 49), .ext (.t 43) 0, none⟩,
      ⟨(some 50), .ext (.t 43) 1, none⟩,
      ⟨(some 51), .ext (.t 43) 2, none⟩,
      ⟨(some 12), .alloc 3 (.agg [.p (.string ⟨#[]⟩), .p (.string ⟨#[]⟩), .p (.string ⟨#[]⟩)]), none⟩,
      ⟨none, .store 3 (.t 12) (.t 49), none⟩,
      ⟨(some 13), .mov (.t 50), none⟩,
      ⟨(some 14), .mov (.t 51), none⟩])
    (.seq (.rg [⟨(some 53), .mov (.t 11), none⟩,
      ⟨(some 54), .mov (.t 4), none⟩,
      ⟨(some 55), .cint .i64 (.t 54), none⟩,
      ⟨(some 56), .mov (.t 11), none⟩,
      ⟨(some 57), .lens (.t 56), none⟩,
      ⟨(some 58), .bin .rem (.t 55) (.t 57), none⟩,
      ⟨(some 59), .slcs (.t 53) none (some (.t 58)), none⟩,
      ⟨(some 60), .mov (.t 3), none⟩,
      ⟨(some 61), .callr 25 [(.t 59), (.t 60)], none⟩,
      ⟨(some 52), .mov (.t 61), none⟩,
      ⟨(some 62), .ext (.t 52) 0, none⟩,
      ⟨(some 63), .ext (.t 52) 1, none⟩,
      ⟨(some 64), .ext (.t 52) 2, none⟩,
      ⟨(some 15), .alloc 3 (.agg [.p (.string ⟨#[]⟩), .p (.string ⟨#[]⟩), .p (.string ⟨#[]⟩)]), none⟩,
      ⟨none, .store 3 (.t 15) (.t 62), none⟩,
      ⟨(some 16), .mov (.t 63), none⟩,
      ⟨(some 17), .mov (.t 64), none⟩])
    (.seq (.rg [⟨(some 65), .mov (.t 14), none⟩,
      ⟨(some 66), .mov (.t 65), none⟩,
      ⟨(some 67), .mov (.t 17), (some (66, true))⟩,
      ⟨(some 68), .un .not (.t 67), (some (66, true))⟩,
      ⟨(some 69), .pick (.t 66) (.t 68) (.c (.p (.bool false))), none⟩,
      ⟨(some 70), .mov (.t 69), none⟩,
      ⟨(some 71), .mov (.t 13), (some (70, true))⟩,
      ⟨(some 72), .mov (.t 2), (some (70, true))⟩,
      ⟨(some 73), .lens (.t 72), (some (70, true))⟩,
      ⟨(some 74), .bin .eql (.t 71) (.t 73), (some (70, true))⟩,
      ⟨(some 75), .pick (.t 70) (.t 74) (.c (.p (.bool false))), none⟩,
      ⟨(some 76), .mov (.t 75), none⟩,
      ⟨(some 77), .faddr false 0 1 (.t 12), (some (76, true))⟩,
      ⟨(some 78), .load false 1 (.t 77), (some (76, true))⟩,
      ⟨(some 79), .mov (.t 0), (some (76, true))⟩,
      ⟨(some 80), .bin .eql (.t 78) (.t 79), (some (76, true))⟩,
      ⟨(some 81), .pick (.t 76) (.t 80) (.c (.p (.bool false))), none⟩,
      ⟨(some 82), .mov (.t 81), none⟩,
      ⟨(some 83), .faddr false 1 1 (.t 12), (some (82, true))⟩,
      ⟨(some 84), .load false 1 (.t 83), (some (82, true))⟩,
      ⟨(some 85), .mov (.t 1), (some (82, true))⟩,
      ⟨(some 86), .bin .eql (.t 84) (.t 85), (some (82, true))⟩,
      ⟨(some 87), .pick (.t 82) (.t 86) (.c (.p (.bool false))), none⟩,
      ⟨(some 88), .mov (.t 87), none⟩,
      ⟨(some 89), .callr 14 [], (some (88, true))⟩,
      ⟨(some 90), .pick (.t 88) (.t 89) (.c (.p (.bool false))), none⟩,
      ⟨(some 10), .mov (.t 90), none⟩])
    .ret)))))))
def r6 : List DR := [.tmp 10]
theorem c6_ok : Try.f6.body.bind (cCode Try.prog) = some c6 := by kernel_rfl
theorem r6_ok : cRes Try.prog Try.f6.results.toList = some r6 := by kernel_rfl

end Go.Proofs.Ytbbafeocmchlnaa
