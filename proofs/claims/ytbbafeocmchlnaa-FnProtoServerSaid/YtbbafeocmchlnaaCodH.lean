/- The codes of the functions, in the small language of Den. -/
import Derived.Test.YtbbafeocmchlnaaPvB
import Derived.Test.YtbbafeocmchlnaaProg
set_option linter.unusedVariables false
set_option linter.unusedSimpArgs false
set_option maxRecDepth 100000
namespace Go.Proofs.Ytbbafeocmchlnaa
open Go Go.Den Go.Proofs

/-- given.example/pub-assaymark/laws.FnProtoHello -/
def c3 : DC :=
  (.seq (.rg [⟨(some 4), .box (.t 1), none⟩,
      ⟨(some 6), .mov (.c (.p (.bool false))), none⟩])
    (.seq (.seq (.rg [⟨(some 9), .mov (.t 0), none⟩,
      ⟨(some 10), .lens (.t 9), none⟩,
      ⟨(some 11), .bin .gtr (.t 10) (.c (.p (.int .i64 2147483647))), none⟩])
    (.cond (.t 11) (.seq (.rg [⟨(some 6), .mov (.c (.p (.bool true))), none⟩])
      .ret)
      .skip))
    (.seq (.seq (.rg [⟨(some 12), .mov (.t 0), none⟩,
      ⟨(some 13), .lit 1 [(.t 12)], none⟩,
      ⟨(some 14), .callr 13 [(.t 13)], none⟩,
      ⟨(some 15), .un .not (.t 14), none⟩])
    (.cond (.t 15) (.seq (.rg [⟨(some 16), .callr 14 [], none⟩,
        ⟨(some 6), .mov (.t 16), none⟩])
      .ret)
      .skip))
    (.seq (.rg [⟨(some 18), .mov (.t 0), none⟩,
      ⟨(some 19), .load true 3 (.t 4), none⟩,
      ⟨(some 20), .mov (.t 2), none⟩,
      ⟨(some 21), .callr 15 [(.t 18), (.t 19), (.t 20)], none⟩,
      ⟨(some 17), .mov (.t 21), none⟩,
      ⟨(some 22), .ext (.t 17) 0, none⟩,
      ⟨(some 23), .ext (.t 17) 1, none⟩,
      ⟨(some 7), .mov (.t 22), none⟩,
      ⟨(some 8), .mov (.t 23), none⟩])
    (.seq (.rgd [⟨⟨(some 24), .mov (.t 7), none⟩, 0, [0]⟩,
      ⟨⟨(some 25), .mov (.t 0), none⟩, 0, [0]⟩,
      ⟨⟨(some 26), .call 16 [(.t 25)], none⟩, 0, [0]⟩,
      ⟨⟨(some 27), .faddr false 0 1 (.t 4), none⟩, 0, [0]⟩,
      ⟨⟨(some 28), .load false 1 (.t 27), none⟩, 0, [0]⟩,
      ⟨⟨(some 29), .call 17 [(.t 28)], none⟩, 1, [0]⟩,
      ⟨⟨(some 30), .bin .add (.t 26) (.t 29), none⟩, 2, [0]⟩,
      ⟨⟨(some 31), .faddr false 1 1 (.t 4), none⟩, 0, [0]⟩,
      ⟨⟨(some 32), .load false 1 (.t 31), none⟩, 0, [0]⟩,
      ⟨⟨(some 33), .call 17 [(.t 32)], none⟩, 2, []⟩,
      ⟨⟨(some 34), .bin .add (.t 30) (.t 33), none⟩, 3, []⟩,
      ⟨⟨(some 35), .mov (.t 2), none⟩, 0, [0]⟩,
      ⟨⟨(some 36), .call 17 [(.t 35)], none⟩, 3, []⟩,
      ⟨⟨(some 37), .bin .add (.t 34) (.t 36), none⟩, 4, []⟩,
      ⟨⟨(some 38), .bin .eql (.t 24) (.t 37), none⟩, 4, []⟩,
      ⟨⟨(some 39), .mov (.t 38), none⟩, 4, []⟩,
      ⟨⟨(some 40), .call 14 [], (some (39, true))⟩, 4, []⟩,
      ⟨⟨(some 41), .pick (.t 39) (.t 40) (.c (.p (.bool false))), none⟩, 5, []⟩,
      ⟨⟨(some 6), .mov (.t 41), none⟩, 5, []⟩])
    .ret)))))
def r3 : List DR := [.tmp 6]
theorem c3_ok : Try.f3.body.bind (cCode Try.prog) = some c3 := by kernel_rfl
theorem r3_ok : cRes Try.prog Try.f3.results.toList = some r3 := by kernel_rfl

/-- given.example/pub-assaymark/laws.protoShort -/
def c13 : DC :=
  (.seq (.rg [⟨(some 2), .mov (.c (.p (.bool false))), none⟩])
    (.seq (.rg [⟨(some 3), .mov (.c (.p (.int .i64 0))), none⟩])
    (.seq (.seq (.rg [⟨(some 6), .mov (.t 0), none⟩,
      ⟨(some 7), .lenl (.t 6), none⟩,
      ⟨(some 8), .mov (.c (.p (.int .i64 0))), none⟩])
    (.block 0 (.loop (.seq (.rg [⟨(some 9), .bin .lss (.t 8) (.t 7), none⟩])
      (.seq (.cond (.t 9) .skip
        (.exit 0))
      (.seq (.block 1 (.seq (.rg [⟨(some 10), .iaddr 1 (.t 6) (.t 8), none⟩,
         ⟨(some 11), .load false 1 (.t 10), none⟩,
         ⟨(some 5), .mov (.t 11), none⟩])
       (.rg [⟨(some 12), .mov (.t 3), none⟩,
         ⟨(some 13), .mov (.t 5), none⟩,
         ⟨(some 14), .lens (.t 13), none⟩,
         ⟨(some 15), .bin .add (.t 12) (.t 14), none⟩,
         ⟨(some 3), .mov (.t 15), none⟩])))
      (.rg [⟨(some 16), .bin .add (.t 8) (.c (.p (.int .i64 1))), none⟩,
        ⟨(some 8), .mov (.t 16), none⟩])))))))
    (.seq (.rg [⟨(some 17), .mov (.t 3), none⟩,
      ⟨(some 18), .bin .leq (.t 17) (.c (.p (.int .i64 5000))), none⟩,
      ⟨(some 2), .mov (.t 18), none⟩])
    .ret))))
def r13 : List DR := [.tmp 2]
theorem c13_ok : Try.f13.body.bind (cCode Try.prog) = some c13 := by kernel_rfl
theorem r13_ok : cRes Try.prog Try.f13.results.toList = some r13 := by kernel_rfl

/-- given.example/pub-assaymark/impl.ProtoHello -/
def c15 : DC :=
  (.seq (.rg [⟨(some 4), .box (.t 1), none⟩,
      ⟨(some 6), .mov (.c (.p (.string ⟨#[]⟩))), none⟩,
      ⟨(some 7), .mov (.c (.p (.string ⟨#[]⟩))), none⟩])
    (.seq (.rg [⟨(some 10), .mov (.t 2), none⟩,
      ⟨(some 11), .mov (.t 0), none⟩,
      ⟨(some 12), .load true 3 (.t 4), none⟩,
      ⟨(some 13), .callr 52 [(.t 12)], none⟩,
      ⟨(some 14), .bld [.p (.int .u64 0), .p (.string ⟨#[]⟩), .p (.int .u64 0), .p (.int .u64 0), .p (.int .u64 0)] [(0, 1, (.t 10)), (1, 1, (.t 11)), (2, 3, (.t 13))], none⟩,
      ⟨(some 8), .alloc 5 (.agg [.p (.int .u64 0), .p (.string ⟨#[]⟩), .p (.int .u64 0), .p (.int .u64 0), .p (.int .u64 0)]), none⟩,
      ⟨none, .store 5 (.t 8) (.t 14), none⟩])
    (.seq (.rg [⟨(some 15), .alloc 1 (.agg [.p (.slice none 0 0)]), none⟩,
      ⟨(some 9), .mov (.t 15), none⟩])
    (.seq (.rg [⟨(some 16), .load true 5 (.t 8), none⟩,
      ⟨(some 17), .mov (.t 9), none⟩,
      ⟨(some 18), .callr 53 [(.t 16), (.t 17)], none⟩])
    (.seq (.rgd [⟨⟨(some 19), .mov (.t 9), none⟩, 0, [0]⟩,
      ⟨⟨(some 20), .nilchk .ptr (.t 19), none⟩, 0, [0]⟩,
      ⟨⟨(some 21), .faddr false 0 1 (.t 20), none⟩, 0, [0]⟩,
      ⟨⟨(some 22), .load false 1 (.t 21), none⟩, 0, [0]⟩,
      ⟨⟨(some 23), .b2s (.t 22), none⟩, 0, [0]⟩,
      ⟨⟨(some 24), .load true 5 (.t 8), none⟩, 0, [0]⟩,
      ⟨⟨(some 25), .call 54 [(.t 24)], none⟩, 0, [0]⟩,
      ⟨⟨(some 6), .mov (.t 23), none⟩, 1, []⟩,
      ⟨⟨(some 7), .mov (.t 25), none⟩, 1, []⟩])
    .ret)))))
def r15 : List DR := [.tmp 6, .tmp 7]
theorem c15_ok : Try.f15.body.bind (cCode Try.prog) = some c15 := by kernel_rfl
theorem r15_ok : cRes Try.prog Try.f15.results.toList = some r15 := by kernel_rfl

/-- given.example/pub-assaymark/spec.Long -/
def c16 : DC :=
  (.seq (.rg [⟨(some 2), .mov (.c (.p (.string ⟨#[]⟩))), none⟩])
    (.seq (.rg [⟨(some 3), .mov (.t 0), none⟩,
      ⟨(some 4), .lens (.t 3), none⟩,
      ⟨(some 5), .cint .u64 (.t 4), none⟩,
      ⟨(some 6), .callr 17 [(.t 5)], none⟩,
      ⟨(some 7), .mov (.t 0), none⟩,
      ⟨(some 8), .bin .add (.t 6) (.t 7), none⟩,
      ⟨(some 2), .mov (.t 8), none⟩])
    .ret))
def r16 : List DR := [.tmp 2]
theorem c16_ok : Try.f16.body.bind (cCode Try.prog) = some c16 := by kernel_rfl
theorem r16_ok : cRes Try.prog Try.f16.results.toList = some r16 := by kernel_rfl

/-- given.example/pub-assaymark/spec.Uvar -/
def c17 : DC :=
  (.seq (.rg [⟨(some 2), .mov (.c (.p (.string ⟨#[]⟩))), none⟩])
    (.seq (.rg [⟨(some 3), .mov (.c (.p (.slice none 0 0))), none⟩])
    (.seq (.block 0 (.loop (.seq (.seq (.rg [⟨(some 4), .mov (.t 0), none⟩,
        ⟨(some 5), .bin .geq (.t 4) (.c (.p (.int .u64 128))), none⟩])
      (.cond (.t 5) .skip
        (.exit 0)))
      (.block 1 (.seq (.rg [⟨(some 6), .mov (.t 3), none⟩,
         ⟨(some 7), .mov (.t 0), none⟩,
         ⟨(some 8), .cint .u8 (.t 7), none⟩,
         ⟨(some 9), .bin .or (.t 8) (.c (.p (.int .u8 128))), none⟩,
         ⟨(some 10), .lit 1 [(.t 9)], none⟩,
         ⟨(some 11), .app 1 1 (.t 6) (.t 10), none⟩,
         ⟨(some 3), .mov (.t 11), none⟩])
       (.rg [⟨(some 12), .mov (.t 0), none⟩,
         ⟨(some 13), .bin .shr (.t 12) (.c (.p (.int .u64 7))), none⟩,
         ⟨(some 0), .mov (.t 13), none⟩]))))))
    (.seq (.rg [⟨(some 14), .mov (.t 3), none⟩,
      ⟨(some 15), .mov (.t 0), none⟩,
      ⟨(some 16), .cint .u8 (.t 15), none⟩,
      ⟨(some 17), .lit 1 [(.t 16)], none⟩,
      ⟨(some 18), .app 1 1 (.t 14) (.t 17), none⟩,
      ⟨(some 19), .b2s (.t 18), none⟩,
      ⟨(some 2), .mov (.t 19), none⟩])
    .ret))))
def r17 : List DR := [.tmp 2]
theorem c17_ok : Try.f17.body.bind (cCode Try.prog) = some c17 := by kernel_rfl
theorem r17_ok : cRes Try.prog Try.f17.results.toList = some r17 := by kernel_rfl

/-- (given.example/pub-assaymark/pub/clickhousego/lib/proto.ClientHandshake).Encode -/
def c53 : DC :=
  (.seq (.rg [⟨(some 2), .box (.t 0), none⟩])
    (.seq (.rg [⟨(some 4), .mov (.t 1), none⟩,
      ⟨(some 5), .faddr false 1 1 (.t 2), none⟩,
      ⟨(some 6), .load false 1 (.t 5), none⟩,
      ⟨(some 7), .callr 100 [(.t 4), (.t 6)], none⟩])
    (.seq (.rg [⟨(some 8), .mov (.t 1), none⟩,
      ⟨(some 9), .faddr true 2 3 (.t 2), none⟩,
      ⟨(some 10), .faddr false 0 1 (.t 9), none⟩,
      ⟨(some 11), .load false 1 (.t 10), none⟩,
      ⟨(some 12), .callr 101 [(.t 8), (.t 11)], none⟩])
    (.seq (.rg [⟨(some 13), .mov (.t 1), none⟩,
      ⟨(some 14), .faddr true 2 3 (.t 2), none⟩,
      ⟨(some 15), .faddr false 1 1 (.t 14), none⟩,
      ⟨(some 16), .load false 1 (.t 15), none⟩,
      ⟨(some 17), .callr 101 [(.t 13), (.t 16)], none⟩])
    (.rg [⟨(some 18), .mov (.t 1), none⟩,
      ⟨(some 19), .faddr false 0 1 (.t 2), none⟩,
      ⟨(some 20), .load false 1 (.t 19), none⟩,
      ⟨(some 21), .callr 101 [(.t 18), (.t 20)], none⟩])))))
def r53 : List DR := []
theorem c53_ok : Try.f53.body.bind (cCode Try.prog) = some c53 := by kernel_rfl
theorem r53_ok : cRes Try.prog Try.f53.results.toList = some r53 := by kernel_rfl

/-- (given.example/pub-assaymark/pub/clickhousego/lib/proto.ClientHandshake).String -/
def c54 : DC :=
  (.seq (.rg [⟨(some 1), .box (.t 0), none⟩,
      ⟨(some 2), .mov (.c (.p (.string ⟨#[]⟩))), none⟩])
    (.seq (.rgd [⟨⟨(some 3), .faddr false 1 1 (.t 1), none⟩, 0, [0]⟩,
      ⟨⟨(some 4), .load false 1 (.t 3), none⟩, 0, [0]⟩,
      ⟨⟨(some 5), .bin .add (.t 4) (.c (.p (.string ⟨#[32]⟩))), none⟩, 0, [0]⟩,
      ⟨⟨(some 6), .faddr true 2 3 (.t 1), none⟩, 0, [0]⟩,
      ⟨⟨(some 7), .load true 3 (.t 6), none⟩, 0, [0]⟩,
      ⟨⟨(some 8), .call 70 [(.t 7)], none⟩, 0, [0]⟩,
      ⟨⟨(some 9), .bin .add (.t 5) (.t 8), none⟩, 1, []⟩,
      ⟨⟨(some 2), .mov (.t 9), none⟩, 1, []⟩])
    .ret))
def r54 : List DR := [.tmp 2]
theorem c54_ok : Try.f54.body.bind (cCode Try.prog) = some c54 := by kernel_rfl
theorem r54_ok : cRes Try.prog Try.f54.results.toList = some r54 := by kernel_rfl

/-- (*given.example/pub-assaymark/pub/chgo/proto.Buffer).PutString -/
def c100 : DC :=
  (.seq (.rg [⟨(some 4), .mov (.t 0), none⟩,
      ⟨(some 5), .mov (.t 1), none⟩,
      ⟨(some 6), .lens (.t 5), none⟩,
      ⟨(some 7), .callr 136 [(.t 4), (.t 6)], none⟩])
    (.rg [⟨(some 8), .mov (.t 0), none⟩,
      ⟨(some 9), .mov (.t 0), none⟩,
      ⟨(some 10), .nilchk .ptr (.t 9), none⟩,
      ⟨(some 11), .faddr false 0 1 (.t 10), none⟩,
      ⟨(some 12), .load false 1 (.t 11), none⟩,
      ⟨(some 13), .mov (.t 1), none⟩,
      ⟨(some 14), .app 1 1 (.t 12) (.t 13), none⟩,
      ⟨(some 15), .nilchk .ptr (.t 8), none⟩,
      ⟨(some 16), .faddr false 0 1 (.t 15), none⟩,
      ⟨none, .store 1 (.t 16) (.t 14), none⟩]))
def r100 : List DR := []
theorem c100_ok : Try.f100.body.bind (cCode Try.prog) = some c100 := by kernel_rfl
theorem r100_ok : cRes Try.prog Try.f100.results.toList = some r100 := by kernel_rfl

/-- (*given.example/pub-assaymark/pub/chgo/proto.Buffer).PutUVarInt -/
def c101 : DC :=
  (.seq (.rg [⟨(some 6), .bld [.p (.int .u8 0), .p (.int .u8 0), .p (.int .u8 0), .p (.int .u8 0), .p (.int .u8 0), .p (.int .u8 0), .p (.int .u8 0), .p (.int .u8 0), .p (.int .u8 0), .p (.int .u8 0)] [], none⟩,
      ⟨(some 4), .alloc 10 (.agg [.p (.int .u8 0), .p (.int .u8 0), .p (.int .u8 0), .p (.int .u8 0), .p (.int .u8 0), .p (.int .u8 0), .p (.int .u8 0), .p (.int .u8 0), .p (.int .u8 0), .p (.int .u8 0)]), none⟩,
      ⟨none, .store 10 (.t 4) (.t 6), none⟩])
    (.seq (.rg [⟨(some 7), .slca 10 1 false (.t 4) none none, none⟩,
      ⟨(some 8), .mov (.t 1), none⟩,
      ⟨(some 9), .callr 137 [(.t 7), (.t 8)], none⟩,
      ⟨(some 5), .mov (.t 9), none⟩])
    (.rgd [⟨⟨(some 10), .mov (.t 0), none⟩, 0, [0]⟩,
      ⟨⟨(some 11), .mov (.t 0), none⟩, 0, [0]⟩,
      ⟨⟨(some 12), .nilchk .ptr (.t 11), none⟩, 0, [0]⟩,
      ⟨⟨(some 13), .faddr false 0 1 (.t 12), none⟩, 0, [0]⟩,
      ⟨⟨(some 14), .load false 1 (.t 13), none⟩, 0, [0]⟩,
      ⟨⟨(some 15), .mov (.t 5), none⟩, 0, [0]⟩,
      ⟨⟨(some 16), .slca 10 1 false (.t 4) none (some (.t 15)), none⟩, 0, [0]⟩,
      ⟨⟨(some 17), .app 1 1 (.t 14) (.t 16), none⟩, 0, []⟩,
      ⟨⟨(some 18), .nilchk .ptr (.t 10), none⟩, 1, [1]⟩,
      ⟨⟨(some 19), .faddr false 0 1 (.t 18), none⟩, 1, [1]⟩,
      ⟨⟨none, .store 1 (.t 19) (.t 17), none⟩, 1, []⟩])))
def r101 : List DR := []
theorem c101_ok : Try.f101.body.bind (cCode Try.prog) = some c101 := by kernel_rfl
theorem r101_ok : cRes Try.prog Try.f101.results.toList = some r101 := by kernel_rfl

/-- (*given.example/pub-assaymark/pub/chgo/proto.Buffer).PutLen -/
def c136 : DC :=
  (.rg [⟨(some 4), .mov (.t 0), none⟩,
      ⟨(some 5), .mov (.t 1), none⟩,
      ⟨(some 6), .cint .u64 (.t 5), none⟩,
      ⟨(some 7), .callr 101 [(.t 4), (.t 6)], none⟩])
def r136 : List DR := []
theorem c136_ok : Try.f136.body.bind (cCode Try.prog) = some c136 := by kernel_rfl
theorem r136_ok : cRes Try.prog Try.f136.results.toList = some r136 := by kernel_rfl

/-- encoding/binary.PutUvarint -/
def c137 : DC :=
  (.seq (.rg [⟨(some 4), .mov (.c (.p (.int .i64 0))), none⟩])
    (.seq (.rg [⟨(some 5), .mov (.c (.p (.int .i64 0))), none⟩])
    (.seq (.block 0 (.loop (.seq (.seq (.rg [⟨(some 6), .mov (.t 1), none⟩,
        ⟨(some 7), .bin .geq (.t 6) (.c (.p (.int .u64 128))), none⟩])
      (.cond (.t 7) .skip
        (.exit 0)))
      (.block 1 (.seq (.rg [⟨(some 8), .mov (.t 0), none⟩,
         ⟨(some 9), .mov (.t 5), none⟩,
         ⟨(some 10), .mov (.t 1), none⟩,
         ⟨(some 11), .cint .u8 (.t 10), none⟩,
         ⟨(some 12), .bin .or (.t 11) (.c (.p (.int .u8 128))), none⟩,
         ⟨(some 13), .iaddr 1 (.t 8) (.t 9), none⟩,
         ⟨none, .store 1 (.t 13) (.t 12), none⟩])
       (.seq (.rg [⟨(some 14), .mov (.t 1), none⟩,
         ⟨(some 15), .bin .shr (.t 14) (.c (.p (.int .u64 7))), none⟩,
         ⟨(some 1), .mov (.t 15), none⟩])
       (.rg [⟨(some 16), .mov (.t 5), none⟩,
         ⟨(some 17), .bin .add (.t 16) (.c (.p (.int .i64 1))), none⟩,
         ⟨(some 5), .mov (.t 17), none⟩])))))))
    (.seq (.rg [⟨(some 18), .mov (.t 0), none⟩,
      ⟨(some 19), .mov (.t 5), none⟩,
      ⟨(some 20), .mov (.t 1), none⟩,
      ⟨(some 21), .cint .u8 (.t 20), none⟩,
      ⟨(some 22), .iaddr 1 (.t 18) (.t 19), none⟩,
      ⟨none, .store 1 (.t 22) (.t 21), none⟩])
    (.seq (.rg [⟨(some 23), .mov (.t 5), none⟩,
      ⟨(some 24), .bin .add (.t 23) (.c (.p (.int .i64 1))), none⟩,
      ⟨(some 4), .mov (.t 24), none⟩])
    .ret)))))
def r137 : List DR := [.tmp 4]
theorem c137_ok : Try.f137.body.bind (cCode Try.prog) = some c137 := by kernel_rfl
theorem r137_ok : cRes Try.prog Try.f137.results.toList = some r137 := by kernel_rfl

end Go.Proofs.Ytbbafeocmchlnaa
