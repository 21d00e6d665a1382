/- The codes of the functions, in the small language of Den. -/
import Derived.Test.YtbbafeocmchlnaaLibE
import Derived.Test.YtbbafeocmchlnaaProg
set_option linter.unusedVariables false
set_option linter.unusedSimpArgs false
set_option maxRecDepth 100000
namespace Go.Proofs.Ytbbafeocmchlnaa
open Go Go.Den Go.Proofs

/-- given.example/pub-assaymark/impl.protoReader -/
def c60 : DC :=
  (.seq (.rg [⟨(some 2), .mov (.c (.p (.pointer none))), none⟩])
    (.seq (.rg [⟨(some 3), .mov (.t 0), none⟩,
      ⟨(some 4), .s2b (.t 3), none⟩,
      ⟨(some 5), .callr 103 [(.t 4)], none⟩,
      ⟨(some 2), .mov (.t 5), none⟩])
    .ret))
def r60 : List DR := [.tmp 2]
theorem c60_ok : Try.f60.body.bind (cCode Try.prog) = some c60 := by kernel_rfl
theorem r60_ok : cRes Try.prog Try.f60.results.toList = some r60 := by kernel_rfl

/-- given.example/pub-assaymark/pub/chgo/proto.NewReader -/
def c103 : DC :=
  (.seq (.rg [⟨(some 2), .mov (.c (.p (.pointer none))), none⟩])
    (.seq (.rg [⟨(some 3), .mov (.t 0), none⟩,
      ⟨(some 4), .bld [.p (.slice none 0 0)] [], none⟩,
      ⟨(some 5), .box (.t 4), none⟩,
      ⟨(some 6), .bld [.p (.slice none 0 0), .p (.pointer none)] [(0, 1, (.t 3)), (1, 1, (.t 5))], none⟩,
      ⟨(some 7), .box (.t 6), none⟩,
      ⟨(some 2), .mov (.t 7), none⟩])
    .ret))
def r103 : List DR := [.tmp 2]
theorem c103_ok : Try.f103.body.bind (cCode Try.prog) = some c103 := by kernel_rfl
theorem r103_ok : cRes Try.prog Try.f103.results.toList = some r103 := by kernel_rfl

/-- (*given.example/pub-assaymark/pub/chgo/proto.Reader).readFull -/
def c171 : DC :=
  (.seq (.rg [⟨(some 4), .mov (.c (.p .nilIface)), none⟩])
    (.seq (.seq (.rg [⟨(some 5), .mov (.t 0), none⟩,
      ⟨(some 6), .nilchk .ptr (.t 5), none⟩,
      ⟨(some 7), .faddr false 0 1 (.t 6), none⟩,
      ⟨(some 8), .load false 1 (.t 7), none⟩,
      ⟨(some 9), .lenl (.t 8), none⟩,
      ⟨(some 10), .mov (.t 1), none⟩,
      ⟨(some 11), .bin .lss (.t 9) (.t 10), none⟩])
    (.cond (.t 11) (.seq (.rg [⟨(some 12), .mov (.t 0), none⟩,
        ⟨(some 13), .callr 184 [(.t 12)], none⟩,
        ⟨(some 14), .callr 140 [(.t 13), (.c (.p (.string ⟨#[114, 101, 97, 100]⟩)))], none⟩,
        ⟨(some 4), .mov (.t 14), none⟩])
      .ret)
      .skip))
    (.seq (.rg [⟨(some 15), .mov (.t 0), none⟩,
      ⟨(some 16), .nilchk .ptr (.t 15), none⟩,
      ⟨(some 17), .faddr false 1 1 (.t 16), none⟩,
      ⟨(some 18), .load false 1 (.t 17), none⟩,
      ⟨(some 19), .mov (.t 1), none⟩,
      ⟨(some 20), .callr 185 [(.t 18), (.t 19)], none⟩])
    (.seq (.rg [⟨(some 21), .mov (.t 0), none⟩,
      ⟨(some 22), .mov (.t 0), none⟩,
      ⟨(some 23), .nilchk .ptr (.t 22), none⟩,
      ⟨(some 24), .faddr false 1 1 (.t 23), none⟩,
      ⟨(some 25), .load false 1 (.t 24), none⟩,
      ⟨(some 26), .nilchk .ptr (.t 25), none⟩,
      ⟨(some 27), .faddr false 0 1 (.t 26), none⟩,
      ⟨(some 28), .load false 1 (.t 27), none⟩,
      ⟨(some 29), .callr 186 [(.t 21), (.t 28)], none⟩,
      ⟨(some 4), .mov (.t 29), none⟩])
    .ret))))
def r171 : List DR := [.tmp 4]
theorem c171_ok : Try.f171.body.bind (cCode Try.prog) = some c171 := by kernel_rfl
theorem r171_ok : cRes Try.prog Try.f171.results.toList = some r171 := by kernel_rfl

/-- (*given.example/pub-assaymark/pub/chgo/proto.Buffer).Ensure -/
def c185 : DC :=
  (.seq (.rg [⟨(some 4), .mov (.t 0), none⟩,
      ⟨(some 5), .nilchk .ptr (.t 4), none⟩,
      ⟨(some 6), .faddr false 0 1 (.t 5), none⟩,
      ⟨(some 7), .load false 1 (.t 6), none⟩,
      ⟨(some 8), .capl (.t 7), none⟩,
      ⟨(some 9), .mov (.t 1), none⟩,
      ⟨(some 10), .bin .lss (.t 8) (.t 9), none⟩])
    (.cond (.t 10) (.rg [⟨(some 11), .mov (.t 0), none⟩,
        ⟨(some 12), .mov (.t 1), none⟩,
        ⟨(some 13), .mks false 1 1 (.p (.int .u8 0)) (.t 12) (.t 12), none⟩,
        ⟨(some 14), .nilchk .ptr (.t 11), none⟩,
        ⟨(some 15), .faddr false 0 1 (.t 14), none⟩,
        ⟨none, .store 1 (.t 15) (.t 13), none⟩])
      (.rg [⟨(some 16), .mov (.t 0), none⟩,
        ⟨(some 17), .mov (.t 0), none⟩,
        ⟨(some 18), .nilchk .ptr (.t 17), none⟩,
        ⟨(some 19), .faddr false 0 1 (.t 18), none⟩,
        ⟨(some 20), .load false 1 (.t 19), none⟩,
        ⟨(some 21), .mov (.t 1), none⟩,
        ⟨(some 22), .slcl 1 (.t 20) none (some (.t 21)), none⟩,
        ⟨(some 23), .nilchk .ptr (.t 16), none⟩,
        ⟨(some 24), .faddr false 0 1 (.t 23), none⟩,
        ⟨none, .store 1 (.t 24) (.t 22), none⟩])))
def r185 : List DR := []
theorem c185_ok : Try.f185.body.bind (cCode Try.prog) = some c185 := by kernel_rfl
theorem r185_ok : cRes Try.prog Try.f185.results.toList = some r185 := by kernel_rfl

/-- (*given.example/pub-assaymark/pub/chgo/proto.Reader).ReadFull -/
def c186 : DC :=
  (.seq (.rg [⟨(some 4), .mov (.c (.p .nilIface)), none⟩])
    (.seq (.seq (.rg [⟨(some 5), .mov (.t 0), none⟩,
      ⟨(some 6), .nilchk .ptr (.t 5), none⟩,
      ⟨(some 7), .faddr false 0 1 (.t 6), none⟩,
      ⟨(some 8), .load false 1 (.t 7), none⟩,
      ⟨(some 9), .lenl (.t 8), none⟩,
      ⟨(some 10), .mov (.t 1), none⟩,
      ⟨(some 11), .lenl (.t 10), none⟩,
      ⟨(some 12), .bin .lss (.t 9) (.t 11), none⟩])
    (.cond (.t 12) (.seq (.rg [⟨(some 13), .mov (.t 0), none⟩,
        ⟨(some 14), .callr 184 [(.t 13)], none⟩,
        ⟨(some 15), .callr 140 [(.t 14), (.c (.p (.string ⟨#[114, 101, 97, 100]⟩)))], none⟩,
        ⟨(some 4), .mov (.t 15), none⟩])
      .ret)
      .skip))
    (.seq (.rg [⟨(some 16), .mov (.t 1), none⟩,
      ⟨(some 17), .mov (.t 0), none⟩,
      ⟨(some 18), .nilchk .ptr (.t 17), none⟩,
      ⟨(some 19), .faddr false 0 1 (.t 18), none⟩,
      ⟨(some 20), .load false 1 (.t 19), none⟩,
      ⟨(some 21), .cpy 1 (.t 16) (.t 20), none⟩])
    (.seq (.rg [⟨(some 22), .mov (.t 0), none⟩,
      ⟨(some 23), .mov (.t 0), none⟩,
      ⟨(some 24), .nilchk .ptr (.t 23), none⟩,
      ⟨(some 25), .faddr false 0 1 (.t 24), none⟩,
      ⟨(some 26), .load false 1 (.t 25), none⟩,
      ⟨(some 27), .mov (.t 1), none⟩,
      ⟨(some 28), .lenl (.t 27), none⟩,
      ⟨(some 29), .slcl 1 (.t 26) (some (.t 28)) none, none⟩,
      ⟨(some 30), .nilchk .ptr (.t 22), none⟩,
      ⟨(some 31), .faddr false 0 1 (.t 30), none⟩,
      ⟨none, .store 1 (.t 31) (.t 29), none⟩])
    (.seq (.rg [⟨(some 4), .mov (.c (.p .nilIface)), none⟩])
    .ret)))))
def r186 : List DR := [.tmp 4]
theorem c186_ok : Try.f186.body.bind (cCode Try.prog) = some c186 := by kernel_rfl
theorem r186_ok : cRes Try.prog Try.f186.results.toList = some r186 := by kernel_rfl

/-- (*given.example/pub-assaymark/pub/chgo/proto.Reader).end -/
def c184 : DC :=
  (.seq (.rg [⟨(some 2), .mov (.c (.p .nilIface)), none⟩])
    (.seq (.rg [⟨(some 3), .mov (.t 0), none⟩,
      ⟨(some 4), .nilchk .ptr (.t 3), none⟩,
      ⟨(some 5), .faddr false 0 1 (.t 4), none⟩,
      ⟨none, .store 1 (.t 5) (.c (.p (.slice none 0 0))), none⟩])
    (.seq (.rg [⟨(some 6), .callr 141 [(.c (.p (.string ⟨#[117, 110, 101, 120, 112, 101, 99, 116, 101, 100, 32, 101, 110, 100]⟩)))], none⟩,
      ⟨(some 2), .mov (.t 6), none⟩])
    .ret)))
def r184 : List DR := [.tmp 2]
theorem c184_ok : Try.f184.body.bind (cCode Try.prog) = some c184 := by kernel_rfl
theorem r184_ok : cRes Try.prog Try.f184.results.toList = some r184 := by kernel_rfl

/-- given.example/pub-assaymark/pub/chgo/errors.Wrap -/
def c140 : DC :=
  (.seq (.rg [⟨(some 4), .mov (.c (.p .nilIface)), none⟩])
    (.seq (.rg [⟨(some 5), .mov (.t 1), none⟩,
      ⟨(some 6), .mov (.t 0), none⟩,
      ⟨(some 7), .bld [.p (.string ⟨#[]⟩), .p .nilIface] [(0, 1, (.t 5)), (1, 1, (.t 6))], none⟩,
      ⟨(some 8), .box (.t 7), none⟩,
      ⟨(some 9), .ifc 265 (.t 8), none⟩,
      ⟨(some 4), .mov (.t 9), none⟩])
    .ret))
def r140 : List DR := [.tmp 4]
theorem c140_ok : Try.f140.body.bind (cCode Try.prog) = some c140 := by kernel_rfl
theorem r140_ok : cRes Try.prog Try.f140.results.toList = some r140 := by kernel_rfl

/-- given.example/pub-assaymark/pub/chgo/errors.New -/
def c141 : DC :=
  (.seq (.rg [⟨(some 2), .mov (.c (.p .nilIface)), none⟩])
    (.seq (.rg [⟨(some 3), .mov (.t 0), none⟩,
      ⟨(some 4), .bld [.p (.string ⟨#[]⟩), .p .nilIface] [(0, 1, (.t 3))], none⟩,
      ⟨(some 5), .box (.t 4), none⟩,
      ⟨(some 6), .ifc 265 (.t 5), none⟩,
      ⟨(some 2), .mov (.t 6), none⟩])
    .ret))
def r141 : List DR := [.tmp 2]
theorem c141_ok : Try.f141.body.bind (cCode Try.prog) = some c141 := by kernel_rfl
theorem r141_ok : cRes Try.prog Try.f141.results.toList = some r141 := by kernel_rfl

/-- given.example/pub-assaymark/pub/chgo/errors.Errorf -/
def c143 : DC :=
  (.seq (.rg [⟨(some 4), .mov (.c (.p .nilIface)), none⟩])
    (.seq (.rg [⟨(some 5), .mov (.t 0), none⟩,
      ⟨(some 6), .callr 141 [(.t 5)], none⟩,
      ⟨(some 4), .mov (.t 6), none⟩])
    .ret))
def r143 : List DR := [.tmp 4]
theorem c143_ok : Try.f143.body.bind (cCode Try.prog) = some c143 := by kernel_rfl
theorem r143_ok : cRes Try.prog Try.f143.results.toList = some r143 := by kernel_rfl

/-- (*given.example/pub-assaymark/pub/chgo/proto.Reader).ReadByte -/
def c139 : DC :=
  (.seq (.rg [⟨(some 2), .mov (.c (.p (.int .u8 0))), none⟩,
      ⟨(some 3), .mov (.c (.p .nilIface)), none⟩])
    (.seq (.seq (.rg [⟨(some 5), .mov (.t 0), none⟩,
      ⟨(some 6), .callr 171 [(.t 5), (.c (.p (.int .i64 1)))], none⟩,
      ⟨(some 4), .mov (.t 6), none⟩])
    (.seq (.rg [⟨(some 7), .mov (.t 4), none⟩,
      ⟨(some 8), .eqn true .iface (.t 7), none⟩])
    (.cond (.t 8) (.seq (.rg [⟨(some 9), .mov (.t 4), none⟩,
        ⟨(some 2), .mov (.c (.p (.int .u8 0))), none⟩,
        ⟨(some 3), .mov (.t 9), none⟩])
      .ret)
      .skip)))
    (.seq (.rg [⟨(some 10), .mov (.t 0), none⟩,
      ⟨(some 11), .nilchk .ptr (.t 10), none⟩,
      ⟨(some 12), .faddr false 1 1 (.t 11), none⟩,
      ⟨(some 13), .load false 1 (.t 12), none⟩,
      ⟨(some 14), .nilchk .ptr (.t 13), none⟩,
      ⟨(some 15), .faddr false 0 1 (.t 14), none⟩,
      ⟨(some 16), .load false 1 (.t 15), none⟩,
      ⟨(some 17), .iaddr 1 (.t 16) (.c (.p (.int .i64 0))), none⟩,
      ⟨(some 18), .load false 1 (.t 17), none⟩,
      ⟨(some 2), .mov (.t 18), none⟩,
      ⟨(some 3), .mov (.c (.p .nilIface)), none⟩])
    .ret)))
def r139 : List DR := [.tmp 2, .tmp 3]
theorem c139_ok : Try.f139.body.bind (cCode Try.prog) = some c139 := by kernel_rfl
theorem r139_ok : cRes Try.prog Try.f139.results.toList = some r139 := by kernel_rfl

/-- (*given.example/pub-assaymark/pub/chgo/proto.Reader).UVarInt -/
def c104 : DC :=
  (.seq (.rg [⟨(some 2), .mov (.c (.p (.int .u64 0))), none⟩,
      ⟨(some 3), .mov (.c (.p .nilIface)), none⟩])
    (.seq (.rg [⟨(some 4), .mov (.c (.p (.int .u64 0))), none⟩])
    (.seq (.rg [⟨(some 5), .mov (.c (.p (.int .u64 0))), none⟩])
    (.seq (.seq (.rg [⟨(some 6), .mov (.c (.p (.int .i64 0))), none⟩])
    (.block 0 (.loop (.seq (.seq (.rg [⟨(some 9), .mov (.t 6), none⟩,
        ⟨(some 10), .bin .lss (.t 9) (.c (.p (.int .i64 10))), none⟩])
      (.cond (.t 10) .skip
        (.exit 0)))
      (.seq (.block 1 (.seq (.rg [⟨(some 14), .mov (.t 0), none⟩,
         ⟨(some 15), .callr 139 [(.t 14)], none⟩,
         ⟨(some 13), .mov (.t 15), none⟩,
         ⟨(some 16), .ext (.t 13) 0, none⟩,
         ⟨(some 17), .ext (.t 13) 1, none⟩,
         ⟨(some 7), .mov (.t 16), none⟩,
         ⟨(some 8), .mov (.t 17), none⟩])
       (.seq (.seq (.rg [⟨(some 18), .mov (.t 8), none⟩,
         ⟨(some 19), .eqn true .iface (.t 18), none⟩])
       (.cond (.t 19) (.seq (.rg [⟨(some 20), .mov (.t 8), none⟩,
           ⟨(some 21), .callr 140 [(.t 20), (.c (.p (.string ⟨#[114, 101, 97, 100]⟩)))], none⟩,
           ⟨(some 2), .mov (.c (.p (.int .u64 0))), none⟩,
           ⟨(some 3), .mov (.t 21), none⟩])
         .ret)
         .skip))
       (.seq (.seq (.rg [⟨(some 22), .mov (.t 7), none⟩,
         ⟨(some 23), .bin .lss (.t 22) (.c (.p (.int .u8 128))), none⟩])
       (.cond (.t 23) (.seq (.seq (.rg [⟨(some 24), .mov (.t 6), none⟩,
           ⟨(some 25), .bin .eql (.t 24) (.c (.p (.int .i64 9))), none⟩,
           ⟨(some 26), .mov (.t 25), none⟩,
           ⟨(some 27), .mov (.t 7), (some (26, true))⟩,
           ⟨(some 28), .bin .gtr (.t 27) (.c (.p (.int .u8 1))), (some (26, true))⟩,
           ⟨(some 29), .pick (.t 26) (.t 28) (.c (.p (.bool false))), none⟩])
         (.cond (.t 29) (.exit 0)
           .skip))
         (.seq (.rg [⟨(some 30), .mov (.t 4), none⟩,
           ⟨(some 31), .mov (.t 7), none⟩,
           ⟨(some 32), .cint .u64 (.t 31), none⟩,
           ⟨(some 33), .mov (.t 5), none⟩,
           ⟨(some 34), .bin .shl (.t 32) (.t 33), none⟩,
           ⟨(some 35), .bin .or (.t 30) (.t 34), none⟩,
           ⟨(some 2), .mov (.t 35), none⟩,
           ⟨(some 3), .mov (.c (.p .nilIface)), none⟩])
         .ret))
         .skip))
       (.seq (.rg [⟨(some 36), .mov (.t 4), none⟩,
         ⟨(some 37), .mov (.t 7), none⟩,
         ⟨(some 38), .bin .and (.t 37) (.c (.p (.int .u8 127))), none⟩,
         ⟨(some 39), .cint .u64 (.t 38), none⟩,
         ⟨(some 40), .mov (.t 5), none⟩,
         ⟨(some 41), .bin .shl (.t 39) (.t 40), none⟩,
         ⟨(some 42), .bin .or (.t 36) (.t 41), none⟩,
         ⟨(some 4), .mov (.t 42), none⟩])
       (.rg [⟨(some 43), .mov (.t 5), none⟩,
         ⟨(some 44), .bin .add (.t 43) (.c (.p (.int .u64 7))), none⟩,
         ⟨(some 5), .mov (.t 44), none⟩]))))))
      (.rg [⟨(some 11), .mov (.t 6), none⟩,
        ⟨(some 12), .bin .add (.t 11) (.c (.p (.int .i64 1))), none⟩,
        ⟨(some 6), .mov (.t 12), none⟩]))))))
    (.seq (.rg [⟨(some 45), .callr 141 [(.c (.p (.string ⟨#[117, 118, 97, 114, 105, 110, 116, 32, 111, 118, 101, 114, 102, 108, 111, 119, 115]⟩)))], none⟩,
      ⟨(some 2), .mov (.c (.p (.int .u64 0))), none⟩,
      ⟨(some 3), .mov (.t 45), none⟩])
    .ret)))))
def r104 : List DR := [.tmp 2, .tmp 3]
theorem c104_ok : Try.f104.body.bind (cCode Try.prog) = some c104 := by kernel_rfl
theorem r104_ok : cRes Try.prog Try.f104.results.toList = some r104 := by kernel_rfl

/-- (*given.example/pub-assaymark/pub/chgo/proto.Reader).UInt8 -/
def c142 : DC :=
  (.seq (.rg [⟨(some 2), .mov (.c (.p (.int .u8 0))), none⟩,
      ⟨(some 3), .mov (.c (.p .nilIface)), none⟩])
    (.seq (.seq (.rg [⟨(some 5), .mov (.t 0), none⟩,
      ⟨(some 6), .callr 171 [(.t 5), (.c (.p (.int .i64 1)))], none⟩,
      ⟨(some 4), .mov (.t 6), none⟩])
    (.seq (.rg [⟨(some 7), .mov (.t 4), none⟩,
      ⟨(some 8), .eqn true .iface (.t 7), none⟩])
    (.cond (.t 8) (.seq (.rg [⟨(some 9), .mov (.t 4), none⟩,
        ⟨(some 10), .callr 140 [(.t 9), (.c (.p (.string ⟨#[114, 101, 97, 100]⟩)))], none⟩,
        ⟨(some 2), .mov (.c (.p (.int .u8 0))), none⟩,
        ⟨(some 3), .mov (.t 10), none⟩])
      .ret)
      .skip)))
    (.seq (.rg [⟨(some 11), .mov (.t 0), none⟩,
      ⟨(some 12), .nilchk .ptr (.t 11), none⟩,
      ⟨(some 13), .faddr false 1 1 (.t 12), none⟩,
      ⟨(some 14), .load false 1 (.t 13), none⟩,
      ⟨(some 15), .nilchk .ptr (.t 14), none⟩,
      ⟨(some 16), .faddr false 0 1 (.t 15), none⟩,
      ⟨(some 17), .load false 1 (.t 16), none⟩,
      ⟨(some 18), .iaddr 1 (.t 17) (.c (.p (.int .i64 0))), none⟩,
      ⟨(some 19), .load false 1 (.t 18), none⟩,
      ⟨(some 2), .mov (.t 19), none⟩,
      ⟨(some 3), .mov (.c (.p .nilIface)), none⟩])
    .ret)))
def r142 : List DR := [.tmp 2, .tmp 3]
theorem c142_ok : Try.f142.body.bind (cCode Try.prog) = some c142 := by kernel_rfl
theorem r142_ok : cRes Try.prog Try.f142.results.toList = some r142 := by kernel_rfl

/-- (*given.example/pub-assaymark/pub/chgo/proto.Reader).Bool -/
def c105 : DC :=
  (.seq (.rg [⟨(some 2), .mov (.c (.p (.bool false))), none⟩,
      ⟨(some 3), .mov (.c (.p .nilIface)), none⟩])
    (.seq (.rg [⟨(some 7), .mov (.t 0), none⟩,
      ⟨(some 8), .callr 142 [(.t 7)], none⟩,
      ⟨(some 6), .mov (.t 8), none⟩,
      ⟨(some 9), .ext (.t 6) 0, none⟩,
      ⟨(some 10), .ext (.t 6) 1, none⟩,
      ⟨(some 4), .mov (.t 9), none⟩,
      ⟨(some 5), .mov (.t 10), none⟩])
    (.seq (.seq (.rg [⟨(some 11), .mov (.t 5), none⟩,
      ⟨(some 12), .eqn true .iface (.t 11), none⟩])
    (.cond (.t 12) (.seq (.rg [⟨(some 13), .mov (.t 5), none⟩,
        ⟨(some 14), .callr 140 [(.t 13), (.c (.p (.string ⟨#[117, 105, 110, 116, 56]⟩)))], none⟩,
        ⟨(some 2), .mov (.c (.p (.bool false))), none⟩,
        ⟨(some 3), .mov (.t 14), none⟩])
      .ret)
      .skip))
    (.seq (.rg [⟨(some 15), .mov (.t 4), none⟩])
    (.block 0 (.seq (.rg [⟨(some 21), .bin .eql (.t 15) (.c (.p (.int .u8 1))), none⟩,
       ⟨(some 20), .mov (.t 21), none⟩])
     (.cond (.t 20) (.seq (.rg [⟨(some 2), .mov (.c (.p (.bool true))), none⟩,
         ⟨(some 3), .mov (.c (.p .nilIface)), none⟩])
       .ret)
       (.seq (.rg [⟨(some 23), .bin .eql (.t 15) (.c (.p (.int .u8 0))), none⟩,
         ⟨(some 22), .mov (.t 23), none⟩])
       (.cond (.t 22) (.seq (.rg [⟨(some 2), .mov (.c (.p (.bool false))), none⟩,
           ⟨(some 3), .mov (.c (.p .nilIface)), none⟩])
         .ret)
         (.seq (.rg [⟨(some 16), .mov (.t 4), none⟩,
           ⟨(some 17), .ifc 5 (.t 16), none⟩,
           ⟨(some 18), .lit 1 [(.t 17)], none⟩,
           ⟨(some 19), .callr 143 [(.c (.p (.string ⟨#[117, 110, 101, 120, 112, 101, 99, 116, 101, 100, 32, 118, 97, 108, 117, 101, 32, 37, 100, 32, 102, 111, 114, 32, 98, 111, 111, 108, 101, 97, 110]⟩))), (.t 18)], none⟩,
           ⟨(some 2), .mov (.c (.p (.bool false))), none⟩,
           ⟨(some 3), .mov (.t 19), none⟩])
         .ret))))))))))
def r105 : List DR := [.tmp 2, .tmp 3]
theorem c105_ok : Try.f105.body.bind (cCode Try.prog) = some c105 := by kernel_rfl
theorem r105_ok : cRes Try.prog Try.f105.results.toList = some r105 := by kernel_rfl

/-- (*given.example/pub-assaymark/pub/chgo/proto.Reader).Left -/
def c63 : DC :=
  (.seq (.rg [⟨(some 2), .mov (.c (.p (.int .i64 0))), none⟩])
    (.seq (.rg [⟨(some 3), .mov (.t 0), none⟩,
      ⟨(some 4), .nilchk .ptr (.t 3), none⟩,
      ⟨(some 5), .faddr false 0 1 (.t 4), none⟩,
      ⟨(some 6), .load false 1 (.t 5), none⟩,
      ⟨(some 7), .lenl (.t 6), none⟩,
      ⟨(some 2), .mov (.t 7), none⟩])
    .ret))
def r63 : List DR := [.tmp 2]
theorem c63_ok : Try.f63.body.bind (cCode Try.prog) = some c63 := by kernel_rfl
theorem r63_ok : cRes Try.prog Try.f63.results.toList = some r63 := by kernel_rfl

end Go.Proofs.Ytbbafeocmchlnaa
