/- Addresses: the reader of eight groups, its code in pieces (printed by genq.py). -/
import Derived.Test.YtdgnjngbheecnaaIpP
set_option linter.unusedVariables false
set_option linter.unusedSimpArgs false
set_option maxRecDepth 100000
namespace Go.Proofs.Ytdgnjngbheecnaa
open Go Go.Den Go.Proofs

/-- What follows the loop. -/
def c130T : DC :=
  (.seq (.seq (.rg [⟨(some 233), .mov (.t 4), none⟩,
      ⟨(some 234), .lens (.t 233), none⟩,
      ⟨(some 235), .bin .neq (.t 234) (.c (.p (.int .i64 0))), none⟩])
    (.cond (.t 235) (.seq (.rg [⟨(some 236), .bld [.p (.int .u64 0), .p (.int .u64 0), .p (.bool false), .p (.bool false), .p (.string ⟨#[]⟩)] [], none⟩,
        ⟨(some 237), .mov (.t 0), none⟩,
        ⟨(some 238), .mov (.t 4), none⟩,
        ⟨(some 239), .bld [.p (.string ⟨#[]⟩), .p (.string ⟨#[]⟩), .p (.string ⟨#[]⟩)] [(0, 1, (.t 237)), (1, 1, (.c (.p (.string ⟨#[116, 114, 97, 105, 108, 105, 110, 103, 32, 103, 97, 114, 98, 97, 103, 101, 32, 97, 102, 116, 101, 114, 32, 97, 100, 100, 114, 101, 115, 115]⟩)))), (2, 1, (.t 238))], none⟩,
        ⟨(some 240), .ifc 160 (.t 239), none⟩,
        ⟨none, .store 5 (.t 2) (.t 236), none⟩,
        ⟨(some 3), .mov (.t 240), none⟩])
      .ret)
      .skip))
    (.seq (.seq (.rg [⟨(some 241), .mov (.t 6), none⟩,
      ⟨(some 242), .bin .lss (.t 241) (.c (.p (.int .i64 16))), none⟩])
    (.cond (.t 242) (.seq (.seq (.rg [⟨(some 243), .mov (.t 8), none⟩,
        ⟨(some 244), .bin .lss (.t 243) (.c (.p (.int .i64 0))), none⟩])
      (.cond (.t 244) (.seq (.rg [⟨(some 245), .bld [.p (.int .u64 0), .p (.int .u64 0), .p (.bool false), .p (.bool false), .p (.string ⟨#[]⟩)] [], none⟩,
          ⟨(some 246), .mov (.t 0), none⟩,
          ⟨(some 247), .bld [.p (.string ⟨#[]⟩), .p (.string ⟨#[]⟩), .p (.string ⟨#[]⟩)] [(0, 1, (.t 246)), (1, 1, (.c (.p (.string ⟨#[97, 100, 100, 114, 101, 115, 115, 32, 115, 116, 114, 105, 110, 103, 32, 116, 111, 111, 32, 115, 104, 111, 114, 116]⟩))))], none⟩,
          ⟨(some 248), .ifc 160 (.t 247), none⟩,
          ⟨none, .store 5 (.t 2) (.t 245), none⟩,
          ⟨(some 3), .mov (.t 248), none⟩])
        .ret)
        .skip))
      (.seq (.rg [⟨(some 249), .mov (.t 6), none⟩,
        ⟨(some 250), .bin .sub (.c (.p (.int .i64 16))) (.t 249), none⟩,
        ⟨(some 14), .mov (.t 250), none⟩])
      (.seq (.seq (.rg [⟨(some 251), .mov (.t 6), none⟩,
        ⟨(some 252), .bin .sub (.t 251) (.c (.p (.int .i64 1))), none⟩,
        ⟨(some 15), .mov (.t 252), none⟩])
      (.block 4 (.loop (.seq (.seq (.rg [⟨(some 253), .mov (.t 15), none⟩,
          ⟨(some 254), .mov (.t 8), none⟩,
          ⟨(some 255), .bin .geq (.t 253) (.t 254), none⟩])
        (.cond (.t 255) .skip
          (.exit 4)))
        (.seq (.block 5 (.rg [⟨(some 258), .mov (.t 15), none⟩,
           ⟨(some 259), .mov (.t 14), none⟩,
           ⟨(some 260), .bin .add (.t 258) (.t 259), none⟩,
           ⟨(some 261), .mov (.t 15), none⟩,
           ⟨(some 262), .iaddra 16 1 false (.t 7) (.t 261), none⟩,
           ⟨(some 263), .load false 1 (.t 262), none⟩,
           ⟨(some 264), .iaddra 16 1 false (.t 7) (.t 260), none⟩,
           ⟨none, .store 1 (.t 264) (.t 263), none⟩]))
        (.rg [⟨(some 256), .mov (.t 15), none⟩,
          ⟨(some 257), .bin .sub (.t 256) (.c (.p (.int .i64 1))), none⟩,
          ⟨(some 15), .mov (.t 257), none⟩]))))))
      (.rg [⟨(some 265), .mov (.t 8), none⟩,
        ⟨(some 266), .mov (.t 8), none⟩,
        ⟨(some 267), .mov (.t 14), none⟩,
        ⟨(some 268), .bin .add (.t 266) (.t 267), none⟩,
        ⟨(some 269), .slca 16 1 false (.t 7) (some (.t 265)) (some (.t 268)), none⟩,
        ⟨none, .clr (.p (.int .u8 0)) (.t 269), none⟩]))))
      (.seq (.rg [⟨(some 270), .mov (.t 8), none⟩,
        ⟨(some 271), .bin .geq (.t 270) (.c (.p (.int .i64 0))), none⟩])
      (.cond (.t 271) (.seq (.rg [⟨(some 272), .bld [.p (.int .u64 0), .p (.int .u64 0), .p (.bool false), .p (.bool false), .p (.string ⟨#[]⟩)] [], none⟩,
          ⟨(some 273), .mov (.t 0), none⟩,
          ⟨(some 274), .bld [.p (.string ⟨#[]⟩), .p (.string ⟨#[]⟩), .p (.string ⟨#[]⟩)] [(0, 1, (.t 273)), (1, 1, (.c (.p (.string ⟨#[116, 104, 101, 32, 58, 58, 32, 109, 117, 115, 116, 32, 101, 120, 112, 97, 110, 100, 32, 116, 111, 32, 97, 116, 32, 108, 101, 97, 115, 116, 32, 111, 110, 101, 32, 102, 105, 101, 108, 100, 32, 111, 102, 32, 122, 101, 114, 111, 115]⟩))))], none⟩,
          ⟨(some 275), .ifc 160 (.t 274), none⟩,
          ⟨none, .store 5 (.t 2) (.t 272), none⟩,
          ⟨(some 3), .mov (.t 275), none⟩])
        .ret)
        .skip))))
    (.seq (.rg [⟨(some 276), .load true 16 (.t 7), none⟩,
      ⟨(some 277), .callr 149 [(.t 276)], none⟩,
      ⟨(some 278), .mov (.t 5), none⟩,
      ⟨(some 279), .callr 148 [(.t 277), (.t 278)], none⟩,
      ⟨none, .store 5 (.t 2) (.t 279), none⟩,
      ⟨(some 3), .mov (.c (.p .nilIface)), none⟩])
    .ret)))
/-- What follows the digits. -/
def c130R : DC :=
  (.seq (.seq (.rg [⟨(some 118), .mov (.t 9), none⟩,
         ⟨(some 119), .bin .eql (.t 118) (.c (.p (.int .i64 0))), none⟩])
       (.cond (.t 119) (.seq (.rg [⟨(some 120), .bld [.p (.int .u64 0), .p (.int .u64 0), .p (.bool false), .p (.bool false), .p (.string ⟨#[]⟩)] [], none⟩,
           ⟨(some 121), .mov (.t 0), none⟩,
           ⟨(some 122), .mov (.t 4), none⟩,
           ⟨(some 123), .bld [.p (.string ⟨#[]⟩), .p (.string ⟨#[]⟩), .p (.string ⟨#[]⟩)] [(0, 1, (.t 121)), (1, 1, (.c (.p (.string ⟨#[101, 97, 99, 104, 32, 99, 111, 108, 111, 110, 45, 115, 101, 112, 97, 114, 97, 116, 101, 100, 32, 102, 105, 101, 108, 100, 32, 109, 117, 115, 116, 32, 104, 97, 118, 101, 32, 97, 116, 32, 108, 101, 97, 115, 116, 32, 111, 110, 101, 32, 100, 105, 103, 105, 116]⟩)))), (2, 1, (.t 122))], none⟩,
           ⟨(some 124), .ifc 160 (.t 123), none⟩,
           ⟨none, .store 5 (.t 2) (.t 120), none⟩,
           ⟨(some 3), .mov (.t 124), none⟩])
         .ret)
         .skip))
       (.seq (.seq (.rg [⟨(some 125), .mov (.t 9), none⟩,
         ⟨(some 126), .mov (.t 4), none⟩,
         ⟨(some 127), .lens (.t 126), none⟩,
         ⟨(some 128), .bin .lss (.t 125) (.t 127), none⟩,
         ⟨(some 129), .mov (.t 128), none⟩,
         ⟨(some 130), .mov (.t 4), (some (129, true))⟩,
         ⟨(some 131), .mov (.t 9), (some (129, true))⟩,
         ⟨(some 132), .idxs (.t 130) (.t 131), (some (129, true))⟩,
         ⟨(some 133), .bin .eql (.t 132) (.c (.p (.int .u8 46))), (some (129, true))⟩,
         ⟨(some 134), .pick (.t 129) (.t 133) (.c (.p (.bool false))), none⟩])
       (.cond (.t 134) (.seq (.seq (.rg [⟨(some 135), .mov (.t 8), none⟩,
           ⟨(some 136), .bin .lss (.t 135) (.c (.p (.int .i64 0))), none⟩,
           ⟨(some 137), .mov (.t 136), none⟩,
           ⟨(some 138), .mov (.t 6), (some (137, true))⟩,
           ⟨(some 139), .bin .neq (.t 138) (.c (.p (.int .i64 12))), (some (137, true))⟩,
           ⟨(some 140), .pick (.t 137) (.t 139) (.c (.p (.bool false))), none⟩])
         (.cond (.t 140) (.seq (.rg [⟨(some 141), .bld [.p (.int .u64 0), .p (.int .u64 0), .p (.bool false), .p (.bool false), .p (.string ⟨#[]⟩)] [], none⟩,
             ⟨(some 142), .mov (.t 0), none⟩,
             ⟨(some 143), .mov (.t 4), none⟩,
             ⟨(some 144), .bld [.p (.string ⟨#[]⟩), .p (.string ⟨#[]⟩), .p (.string ⟨#[]⟩)] [(0, 1, (.t 142)), (1, 1, (.c (.p (.string ⟨#[101, 109, 98, 101, 100, 100, 101, 100, 32, 73, 80, 118, 52, 32, 97, 100, 100, 114, 101, 115, 115, 32, 109, 117, 115, 116, 32, 114, 101, 112, 108, 97, 99, 101, 32, 116, 104, 101, 32, 102, 105, 110, 97, 108, 32, 50, 32, 102, 105, 101, 108, 100, 115, 32, 111, 102, 32, 116, 104, 101, 32, 97, 100, 100, 114, 101, 115, 115]⟩)))), (2, 1, (.t 143))], none⟩,
             ⟨(some 145), .ifc 160 (.t 144), none⟩,
             ⟨none, .store 5 (.t 2) (.t 141), none⟩,
             ⟨(some 3), .mov (.t 145), none⟩])
           .ret)
           .skip))
         (.seq (.seq (.rg [⟨(some 146), .mov (.t 6), none⟩,
           ⟨(some 147), .bin .add (.t 146) (.c (.p (.int .i64 4))), none⟩,
           ⟨(some 148), .bin .gtr (.t 147) (.c (.p (.int .i64 16))), none⟩])
         (.cond (.t 148) (.seq (.rg [⟨(some 149), .bld [.p (.int .u64 0), .p (.int .u64 0), .p (.bool false), .p (.bool false), .p (.string ⟨#[]⟩)] [], none⟩,
             ⟨(some 150), .mov (.t 0), none⟩,
             ⟨(some 151), .mov (.t 4), none⟩,
             ⟨(some 152), .bld [.p (.string ⟨#[]⟩), .p (.string ⟨#[]⟩), .p (.string ⟨#[]⟩)] [(0, 1, (.t 150)), (1, 1, (.c (.p (.string ⟨#[116, 111, 111, 32, 109, 97, 110, 121, 32, 104, 101, 120, 32, 102, 105, 101, 108, 100, 115, 32, 116, 111, 32, 102, 105, 116, 32, 97, 110, 32, 101, 109, 98, 101, 100, 100, 101, 100, 32, 73, 80, 118, 52, 32, 97, 116, 32, 116, 104, 101, 32, 101, 110, 100, 32, 111, 102, 32, 116, 104, 101, 32, 97, 100, 100, 114, 101, 115, 115]⟩)))), (2, 1, (.t 151))], none⟩,
             ⟨(some 153), .ifc 160 (.t 152), none⟩,
             ⟨none, .store 5 (.t 2) (.t 149), none⟩,
             ⟨(some 3), .mov (.t 153), none⟩])
           .ret)
           .skip))
         (.seq (.rg [⟨(some 154), .mov (.t 0), none⟩,
           ⟨(some 155), .lens (.t 154), none⟩,
           ⟨(some 12), .mov (.t 155), none⟩])
         (.seq (.seq (.rg [⟨(some 156), .mov (.t 5), none⟩,
           ⟨(some 157), .lens (.t 156), none⟩,
           ⟨(some 158), .bin .gtr (.t 157) (.c (.p (.int .i64 0))), none⟩])
         (.cond (.t 158) (.rg [⟨(some 159), .mov (.t 12), none⟩,
             ⟨(some 160), .mov (.t 5), none⟩,
             ⟨(some 161), .lens (.t 160), none⟩,
             ⟨(some 162), .bin .add (.t 161) (.c (.p (.int .i64 1))), none⟩,
             ⟨(some 163), .bin .sub (.t 159) (.t 162), none⟩,
             ⟨(some 12), .mov (.t 163), none⟩])
           .skip))
         (.seq (.rg [⟨(some 164), .mov (.t 0), none⟩,
           ⟨(some 165), .mov (.t 12), none⟩,
           ⟨(some 166), .mov (.t 4), none⟩,
           ⟨(some 167), .lens (.t 166), none⟩,
           ⟨(some 168), .bin .sub (.t 165) (.t 167), none⟩,
           ⟨(some 169), .mov (.t 12), none⟩,
           ⟨(some 170), .mov (.t 6), none⟩,
           ⟨(some 171), .mov (.t 6), none⟩,
           ⟨(some 172), .bin .add (.t 171) (.c (.p (.int .i64 4))), none⟩,
           ⟨(some 173), .slca 16 1 false (.t 7) (some (.t 170)) (some (.t 172)), none⟩,
           ⟨(some 174), .callr 144 [(.t 164), (.t 168), (.t 169), (.t 173)], none⟩,
           ⟨(some 13), .mov (.t 174), none⟩])
         (.seq (.seq (.rg [⟨(some 175), .mov (.t 13), none⟩,
           ⟨(some 176), .eqn true .iface (.t 175), none⟩])
         (.cond (.t 176) (.seq (.rg [⟨(some 177), .bld [.p (.int .u64 0), .p (.int .u64 0), .p (.bool false), .p (.bool false), .p (.string ⟨#[]⟩)] [], none⟩,
             ⟨(some 178), .mov (.t 13), none⟩,
             ⟨none, .store 5 (.t 2) (.t 177), none⟩,
             ⟨(some 3), .mov (.t 178), none⟩])
           .ret)
           .skip))
         (.seq (.rg [⟨(some 4), .mov (.c (.p (.string ⟨#[]⟩))), none⟩])
         (.seq (.rg [⟨(some 179), .mov (.t 6), none⟩,
           ⟨(some 180), .bin .add (.t 179) (.c (.p (.int .i64 4))), none⟩,
           ⟨(some 6), .mov (.t 180), none⟩])
         (.exit 0)))))))))
         .skip))
       (.seq (.rg [⟨(some 181), .mov (.t 6), none⟩,
         ⟨(some 182), .mov (.t 10), none⟩,
         ⟨(some 183), .bin .shr (.t 182) (.c (.p (.int .u64 8))), none⟩,
         ⟨(some 184), .cint .u8 (.t 183), none⟩,
         ⟨(some 185), .iaddra 16 1 false (.t 7) (.t 181), none⟩,
         ⟨none, .store 1 (.t 185) (.t 184), none⟩])
       (.seq (.rg [⟨(some 186), .mov (.t 6), none⟩,
         ⟨(some 187), .bin .add (.t 186) (.c (.p (.int .i64 1))), none⟩,
         ⟨(some 188), .mov (.t 10), none⟩,
         ⟨(some 189), .cint .u8 (.t 188), none⟩,
         ⟨(some 190), .iaddra 16 1 false (.t 7) (.t 187), none⟩,
         ⟨none, .store 1 (.t 190) (.t 189), none⟩])
       (.seq (.rg [⟨(some 191), .mov (.t 6), none⟩,
         ⟨(some 192), .bin .add (.t 191) (.c (.p (.int .i64 2))), none⟩,
         ⟨(some 6), .mov (.t 192), none⟩])
       (.seq (.rg [⟨(some 193), .mov (.t 4), none⟩,
         ⟨(some 194), .mov (.t 9), none⟩,
         ⟨(some 195), .slcs (.t 193) (some (.t 194)) none, none⟩,
         ⟨(some 4), .mov (.t 195), none⟩])
       (.seq (.seq (.rg [⟨(some 196), .mov (.t 4), none⟩,
         ⟨(some 197), .lens (.t 196), none⟩,
         ⟨(some 198), .bin .eql (.t 197) (.c (.p (.int .i64 0))), none⟩])
       (.cond (.t 198) (.exit 0)
         .skip))
       (.seq (.seq (.rg [⟨(some 199), .mov (.t 4), none⟩,
         ⟨(some 200), .idxs (.t 199) (.c (.p (.int .i64 0))), none⟩,
         ⟨(some 201), .bin .neq (.t 200) (.c (.p (.int .u8 58))), none⟩])
       (.cond (.t 201) (.seq (.rg [⟨(some 202), .bld [.p (.int .u64 0), .p (.int .u64 0), .p (.bool false), .p (.bool false), .p (.string ⟨#[]⟩)] [], none⟩,
           ⟨(some 203), .mov (.t 0), none⟩,
           ⟨(some 204), .mov (.t 4), none⟩,
           ⟨(some 205), .bld [.p (.string ⟨#[]⟩), .p (.string ⟨#[]⟩), .p (.string ⟨#[]⟩)] [(0, 1, (.t 203)), (1, 1, (.c (.p (.string ⟨#[117, 110, 101, 120, 112, 101, 99, 116, 101, 100, 32, 99, 104, 97, 114, 97, 99, 116, 101, 114, 44, 32, 119, 97, 110, 116, 32, 99, 111, 108, 111, 110]⟩)))), (2, 1, (.t 204))], none⟩,
           ⟨(some 206), .ifc 160 (.t 205), none⟩,
           ⟨none, .store 5 (.t 2) (.t 202), none⟩,
           ⟨(some 3), .mov (.t 206), none⟩])
         .ret)
         (.seq (.rg [⟨(some 207), .mov (.t 4), none⟩,
           ⟨(some 208), .lens (.t 207), none⟩,
           ⟨(some 209), .bin .eql (.t 208) (.c (.p (.int .i64 1))), none⟩])
         (.cond (.t 209) (.seq (.rg [⟨(some 210), .bld [.p (.int .u64 0), .p (.int .u64 0), .p (.bool false), .p (.bool false), .p (.string ⟨#[]⟩)] [], none⟩,
             ⟨(some 211), .mov (.t 0), none⟩,
             ⟨(some 212), .mov (.t 4), none⟩,
             ⟨(some 213), .bld [.p (.string ⟨#[]⟩), .p (.string ⟨#[]⟩), .p (.string ⟨#[]⟩)] [(0, 1, (.t 211)), (1, 1, (.c (.p (.string ⟨#[99, 111, 108, 111, 110, 32, 109, 117, 115, 116, 32, 98, 101, 32, 102, 111, 108, 108, 111, 119, 101, 100, 32, 98, 121, 32, 109, 111, 114, 101, 32, 99, 104, 97, 114, 97, 99, 116, 101, 114, 115]⟩)))), (2, 1, (.t 212))], none⟩,
             ⟨(some 214), .ifc 160 (.t 213), none⟩,
             ⟨none, .store 5 (.t 2) (.t 210), none⟩,
             ⟨(some 3), .mov (.t 214), none⟩])
           .ret)
           .skip))))
       (.seq (.rg [⟨(some 215), .mov (.t 4), none⟩,
         ⟨(some 216), .slcs (.t 215) (some (.c (.p (.int .i64 1)))) none, none⟩,
         ⟨(some 4), .mov (.t 216), none⟩])
       (.seq (.rg [⟨(some 217), .mov (.t 4), none⟩,
         ⟨(some 218), .idxs (.t 217) (.c (.p (.int .i64 0))), none⟩,
         ⟨(some 219), .bin .eql (.t 218) (.c (.p (.int .u8 58))), none⟩])
       (.cond (.t 219) (.seq (.seq (.rg [⟨(some 220), .mov (.t 8), none⟩,
           ⟨(some 221), .bin .geq (.t 220) (.c (.p (.int .i64 0))), none⟩])
         (.cond (.t 221) (.seq (.rg [⟨(some 222), .bld [.p (.int .u64 0), .p (.int .u64 0), .p (.bool false), .p (.bool false), .p (.string ⟨#[]⟩)] [], none⟩,
             ⟨(some 223), .mov (.t 0), none⟩,
             ⟨(some 224), .mov (.t 4), none⟩,
             ⟨(some 225), .bld [.p (.string ⟨#[]⟩), .p (.string ⟨#[]⟩), .p (.string ⟨#[]⟩)] [(0, 1, (.t 223)), (1, 1, (.c (.p (.string ⟨#[109, 117, 108, 116, 105, 112, 108, 101, 32, 58, 58, 32, 105, 110, 32, 97, 100, 100, 114, 101, 115, 115]⟩)))), (2, 1, (.t 224))], none⟩,
             ⟨(some 226), .ifc 160 (.t 225), none⟩,
             ⟨none, .store 5 (.t 2) (.t 222), none⟩,
             ⟨(some 3), .mov (.t 226), none⟩])
           .ret)
           .skip))
         (.seq (.rg [⟨(some 227), .mov (.t 6), none⟩,
           ⟨(some 8), .mov (.t 227), none⟩])
         (.seq (.rg [⟨(some 228), .mov (.t 4), none⟩,
           ⟨(some 229), .slcs (.t 228) (some (.c (.p (.int .i64 1)))) none, none⟩,
           ⟨(some 4), .mov (.t 229), none⟩])
         (.seq (.rg [⟨(some 230), .mov (.t 4), none⟩,
           ⟨(some 231), .lens (.t 230), none⟩,
           ⟨(some 232), .bin .eql (.t 231) (.c (.p (.int .i64 0))), none⟩])
         (.cond (.t 232) (.exit 0)
           .skip)))))
         .skip)))))))))))
/-- The digits' round. -/
def c130Y : DC :=
  (.seq (.seq (.rg [⟨(some 57), .mov (.t 9), none⟩,
           ⟨(some 58), .mov (.t 4), none⟩,
           ⟨(some 59), .lens (.t 58), none⟩,
           ⟨(some 60), .bin .lss (.t 57) (.t 59), none⟩])
         (.cond (.t 60) .skip
           (.exit 2)))
         (.seq (.block 3 (.seq (.rg [⟨(some 63), .mov (.t 4), none⟩,
            ⟨(some 64), .mov (.t 9), none⟩,
            ⟨(some 65), .idxs (.t 63) (.t 64), none⟩,
            ⟨(some 11), .mov (.t 65), none⟩])
          (.seq (.seq (.rg [⟨(some 66), .mov (.t 11), none⟩,
            ⟨(some 67), .bin .geq (.t 66) (.c (.p (.int .u8 48))), none⟩,
            ⟨(some 68), .mov (.t 67), none⟩,
            ⟨(some 69), .mov (.t 11), (some (68, true))⟩,
            ⟨(some 70), .bin .leq (.t 69) (.c (.p (.int .u8 57))), (some (68, true))⟩,
            ⟨(some 71), .pick (.t 68) (.t 70) (.c (.p (.bool false))), none⟩])
          (.cond (.t 71) (.rg [⟨(some 72), .mov (.t 10), none⟩,
              ⟨(some 73), .bin .shl (.t 72) (.c (.p (.int .u64 4))), none⟩,
              ⟨(some 74), .mov (.t 11), none⟩,
              ⟨(some 75), .bin .sub (.t 74) (.c (.p (.int .u8 48))), none⟩,
              ⟨(some 76), .cint .u32 (.t 75), none⟩,
              ⟨(some 77), .bin .add (.t 73) (.t 76), none⟩,
              ⟨(some 10), .mov (.t 77), none⟩])
            (.seq (.rg [⟨(some 78), .mov (.t 11), none⟩,
              ⟨(some 79), .bin .geq (.t 78) (.c (.p (.int .u8 97))), none⟩,
              ⟨(some 80), .mov (.t 79), none⟩,
              ⟨(some 81), .mov (.t 11), (some (80, true))⟩,
              ⟨(some 82), .bin .leq (.t 81) (.c (.p (.int .u8 102))), (some (80, true))⟩,
              ⟨(some 83), .pick (.t 80) (.t 82) (.c (.p (.bool false))), none⟩])
            (.cond (.t 83) (.rg [⟨(some 84), .mov (.t 10), none⟩,
                ⟨(some 85), .bin .shl (.t 84) (.c (.p (.int .u64 4))), none⟩,
                ⟨(some 86), .mov (.t 11), none⟩,
                ⟨(some 87), .bin .sub (.t 86) (.c (.p (.int .u8 97))), none⟩,
                ⟨(some 88), .bin .add (.t 87) (.c (.p (.int .u8 10))), none⟩,
                ⟨(some 89), .cint .u32 (.t 88), none⟩,
                ⟨(some 90), .bin .add (.t 85) (.t 89), none⟩,
                ⟨(some 10), .mov (.t 90), none⟩])
              (.seq (.rg [⟨(some 91), .mov (.t 11), none⟩,
                ⟨(some 92), .bin .geq (.t 91) (.c (.p (.int .u8 65))), none⟩,
                ⟨(some 93), .mov (.t 92), none⟩,
                ⟨(some 94), .mov (.t 11), (some (93, true))⟩,
                ⟨(some 95), .bin .leq (.t 94) (.c (.p (.int .u8 70))), (some (93, true))⟩,
                ⟨(some 96), .pick (.t 93) (.t 95) (.c (.p (.bool false))), none⟩])
              (.cond (.t 96) (.rg [⟨(some 97), .mov (.t 10), none⟩,
                  ⟨(some 98), .bin .shl (.t 97) (.c (.p (.int .u64 4))), none⟩,
                  ⟨(some 99), .mov (.t 11), none⟩,
                  ⟨(some 100), .bin .sub (.t 99) (.c (.p (.int .u8 65))), none⟩,
                  ⟨(some 101), .bin .add (.t 100) (.c (.p (.int .u8 10))), none⟩,
                  ⟨(some 102), .cint .u32 (.t 101), none⟩,
                  ⟨(some 103), .bin .add (.t 98) (.t 102), none⟩,
                  ⟨(some 10), .mov (.t 103), none⟩])
                (.exit 2)))))))
          (.seq (.seq (.rg [⟨(some 104), .mov (.t 9), none⟩,
            ⟨(some 105), .bin .gtr (.t 104) (.c (.p (.int .i64 3))), none⟩])
          (.cond (.t 105) (.seq (.rg [⟨(some 106), .bld [.p (.int .u64 0), .p (.int .u64 0), .p (.bool false), .p (.bool false), .p (.string ⟨#[]⟩)] [], none⟩,
              ⟨(some 107), .mov (.t 0), none⟩,
              ⟨(some 108), .mov (.t 4), none⟩,
              ⟨(some 109), .bld [.p (.string ⟨#[]⟩), .p (.string ⟨#[]⟩), .p (.string ⟨#[]⟩)] [(0, 1, (.t 107)), (1, 1, (.c (.p (.string ⟨#[101, 97, 99, 104, 32, 103, 114, 111, 117, 112, 32, 109, 117, 115, 116, 32, 104, 97, 118, 101, 32, 52, 32, 111, 114, 32, 108, 101, 115, 115, 32, 100, 105, 103, 105, 116, 115]⟩)))), (2, 1, (.t 108))], none⟩,
              ⟨(some 110), .ifc 160 (.t 109), none⟩,
              ⟨none, .store 5 (.t 2) (.t 106), none⟩,
              ⟨(some 3), .mov (.t 110), none⟩])
            .ret)
            .skip))
          (.seq (.rg [⟨(some 111), .mov (.t 10), none⟩,
            ⟨(some 112), .bin .gtr (.t 111) (.c (.p (.int .u32 65535))), none⟩])
          (.cond (.t 112) (.seq (.rg [⟨(some 113), .bld [.p (.int .u64 0), .p (.int .u64 0), .p (.bool false), .p (.bool false), .p (.string ⟨#[]⟩)] [], none⟩,
              ⟨(some 114), .mov (.t 0), none⟩,
              ⟨(some 115), .mov (.t 4), none⟩,
              ⟨(some 116), .bld [.p (.string ⟨#[]⟩), .p (.string ⟨#[]⟩), .p (.string ⟨#[]⟩)] [(0, 1, (.t 114)), (1, 1, (.c (.p (.string ⟨#[73, 80, 118, 54, 32, 102, 105, 101, 108, 100, 32, 104, 97, 115, 32, 118, 97, 108, 117, 101, 32, 62, 61, 50, 94, 49, 54]⟩)))), (2, 1, (.t 115))], none⟩,
              ⟨(some 117), .ifc 160 (.t 116), none⟩,
              ⟨none, .store 5 (.t 2) (.t 113), none⟩,
              ⟨(some 3), .mov (.t 117), none⟩])
            .ret)
            .skip))))))
         (.rg [⟨(some 61), .mov (.t 9), none⟩,
           ⟨(some 62), .bin .add (.t 61) (.c (.p (.int .i64 1))), none⟩,
           ⟨(some 9), .mov (.t 62), none⟩])))
/-- The loop's round. -/
def c130X : DC :=
  (.seq (.seq (.rg [⟨(some 55), .mov (.t 6), none⟩,
        ⟨(some 56), .bin .lss (.t 55) (.c (.p (.int .i64 16))), none⟩])
      (.cond (.t 56) .skip
        (.exit 0))) (.block 1 (.seq (.rg [⟨(some 9), .mov (.c (.p (.int .i64 0))), none⟩]) (.seq (.rg [⟨(some 10), .mov (.c (.p (.int .u32 0))), none⟩]) (.seq (.block 2 (.loop c130Y)) c130R)))))
/-- The reader of eight groups, from its loop on. -/
def c130L : DC :=
  (.seq (.rg [⟨(some 6), .mov (.c (.p (.int .i64 0))), none⟩]) (.seq (.block 0 (.loop c130X)) c130T))
/-- The slots at the loop: those that live on, others. -/
def t130 (h : List Blk) (l s z : List UInt8) (e : Int) (v1 v6 v9 v10 v11 v12 v13 v14 v15 v16 v17 v18 v19 v20 v21 v22 v23 v24 v25 v26 v27 v28 v29 v30 v31 v32 v33 v34 v35 v36 v37 v38 v39 v40 v41 v42 v43 v44 v45 v46 v47 v48 v49 v50 v51 v52 v53 v54 : DV) : List DV := [(.p (.string (txt l))), v1, .ptr h.length 0 0 1, .p .nilIface, .p (.string (txt s)), .p (.string (txt z)), v6, .ptr (h.length + 1) 0 0 1, .p (.int .i64 e), v9, v10, v11, v12, v13, v14, v15, v16, v17, v18, v19, v20, v21, v22, v23, v24, v25, v26, v27, v28, v29, v30, v31, v32, v33, v34, v35, v36, v37, v38, v39, v40, v41, v42, v43, v44, v45, v46, v47, v48, v49, v50, v51, v52, v53, v54] ++ List.replicate 225 .any
/-- What the reader of eight groups answers. -/
def Out6 (ok : Bool) (z : List UInt8) (v : DV) : Prop := (ok = true ∧ ∃ m n : Int, v = .tup [adr m n true true (txt z), .p .nilIface]) ∨ (ok = false ∧ ∃ E, IsErr E ∧ v = .tup [A0, E])
def H6 (h : List Blk) (ip : List UInt8) : List Blk := h ++ [.cells 5 [A0], .cells 16 [.agg (bts ip)]]
/-- Where it stands. -/
structure At6 (l post : List UInt8) (W : Bool) (f : Nat) (pre s : List UInt8) (ell : Bool) (e : Int) (ip : List UInt8) : Prop where
  hf : f ≤ 8
  hl : l = pre ++ s ++ post
  hip : ip.length = 16
  he : (ell = true ∧ 0 ≤ e ∧ e ≤ 16 - 2 * f) ∨ (ell = false ∧ e = -1)
  go : W = p6 f s ell
/-- How it ends. -/
structure Fin6 (W : Bool) (f : Nat) (s : List UInt8) (ell : Bool) (e : Int) (ip : List UInt8) : Prop where
  hf : f ≤ 8
  hip : ip.length = 16
  he : (ell = true ∧ 0 ≤ e ∧ e ≤ 16 - 2 * f) ∨ (ell = false ∧ e = -1)
  go : W = (decide (s = []) && fin6 f ell)
def F6 (h : List Blk) (l s z : List UInt8) (f : Nat) (e : Int) (ip : List UInt8) : St := ⟨fr 280 [(0, .p (.string (txt l))), (2, .ptr h.length 0 0 1), (3, .p .nilIface), (4, .p (.string (txt s))), (5, .p (.string (txt z))), (6, .p (.int .i64 (16 - 2 * f))), (7, .ptr (h.length + 1) 0 0 1), (8, .p (.int .i64 e))], H6 h ip⟩
theorem bts_put' (L : List UInt8) (k : Nat) (c : UInt8) : bts (L.take k) ++ DV.p (.int .u8 (c.toNat : Int)) :: bts (L.drop (k + 1)) = bts (L.take k ++ c :: L.drop (k + 1)) := by simp [bts, byteD]
theorem bts_clr (A C : List UInt8) (k : Nat) : bts A ++ (List.replicate k (DV.p (.int .u8 0)) ++ bts C) = bts (A ++ (List.replicate k 0 ++ C)) := by simp [bts, byteD]
theorem bts_at (L : List UInt8) (k : Nat) (hk : k < L.length) : (bts L)[k]?.getD DV.any = .p (.int .u8 ((L.getD k 0).toNat : Int)) := by simp [bts, byteD, List.getElem?_eq_getElem hk]
end Go.Proofs.Ytdgnjngbheecnaa
