/- The law FnProtoQuery: what it asks ahead. -/
import Derived.Test.YtdgnjngbheecnaaDoorQrC
set_option linter.unusedVariables false
set_option linter.unusedSimpArgs false
set_option maxRecDepth 100000
set_option maxHeartbeats 4000000
namespace Go.Proofs.YtdgnjngbheecnaaDoor
open Go Go.Den Go.Proofs

def tab : Tab := fun f => match f with
  | 5 => some (c5, r5, 4)
  | 19 => some (c19, r19, 6)
  | 30 => some (c30, r30, 10)
  | 43 => some (c43, r43, 16)
  | 57 => some (c57, r57, 36)
  | _ => none
theorem tab_ok : TabOk Tryd.prog tab := by
  intro f d rs n h
  unfold tab at h
  split at h
  · cases h; exact ⟨_, Tryd.func5, c5_ok, r5_ok, rfl⟩
  · cases h; exact ⟨_, Tryd.func19, c19_ok, r19_ok, rfl⟩
  · cases h; exact ⟨_, Tryd.func30, c30_ok, r30_ok, rfl⟩
  · cases h; exact ⟨_, Tryd.func43, c43_ok, r43_ok, rfl⟩
  · cases h; exact ⟨_, Tryd.func57, c57_ok, r57_ok, rfl⟩
  · cases h
/-- What is shown where nothing is known of the variables holds where something is. -/
theorem Ok_any {P : Program} {G : Nat → DV} {f : FuncId} {args : List DV} {h h' : List Blk} {v : DV} (hf : Ok P (fun _ => .any) f args h v h') : Ok P G f args h v h' := fun e w vs he hH hr hg ht => hf e w vs he hH hr (fun _ => .any) ht
theorem ok5 {G : Nat → DV} (h : List Blk) : Ok Tryd.prog G 5 [] h (.p (.bool true)) h := Ok_any (Ok.eval .any tab_ok 200 (by kernel_rfl) h)

/-- A query as the law is given it. -/
structure Law where
  id : List UInt8
  cl : List UInt8
  body : List UInt8
  quota : List UInt8
  user : List UInt8
  addr : List UInt8
  a : Nat
  b : Nat
  c : Nat
  p : Nat
  ss : List (Sett × Bool)
  ps : List Par
  comp : Bool
  tr : List UInt8
  sp : List UInt8
  st : List UInt8
  fl : Int
def lawD (q : Law) (ss : DV) : DV := .agg [.p (.string (txt q.id)), .p (.string (txt q.cl)), .p (.string (txt q.body)), .p (.string (txt q.quota)), .p (.string (txt q.user)), .p (.string (txt q.addr)), .p (.int .u64 q.a), .p (.int .u64 q.b), .p (.int .u64 q.c), .p (.int .u64 q.p), ss, .fz 2 (pars q.ps), .p (.bool q.comp), .p (.string (txt q.tr)), .p (.string (txt q.sp)), .p (.string (txt q.st)), .p (.int .u8 q.fl)]
def sz (s : List UInt8) : Bool := decide (s.length ≤ 2147483647)
def fits11 (q : Law) : Bool := sz q.id && (sz q.cl && (sz q.body && (sz q.quota && (sz q.user && (sz q.addr && ((decide (q.ss.length ≤ 2147483647) && q.ss.all sfit) && ((decide (q.ps.length ≤ 2147483647) && q.ps.all fit2) && (sz q.tr && (sz q.sp && sz q.st)))))))))
theorem ok11 {G : Nat → DV} (h : List Blk) (q : Law) (hs : q.ss.length ≤ maxLen) (hp : q.ps.length ≤ maxLen) : Ok Tryd.prog G 11 [lawD q (.fz 6 (psets q.ss))] h (.p (.bool (fits11 q))) h := by
  refine Ok_by Tryd.func11 c11_ok r11_ok 46 rfl ?_
  simp [c11, r11, lawD]
  refine CC_by (fun h1 => ?_) (fun h1 => ?_)
  · have : sz q.id = false := by simp [sz] at h1 ⊢; omega
    simp [fits11, this]
  have s1 : sz q.id = true := by simp [sz] at h1 ⊢; omega
  simp
  refine CC_by (fun h1 => ?_) (fun h1 => ?_)
  · have : sz q.cl = false := by simp [sz] at h1 ⊢; omega
    simp [fits11, this]
  have s2 : sz q.cl = true := by simp [sz] at h1 ⊢; omega
  simp
  refine CC_by (fun h1 => ?_) (fun h1 => ?_)
  · have : sz q.body = false := by simp [sz] at h1 ⊢; omega
    simp [fits11, this]
  have s3 : sz q.body = true := by simp [sz] at h1 ⊢; omega
  simp
  refine CC_by (fun h1 => ?_) (fun h1 => ?_)
  · have : sz q.quota = false := by simp [sz] at h1 ⊢; omega
    simp [fits11, this]
  have s4 : sz q.quota = true := by simp [sz] at h1 ⊢; omega
  simp
  refine CC_by (fun h1 => ?_) (fun h1 => ?_)
  · have : sz q.user = false := by simp [sz] at h1 ⊢; omega
    simp [fits11, this]
  have s5 : sz q.user = true := by simp [sz] at h1 ⊢; omega
  simp
  refine CC_by (fun h1 => ?_) (fun h1 => ?_)
  · have : sz q.addr = false := by simp [sz] at h1 ⊢; omega
    simp [fits11, this]
  have s6 : sz q.addr = true := by simp [sz] at h1 ⊢; omega
  simp
  refine FF_by (ok28 _ q.ss hs) ?_
  simp only [fits11, s1, s2, s3, s4, s5, s6, Bool.true_and]
  generalize (decide (q.ss.length ≤ 2147483647) && q.ss.all sfit) = b1
  cases b1
  · simp
  simp
  refine FF_by (ok29 _ q.ps hp) ?_
  generalize (decide (q.ps.length ≤ 2147483647) && q.ps.all fit2) = b2
  cases b2
  · simp
  simp
  refine CC_by (fun h1 => ?_) (fun h1 => ?_)
  · have : sz q.tr = false := by simp [sz] at h1 ⊢; omega
    simp [this]
  have s7 : sz q.tr = true := by simp [sz] at h1 ⊢; omega
  simp
  refine CC_by (fun h1 => ?_) (fun h1 => ?_)
  · have : sz q.sp = false := by simp [sz] at h1 ⊢; omega
    simp [this]
  have s8 : sz q.sp = true := by simp [sz] at h1 ⊢; omega
  simp
  refine CC_by (fun h1 => ?_) (fun h1 => ?_)
  · have : sz q.st = false := by simp [sz] at h1 ⊢; omega
    simp [this]
  have s9 : sz q.st = true := by simp [sz] at h1 ⊢; omega
  simp [s7, s8, s9]
end Go.Proofs.YtdgnjngbheecnaaDoor
