/- The law FnProtoQuery: what the arguments and the variables hold. -/
import Derived.Test.YtdgnjngbheecnaaDoorQlV
import Derived.Test.YtdgnjngbheecnaaDoorRows
import Derived.Test.YtdgnjngbheecnaaDoorLibE
set_option linter.unusedVariables false
set_option linter.unusedSimpArgs false
set_option maxRecDepth 100000
set_option maxHeartbeats 4000000
namespace Go.Proofs.YtdgnjngbheecnaaDoor
open Go Go.Den Go.Proofs

def GQ : Nat → DV := fun g => if g = 1 then .fp (.agg []) else .any
theorem gzQ : GZ GQ := by
  intro g
  unfold GQ
  split
  · exact .fp (.agg fun j hj => absurd hj (by simp))
  · exact .any
def kVs : List Value := (flatD Rows.laid_given_example_pub_assaymark_pub_sha256_K).getD []
theorem kVs_ne : kVs ≠ [] := by
  intro h
  have h1 : kVs.length = 64 := by kernel_rfl
  rw [h] at h1
  cases h1
theorem gT (W : World) (hL : laidMet Tryd.prog Rows.fnProtoQueryRow.laid W) : GR (env0 W) GQ := by
  have hK : VR (env0 W) (.fp (.agg (kVs.map .p))) (.pointer (some ⟨4, 0, none⟩)) :=
    laid_flat (n := "given.example/pub-assaymark/pub/sha256._K") (d := Rows.laid_given_example_pub_assaymark_pub_sha256_K) (g := 4) (vs := kVs) hL (.head _) 9 (by kernel_rfl) (by kernel_rfl) (by kernel_rfl) kVs_ne (by kernel_rfl)
  intro g
  unfold GQ
  split
  · rename_i h
    subst h
    have hro : RO (env0 W) 4 := by
      cases hK with
      | fp v0 hs hr hv hc => exact hr
    refine .fp (.agg #[]) rfl ⟨Nat.lt_trans (by decide : 1 < 4) hro.1, fun b q hk => absurd rfl hk⟩ (.agg rfl (fun i hi => absurd hi (by simp)) fun i hi => absurd hi (by simp)) fun k hk => absurd hk (by simp [Value.cells])
  · exact .any
def setSh : Sh := .st [(1, .str), (1, .int .i64), (1, .str), (1, .int .i64), (1, .bool), (1, .bool)]
def pqSh : Sh := .st [(1, .str), (1, .str), (1, .str), (1, .str), (1, .str), (1, .str), (3, .st [(1, .int .u64), (1, .int .u64), (1, .int .u64)]), (1, .int .u64), (1, .sl 6 setSh), (1, .sl 2 (.st [(1, .str), (1, .str)])), (1, .bool), (1, .str), (1, .str), (1, .str), (1, .int .u8)]
theorem shaped_txt {d : DV} (s : Shaped .str d) : ∃ l : List UInt8, d = .p (.string (txt l)) := by
  cases s with
  | @str s hs => exact ⟨s.data.toList, by rw [← txt_of s]⟩
theorem shaped_pq {d : DV} (s0 : Shaped pqSh d) : ∃ q : Law, d = lawD q (.fz 6 (psets q.ss)) ∧ q.a < B64 ∧ q.b < B64 ∧ q.c < B64 ∧ q.p < B64 ∧ q.ss.length ≤ maxLen ∧ q.ps.length ≤ maxLen ∧ ∀ x, x ∈ q.ss → I64 x.1.kind ∧ I64 x.1.n := by
  cases s0 with
  | st hl h hc =>
    rename_i ds
    match ds, hl, h with
    | [e0, e1, e2, e3, e4, e5, e6, e7, e8, e9, e10, e11, e12, e13, e14], _, h =>
      obtain ⟨t0, rfl⟩ := shaped_txt (h 0 (by simp) (by simp))
      obtain ⟨t1, rfl⟩ := shaped_txt (h 1 (by simp) (by simp))
      obtain ⟨t2, rfl⟩ := shaped_txt (h 2 (by simp) (by simp))
      obtain ⟨t3, rfl⟩ := shaped_txt (h 3 (by simp) (by simp))
      obtain ⟨t4, rfl⟩ := shaped_txt (h 4 (by simp) (by simp))
      obtain ⟨t5, rfl⟩ := shaped_txt (h 5 (by simp) (by simp))
      obtain ⟨a, b, c, rfl, ha, hb, hc'⟩ := shaped_ver (h 6 (by simp) (by simp))
      obtain ⟨p, rfl, hp⟩ := shaped_u64 (h 7 (by simp) (by simp))
      obtain ⟨ss, rfl, hs, hx⟩ := shaped_sets (h 8 (by simp) (by simp))
      obtain ⟨ps, rfl, hps, _⟩ := shaped_pars (h 9 (by simp) (by simp))
      obtain ⟨t11, rfl⟩ := shaped_txt (h 11 (by simp) (by simp))
      obtain ⟨t12, rfl⟩ := shaped_txt (h 12 (by simp) (by simp))
      obtain ⟨t13, rfl⟩ := shaped_txt (h 13 (by simp) (by simp))
      have g10 := h 10 (by simp) (by simp)
      have g14 := h 14 (by simp) (by simp)
      simp only [List.getElem_cons_zero, List.getElem_cons_succ] at g10 g14
      cases g10 with | @bool cmp =>
      cases g14 with | @int _ fl _ =>
      exact ⟨⟨t0, t1, t2, t3, t4, t5, a, b, c, p, ss, ps, cmp, t11, t12, t13, fl⟩, rfl, ha, hb, hc', hp, hs, hps, hx⟩
theorem protoQuery_walk (d : DV) (r : Int) (sd : Shaped pqSh d) (hr : (Lit.int IntKind.u64 r).wf = true) : Ok Tryd.prog GQ 4 [d, .p (.int .u64 r)] [] (.p (.bool true)) [] := by
  obtain ⟨q, rfl, ha, hb, hc, hp, hs, hps, hx⟩ := shaped_pq sd
  have hk' : IntKind.u64.min ≤ r ∧ r ≤ IntKind.u64.max := by simpa [Lit.wf] using hr
  have h1' : IntKind.u64.min = 0 := rfl
  have h2' : IntKind.u64.max = 18446744073709551615 := rfl
  obtain ⟨n, rfl⟩ : ∃ n : Nat, r = n := ⟨r.toNat, by omega⟩
  exact ok4 gzQ rfl [] q n (by simp [B64]; omega) ha hb hc hp hs hps hx
end Go.Proofs.YtdgnjngbheecnaaDoor
