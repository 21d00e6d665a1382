/- The law FnProtoQuery: the walk. -/
import Derived.Test.YtdgnjngbheecnaaDoorQlA
set_option linter.unusedVariables false
set_option linter.unusedSimpArgs false
set_option maxRecDepth 100000
set_option maxHeartbeats 8000000
namespace Go.Proofs.YtdgnjngbheecnaaDoor
open Go Go.Den Go.Proofs

theorem sum7 {a b c d e f g : List UInt8} : sumLen [a, b, c, d, e, f, g] = a.length + (b.length + (c.length + (d.length + (e.length + (f.length + g.length))))) := by simp [sumLen]

theorem ok4 {G : Nat → DV} (hG : GZ G) (hg : G 1 = .fp (.agg [])) (h : List Blk) (q : Law) (rev : Nat) (hrev : rev < B64) (ha : q.a < B64) (hb : q.b < B64) (hc : q.c < B64) (hp : q.p < B64) (hs : q.ss.length ≤ maxLen) (hps : q.ps.length ≤ maxLen) (hx : ∀ x, x ∈ q.ss → I64 x.1.kind ∧ I64 x.1.n) :
    Ok Tryd.prog G 4 [lawD q (.fz 6 (psets q.ss)), .p (.int .u64 rev)] h (.p (.bool true)) h := by
  refine Ok.wf fun hw => ?_
  refine Ok_by Tryd.func4 c4_ok r4_ok 179 rfl ?_
  simp [c4, r4, lawD]
  refine FF_by (ok11 _ q hs hps) ?_
  cases hf11 : fits11 q
  · simp
  simp only [fits11, Bool.and_eq_true] at hf11
  obtain ⟨f1, f2, f3, f4, f5, f6, ⟨f7, f7'⟩, ⟨f8, f8'⟩, f9, f10, f11⟩ := hf11
  simp only [sz, decide_eq_true_eq] at f1 f2 f3 f4 f5 f6 f7 f8 f9 f10 f11
  have hfit := List.all_eq_true.1 f7'
  have hfit2 := List.all_eq_true.1 f8'
  have hm : ∀ x, x ∈ q.ss.map (·.1) → (x.k.length ≤ 2147483647 ∧ x.t.length ≤ 2147483647) ∧ I64 x.n := by
    intro x hxm
    obtain ⟨y, hy, rfl⟩ := List.mem_map.1 hxm
    refine ⟨?_, (hx y hy).2⟩
    have := hfit y hy
    simpa [sfit] using this
  have wr : IntKind.u64.wrap (54430 + ((rev : Int).tmod 60)) = ((54430 + rev % 60 : Nat) : Int) := by
    have : (rev : Int).tmod 60 = ((rev % 60 : Nat) : Int) := by rw [Int.tmod_eq_emod_of_nonneg (by omega)]; omega
    rw [this]
    have h2 := wrap_u (k := .u64) rfl (54430 + rev % 60) (by simp [IntKind.bits]; omega)
    simpa using h2

  simp [wr]
  refine FF_by (ok12 _ q.ss f7) ?_
  generalize hM : q.ss.map (·.1) = m at hm
  have hml : m.length = q.ss.length := by rw [← hM]; simp
  simp
  refine FF_by (Ok_any (ok13 _ m (by omega) fun x hx => (hm x hx).1)) ?_
  cases hg1 : (m.all sgood && decide (m.length ≤ 10))
  · simp
    refine FF_by (ok5 _) ?_
    simp
  simp at hg1
  obtain ⟨hgood, h10⟩ := hg1
  have hfx : ∀ x, x ∈ m → SFine x := fun x hxm => sgood_fine (hm x hxm).2 (hgood x hxm)
  simp
  have r1 : (54430 : Int) ≤ 54430 + (rev : Int) % 60 := by omega
  have r2 : (54430 : Int) + (rev : Int) % 60 ≤ 54489 := by omega
  generalize (54430 : Int) + (rev : Int) % 60 = r at r1 r2 ⊢
  cases hg2 : decide (10 < (q.ps.length : Int))
  case true =>
    simp
    refine FF_by (ok5 _) ?_
    simp
  simp at hg2
  simp
  refine FF_by (Ok.lend hG (ok6 [] [q.id, q.cl, q.body, q.quota, q.user, q.addr, q.st] (by rw [sum7]; omega) (by simp)) (.cons (FrzR.sl (i := 0) (n := 7) (x := 7) (b := h.length + 1) (els := txts [q.id, q.cl, q.body, q.quota, q.user, q.addr, q.st]) (by simp [txts]) rfl txts_plain) .nil) rfl) ?_
  cases hg3 : decide (sumLen [q.id, q.cl, q.body, q.quota, q.user, q.addr, q.st] ≤ 5000)
  · simp
    refine FF_by (ok5 _) ?_
    simp
  simp only [decide_eq_true_eq, sum7] at hg3
  simp
  have wS : ∀ {B : Nat → Prop}, WF B (.fz 6 (sets m)) = True := eq_true (WF_plain (sets_plain m))
  have wP : ∀ {B : Nat → Prop}, WF B (.fz 2 (pars q.ps)) = True := eq_true (WF_plain (pars_plain q.ps))
  have hw1 : HWF (h ++ [Blk.cells 17 [lawD q (.fz 6 (sets m))]]) := hw.push fun k hk => by
    simp at hk
    subst hk
    intro j hj
    simp at hj
    subst hj
    simp [lawD, wS, wP]
  have hpl : (q.ps.length : Int) ≤ 10 := by omega
  refine VV_fam (fun i : Nat => ⟨fr 181 [(1, .p (.int .u64 r)), (2, .ptr h.length 0 0 1), (54, .fz 2 (pars q.ps)), (55, .p (.int .i64 q.ps.length)), (56, .p (.int .i64 i))], h ++ [Blk.cells 17 [lawD q (.fz 6 (sets m))]]⟩)
    (fun i => i ≤ q.ps.length ∧ ∀ x, x ∈ q.ps.take i → good x = true) (fun i => q.ps.length - i) 0 (by simp) (Wk.cut hG (by simp [lawD]) (by simp) (fun _ => hw1) (by simp [wP])) ?_
  rintro i ⟨hi, hgd⟩ B hbk he hr
  have hw6 : ∀ hi' : i < q.ps.length, IntKind.i64.wrap ((i : Int) + 1) = ((i + 1 : Nat) : Int) := fun hi' => wrap_succ (n := 11) (by omega) (by omega)
  simp
  refine CC_by (fun h2 => ?_) (fun h2 => ?_)
  · have hi' : i < q.ps.length := by simpa using h2
    have hx2 := hfit2 q.ps[i] (List.getElem_mem hi')
    simp only [fit2, Bool.and_eq_true, decide_eq_true_eq] at hx2
    simp [hi', pars_get hi', parD]
    refine FF_by (Ok_any (ok14 _ q.ps[i] hx2.1 hx2.2)) ?_
    cases hgi : good q.ps[i]
    · simp
      refine FF_by (ok5 _) ?_
      simp
      refine hr _ ?_
      simp
    · simp [hw6 hi']
      refine hbk _ (i + 1) (Wk.cut hG (by simp [lawD]) (by simp) (fun _ => hw1) (by simp [wP])) ⟨hi', fun x hx => ?_⟩ (by omega)
      rw [List.take_succ_eq_append_getElem hi', List.mem_append, List.mem_singleton] at hx
      rcases hx with hx | rfl
      · exact hgd x hx
      · exact hgi
  · have : i = q.ps.length := by simp at h2; omega
    subst this
    rw [List.take_length] at hgd
    simp
    refine he _ _ ?_
    clear hbk he hr
    have hpx : ∀ x, x ∈ q.ps → Fine x := fun x hx => good_fine (hgd x hx)
    have hQ : QFine ⟨q.id, q.cl, q.body, q.quota, q.user, q.addr, q.a, q.b, q.c, q.p, m, q.ps, q.comp⟩ :=
      ⟨by show q.id.length ≤ 5000; omega, by show q.cl.length ≤ 5000; omega, by show q.body.length ≤ 5000; omega, by show q.quota.length ≤ 5000; omega, by show q.user.length ≤ 5000; omega, by show q.addr.length ≤ 5000; omega, ha, hb, hc, hp, h10, hfx, by show q.ps.length ≤ 10; omega, hpx,
        fun x hx => by have := hgood x hx; simp [sgood] at this; exact this.1, fun x hx => by have := hgd x hx; simp [good] at this; exact this.2.1⟩
    simp [lawD]
    refine FF_by (ok15 hg _ ⟨q.id, q.cl, q.body, q.quota, q.user, q.addr, q.a, q.b, q.c, q.p, m, q.ps, q.comp⟩ r hQ r1 r2) ?_
    simp
    refine FF_by (ok16 _ ⟨q.id, q.cl, q.body, q.quota, q.user, q.addr, q.a, q.b, q.c, q.p, m, q.ps, q.comp⟩ r hQ r1 r2) ?_
    simp [gotD]
    refine FF_by (Ok_any (ok17 _ m hfx h10)) ?_
    by_cases h59 : (54459 : Int) ≤ r
    · simp [h59, sel]
      refine FF_by (Ok_any (ok18 _ q.ps hpx (by omega))) ?_
      simp
      refine FF_by (ok5 _) ?_
      simp
    · simp [h59, sel]
      refine FF_by (ok5 _) ?_
      simp
end Go.Proofs.YtdgnjngbheecnaaDoor
