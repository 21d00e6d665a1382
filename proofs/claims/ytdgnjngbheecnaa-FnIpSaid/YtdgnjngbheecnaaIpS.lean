/- Addresses: the reader of eight groups: its end. -/
import Derived.Test.YtdgnjngbheecnaaIpQ
set_option linter.unusedVariables false
set_option linter.unusedSimpArgs false
set_option maxRecDepth 100000
namespace Go.Proofs.Ytdgnjngbheecnaa
open Go Go.Den Go.Proofs

/-- An error is told. -/
theorem errv6 {h : List Blk} {W : Bool} {z : List UInt8} {R : DV → Prop} (hR : ∀ v, Out6 W z v → R v) (x y w : ByteArray) (hW : W = false) (h1 : List Blk) : REr h (some [.agg [.p (.int .u64 0), .p (.int .u64 0), .p (.bool false), .p (.bool false), .p (.string ⟨#[]⟩)], .iface 160 (.agg [.p (.string x), .p (.string y), .p (.string w)])]) (h ++ h1) fun v h' => h' = h ∧ R v :=
  REr_by _ _ (WkV.ofPure (by simp) rfl) ⟨rfl, hR _ (.inr ⟨hW, _, ⟨x, y, w, rfl⟩, rfl⟩)⟩
/-- What it is to answer. -/
def Q6 (h : List Blk) (R : DV → Prop) : DX → St → Prop := RRr h r130 fun v h' => h' = h ∧ R v
set_option maxHeartbeats 4000000 in
theorem fin130 {G : Nat → DV} {R : DV → Prop} {W : Bool} {z : List UInt8} (hR : ∀ v, Out6 W z v → R v) (h : List Blk) (l s : List UInt8) (f : Nat) (ell : Bool) (e : Int) (ip : List UInt8) (hF : Fin6 W f s ell e ip) : VV Try.prog G h c130T (F6 h l s z f e ip) [] (Q6 h R) := by
  obtain ⟨hf, hip, hee, hgo⟩ := hF
  simp [c130T, F6, H6, A0, adr, Q6, r130]
  refine CC_by (fun c1 => ?_) (fun c1 => ?_)
  · have hs : ¬ s = [] := by rintro rfl; simp at c1
    simp
    exact errv6 hR _ _ _ (by rw [hgo, decide_eq_false hs]; rfl) _
  have hs : s = [] := by
    refine List.eq_nil_of_length_eq_zero ?_
    simp at c1
    simpa using c1
  subst hs
  simp
  refine CC_by (fun c2 => ?_) (fun c2 => ?_)
  · have hf0 : 0 < f := by simp at c2; omega
    simp
    refine CC_by (fun c3 => ?_) (fun c3 => ?_)
    · simp
      refine errv6 hR _ _ _ ?_ _
      rcases hee with ⟨h1, h2, h3⟩ | ⟨h1, h2⟩
      · simp at c3; omega
      · rw [hgo, h1, fin6, if_pos hf0]; rfl
    · have he0 : 0 ≤ e := by simp at c3; omega
      have hell : ell = true ∧ e ≤ 16 - 2 * f := by
        rcases hee with ⟨h1, h2, h3⟩ | ⟨h1, h2⟩
        · exact ⟨h1, h3⟩
        · omega
      have hW : W = true := by rw [hgo, hell.1, fin6, if_pos hf0]; rfl
      have w1 : IntKind.i64.wrap (16 - (16 - 2 * (f : Int))) = 2 * (f : Int) := by simp [IntKind.wrap, IntKind.bits, IntKind.signed]; omega
      have w2 : IntKind.i64.wrap (16 - 2 * (f : Int) - 1) = 16 - 2 * (f : Int) - 1 := by simp [IntKind.wrap, IntKind.bits, IntKind.signed]; omega
      have w3 : IntKind.i64.wrap (e + 2 * (f : Int)) = e + 2 * (f : Int) := by simp [IntKind.wrap, IntKind.bits, IntKind.signed]; omega
      simp [w1, w2]
      refine VV_fam (fun x : Int × List UInt8 => ⟨fr 280 [(0, .p (.string (txt l))), (2, .ptr h.length 0 0 1), (3, .p .nilIface), (5, .p (.string (txt z))), (7, .ptr (h.length + 1) 0 0 1), (8, .p (.int .i64 e)), (14, .p (.int .i64 (2 * (f : Int)))), (15, .p (.int .i64 x.1))], H6 h x.2⟩)
        (fun x => x.2.length = 16 ∧ e ≤ x.1 + 1 ∧ x.1 ≤ 15 - 2 * f) (fun x => (x.1 + 1).toNat) (16 - 2 * (f : Int) - 1, ip) ⟨hip, by simp; omega, by simp; omega⟩ (Wk.fits (by simp)) ?_
      rintro ⟨j, ip'⟩ ⟨hip', hj1, hj2⟩ B2 hb2 he2 hr2
      simp only at hip' hj1 hj2
      simp [H6, A0, adr]
      refine CC_by (fun c4 => ?_) (fun c4 => ?_)
      · have hj3 : e ≤ j := by simpa using c4
        have w4 : IntKind.i64.wrap (j + 2 * (f : Int)) = j + 2 * (f : Int) := by simp [IntKind.wrap, IntKind.bits, IntKind.signed]; omega
        have w5 : IntKind.i64.wrap (j - 1) = j - 1 := by simp [IntKind.wrap, IntKind.bits, IntKind.signed]; omega
        have e1 := bts_at ip' j.toNat (by omega)
        simp [w4, w5, e1, bts_put']
        refine ⟨by omega, by omega, by omega, by omega, by omega, by omega, ?_⟩
        exact hb2 _ (j - 1, ip'.take (j + 2 * (f : Int)).toNat ++ ip'.getD j.toNat 0 :: ip'.drop ((j + 2 * (f : Int)).toNat + 1)) (Wk.fits (by simp)) ⟨by rw [put_len _ _ _ (by omega)]; exact hip', by simp; omega, by simp; omega⟩ (by simp; omega)
      · simp
        refine he2 _ _ ?_
        simp [w3, bts_clr]
        refine ⟨by omega, by omega, by omega, ?_⟩
        have hcl : (ip'.take e.toNat ++ (List.replicate ((e + 2 * (f : Int)).toNat - e.toNat) 0 ++ ip'.drop (e.toNat + ((e + 2 * (f : Int)).toNat - e.toNat)))).length = 16 := by simp; omega
        generalize ip'.take e.toNat ++ (List.replicate ((e + 2 * (f : Int)).toNat - e.toNat) 0 ++ ip'.drop (e.toNat + ((e + 2 * (f : Int)).toNat - e.toNat))) = ipc at hcl ⊢
        rw [List.take_of_length_le (by simp [hcl])]
        obtain ⟨m, n, k⟩ := ok149 (G := G) (h ++ [.cells 5 [A0], .cells 16 [.agg (bts ipc)]]) ipc hcl
        simp only [A0, adr] at k
        refine FF_by k ?_
        simp
        refine FF_by (ok148 _ m n (txt z)) ?_
        simp [adr]
        exact REr_by _ _ (WkV.ofPure (by simp) rfl) ⟨rfl, hR _ (.inl ⟨hW, m, n, rfl⟩)⟩
  · have hf0 : f = 0 := by simp at c2; omega
    subst hf0
    simp
    refine CC_by (fun c3 => ?_) (fun c3 => ?_)
    · simp
      refine errv6 hR _ _ _ ?_ _
      rcases hee with ⟨h1, h2, h3⟩ | ⟨h1, h2⟩
      · rw [hgo, h1]; rfl
      · simp at c3; omega
    · have hW : W = true := by
        rcases hee with ⟨h1, h2, h3⟩ | ⟨h1, h2⟩
        · simp at c3; omega
        · rw [hgo, h1]; rfl
      simp
      rw [List.take_of_length_le (by omega)]
      obtain ⟨m, n, k⟩ := ok149 (G := G) (h ++ [.cells 5 [A0], .cells 16 [.agg (bts ip)]]) ip hip
      simp only [A0, adr] at k
      refine FF_by k ?_
      simp
      refine FF_by (ok148 _ m n (txt z)) ?_
      simp [adr]
      exact REr_by _ _ (WkV.ofPure (by simp) rfl) ⟨rfl, hR _ (.inl ⟨hW, m, n, rfl⟩)⟩
end Go.Proofs.Ytdgnjngbheecnaa
