/- Addresses: the reader of eight groups. -/
import Derived.Test.YtdgnjngbheecnaaIpU
set_option linter.unusedVariables false
set_option linter.unusedSimpArgs false
set_option maxRecDepth 100000
namespace Go.Proofs.Ytdgnjngbheecnaa
open Go Go.Den Go.Proofs

theorem round130 {G : Nat → DV} {R : DV → Prop} {W : Bool} {z : List UInt8} (hR : ∀ v, Out6 W z v → R v) (h : List Blk) (l s post : List UInt8) (f : Nat) (pre : List UInt8) (ell : Bool) (e : Int) (ip : List UInt8) (B : DX → St → Prop) (hz : (z = [] ∧ post = []) ∨ (z ≠ [] ∧ post = 37 :: z)) (hll : l.length ≤ 2147483647) (hA : At6 l post W f pre s ell e ip)
    (hb : ∀ s1 (x' : Nat × List UInt8 × List UInt8 × Bool × Int × List UInt8), Wk G h s1 (F6 h l x'.2.2.1 z x'.1 x'.2.2.2.2.1 x'.2.2.2.2.2) → At6 l post W x'.1 x'.2.1 x'.2.2.1 x'.2.2.2.1 x'.2.2.2.2.1 x'.2.2.2.2.2 → x'.1 < f → B .nrm s1)
    (fin : ∀ (f : Nat) (s : List UInt8) (ell : Bool) (e : Int) (ip : List UInt8), Fin6 W f s ell e ip → ∀ s1, Wk G h s1 (F6 h l s z f e ip) → B (.ext 0) s1)
    (hr : ∀ s1, KON Try.prog G h [Fr.blk 0, Fr.seq c130T] (Q6 h R) .ret s1 → B .ret s1) : VV Try.prog G h c130X (F6 h l s z f e ip) [] B := by
  have hA' := hA
  obtain ⟨hf, hl, hip, hee, hgo⟩ := hA
  simp [c130X, F6]
  refine CC_by (fun c1 => ?_) (fun c1 => ?_)
  rotate_left
  · have hf0 : f = 0 := by simp at c1; omega
    subst hf0
    simp
    exact fin 0 s ell e ip ⟨hf, hip, hee, by rw [hgo, p6]; rfl⟩ _ (Wk.fits (by simp [F6]))
  obtain ⟨g, rfl⟩ : ∃ g, f = g + 1 := ⟨f - 1, by simp at c1; omega⟩
  have hsl : s.length ≤ 2147483647 := by have := congrArg List.length hl; simp at this; omega
  simp
  refine VV_famW (fun x : Nat × Nat => F6b h l s z g e ip x.1 x.2)
    (fun x => x.1 ≤ s.length ∧ x.1 ≤ 4 ∧ (s.take x.1).all hxB = true ∧ x.2 < 16 ^ x.1) (fun x => s.length - x.1) (0, 0) ⟨by simp, by simp, by simp, by simp⟩ (Wk.fits (by simp)) ?_
  rintro ⟨off, acc⟩ ⟨ho, ho4, hall, hacc⟩ B2 hb2 he2 hr2
  refine dig130 hR h l s g off acc ell e ip B B2 hsl hgo ho ho4 hall hacc hb2 (fun hoff s1 hw => he2 _ _ _ hw ?_) hr2 hr
  have := rest130 (G := G) hR h l s post g off acc pre ell e ip B hz hll hA' ho ho4 hoff hacc hb fin hr
  simp
  exact this
theorem tail130 {G : Nat → DV} {R : DV → Prop} {W : Bool} {z : List UInt8} (hR : ∀ v, Out6 W z v → R v) (h : List Blk) (l s0 post : List UInt8) (ell0 : Bool) (e0 : Int) (pre0 : List UInt8) (hz : (z = [] ∧ post = []) ∨ (z ≠ [] ∧ post = 37 :: z)) (hll : l.length ≤ 2147483647) (h0 : At6 l post W 8 pre0 s0 ell0 e0 (List.replicate 16 0))
    (v1 v9 v10 v11 v12 v13 v14 v15 v16 v17 v18 v19 v20 v21 v22 v23 v24 v25 v26 v27 v28 v29 v30 v31 v32 v33 v34 v35 v36 v37 v38 v39 v40 v41 v42 v43 v44 v45 v46 v47 v48 v49 v50 v51 v52 v53 v54 : DV) :
    VV Try.prog G h (.loop c130X) ⟨t130 h l s0 z e0 v1 (.p (.int .i64 0)) v9 v10 v11 v12 v13 v14 v15 v16 v17 v18 v19 v20 v21 v22 v23 v24 v25 v26 v27 v28 v29 v30 v31 v32 v33 v34 v35 v36 v37 v38 v39 v40 v41 v42 v43 v44 v45 v46 v47 v48 v49 v50 v51 v52 v53 v54, H6 h (List.replicate 16 0)⟩ [Fr.blk 0, Fr.seq c130T] (Q6 h R) := by
  simp only [t130, List.cons_append, List.nil_append, List.replicate]
  refine VV_famW (fun x : Nat × List UInt8 × List UInt8 × Bool × Int × List UInt8 => F6 h l x.2.2.1 z x.1 x.2.2.2.2.1 x.2.2.2.2.2)
    (fun x => At6 l post W x.1 x.2.1 x.2.2.1 x.2.2.2.1 x.2.2.2.2.1 x.2.2.2.2.2) (fun x => x.1) (8, pre0, s0, ell0, e0, List.replicate 16 0) h0 (Wk.fits (by simp [F6])) ?_
  rintro ⟨f, pre, s, ell, e, ip⟩ hA B hb he hr
  refine round130 hR h l s post f pre ell e ip B hz hll hA hb (fun f s ell e ip hF s1 hw => he _ _ _ hw ?_) hr
  have := fin130 (G := G) hR h l s f ell e ip hF
  simp
  exact this
end Go.Proofs.Ytdgnjngbheecnaa
