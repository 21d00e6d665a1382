/- The library: contracts of functions over denoted values (Q). -/
import Derived.Test.YtbbafeocmchlnaaDenP
set_option linter.unusedVariables false
set_option linter.unusedSimpArgs false
set_option linter.unusedSectionVars false
set_option linter.unnecessarySimpa false
namespace Go.Den
open Go

section
variable {P : Program} {G : Nat → DV} {e : Env} {w : World} {K : DV → List Blk → Prop} {t : List DV} {a : Act}

theorem s_cEq {neg : Bool} {ty : TypeId} {x y : Operand} {d : DO} (hc : cEq P neg ty x y = some d) (hg : GR e G) (ht : TR e t a.tmps) (hH : e.H = w.heap) (hr : HR e) (h : vcO P G d (Opd.ev G t) e.h K) :
    Yields P (do pure (.value (← (do eqGuard (negOp neg) ty x y (a.eval x) (a.eval y); binOp (negOp neg) ty (a.eval x) (a.eval y) : Sem Value)))) w (After e w K) := by
  have hx := vr_ev hg ht x
  have hy := vr_ev hg ht y
  unfold cEq at hc
  split at hc
  · -- truths
    rename_i hk
    cases hc
    simp only [vcO] at h
    split at h
    · rename_i p q h1 h2
      rw [h1] at hx
      rw [h2] at hy
      obtain ⟨h3, _⟩ := vr_p hx
      obtain ⟨h4, _⟩ := vr_p hy
      have hu : P.underlying ty = some .bool := by
        unfold kindOf at hk
        split at hk <;> first | assumption | cases hk
      rw [h3, h4]
      exact y_eq (run_guard_bool w) (fun op ho => by rcases ho with rfl | rfl <;> rfl) (run_equal_bool hu p q w) hH hr h
    · exact h.elim
  · -- numbers, texts
    cases hc
    simp only [vcO] at h
    split at h
    · rename_i p q h1 h2
      rw [h1] at hx
      rw [h2] at hy
      obtain ⟨h3, _⟩ := vr_p hx
      obtain ⟨h4, _⟩ := vr_p hy
      rw [h3, h4]
      obtain ⟨v, e1, e2, e3⟩ := run_binK (P := P) (xt := ty) (x := x) (y := y) w h
      refine y_pure ?_ hH hr (.p e2) e3
      have : negOp neg = if neg = true then BinOp.neq else BinOp.eql := rfl
      rw [this, Sem.run_bind, e1]
      rfl
    · exact h.elim
  · split at hc
    · rename_i k hk
      split at hc
      · rename_i hn
        cases hc
        simp only [vcO] at h
        split at h
        · rename_i b hb
          obtain ⟨n, rfl, _, g2, _, g4, _, g6, _⟩ := nil_run hk hx hb hn w
          exact y_eq (g2 neg x) g4 g6 hH hr h
        · exact h.elim
      · split at hc
        · rename_i hn
          cases hc
          simp only [vcO] at h
          split at h
          · rename_i b hb
            obtain ⟨n, rfl, g1, g2, g3, g4, g5, g6, g7⟩ := nil_run hk hy hb hn w
            exact y_eq (g3 neg y) g5 g7 hH hr h
          · exact h.elim
        · split at hc
          · rename_i hki
            subst hki
            cases hc
            have hu : ∃ ms, P.underlying ty = some (.interface ms) := by
              unfold nkOf at hk
              split at hk <;> first | exact ⟨_, ‹_›⟩ | cases hk
            obtain ⟨ms, hu⟩ := hu
            simp only [vcO] at h
            split at h
            · rename_i t1 d1 t2 d2 h1 h2
              rw [h1] at hx
              rw [h2] at hy
              obtain ⟨u1, h3, hx9⟩ := vr_iface hx
              obtain ⟨u2, h4, hy9⟩ := vr_iface hy
              rw [h3, h4]
              have hgd : (eqGuard (negOp neg) ty x y (.iface t1 u1) (.iface t2 u2)).run P w = .ok () w := by cases neg <;> rfl
              split at h
              · rename_i heq
                subst heq
                split at h
                · rename_i ck hck
                  split at h
                  · rename_i r hrr
                    refine y_eq hgd (fun op ho => by rcases ho with rfl | rfl <;> rfl) ?_ hH hr h
                    unfold cmpOf at hck
                    split at hck
                    · rename_i hcmp
                      obtain ⟨i, hi, hic⟩ : ∃ i, P.info? t1 = some i ∧ i.comparable = true := by
                        cases hii : P.info? t1 with
                        | none => rw [hii] at hcmp; cases hcmp
                        | some i => rw [hii] at hcmp; exact ⟨i, rfl, hcmp⟩
                      rw [equal_run]
                      unfold Op.equalIn
                      simp only [Sem.run_bind, run_underlying hu, Result.andThen_ok, ne_eq, not_true_eq_false, if_false]
                      simp only [typeInfo, Sem.run_bind, run_program, Result.andThen_ok, hi, Sem.run_pure, hic, Bool.not_true, Bool.false_eq_true, if_false]
                      exact run_cellEq hck hx9 hy9 hrr 9998 w
                    · cases hck
                  · exact h.elim
                · exact h.elim
              · rename_i hne
                refine y_eq (r := false) hgd (fun op ho => by rcases ho with rfl | rfl <;> rfl) ?_ hH hr (by cases neg <;> exact h)
                rw [equal_run]
                unfold Op.equalIn
                simp only [Sem.run_bind, run_underlying hu, Result.andThen_ok, ne_eq, hne, not_false_eq_true, if_true, Sem.run_pure]
            · rename_i t2 d2 h1 h2
              rw [h1] at hx
              rw [h2] at hy
              obtain ⟨h3, _⟩ := vr_p hx
              obtain ⟨u2, h4, hy⟩ := vr_iface hy
              rw [h3, h4]
              refine y_eq (r := false) (by cases neg <;> rfl) (fun op ho => by rcases ho with rfl | rfl <;> rfl) ?_ hH hr (by cases neg <;> exact h)
              rw [equal_run]
              unfold Op.equalIn
              simp only [Sem.run_bind, run_underlying hu, Result.andThen_ok, Sem.run_pure]
            · rename_i t1 d1 h1 h2
              rw [h1] at hx
              rw [h2] at hy
              obtain ⟨u1, h3, hx⟩ := vr_iface hx
              obtain ⟨h4, _⟩ := vr_p hy
              rw [h3, h4]
              refine y_eq (r := false) (by cases neg <;> rfl) (fun op ho => by rcases ho with rfl | rfl <;> rfl) ?_ hH hr (by cases neg <;> exact h)
              rw [equal_run]
              unfold Op.equalIn
              simp only [Sem.run_bind, run_underlying hu, Result.andThen_ok, Sem.run_pure]
            · exact h.elim
          · cases hc
    · split at hc
      · cases hc
      · rename_i hguard
        cases hl : eqLay P 20 ty with
        | none => rw [hl] at hc; cases hc
        | some ks =>
          rw [hl, Option.bind_some] at hc
          by_cases hty : tyI P ty = some (true, ks.length) ∧ isStruct P ty = true
          · rw [if_pos hty] at hc
            cases hc
            simp only [vcO] at h
            split at h
            · rename_i xs ys h1 h2
              rw [h1] at hx
              rw [h2] at hy
              obtain ⟨as, h3, hla, _, hxa⟩ := vr_agg hx
              obtain ⟨bs, h4, hlb, _, hyb⟩ := vr_agg hy
              rw [h3, h4]
              split at h
              · rename_i r hrr
                obtain ⟨h5, h6⟩ := cellsEq_len _ _ _ _ hrr
                refine y_eq (run_eqGuard_agg w _ ty x y as bs (by simpa using hguard)) (fun op ho => by rcases ho with rfl | rfl <;> rfl) ?_ hH hr h
                rw [equal_run]
                have := run_eqLay 20 ty ks hl true hty.1 hty.2.symm xs ys as bs 0 ⟨by omega, fun i hi => by simpa using hxa i hi (by omega)⟩ ⟨by omega, fun i hi => by simpa using hyb i hi (by omega)⟩ r hrr (9999 + 1) (by omega) w
                have ha : (as.toList.drop 0).take ks.length = as.toList := by rw [List.drop_zero, List.take_of_length_le (by simp; omega)]
                have hb : (bs.toList.drop 0).take ks.length = bs.toList := by rw [List.drop_zero, List.take_of_length_le (by simp; omega)]
                rw [ha, hb] at this
                simpa [ofCells] using this
              · exact h.elim
            · exact h.elim
          · rw [if_neg hty] at hc; cases hc

end
end Go.Den
