/- The library: contracts of functions over denoted values (P). -/
import Derived.Test.YtbbafeocmchlnaaDenO
set_option linter.unusedVariables false
set_option linter.unusedSimpArgs false
set_option linter.unusedSectionVars false
set_option linter.unnecessarySimpa false
namespace Go.Den
open Go

section
variable {P : Program} {G : Nat → DV} {e : Env} {w : World} {K : DV → List Blk → Prop}

def negOp (neg : Bool) : BinOp := if neg then .neq else .eql

/-- The comparison behind its guard: what 'equal' tells. -/
theorem y_eq {t : TypeId} {neg : Bool} {x y : Operand} {a b : Value} {r : Bool} (hg : (eqGuard (negOp neg) t x y a b).run P w = .ok () w) (hb : ∀ op, (op = BinOp.eql ∨ op = BinOp.neq) → binOp op t a b = (if op = .eql then (do pure (.bool (← Op.equal t a b))) else (do pure (.bool (!(← Op.equal t a b))))))
    (hr' : (Op.equal t a b).run P w = .ok r w) (hH : e.H = w.heap) (hr : HR e) (hk : K (.p (.bool (r != neg))) e.h) :
    Yields P (do pure (.value (← (do eqGuard (negOp neg) t x y a b; binOp (negOp neg) t a b : Sem Value)))) w (After e w K) := by
  refine y_pure ?_ hH hr (.p rfl) hk
  rw [Sem.run_bind, Sem.run_bind, hg, Result.andThen_ok, hb _ (by cases neg <;> simp [negOp])]
  cases neg <;> simp [negOp, hr']

theorem equal_run (t : TypeId) (a b : Value) : Op.equal t a b = Op.equalIn (9999 + 1) t a b := rfl

theorem nil_run {k : NK} {t : TypeId} (ht : nkOf P t = some k) {d : DV} {v : Value} (hv : VR e d v) {b : Bool} (h : isNilD e.h k d = some b) {y : Operand} (hy : nilOf k y = true) (w : World) :
    ∃ n, y = .const n ∧ (∀ neg, (eqGuard (negOp neg) t (.const n) y v n).run P w = .ok () w) ∧ (∀ neg x, (eqGuard (negOp neg) t x (.const n) v n).run P w = .ok () w) ∧ (∀ neg x, (eqGuard (negOp neg) t (.const n) x n v).run P w = .ok () w) ∧
      (∀ op, (op = BinOp.eql ∨ op = BinOp.neq) → binOp op t v n = (if op = .eql then (do pure (.bool (← Op.equal t v n))) else (do pure (.bool (!(← Op.equal t v n)))))) ∧
      (∀ op, (op = BinOp.eql ∨ op = BinOp.neq) → binOp op t n v = (if op = .eql then (do pure (.bool (← Op.equal t n v))) else (do pure (.bool (!(← Op.equal t n v)))))) ∧
      (Op.equal t v n).run P w = .ok b w ∧ (Op.equal t n v).run P w = .ok b w := by
  unfold nkOf at ht
  cases k with
  | ptr =>
    have hn : y = .const (.pointer none) := by
      cases y with
      | const u => cases u <;> first | cases hy | (rename_i q; cases q <;> first | rfl | cases hy)
      | _ => cases hy
    subst hn
    have hu : ∃ el, P.underlying t = some (.pointer el) := by
      split at ht <;> first | exact ⟨_, ‹_›⟩ | cases ht
    obtain ⟨el, hu⟩ := hu
    have hva : ∃ q : Option Addr, v = .pointer q ∧ q.isNone = b := by
      cases d with
      | p u => cases u <;> first | (rename_i q; cases q <;> first | (obtain ⟨rfl, _⟩ := vr_p hv; cases h; exact ⟨none, rfl, rfl⟩) | (cases h; done)) | (cases h; done)
      | ptr b' i o x =>
        simp only [isNilD] at h
        split at h
        · rename_i bsz els hb
          split at h
          · rename_i hx
            subst hx
            cases h
            obtain ⟨_, q, _, rfl⟩ := vr_ptr hv (Env.key_of hb)
            exact ⟨_, rfl, rfl⟩
          · cases h
        · cases h
      | fp d => cases h; cases hv with | fp => exact ⟨_, rfl, rfl⟩
      | _ => cases h
    obtain ⟨q, rfl, hq⟩ := hva
    refine ⟨_, rfl, fun neg => by cases neg <;> rfl, fun neg x => by cases neg <;> rfl, fun neg x => by cases neg <;> rfl, fun op ho => by rcases ho with rfl | rfl <;> rfl, fun op ho => by rcases ho with rfl | rfl <;> rfl, ?_, ?_⟩
    · rw [equal_run]; unfold Op.equalIn; simp only [Sem.run_bind, run_underlying hu, Result.andThen_ok]
      cases q <;> subst hq <;> rfl
    · rw [equal_run]; unfold Op.equalIn; simp only [Sem.run_bind, run_underlying hu, Result.andThen_ok]
      cases q <;> subst hq <;> rfl
  | sl =>
    have hn : y = .const (.slice none 0 0) := by
      cases y with
      | const u => cases u <;> first | cases hy | (rename_i q n c; cases q <;> cases n <;> cases c <;> first | rfl | cases hy)
      | _ => cases hy
    subst hn
    have hu : ∃ el, P.underlying t = some (.slice el) := by
      split at ht <;> first | exact ⟨_, ‹_›⟩ | cases ht
    obtain ⟨el, hu⟩ := hu
    have hva : ∃ (q : Option Addr) (n c : Nat), v = .slice q n c ∧ q.isNone = b := by
      cases d with
      | p u => cases u <;> first | (rename_i q n c; cases q <;> first | (obtain ⟨rfl, _⟩ := vr_p hv; cases h; exact ⟨none, _, _, rfl, rfl⟩) | (cases h; done)) | (cases h; done)
      | sl b' i n x =>
        simp only [isNilD] at h
        split at h
        · rename_i bsz els hb
          split at h
          · rename_i hx
            obtain ⟨rfl, hn⟩ := hx
            cases h
            obtain ⟨_, hcase⟩ := vr_sl hv (Env.key_of hb)
            rcases hcase with ⟨_, h1⟩ | ⟨q, a, cap, _, h1, _⟩
            · obtain ⟨_, _, h2⟩ := vr_sl_n hv
              rw [h1] at h2
              injection h2 with _ h3
              omega
            · exact ⟨_, _, _, h1, rfl⟩
          · cases h
        · cases h
      | sa g z b' i o n c x =>
        simp only [isNilD] at h
        split at h
        · rename_i bsz els hb
          split at h
          · rename_i hx
            subst hx
            cases h
            obtain ⟨_, q, a, _, h1, _⟩ := vr_sa hv (Env.key_of hb)
            exact ⟨_, _, _, h1, rfl⟩
          · cases h
        · cases h
      | fz sz l =>
        simp only [isNilD] at h
        split at h
        · cases h
        · rename_i hl
          cases h
          cases hv with
          | fz0 => simp at hl
          | fz => exact ⟨_, _, _, rfl, rfl⟩
      | _ => cases h
    obtain ⟨q, n, c, rfl, hq⟩ := hva
    refine ⟨_, rfl, fun neg => by cases neg <;> rfl, fun neg x => by cases neg <;> rfl, fun neg x => by cases neg <;> rfl, fun op ho => by rcases ho with rfl | rfl <;> rfl, fun op ho => by rcases ho with rfl | rfl <;> rfl, ?_, ?_⟩
    · rw [equal_run]; unfold Op.equalIn; simp only [Sem.run_bind, run_underlying hu, Result.andThen_ok]
      cases q <;> subst hq <;> rfl
    · rw [equal_run]; unfold Op.equalIn; simp only [Sem.run_bind, run_underlying hu, Result.andThen_ok]
      cases q <;> subst hq <;> rfl
  | map =>
    have hn : y = .const (.map none) := by
      cases y with
      | const u => cases u <;> first | cases hy | (rename_i q; cases q <;> first | rfl | cases hy)
      | _ => cases hy
    subst hn
    have hu : ∃ k el, P.underlying t = some (.map k el) := by
      split at ht <;> first | exact ⟨_, _, ‹_›⟩ | cases ht
    obtain ⟨kt, el, hu⟩ := hu
    have hva : ∃ q : Option Nat, v = .map q ∧ q.isNone = b := by
      cases d with
      | p u => cases u <;> first | (rename_i q; cases q <;> first | (obtain ⟨rfl, _⟩ := vr_p hv; cases h; exact ⟨none, rfl, rfl⟩) | (cases h; done)) | (cases h; done)
      | mp b' =>
        simp only [isNilD] at h
        split at h
        · rename_i es hb
          cases h
          cases hv with
          | mp _ hm _ =>
            obtain ⟨q, _, rfl⟩ := hm (Env.key_of hb)
            exact ⟨_, rfl, rfl⟩
        · cases h
      | _ => cases h
    obtain ⟨q, rfl, hq⟩ := hva
    refine ⟨_, rfl, fun neg => by cases neg <;> rfl, fun neg x => by cases neg <;> rfl, fun neg x => by cases neg <;> rfl, fun op ho => by rcases ho with rfl | rfl <;> rfl, fun op ho => by rcases ho with rfl | rfl <;> rfl, ?_, ?_⟩
    · rw [equal_run]; unfold Op.equalIn; simp only [Sem.run_bind, run_underlying hu, Result.andThen_ok]
      cases q <;> subst hq <;> rfl
    · rw [equal_run]; unfold Op.equalIn; simp only [Sem.run_bind, run_underlying hu, Result.andThen_ok]
      cases q <;> subst hq <;> rfl
  | iface =>
    have hn : y = .const .nilIface := by
      cases y with
      | const u => cases u <;> first | rfl | cases hy
      | _ => cases hy
    subst hn
    have hu : ∃ ms, P.underlying t = some (.interface ms) := by
      split at ht <;> first | exact ⟨_, ‹_›⟩ | cases ht
    obtain ⟨ms, hu⟩ := hu
    have hva : (v = .nilIface ∧ b = true) ∨ ∃ u x, v = .iface u x ∧ b = false := by
      cases d with
      | p u => cases u <;> first | (obtain ⟨rfl, _⟩ := vr_p hv; cases h; exact .inl ⟨rfl, rfl⟩) | (cases h; done)
      | iface t d => cases h; obtain ⟨u, rfl, _⟩ := vr_iface hv; exact .inr ⟨_, _, rfl, rfl⟩
      | _ => cases h
    rcases hva with ⟨rfl, rfl⟩ | ⟨u, x, rfl, rfl⟩
    · refine ⟨_, rfl, fun neg => by cases neg <;> rfl, fun neg x => by cases neg <;> cases x <;> rfl, fun neg x => by cases neg <;> cases x <;> rfl, fun op ho => by rcases ho with rfl | rfl <;> rfl, fun op ho => by rcases ho with rfl | rfl <;> rfl, ?_, ?_⟩ <;>
        (rw [equal_run]; unfold Op.equalIn; simp only [Sem.run_bind, run_underlying hu, Result.andThen_ok]; rfl)
    · refine ⟨_, rfl, fun neg => by cases neg <;> rfl, fun neg x => by cases neg <;> rfl, fun neg x => by cases neg <;> rfl, fun op ho => by rcases ho with rfl | rfl <;> rfl, fun op ho => by rcases ho with rfl | rfl <;> rfl, ?_, ?_⟩ <;>
        (rw [equal_run]; unfold Op.equalIn; simp only [Sem.run_bind, run_underlying hu, Result.andThen_ok]; rfl)
  | fn =>
    have hn : y = .const .nilFunc := by
      cases y with
      | const u => cases u <;> first | rfl | cases hy
      | _ => cases hy
    subst hn
    have hu : ∃ ps rs va, P.underlying t = some (.func ps rs va) := by
      split at ht <;> first | exact ⟨_, _, _, ‹_›⟩ | cases ht
    obtain ⟨ps, rs, va, hu⟩ := hu
    have hva : (v = .nilFunc ∧ b = true) ∨ ∃ u x y, v = .func u x y ∧ b = false := by
      cases d with
      | p u => cases u <;> first | (obtain ⟨rfl, _⟩ := vr_p hv; cases h; exact .inl ⟨rfl, rfl⟩) | (cases h; done)
      | fn f l m => cases h; cases hv; exact .inr ⟨_, _, _, rfl, rfl⟩
      | _ => cases h
    rcases hva with ⟨rfl, rfl⟩ | ⟨u, x, y, rfl, rfl⟩ <;>
    · refine ⟨_, rfl, fun neg => by cases neg <;> rfl, fun neg x => by cases neg <;> rfl, fun neg x => by cases neg <;> rfl, fun op ho => by rcases ho with rfl | rfl <;> rfl, fun op ho => by rcases ho with rfl | rfl <;> rfl, ?_, ?_⟩ <;>
        (rw [equal_run]; unfold Op.equalIn; simp only [Sem.run_bind, run_underlying hu, Result.andThen_ok]; rfl)

end
end Go.Den
