/- The law: what its loop keeps; the configuration and the reference side by side. -/
import Derived.Test.YthkgekkpnldbmaaNfO
set_option linter.unusedVariables false
set_option linter.unusedSimpArgs false
set_option maxRecDepth 100000
set_option maxHeartbeats 4000000
namespace Go.Proofs.Ythkgekkpnldbmaa
open Go Go.Den Go.Proofs

/-- A notice made plain. -/
def nPl (n : N) : N := ⟨kd n.k, noColon n.a, noColon n.b, noColon n.c, noColon n.d, noColon n.e, ntEvents n.ev, ntOne n.p, ntOne n.s⟩
theorem kd_range (k : Int) : 0 ≤ kd k ∧ kd k < 3 := by
  have h1 : 0 ≤ IntKind.u64.wrap k := by simp [IntKind.wrap, IntKind.signed, IntKind.bits]; omega
  have h2 := Int.tmod_nonneg 3 h1
  have h3 : (IntKind.u64.wrap k).tmod 3 < 3 := Int.tmod_lt_of_pos _ (by decide)
  have h4 : IntKind.i64.wrap ((IntKind.u64.wrap k).tmod 3) = (IntKind.u64.wrap k).tmod 3 := by
    generalize (IntKind.u64.wrap k).tmod 3 = y at h2 h3
    rcases (show y = 0 ∨ y = 1 ∨ y = 2 by omega) with rfl | rfl | rfl <;> decide
  rw [kd, h4]
  exact ⟨h2, h3⟩
theorem kd_three (k : Int) : kd k = 0 ∨ kd k = 1 ∨ kd k = 2 := by have := kd_range k; omega
theorem noColon_mem (l : List UInt8) : (58 : UInt8) ∉ noColon l := by simp [noColon]
theorem nPl_good (n : N) : Good (nPl n) := by
  refine ⟨(kd_range _).1, (kd_range _).2, fun x hx => ?_, ntEvents_nodup _, ntEvents_length _, ntOne_length _, ntOne_length _, ntOne_ne _, ntOne_ne _, fun x hx => ?_, fun x hx => ?_⟩
  · simp only [N.ar, nPl, List.mem_cons, List.not_mem_nil, or_false] at hx
    rcases hx with rfl | rfl | rfl | rfl | rfl <;> exact ⟨noColon_mem _, noColon_length _⟩
  · have := ntOne_size _ _ hx; omega
  · have := ntOne_size _ _ hx; omega
/-- A step made plain. -/
def sPl (x : Int × N) : Int × N := (kd x.1, nPl x.2)
/-- What the loop has: the reference's list, the steps that count, their answers. -/
structure Sv where
  l : List N
  q : List (Int × N)
  o2 : List Bool
  o3 : List Bool
def sv0 : Sv := ⟨[], [], [], []⟩
/-- A step of the loop. -/
def svS (s : Sv) (x : Int × N) : Sv :=
  if (nDo s.l x.1 x.2).2.2.2 = true then ⟨(nDo s.l x.1 x.2).1, s.q ++ [x], s.o2 ++ [(nDo s.l x.1 x.2).2.1], s.o3 ++ [(nDo s.l x.1 x.2).2.2.1]⟩ else s
def svR (r : List (Int × N)) : Sv := (r.map sPl).foldl svS sv0
/-- The configuration is where the reference is. -/
structure Sim (s : Sv) : Prop where
  good : ∀ x ∈ s.l, Good x
  q0 : ∀ x ∈ s.q, x.1 = 0 ∨ x.1 = 1 ∨ x.1 = 2
  qg : ∀ x ∈ s.q, Good x.2
  at_k : ∀ k : Int, 0 ≤ k → k < 3 → (iRun L00 s.q).1 (kx k) = ofK k s.l
  o2 : (iRun L00 s.q).2.1 = s.o2
  o3 : (iRun L00 s.q).2.2 = s.o3
theorem Sim.nil : Sim sv0 := ⟨fun _ h => absurd h (by simp [sv0]), fun _ h => absurd h (by simp [sv0]), fun _ h => absurd h (by simp [sv0]), fun _ _ _ => rfl, rfl, rfl⟩
theorem nDo_mem (l : List N) (kd : Int) (n x : N) (h : x ∈ (nDo l kd n).1) : x ∈ l ∨ x = n := by
  unfold nDo at h
  split at h
  · split at h
    · exact .inl h
    · simpa using h
  · split at h
    · exact .inl (List.mem_filter.1 h).1
    · exact .inl (List.mem_filter.1 h).1
theorem Sim.step {s : Sv} (h : Sim s) (x : Int × N) (hk : x.1 = 0 ∨ x.1 = 1 ∨ x.1 = 2) (hx : Good x.2) : Sim (svS s x) := by
  unfold svS
  split
  · rename_i hs
    obtain ⟨h1, h2⟩ := step_law s.l x.1 x.2 h.good hx hk hs
    have hkk := h.at_k x.2.k hx.k0 hx.k3
    refine ⟨fun y hy => ?_, fun y hy => ?_, fun y hy => ?_, fun k h0 h3 => ?_, ?_, ?_⟩
    · rcases nDo_mem _ _ _ _ hy with h4 | h4
      · exact h.good y h4
      · rw [h4]; exact hx
    · rcases List.mem_append.1 hy with h4 | h4
      · exact h.q0 y h4
      · rw [List.mem_singleton.1 h4]; exact hk
    · rcases List.mem_append.1 hy with h4 | h4
      · exact h.qg y h4
      · rw [List.mem_singleton.1 h4]; exact hx
    · rw [iRun_push]
      show iSt (iRun L00 s.q).1 x (kx k) = _
      by_cases hkx : k = x.2.k
      · rw [iSt, hkx, up_same, hkk, h1]
      · have hne : kx k ≠ kx x.2.k := fun e => hkx (by
          have g0 := hx.k0
          have g3 := hx.k3
          rcases (show k = 0 ∨ k = 1 ∨ k = 2 by omega) with rfl | rfl | rfl <;> rcases (show x.2.k = 0 ∨ x.2.k = 1 ∨ x.2.k = 2 by omega) with e2 | e2 | e2 <;> rw [e2] at e ⊢ <;> revert e <;> decide)
        rw [iSt, up_ne _ _ hne, h2 k hkx]
        exact h.at_k k h0 h3
    · rw [iRun_push]
      show (iRun L00 s.q).2.1 ++ [iOk (iRun L00 s.q).1 x] = _
      rw [iOk, hkk, h1, h.o2]
    · rw [iRun_push]
      show (iRun L00 s.q).2.2 ++ [iNo (iRun L00 s.q).1 x] = _
      rw [iNo, hkk, h1, h.o3]
  · exact h
theorem sim_foldl (r : List (Int × N)) (hr : ∀ x ∈ r, (x.1 = 0 ∨ x.1 = 1 ∨ x.1 = 2) ∧ Good x.2) : ∀ s, Sim s → Sim (r.foldl svS s) := by
  induction r with
  | nil => intro s h; exact h
  | cons x r ih => intro s h; exact ih (fun y hy => hr y (by simp [hy])) _ (h.step x (hr x (by simp)).1 (hr x (by simp)).2)
theorem sim_svR (r : List (Int × N)) : Sim (svR r) := sim_foldl _ (fun x hx => by
  obtain ⟨y, _, rfl⟩ := List.mem_map.1 hx
  exact ⟨kd_three _, nPl_good _⟩) _ .nil
theorem svR_push (r : List (Int × N)) (x : Int × N) : svR (r ++ [x]) = svS (svR r) (sPl x) := by simp [svR]
theorem nDo_len (l : List N) (kd : Int) (n : N) : (nDo l kd n).1.length ≤ l.length + 1 := by
  unfold nDo
  split
  · split
    · simp
    · simp
  · split
    · exact Nat.le_succ_of_le (List.length_filter_le _ _)
    · exact Nat.le_succ_of_le (List.length_filter_le _ _)
theorem svR_len (r : List (Int × N)) : (svR r).l.length ≤ r.length ∧ (svR r).q.length ≤ r.length ∧ (svR r).o2.length = (svR r).q.length ∧ (svR r).o3.length = (svR r).q.length := by
  have key : ∀ (r : List (Int × N)) (s : Sv), s.o2.length = s.q.length ∧ s.o3.length = s.q.length → (r.foldl svS s).l.length ≤ s.l.length + r.length ∧ (r.foldl svS s).q.length ≤ s.q.length + r.length ∧ (r.foldl svS s).o2.length = (r.foldl svS s).q.length ∧ (r.foldl svS s).o3.length = (r.foldl svS s).q.length := by
    intro r
    induction r with
    | nil => intro s h; exact ⟨Nat.le_refl _, Nat.le_refl _, h⟩
    | cons x r ih =>
      intro s h
      have h1 : (svS s x).l.length ≤ s.l.length + 1 ∧ (svS s x).q.length ≤ s.q.length + 1 ∧ (svS s x).o2.length = (svS s x).q.length ∧ (svS s x).o3.length = (svS s x).q.length := by
        unfold svS
        split
        · exact ⟨nDo_len _ _ _, by simp, by simp [h.1], by simp [h.2]⟩
        · exact ⟨by omega, by omega, h⟩
      obtain ⟨g1, g2, g3⟩ := ih (svS s x) h1.2.2
      simp only [List.foldl_cons, List.length_cons]
      exact ⟨by omega, by omega, g3⟩
  have := key (r.map sPl) sv0 ⟨rfl, rfl⟩
  simpa [svR, sv0] using this
end Go.Proofs.Ythkgekkpnldbmaa
