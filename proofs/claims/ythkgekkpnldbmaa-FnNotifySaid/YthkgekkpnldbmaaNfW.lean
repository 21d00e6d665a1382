/- The law's walk, as its row asks for it. -/
import Derived.Test.YthkgekkpnldbmaaNfQ
import Derived.Test.YthkgekkpnldbmaaLibE
set_option linter.unusedVariables false
set_option linter.unusedSimpArgs false
set_option maxRecDepth 100000
namespace Go.Proofs.Ythkgekkpnldbmaa
open Go Go.Den Go.Proofs

def arnSh : Sh := .st [(1, .str), (1, .str), (1, .str), (1, .str), (1, .str)]
def ntSh : Sh := .st [(1, .int .i64), (5, arnSh), (1, .sl 1 .str), (1, .sl 1 .str), (1, .sl 1 .str)]
theorem shaped_arn {d : DV} (s0 : Shaped arnSh d) : ∃ a b c e f : List UInt8, d = arnD a b c e f := by
  cases s0 with
  | st hl h hc =>
    rename_i ds
    match ds, hl, h with
    | [d1, d2, d3, d4, d5], _, h =>
      have g1 := h 0 (by simp) (by simp)
      have g2 := h 1 (by simp) (by simp)
      have g3 := h 2 (by simp) (by simp)
      have g4 := h 3 (by simp) (by simp)
      have g5 := h 4 (by simp) (by simp)
      simp only [List.getElem_cons_zero, List.getElem_cons_succ] at g1 g2 g3 g4 g5
      cases g1 with | @str a _ =>
      cases g2 with | @str b _ =>
      cases g3 with | @str c _ =>
      cases g4 with | @str d _ =>
      cases g5 with | @str e _ =>
      exact ⟨a.data.toList, b.data.toList, c.data.toList, d.data.toList, e.data.toList, by simp only [arnD, ← S_of]; rfl⟩
theorem shaped_nt {d : DV} (s0 : Shaped ntSh d) : ∃ (k : Int) (a b c e f : List UInt8) (ev p s : List ByteArray), d = ntD k a b c e f ev p s ∧ ev.length ≤ maxLen ∧ p.length ≤ maxLen ∧ s.length ≤ maxLen := by
  cases s0 with
  | st hl h hc =>
    rename_i ds
    match ds, hl, h with
    | [d1, d2, d3, d4, d5], _, h =>
      have g1 := h 0 (by simp) (by simp)
      obtain ⟨a, b, c, e, f, rfl⟩ := shaped_arn (h 1 (by simp) (by simp))
      obtain ⟨ev, rfl, h3, _⟩ := Shaped.strs (h 2 (by simp) (by simp))
      obtain ⟨p, rfl, h4, _⟩ := Shaped.strs (h 3 (by simp) (by simp))
      obtain ⟨s, rfl, h5, _⟩ := Shaped.strs (h 4 (by simp) (by simp))
      simp only [List.getElem_cons_zero] at g1
      cases g1 with | @int _ n _ =>
      exact ⟨n, a, b, c, e, f, ev, p, s, rfl, h3, h4, h5⟩
def stepSh : Sh := .sl 10 (.st [(1, .int .i64), (9, ntSh)])
theorem shaped_step {d : DV} (s0 : Shaped (.st [(1, .int .i64), (9, ntSh)]) d) : ∃ x : Int × N, d = stD x.1 x.2 ∧ Len x.2 := by
  cases s0 with
  | st hl h hc =>
    rename_i ds
    match ds, hl, h with
    | [d1, d2], _, h =>
      have g1 := h 0 (by simp) (by simp)
      obtain ⟨k, a, b, c, e, f, ev, p, s, e2, h3, h4, h5⟩ := shaped_nt (h 1 (by simp) (by simp))
      simp only [List.getElem_cons_zero, List.getElem_cons_succ] at g1 e2
      subst e2
      cases g1 with | @int _ n _ =>
      exact ⟨(n, ⟨k, a, b, c, e, f, ev, p, s⟩), rfl, h3, h4, h5⟩
theorem shaped_steps : ∀ l : List DV, (∀ d, d ∈ l → Shaped (.st [(1, .int .i64), (9, ntSh)]) d) → ∃ Q : List (Int × N), l = sts Q ∧ ∀ x ∈ Q, Len x.2
  | [], _ => ⟨[], rfl, fun x h => by simp at h⟩
  | d :: l, h => by
    obtain ⟨x, rfl, hx⟩ := shaped_step (h d (by simp))
    obtain ⟨Q, rfl, hQ⟩ := shaped_steps l fun d hd => h d (by simp [hd])
    refine ⟨x :: Q, rfl, fun y hy => ?_⟩
    rcases List.mem_cons.1 hy with rfl | hy
    · exact hx
    · exact hQ y hy
theorem notify_walk (d0 : DV) (s0 : Shaped stepSh d0) : Ok Try.prog (fun _ => .any) 3 [d0] [] (.p (.bool true)) [] := by
  cases s0 with
  | sl hl h =>
    obtain ⟨Q, rfl, hQ⟩ := shaped_steps _ h
    exact ok3 GZ.any Q (by simpa using hl) hQ
end Go.Proofs.Ythkgekkpnldbmaa
