/- Addresses: how long parts are. -/
import Derived.Test.YtdgnjngbheecnaaIpF
set_option linter.unusedVariables false
set_option linter.unusedSimpArgs false
set_option maxRecDepth 100000
namespace Go.Proofs.Ytdgnjngbheecnaa
open Go Go.Den Go.Proofs

theorem parts_mem (c : UInt8) (l : List UInt8) : ∀ x, x ∈ parts c l → x.length ≤ l.length := by
  have key : ∀ (l : List UInt8) (s : List (List UInt8) × List UInt8) (k : Nat), (∀ x, x ∈ s.1 → x.length ≤ k) → s.2.length ≤ k → (∀ x, x ∈ (l.foldl (spStep c) s).1 → x.length ≤ k + l.length) ∧ (l.foldl (spStep c) s).2.length ≤ k + l.length := by
    intro l
    induction l with
    | nil => intro s k h1 h2; exact ⟨by simpa using h1, by simpa using h2⟩
    | cons y l ih =>
      intro s k h1 h2
      have := ih (spStep c s y) (k + 1) (fun x hx => by
        unfold spStep at hx
        split at hx
        · rw [List.mem_append, List.mem_singleton] at hx
          rcases hx with hx | rfl
          · have := h1 x hx; omega
          · omega
        · have := h1 x hx; omega) (by
        unfold spStep
        split
        · simp
        · simp; omega)
      simp only [List.foldl_cons, List.length_cons]
      exact ⟨fun x hx => by have := this.1 x hx; omega, by have := this.2; omega⟩
  obtain ⟨h1, h2⟩ := key l ([], []) 0 (by simp) (by simp)
  intro x hx
  simp only [parts, List.mem_append, List.mem_singleton] at hx
  rcases hx with hx | rfl
  · have := h1 x hx; simpa using this
  · simpa [spSt] using h2
theorem ok41' {G : Nat → DV} (h : List Blk) (l : List UInt8) (hl : l.length ≤ 2147483647) : Ok Try.prog G 41 [.p (.string (txt l))] h (.tup [.p (.bool (four4 l).1), .p (.bool (four4 l).2)]) h :=
  ok41 h l hl fun x hx => Nat.le_trans (parts_mem 46 l x hx) hl
theorem ok42' {G : Nat → DV} (h : List Blk) (l : List UInt8) (last : Bool) (hl : l.length ≤ 2147483647) : Ok Try.prog G 42 [.p (.string (txt l)), .p (.bool last)] h (.tup [.p (.int .i64 (grp last l).1), .p (.bool (grp last l).2)]) h :=
  ok42 h l last hl fun x hx => ⟨Nat.le_trans (parts_mem 58 l x hx) hl, fun y hy => Nat.le_trans (parts_mem 46 x y hy) (Nat.le_trans (parts_mem 58 l x hx) hl)⟩
end Go.Proofs.Ytdgnjngbheecnaa
