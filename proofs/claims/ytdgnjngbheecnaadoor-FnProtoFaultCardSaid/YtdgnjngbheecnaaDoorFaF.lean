/- Faults: they are read, one behind the other. -/
import Derived.Test.YtdgnjngbheecnaaDoorFaE
set_option linter.unusedVariables false
set_option linter.unusedSimpArgs false
set_option maxRecDepth 100000
namespace Go.Proofs.YtdgnjngbheecnaaDoor
open Go Go.Den Go.Proofs

/-- A fault that is short, its message plain. -/
structure Ft.okp (f : Ft) : Prop where
  ok : f.ok
  p : plainB f.m = true
theorem Ft.okp.pl {f : Ft} (h : f.okp) : pl f.m := by
  have := h.p
  simp only [plainB, Bool.and_eq_true, List.all_eq_true] at this
  intro x hx
  have := this.1 x hx
  simp [okc] at this
  omega
theorem Ft.okp.tight {f : Ft} (h : f.okp) : tight f.m = f.m := by
  have := h.p
  simp only [plainB, Bool.and_eq_true, decide_eq_true_eq] at this
  exact this.2
theorem tight_want {f : Ft} (h : f.okp) : tight (tpx (f.n ++ [58]) f.m) = wantM f.n f.m := by
  unfold tpx wantM
  simp only [List.length_append, List.length_singleton]
  split
  · rfl
  · exact h.tight
theorem pl_tpx {f : Ft} (h : f.okp) (p : List UInt8) : pl (tpx p f.m) := by
  intro x hx
  refine h.pl x ?_
  unfold tpx at hx
  split at hx
  · exact List.mem_of_mem_drop hx
  · exact hx

/-- An exception, as it has been read. -/
def exD (f : Ft) (b : Bool) : List DV := [.p (.int .i32 f.c), .p (.string (txt f.n)), .p (.string ⟨#[]⟩), .p (.string (txt (wantM f.n f.m))), .p (.string (txt f.t)), .p (.slice none 0 0), .p (.bool b)]
def exs : List Ft → List DV
  | [] => []
  | f :: l => .agg (exD f (!l.isEmpty)) :: exs l
theorem exs_length : ∀ l, (exs l).length = l.length
  | [] => rfl
  | f :: l => by simp [exs, exs_length l]
theorem ex_ft (f : Ft) (b : Bool) (h : f.ok) : Ex (decs [d4, dS, dS, dS, dB]) (ftW f b) [.int .i32 f.c, .string (txt f.n), .string (txt f.m), .string (txt f.t), .bool b] :=
  have hn := h.n
  have hm := h.m
  have ht := h.t
  .cons (ex_d4 _ h.c) (.cons (ex_dS _ (by omega)) (.cons (ex_dS _ (by omega)) (.cons (ex_dS _ (by omega)) (.cons (ex_dB b) .nil))))
theorem ex_ft3 (f : Ft) (h : f.ok) : Ex (decs [d4, dS, dS]) (fix4 (u32 f.c) ++ (long f.n ++ (long f.m ++ []))) [.int .i32 f.c, .string (txt f.n), .string (txt f.m)] :=
  have hn := h.n
  have hm := h.m
  .cons (ex_d4 _ h.c) (.cons (ex_dS _ (by omega)) (.cons (ex_dS _ (by omega)) .nil))
theorem Ex.pre {α : Type} {d : List UInt8 → Option (α × List UInt8)} {w W r : List UInt8} {v x : α} {r' : List UInt8} (h : Ex d w v) (hp : r <+: w ++ W) (hd : d r = some (x, r')) : x = v := by
  rcases Nat.lt_or_ge r.length w.length with h1 | h1
  · rw [h.cut r (List.prefix_of_prefix_length_le hp (List.prefix_append _ _) (Nat.le_of_lt h1)) h1] at hd
    cases hd
  · obtain ⟨q, rfl⟩ := List.prefix_of_prefix_length_le (List.prefix_append w W) hp h1
    rw [h.out] at hd
    cases hd
    rfl
theorem Ex.at {α : Type} {d : List UInt8 → Option (α × List UInt8)} {w W r : List UInt8} {v : α} (h : Ex d w v) (hp : r <+: w ++ W) : (w.length ≤ r.length ∧ r = w ++ r.drop w.length ∧ d r = some (v, r.drop w.length) ∧ r.drop w.length <+: W) ∨ (r.length < w.length ∧ d r = none) := by
  rcases Nat.lt_or_ge r.length w.length with h1 | h1
  · exact .inr ⟨h1, h.cut r (List.prefix_of_prefix_length_le hp (List.prefix_append _ _) (Nat.le_of_lt h1)) h1⟩
  · obtain ⟨q, rfl⟩ := List.prefix_of_prefix_length_le (List.prefix_append w W) hp h1
    refine .inl ⟨by simp, by simp, by simp [h.out], ?_⟩
    obtain ⟨t, ht⟩ := hp
    rw [List.append_assoc] at ht
    exact ⟨t, by simpa using List.append_cancel_left ht⟩
theorem ok45' (h : List Blk) (R : Rd) (r l : List UInt8) (xb rb : Nat) (hrb : R.rb = rb) (f : Ft) (b : Bool) (W : List UInt8) (hf : f.okp) (hr : r.length < 140737488355328) (hp : r <+: ftW f b ++ W)
    (s0 : RdSX xb (.cells 7 [.agg [.p (.int .i32 0), .p (.string ⟨#[]⟩), .p (.string ⟨#[]⟩), .p (.string ⟨#[]⟩), .p (.string ⟨#[]⟩), .p (.slice none 0 0), .p (.bool false)]]) h R r l) : OkR Tryd.prog GT 45 [.ptr xb 0 0 1, .ptr rb 0 0 1] h fun v h' =>
    ((ftW f b).length ≤ r.length ∧ v = .p .nilIface ∧ ∃ R' l', RdSX xb (.cells 7 [.agg (exD f b)]) h' R' (r.drop (ftW f b).length) l' ∧ RdX xb h h' R R') ∨ (r.length < (ftW f b).length ∧ (∃ x, v = .iface 170 x) ∧ ∃ R' r' l' X, RdSX xb X h' R' r' l' ∧ RdX xb h h' R R') := by
  refine (ok45 h R r l xb rb hrb hr (fun c n ms r3 hd => ?_) s0).mono fun v h' ho => ?_
  · have hp3 : r <+: (fix4 (u32 f.c) ++ (long f.n ++ (long f.m ++ []))) ++ ((long f.t ++ (yn b ++ [])) ++ W) := by simpa [ftW] using hp
    have := Ex.pre (ex_ft3 f hf.ok) hp3 hd
    simp at this
    obtain ⟨_, rfl, rfl⟩ := this
    exact ⟨pl_tpx hf _, hf.ok.n, hf.ok.m⟩
  · rcases Ex.at (ex_ft f b hf.ok) hp with ⟨h1, h2, h3, _⟩ | ⟨h1, h2⟩
    · rw [h3] at ho
      obtain ⟨rfl, R', l', s, q⟩ := ho
      refine .inl ⟨h1, rfl, R', l', ?_, q⟩
      simpa [exF, exD, tight_want hf] using s
    · rw [h2] at ho
      exact .inr ⟨h1, ho⟩
end Go.Proofs.YtdgnjngbheecnaaDoor
