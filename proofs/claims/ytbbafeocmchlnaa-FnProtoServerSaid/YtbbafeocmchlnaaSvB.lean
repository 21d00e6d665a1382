/- Servers' handshakes: what is written, and read again. -/
import Derived.Test.YtbbafeocmchlnaaSvA
set_option linter.unusedVariables false
set_option linter.unusedSimpArgs false
set_option maxRecDepth 100000
namespace Go.Proofs.Ytbbafeocmchlnaa
open Go Go.Den Go.Proofs

theorem Ex.pre {α : Type} {d : List UInt8 → Option (α × List UInt8)} {w : List UInt8} {v : α} (h : Ex d w v) {r X : List UInt8} (hr : r <+: w ++ X) {v' : α} {r' : List UInt8} (e : d r = some (v', r')) : v' = v ∧ r' <+: X := by
  rcases Nat.lt_or_ge r.length w.length with h1 | h1
  · have : r <+: w := List.prefix_of_prefix_length_le hr (List.prefix_append _ _) (Nat.le_of_lt h1)
    rw [h.cut r this h1] at e; cases e
  · have hw : w <+: r := List.prefix_of_prefix_length_le (List.prefix_append _ _) hr h1
    obtain ⟨q, rfl⟩ := hw
    rw [h.out] at e
    cases e
    obtain ⟨t, ht⟩ := hr
    rw [List.append_assoc] at ht
    exact ⟨rfl, t, List.append_cancel_left ht⟩

/-- A server. -/
structure Srv where
  n : List UInt8
  d : List UInt8
  rev : Nat
  a : Nat
  b : Nat
  c : Nat
structure Srv.Ok (x : Srv) : Prop where
  n : x.n.length ≤ 1000000
  d : x.d.length ≤ 1000000
  rev : x.rev < B64
  a : x.a < B64
  b : x.b < B64
  c : x.c < B64
def Srv.w4 (x : Srv) : List UInt8 := (uv x.n.length ++ x.n) ++ (uv x.a ++ (uv x.b ++ (uv x.rev ++ [])))
def Srv.v4 (x : Srv) : List Value := [.string (txt x.n), .int .u64 x.a, .int .u64 x.b, .int .u64 x.rev]
def Srv.wT (x : Srv) : List UInt8 := (if 54058 ≤ x.rev then uv utc.length ++ utc else []) ++ ((if 54372 ≤ x.rev then uv x.d.length ++ x.d else []) ++ (if 54401 ≤ x.rev then uv x.c else []))
def Srv.vT (x : Srv) : List Value := (if 54058 ≤ x.rev then [.string (txt utc)] else []) ++ ((if 54372 ≤ x.rev then [.string (txt x.d)] else []) ++ (if 54401 ≤ x.rev then [.int .u64 x.c] else []))
def Srv.w (x : Srv) : List UInt8 := x.w4 ++ x.wT
theorem Srv.ex4 {x : Srv} (h : x.Ok) : Ex (decs [dS, dU, dU, dU]) x.w4 x.v4 := .cons (ex_dS x.n (by have := h.n; omega)) (.cons (ex_dU x.a h.a) (.cons (ex_dU x.b h.b) (.cons (ex_dU x.rev h.rev) .nil)))
theorem Srv.rev4 (x : Srv) : revOf x.v4 = x.rev := by simp [Srv.v4, revOf]
theorem Srv.exT {x : Srv} (h : x.Ok) : Ex (decs (tailD x.rev)) x.wT x.vT := by
  have hu := ex_dS utc (by decide)
  have hd := ex_dS x.d (by have := h.d; omega)
  have hc := ex_dU x.c h.c
  rcases Nat.lt_or_ge x.rev 54058 with b0 | b0
  · have f0 : ¬ 54058 ≤ x.rev := by omega
    have f1 : ¬ 54372 ≤ x.rev := by omega
    have f2 : ¬ 54401 ≤ x.rev := by omega
    simp only [tailD, Srv.wT, Srv.vT, f0, f1, f2, if_false]
    exact .nil
  · rcases Nat.lt_or_ge x.rev 54372 with b1 | b1
    · have f1 : ¬ 54372 ≤ x.rev := by omega
      have f2 : ¬ 54401 ≤ x.rev := by omega
      have := hu.cons (ds := []) .nil
      simpa only [tailD, Srv.wT, Srv.vT, b0, f1, f2, if_false, if_true, List.append_nil, List.nil_append] using this
    · rcases Nat.lt_or_ge x.rev 54401 with b2 | b2
      · have f2 : ¬ 54401 ≤ x.rev := by omega
        have := hu.cons (hd.cons (ds := []) .nil)
        simpa only [tailD, Srv.wT, Srv.vT, b0, b1, f2, if_false, if_true, List.append_nil, List.nil_append, List.singleton_append] using this
      · have := hu.cons (hd.cons (hc.cons (ds := []) .nil))
        simpa only [tailD, Srv.wT, Srv.vT, b0, b1, b2, if_false, if_true, List.append_nil, List.nil_append, List.singleton_append] using this
theorem Srv.ex {x : Srv} (h : x.Ok) : Ex srvD x.w (x.v4 ++ x.vT) := by
  have h4 := Srv.ex4 h
  have hT : Ex (decs (tailD (revOf x.v4))) x.wT x.vT := by rw [x.rev4]; exact Srv.exT h
  refine ⟨fun rest => ?_, fun p hp hl => ?_⟩
  · unfold srvD Srv.w
    rw [List.append_assoc, h4.out]
    simp only [hT.out]
  · unfold srvD
    cases e : decs [dS, dU, dU, dU] p with
    | none => rfl
    | some y =>
      obtain ⟨vs, q⟩ := y
      obtain ⟨rfl, hq⟩ := Ex.pre h4 hp e
      have hpw : p = x.w4 ++ q := by
        have h1 : ¬ p.length < x.w4.length := fun h1 => by
          rw [h4.cut p (List.prefix_of_prefix_length_le hp (List.prefix_append _ _) (Nat.le_of_lt h1)) h1] at e; cases e
        obtain ⟨t, rfl⟩ : x.w4 <+: p := List.prefix_of_prefix_length_le (List.prefix_append _ _) hp (by omega)
        rw [h4.out] at e
        cases e
        rfl
      have := hT.cut q hq (by rw [hpw] at hl; simp [Srv.w] at hl; omega)
      simp only [this]
theorem Srv.zone {x : Srv} (h : x.Ok) {r X : List UInt8} (hr : r <+: x.w ++ X) : ∀ vs r4 w r5, decs [dS, dU, dU, dU] r = some (vs, r4) → 54058 ≤ revOf vs → dS r4 = some (w, r5) → w = .string (txt utc) := by
  intro vs r4 w r5 e1 e2 e3
  have hr1 : r <+: x.w4 ++ (x.wT ++ X) := by simpa [Srv.w] using hr
  obtain ⟨rfl, hq⟩ := Ex.pre (Srv.ex4 h) hr1 e1
  rw [x.rev4] at e2
  have hq2 : r4 <+: (uv utc.length ++ utc) ++ (((if 54372 ≤ x.rev then uv x.d.length ++ x.d else []) ++ (if 54401 ≤ x.rev then uv x.c else [])) ++ X) := by
    simpa [Srv.wT, e2] using hq
  exact (Ex.pre (ex_dS utc (by decide)) hq2 e3).1

theorem Srv.w_len {x : Srv} (h : x.Ok) : x.w.length ≤ x.n.length + x.d.length + 100 := by
  have l1 := uv_length x.n.length (by have := h.n; simp [B64]; omega)
  have l2 := uv_length x.d.length (by have := h.d; simp [B64]; omega)
  have l3 := uv_length x.a h.a
  have l4 := uv_length x.b h.b
  have l5 := uv_length x.c h.c
  have l6 := uv_length x.rev h.rev
  have l7 := uv_length utc.length (by decide)
  have l8 : utc.length = 3 := rfl
  have t1 : (if 54058 ≤ x.rev then uv utc.length ++ utc else []).length ≤ 13 := by
    split
    · rw [List.length_append]; omega
    · simp
  have t2 : (if 54372 ≤ x.rev then uv x.d.length ++ x.d else []).length ≤ 10 + x.d.length := by
    split
    · rw [List.length_append]; omega
    · simp
  have t3 : (if 54401 ≤ x.rev then uv x.c else []).length ≤ 10 := by
    split
    · omega
    · simp
  simp only [Srv.w, Srv.w4, Srv.wT, List.length_append, List.length_nil]
  omega
theorem Srv.w_pos (x : Srv) : 0 < x.w.length := by
  have : 0 < (uv x.n.length).length := by
    by_cases h : x.n.length < 128
    · rw [uv_lt h]; simp
    · rw [uv_ge (by omega)]; simp
  simp only [Srv.w, Srv.w4, List.length_append]; omega

/-- What is read. -/
def Srv.d' (x : Srv) : List UInt8 := if 54372 ≤ x.rev then x.d else []
def Srv.c' (x : Srv) : Nat := if 54401 ≤ x.rev then x.c else x.rev
theorem Srv.F (x : Srv) (z : DV) : srvF (x.v4 ++ x.vT) z = [.p (.string (txt x.n)), .p (.string (txt x.d')), .p (.int .u64 x.rev), .p (.int .u64 x.a), .p (.int .u64 x.b), .p (.int .u64 x.c'), z] := by
  have e : txt [] = ⟨#[]⟩ := rfl
  rcases Nat.lt_or_ge x.rev 54058 with b0 | b0
  · have f0 : ¬ 54058 ≤ x.rev := by omega
    have f1 : ¬ 54372 ≤ x.rev := by omega
    have f2 : ¬ 54401 ≤ x.rev := by omega
    simp [Srv.v4, Srv.vT, Srv.d', Srv.c', f0, f1, f2, srvF]
    rfl
  · rcases Nat.lt_or_ge x.rev 54372 with b1 | b1
    · have f1 : ¬ 54372 ≤ x.rev := by omega
      have f2 : ¬ 54401 ≤ x.rev := by omega
      simp [Srv.v4, Srv.vT, Srv.d', Srv.c', b0, f1, f2, srvF]
      rfl
    · rcases Nat.lt_or_ge x.rev 54401 with b2 | b2
      · have f2 : ¬ 54401 ≤ x.rev := by omega
        simp [Srv.v4, Srv.vT, Srv.d', Srv.c', b0, b1, f2, srvF]
      · simp [Srv.v4, Srv.vT, Srv.d', Srv.c', b0, b1, b2, srvF]
theorem Srv.len4 (x : Srv) : (x.v4 ++ x.vT).length = 4 ↔ ¬ 54058 ≤ x.rev := by
  rcases Nat.lt_or_ge x.rev 54058 with b0 | b0
  · have f0 : ¬ 54058 ≤ x.rev := by omega
    have f1 : ¬ 54372 ≤ x.rev := by omega
    have f2 : ¬ 54401 ≤ x.rev := by omega
    simp [Srv.v4, Srv.vT, f0, f1, f2]
  · simp [Srv.v4, Srv.vT, b0]
end Go.Proofs.Ytbbafeocmchlnaa
