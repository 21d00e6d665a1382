/- impl.IntSets: every operation of a set of ints. -/
import Derived.Test.YtdgnjngbheecnaaIsK
set_option linter.unusedVariables false
set_option linter.unusedSimpArgs false
set_option maxRecDepth 100000
set_option maxHeartbeats 4000000
namespace Go.Proofs.Ytdgnjngbheecnaa
open Go Go.Den Go.Proofs

def setsR (xs ys : List Int) (x : Int) : DV := .agg [
  .fz 1 (ints (setOf (xs ++ ys))), .fz 1 (ints (setOf (xs.filter fun y => setHas ys y))), .fz 1 (ints (setOf (xs.filter fun y => !setHas ys y))),
  .fz 1 (ints (setOf xs)), .fz 1 (ints (setOf xs)), .fz 1 (ints (setOf (x :: xs))), .fz 1 (ints (setOf (xs.filter fun y => decide (y ≠ x)))), .fz 1 (ints (setOf (xs.map bang))), .fz 1 (ints (setOf (xs.filter fun y => begins y x))),
  .p (.bool (decide (setOf xs = setOf ys))), .p (.bool (setHas xs x)), .p (.bool (decide (xs = [])))]
theorem foldl_nil {xs : List Int} : xs.foldl addNew [] = [] ↔ xs = [] := by
  constructor
  · intro h
    refine List.eq_nil_iff_forall_not_mem.2 fun y hy => ?_
    have : y ∈ xs.foldl addNew [] := mem_foldl.2 (.inr hy)
    rw [h] at this
    cases this
  · rintro rfl; rfl
theorem setHas_ext {a b : List Int} {x : Int} (h : ∀ y, y ∈ a ↔ y ∈ b) : setHas a x = setHas b x := by
  rw [Bool.eq_iff_iff]
  simp [setHas, h]
theorem same_spec {a b a' b' : List Int} (ha : a.Nodup) (hb : b.Nodup) (h : setOf a = setOf a') (h' : setOf b = setOf b') : sameSet a b = decide (setOf a' = setOf b') := by
  have := evEq_spec ha hb
  rw [h, h'] at this
  exact this


theorem ok21 {G : Nat → DV} (hG : GZ G) (h : List Blk) (xs ys : List Int) (x : Int) (hx : xs.length ≤ 20) (hy : ys.length ≤ 20) :
    Ok Try.prog G 21 [.fz 1 (ints xs), .fz 1 (ints ys), .p (.int .i64 x)] h (setsR xs ys x) h := by
  refine Ok.wf fun hw => ?_
  refine Ok_by Try.func21 c21_ok r21_ok 63 rfl ?_
  have hX := nodup_foldl xs [] (by simp)
  have hY := nodup_foldl ys [] (by simp)
  have mX : ∀ y, y ∈ xs.foldl addNew [] ↔ y ∈ xs := fun y => by simp [mem_foldl]
  have mY : ∀ y, y ∈ ys.foldl addNew [] ↔ y ∈ ys := fun y => by simp [mem_foldl]
  have lX := addNew_length xs
  have lY := addNew_length ys
  have eX := foldl_nil (xs := xs)
  simp [c21, r21]
  refine FF_by (ok50 _ xs (by omega)) ?_
  simp
  refine FF_by (ok50 _ ys (by omega)) ?_
  simp
  generalize hXe : xs.foldl addNew [] = X at hX mX lX eX
  generalize hYe : ys.foldl addNew [] = Y at hY mY lY
  have fin : ∀ {ks L : List Int}, ks.Nodup → (∀ y, y ∈ ks ↔ y ∈ L) → L.length ≤ 100 → ks.length ≤ 900 := fun hn hm hl => by
    have := len_of_sub hn fun z hz => (hm z).1 hz
    omega
  refine FF_byR (ok51n hG _ (h.length + 1) X (by simp) (by omega)) ?_
  intro v1 h1 hr
  obtain ⟨k1, n1, m1, rfl, rfl⟩ := hr
  simp
  refine FF_byR (ok51n hG _ (h.length + 1) X (by simp) (by omega)) ?_
  intro v2 h2 hr
  obtain ⟨k2, n2, m2, rfl, rfl⟩ := hr
  simp
  have l1 := fin n1 m1 (by omega)
  have l2 := fin n2 m2 (by omega)
  refine FF_by (ok52 _ (h.length + 3) k1 x (by simp) (noIter_push (hw.noIter (by omega)) (by simp))) ?_
  simp
  have n1' := nodup_addNew (s := x) n1
  have m1' : ∀ y, y ∈ addNew k1 x ↔ y ∈ k1 ∨ y = x := fun y => mem_addNew
  have l1' : (addNew k1 x).length ≤ k1.length + 1 := by unfold addNew; split <;> simp
  generalize addNew k1 x = k1' at n1' m1' l1'
  refine FF_byR (ok53 _ (h.length + 4) k2 x (by simp) (noIter_push (hw.noIter (by omega)) (by simp)) n2) ?_
  intro v3 h3 hr
  obtain ⟨k3, n3, m3, rfl, rfl⟩ := hr
  simp
  have l3 := len_of_sub n3 fun z hz => ((m3 z).1 hz).1
  refine FF_byR (ok54n hG _ (h.length + 1) X (by simp) (by omega)) ?_
  intro v8 h8 hr
  obtain ⟨k8, n8, m8, rfl, rfl⟩ := hr
  simp
  have l8 := fin (L := X.map bang) n8 (fun y => by rw [m8]; simp; constructor <;> (rintro ⟨a, h1, h2⟩; exact ⟨a, h1, h2.symm⟩)) (by simp; omega)
  refine FF_byR (ok56n hG _ (h.length + 1) x X (by simp) (by omega)) ?_
  intro v9 h9 hr
  obtain ⟨k9, n9, m9, rfl, rfl⟩ := hr
  simp
  have l9 := fin (L := X.filter fun y => begins y x) n9 (fun y => by rw [m9]; simp) (by have := List.length_filter_le (fun y => begins y x) X; omega)
  refine FF_byR (ok58n hG _ (h.length + 1) (h.length + 2) X (by simp) (by omega) Y (by simp) (by omega)) ?_
  intro v4 h4 hr
  obtain ⟨k4, n4, m4, rfl, rfl⟩ := hr
  simp
  have l4 := fin (L := X ++ Y) n4 (fun y => by rw [m4]; simp) (by simp; omega)
  refine FF_by (ok59 hG _ (h.length + 7) k4 (by simp) (by omega) n4) ?_
  simp
  refine FF_byR (ok60n hG _ (h.length + 1) (h.length + 2) X (by simp) (by omega) Y (by simp) (by omega)) ?_
  intro v5 h5 hr
  obtain ⟨k5, n5, m5, rfl, rfl⟩ := hr
  simp
  have l5 := fin (L := X.filter fun y => setHas Y y) n5 (fun y => by rw [m5]; simp [setHas]) (by have := List.length_filter_le (fun y => setHas Y y) X; omega)
  refine FF_by (ok59 hG _ (h.length + 8) k5 (by simp) (by omega) n5) ?_
  simp
  refine FF_byR (ok61n hG _ (h.length + 1) (h.length + 2) X (by simp) (by omega) Y (by simp) (by omega)) ?_
  intro v6 h6 hr
  obtain ⟨k6, n6, m6, rfl, rfl⟩ := hr
  simp
  have l6 := fin (L := X.filter fun y => !setHas Y y) n6 (fun y => by rw [m6]; simp [setHas]; exact fun _ => ⟨fun h z hz hzy => h (hzy ▸ hz), fun h hz => h _ hz rfl⟩) (by have := List.length_filter_le (fun y => !setHas Y y) X; omega)
  refine FF_by (ok59 hG _ (h.length + 9) k6 (by simp) (by omega) n6) ?_
  simp
  refine FF_by (ok59 hG _ (h.length + 1) X (by simp) (by omega) hX) ?_
  simp
  refine FF_byR (ok51n hG _ (h.length + 1) X (by simp) (by omega)) ?_
  intro v7 h7 hr
  obtain ⟨k7, n7, m7, rfl, rfl⟩ := hr
  simp
  have l7 := fin n7 m7 (by omega)
  refine FF_by (ok59 hG _ (h.length + 10) k7 (by simp) (by omega) n7) ?_
  simp
  refine FF_by (ok59 hG _ (h.length + 3) k1' (by simp) (by omega) n1') ?_
  simp
  refine FF_by (ok59 hG _ (h.length + 4) k3 (by simp) (by omega) n3) ?_
  simp
  refine FF_by (ok59 hG _ (h.length + 5) k8 (by simp) (by omega) n8) ?_
  simp
  refine FF_by (ok59 hG _ (h.length + 6) k9 (by simp) (by omega) n9) ?_
  simp
  refine FF_by (ok62 hG _ (h.length + 1) (h.length + 2) X Y (by simp) (by omega) (by simp) (by omega)) ?_
  simp
  refine FF_by (ok63 _ (h.length + 1) X x (by simp)) ?_
  simp
  refine FF_by (ok64 _ (h.length + 1) X (by simp)) ?_
  simp
  have e0 : setOf k4 = setOf (xs ++ ys) := setOf_eq.2 fun y => by rw [m4]; simp [mX, mY]
  have e1 : setOf k5 = setOf (xs.filter fun y => setHas ys y) := setOf_eq.2 fun y => by rw [m5]; simp [mX, mY, setHas]
  have e2 : setOf k6 = setOf (xs.filter fun y => !setHas ys y) := setOf_eq.2 fun y => by rw [m6]; simp [mX, mY, setHas]; exact fun _ => ⟨fun h z hz hzy => h (hzy ▸ hz), fun h hz => h _ hz rfl⟩
  have e3 : setOf X = setOf xs := setOf_eq.2 mX
  have e4 : setOf k7 = setOf xs := setOf_eq.2 fun y => (m7 y).trans (mX y)
  have e5 : setOf Y = setOf ys := setOf_eq.2 mY
  have e6 : sameSet X Y = decide (setOf xs = setOf ys) := same_spec hX hY e3 e5
  have e7 : setHas X x = setHas xs x := setHas_ext mX
  have e8 : setOf k1' = setOf (x :: xs) := setOf_eq.2 fun y => by rw [m1']; simp [m1, mX, or_comm]
  have e9 : setOf k3 = setOf (xs.filter fun y => decide (y ≠ x)) := setOf_eq.2 fun y => by rw [m3]; simp [m2, mX]
  have e10 : setOf k8 = setOf (xs.map bang) := setOf_eq.2 fun y => by rw [m8]; simp [mX]; constructor <;> (rintro ⟨a, h1, h2⟩; exact ⟨a, h1, h2.symm⟩)
  have e11 : setOf k9 = setOf (xs.filter fun y => begins y x) := setOf_eq.2 fun y => by rw [m9]; simp [mX]
  simp [setsR, e0, e1, e2, e3, e4, e6, e7, e8, e9, e10, e11, eX]
  exact WkV.drop (by simp) id (by simp)

theorem ok21s {G : Nat → DV} (hG : GZ G) (h : List Blk) (b0 : Nat) (xs ys : List Int) (x : Int) (hb0 : h[b0]? = some (.cells 1 (ints xs))) (hx : xs.length ≤ 20) (hy : ys.length ≤ 20) :
    Ok Try.prog G 21 [.sl b0 0 xs.length xs.length, .fz 1 (ints ys), .p (.int .i64 x)] h (setsR xs ys x) h := by
  refine Ok.wf fun hw => ?_
  refine Ok_by Try.func21 c21_ok r21_ok 63 rfl ?_
  have hX := nodup_foldl xs [] (by simp)
  have hY := nodup_foldl ys [] (by simp)
  have mX : ∀ y, y ∈ xs.foldl addNew [] ↔ y ∈ xs := fun y => by simp [mem_foldl]
  have mY : ∀ y, y ∈ ys.foldl addNew [] ↔ y ∈ ys := fun y => by simp [mem_foldl]
  have lX := addNew_length xs
  have lY := addNew_length ys
  have eX := foldl_nil (xs := xs)
  simp [c21, r21]
  refine FF_by (ok50s _ b0 xs (get_pre hb0 _) (by omega)) ?_
  simp
  refine FF_by (ok50 _ ys (by omega)) ?_
  simp
  generalize hXe : xs.foldl addNew [] = X at hX mX lX eX
  generalize hYe : ys.foldl addNew [] = Y at hY mY lY
  have fin : ∀ {ks L : List Int}, ks.Nodup → (∀ y, y ∈ ks ↔ y ∈ L) → L.length ≤ 100 → ks.length ≤ 900 := fun hn hm hl => by
    have := len_of_sub hn fun z hz => (hm z).1 hz
    omega
  refine FF_byR (ok51n hG _ (h.length + 1) X (by simp) (by omega)) ?_
  intro v1 h1 hr
  obtain ⟨k1, n1, m1, rfl, rfl⟩ := hr
  simp
  refine FF_byR (ok51n hG _ (h.length + 1) X (by simp) (by omega)) ?_
  intro v2 h2 hr
  obtain ⟨k2, n2, m2, rfl, rfl⟩ := hr
  simp
  have l1 := fin n1 m1 (by omega)
  have l2 := fin n2 m2 (by omega)
  refine FF_by (ok52 _ (h.length + 3) k1 x (by simp) (noIter_push (hw.noIter (by omega)) (by simp))) ?_
  simp
  have n1' := nodup_addNew (s := x) n1
  have m1' : ∀ y, y ∈ addNew k1 x ↔ y ∈ k1 ∨ y = x := fun y => mem_addNew
  have l1' : (addNew k1 x).length ≤ k1.length + 1 := by unfold addNew; split <;> simp
  generalize addNew k1 x = k1' at n1' m1' l1'
  refine FF_byR (ok53 _ (h.length + 4) k2 x (by simp) (noIter_push (hw.noIter (by omega)) (by simp)) n2) ?_
  intro v3 h3 hr
  obtain ⟨k3, n3, m3, rfl, rfl⟩ := hr
  simp
  have l3 := len_of_sub n3 fun z hz => ((m3 z).1 hz).1
  refine FF_byR (ok54n hG _ (h.length + 1) X (by simp) (by omega)) ?_
  intro v8 h8 hr
  obtain ⟨k8, n8, m8, rfl, rfl⟩ := hr
  simp
  have l8 := fin (L := X.map bang) n8 (fun y => by rw [m8]; simp; constructor <;> (rintro ⟨a, h1, h2⟩; exact ⟨a, h1, h2.symm⟩)) (by simp; omega)
  refine FF_byR (ok56n hG _ (h.length + 1) x X (by simp) (by omega)) ?_
  intro v9 h9 hr
  obtain ⟨k9, n9, m9, rfl, rfl⟩ := hr
  simp
  have l9 := fin (L := X.filter fun y => begins y x) n9 (fun y => by rw [m9]; simp) (by have := List.length_filter_le (fun y => begins y x) X; omega)
  refine FF_byR (ok58n hG _ (h.length + 1) (h.length + 2) X (by simp) (by omega) Y (by simp) (by omega)) ?_
  intro v4 h4 hr
  obtain ⟨k4, n4, m4, rfl, rfl⟩ := hr
  simp
  have l4 := fin (L := X ++ Y) n4 (fun y => by rw [m4]; simp) (by simp; omega)
  refine FF_by (ok59 hG _ (h.length + 7) k4 (by simp) (by omega) n4) ?_
  simp
  refine FF_byR (ok60n hG _ (h.length + 1) (h.length + 2) X (by simp) (by omega) Y (by simp) (by omega)) ?_
  intro v5 h5 hr
  obtain ⟨k5, n5, m5, rfl, rfl⟩ := hr
  simp
  have l5 := fin (L := X.filter fun y => setHas Y y) n5 (fun y => by rw [m5]; simp [setHas]) (by have := List.length_filter_le (fun y => setHas Y y) X; omega)
  refine FF_by (ok59 hG _ (h.length + 8) k5 (by simp) (by omega) n5) ?_
  simp
  refine FF_byR (ok61n hG _ (h.length + 1) (h.length + 2) X (by simp) (by omega) Y (by simp) (by omega)) ?_
  intro v6 h6 hr
  obtain ⟨k6, n6, m6, rfl, rfl⟩ := hr
  simp
  have l6 := fin (L := X.filter fun y => !setHas Y y) n6 (fun y => by rw [m6]; simp [setHas]; exact fun _ => ⟨fun h z hz hzy => h (hzy ▸ hz), fun h hz => h _ hz rfl⟩) (by have := List.length_filter_le (fun y => !setHas Y y) X; omega)
  refine FF_by (ok59 hG _ (h.length + 9) k6 (by simp) (by omega) n6) ?_
  simp
  refine FF_by (ok59 hG _ (h.length + 1) X (by simp) (by omega) hX) ?_
  simp
  refine FF_byR (ok51n hG _ (h.length + 1) X (by simp) (by omega)) ?_
  intro v7 h7 hr
  obtain ⟨k7, n7, m7, rfl, rfl⟩ := hr
  simp
  have l7 := fin n7 m7 (by omega)
  refine FF_by (ok59 hG _ (h.length + 10) k7 (by simp) (by omega) n7) ?_
  simp
  refine FF_by (ok59 hG _ (h.length + 3) k1' (by simp) (by omega) n1') ?_
  simp
  refine FF_by (ok59 hG _ (h.length + 4) k3 (by simp) (by omega) n3) ?_
  simp
  refine FF_by (ok59 hG _ (h.length + 5) k8 (by simp) (by omega) n8) ?_
  simp
  refine FF_by (ok59 hG _ (h.length + 6) k9 (by simp) (by omega) n9) ?_
  simp
  refine FF_by (ok62 hG _ (h.length + 1) (h.length + 2) X Y (by simp) (by omega) (by simp) (by omega)) ?_
  simp
  refine FF_by (ok63 _ (h.length + 1) X x (by simp)) ?_
  simp
  refine FF_by (ok64 _ (h.length + 1) X (by simp)) ?_
  simp
  have e0 : setOf k4 = setOf (xs ++ ys) := setOf_eq.2 fun y => by rw [m4]; simp [mX, mY]
  have e1 : setOf k5 = setOf (xs.filter fun y => setHas ys y) := setOf_eq.2 fun y => by rw [m5]; simp [mX, mY, setHas]
  have e2 : setOf k6 = setOf (xs.filter fun y => !setHas ys y) := setOf_eq.2 fun y => by rw [m6]; simp [mX, mY, setHas]; exact fun _ => ⟨fun h z hz hzy => h (hzy ▸ hz), fun h hz => h _ hz rfl⟩
  have e3 : setOf X = setOf xs := setOf_eq.2 mX
  have e4 : setOf k7 = setOf xs := setOf_eq.2 fun y => (m7 y).trans (mX y)
  have e5 : setOf Y = setOf ys := setOf_eq.2 mY
  have e6 : sameSet X Y = decide (setOf xs = setOf ys) := same_spec hX hY e3 e5
  have e7 : setHas X x = setHas xs x := setHas_ext mX
  have e8 : setOf k1' = setOf (x :: xs) := setOf_eq.2 fun y => by rw [m1']; simp [m1, mX, or_comm]
  have e9 : setOf k3 = setOf (xs.filter fun y => decide (y ≠ x)) := setOf_eq.2 fun y => by rw [m3]; simp [m2, mX]
  have e10 : setOf k8 = setOf (xs.map bang) := setOf_eq.2 fun y => by rw [m8]; simp [mX]; constructor <;> (rintro ⟨a, h1, h2⟩; exact ⟨a, h1, h2.symm⟩)
  have e11 : setOf k9 = setOf (xs.filter fun y => begins y x) := setOf_eq.2 fun y => by rw [m9]; simp [mX]
  simp [setsR, e0, e1, e2, e3, e4, e6, e7, e8, e9, e10, e11, eX]
  exact WkV.drop (by simp) id (by simp)

end Go.Proofs.Ytdgnjngbheecnaa
