/- Addresses: the reader of addresses; the law. -/
import Derived.Test.YtdgnjngbheecnaaIpV
set_option linter.unusedVariables false
set_option linter.unusedSimpArgs false
set_option maxRecDepth 100000
namespace Go.Proofs.Ytdgnjngbheecnaa
open Go Go.Den Go.Proofs

theorem idx_none (l : List UInt8) (c : UInt8) (h : c ∉ l) : Lib.indexByte l c = -1 := by
  induction l with
  | nil => rfl
  | cons b l ih =>
    have hb : (b == c) = false := by simp; rintro rfl; exact h (by simp)
    simp [Lib.indexByte, hb, ih (fun h' => h (by simp [h']))]
theorem idx_at (x z : List UInt8) (c : UInt8) (h : c ∉ x) : Lib.indexByte (x ++ c :: z) c = (x.length : Int) := by
  induction x with
  | nil => simp [Lib.indexByte]
  | cons b x ih =>
    have hb : (b == c) = false := by
      simp; rintro rfl; exact h (by simp)
    have hi := ih (fun h' => h (by simp [h']))
    have hn : ((x.length : Int) == -1) = false := by simp
    simp [Lib.indexByte, hb, hi, hn]
/-- What the reader answers: an address; an error, or an address of a zone. -/
def OutA (ok : Bool) (v : DV) : Prop := (ok = true ∧ ∃ (m n : Int) (v6 : Bool), v = .tup [adr m n true v6 ⟨#[]⟩, .p .nilIface]) ∨ (ok = false ∧ ((∃ E, IsErr E ∧ v = .tup [A0, E]) ∨ ∃ (m n : Int) (z : List UInt8), z ≠ [] ∧ v = .tup [adr m n true true (txt z), .p .nilIface]))
theorem Out6.toA {ok W : Bool} {z : List UInt8} {v : DV} (h : Out6 W z v) (h1 : z = [] → ok = W) (h2 : z ≠ [] → ok = false) : OutA ok v := by
  by_cases hz : z = []
  · subst hz
    rw [h1 rfl]
    rcases h with ⟨a, m, n, rfl⟩ | ⟨a, E, hE, rfl⟩
    · exact .inl ⟨a, m, n, true, rfl⟩
    · exact .inr ⟨a, .inl ⟨E, hE, rfl⟩⟩
  · rw [h2 hz]
    rcases h with ⟨a, m, n, rfl⟩ | ⟨a, E, hE, rfl⟩
    · exact .inr ⟨rfl, .inr ⟨m, n, z, hz, rfl⟩⟩
    · exact .inr ⟨rfl, .inl ⟨E, hE, rfl⟩⟩
theorem ok130 {G : Nat → DV} (h : List Blk) (l : List UInt8) (hl : l.length ≤ 2147483647) : OkR Try.prog G 130 [.p (.string (txt l))] h fun v h' => h' = h ∧ OutA (q6 l) v := by
  refine OkR_by Try.func130 c130_ok r130_ok 279 rfl ?_
  simp [c130]
  refine FF_by (ok146 _ _ _) ?_
  by_cases h37 : (37 : UInt8) ∈ l
  · have hq : q6 l = false := by
      rw [← Bool.not_eq_true]; exact fun h => q6_no37 l h h37
    obtain ⟨s, z, hlz, hs⟩ := List.eq_append_cons_of_mem h37
    have hidx : Lib.indexByte l 37 = (s.length : Int) := by
      rw [hlz]; exact idx_at s z 37 hs
    have q1 : ((s.length : Int) != -1) = true := by simp
    have hlen : l.length = s.length + (z.length + 1) := by
      have := congrArg List.length hlz
      simpa using this
    have w1 : IntKind.i64.wrap ((s.length : Int) + 1) = ((s.length + 1 : Nat) : Int) := by
      simp [IntKind.wrap, IntKind.bits, IntKind.signed]; omega
    have d1 : l.take s.length = s := by rw [hlz]; simp
    have d2 : List.drop (s.length + 1) l = z := by rw [hlz, ← List.drop_drop]; simp
    simp [hidx, q1, w1, d1, d2]
    refine ⟨by omega, by omega, ?_⟩
    refine CC_by (fun c0 => ?_) (fun c0 => ?_)
    · simp [r130]
      exact REr_by _ _ (WkV.ofPure (by simp) rfl) ⟨rfl, .inr ⟨hq, .inl ⟨_, .mk, rfl⟩⟩⟩
    have hz0 : z ≠ [] := by simpa using c0
    have hz : (z = [] ∧ (37 :: z) = []) ∨ (z ≠ [] ∧ (37 :: z) = 37 :: z) := .inr ⟨hz0, rfl⟩
    have hR : ∀ v, Out6 (q6 s) z v → OutA (q6 l) v := fun v hv => hv.toA (fun h => absurd h hz0) (fun _ => hq)
    have hlz : l = s ++ 37 :: z := hlz
    clear d1 d2 hidx q1 hs hlen
    simp
    generalize hW : q6 s = W at hR
    have hA : ¬ s.take 2 = [58, 58] → At6 l (37 :: z) W 8 [] s false (-1) (List.replicate 16 0) := fun h2 => ⟨by simp, by simpa using hlz, by simp, .inr ⟨rfl, rfl⟩, by rw [← hW, q6, if_neg h2]⟩
    have hsl : s.length ≤ 2147483647 := by have := congrArg List.length hlz; simp at this; omega
    match s, hW, hlz, hA, hsl with
    | [], hW, hlz, hA, hsl =>
      simp
      exact tail130 hR h l [] (37 :: z) false (-1) [] hz hl (hA (by simp)) _ _ _ _ _ _ _ _ _ _ _ _ _ _ _ _ _ _ _ _ _ _ _ _ _ _ _ _ _ _ _ _ _ _ _ _ _ _ _ _ _ _ _ _ _ _ _
    | [a], hW, hlz, hA, hsl =>
      simp
      exact tail130 hR h l [a] (37 :: z) false (-1) [] hz hl (hA (by simp)) _ _ _ _ _ _ _ _ _ _ _ _ _ _ _ _ _ _ _ _ _ _ _ _ _ _ _ _ _ _ _ _ _ _ _ _ _ _ _ _ _ _ _ _ _ _ _
    | a :: b :: r, hW, hlz, hA, hsl =>
      have z2 : decide ((2 : Int) ≤ ((r.length : Int) + 1 + 1)) = true := by simp; omega
      simp [z2, byteD]
      by_cases ha : a = 58
      · subst ha
        simp [byteD]
        by_cases hb : b = 58
        · subst hb
          have t2 : ((r.length : Int) + 1 + 1).toNat = r.length + 1 + 1 := by omega
          simp [t2]
          refine ⟨by omega, by omega, by omega, ?_⟩
          refine CC_by (fun c1 => ?_) (fun c1 => ?_)
          · have hr0 : r = [] := by simpa using c1
            subst hr0
            have hWt : W = true := by rw [← hW]; rfl
            simp
            refine FF_by (ok147 _) ?_
            simp [adr]
            refine FF_by (ok148 _ 0 0 (txt z)) ?_
            simp [adr, r130]
            exact REr_by _ _ (WkV.ofPure (by simp) rfl) ⟨rfl, hR _ (.inl ⟨hWt, 0, 0, rfl⟩)⟩
          · have hr0 : ¬ r = [] := by rintro rfl; simp at c1
            simp
            exact tail130 hR h l r (37 :: z) true 0 [58, 58] hz hl ⟨by simp, by simpa using hlz, by simp, .inl ⟨rfl, by simp, by simp⟩, by rw [← hW, q6]; simp [hr0]⟩ _ _ _ _ _ _ _ _ _ _ _ _ _ _ _ _ _ _ _ _ _ _ _ _ _ _ _ _ _ _ _ _ _ _ _ _ _ _ _ _ _ _ _ _ _ _ _
        · have qb : ((b.toNat : Int) == 58) = false := by
            rw [← Bool.not_eq_true]
            intro h
            exact hb (UInt8.toNat_inj.1 (by simp at h; simp; omega))
          simp [qb]
          refine ⟨by omega, by omega, ?_⟩
          exact tail130 hR h l (58 :: b :: r) (37 :: z) false (-1) [] hz hl (hA (by simp [hb])) _ _ _ _ _ _ _ _ _ _ _ _ _ _ _ _ _ _ _ _ _ _ _ _ _ _ _ _ _ _ _ _ _ _ _ _ _ _ _ _ _ _ _ _ _ _ _
      · have qa : ((a.toNat : Int) == 58) = false := by
          rw [← Bool.not_eq_true]
          intro h
          exact ha (UInt8.toNat_inj.1 (by simp at h; simp; omega))
        simp [qa]
        refine ⟨by omega, ?_⟩
        exact tail130 hR h l (a :: b :: r) (37 :: z) false (-1) [] hz hl (hA (by simp [ha])) _ _ _ _ _ _ _ _ _ _ _ _ _ _ _ _ _ _ _ _ _ _ _ _ _ _ _ _ _ _ _ _ _ _ _ _ _ _ _ _ _ _ _ _ _ _ _
  · have hidx : Lib.indexByte l 37 = -1 := idx_none l 37 h37
    simp [hidx]
    have hz : (([] : List UInt8) = [] ∧ ([] : List UInt8) = []) ∨ (([] : List UInt8) ≠ [] ∧ ([] : List UInt8) = 37 :: []) := .inl ⟨rfl, rfl⟩
    have hR : ∀ v, Out6 (q6 l) [] v → OutA (q6 l) v := fun v hv => hv.toA (fun h => rfl) (fun h => absurd rfl h)
    have hA : ¬ l.take 2 = [58, 58] → At6 l [] (q6 l) 8 [] l false (-1) (List.replicate 16 0) := fun h2 => ⟨by simp, by simp, by simp, .inr ⟨rfl, rfl⟩, by rw [q6, if_neg h2]⟩
    rcases l with _ | ⟨a, _ | ⟨b, r⟩⟩
    · simp
      exact tail130 hR h [] [] [] false (-1) [] hz hl (hA (by simp)) _ _ _ _ _ _ _ _ _ _ _ _ _ _ _ _ _ _ _ _ _ _ _ _ _ _ _ _ _ _ _ _ _ _ _ _ _ _ _ _ _ _ _ _ _ _ _
    · simp
      exact tail130 hR h [a] [a] [] false (-1) [] hz hl (hA (by simp)) _ _ _ _ _ _ _ _ _ _ _ _ _ _ _ _ _ _ _ _ _ _ _ _ _ _ _ _ _ _ _ _ _ _ _ _ _ _ _ _ _ _ _ _ _ _ _
    · have z2 : decide ((2 : Int) ≤ ((r.length : Int) + 1 + 1)) = true := by simp; omega
      simp [z2, byteD]
      by_cases ha : a = 58
      · subst ha
        simp [byteD]
        by_cases hb : b = 58
        · subst hb
          have t2 : ((r.length : Int) + 1 + 1).toNat = r.length + 1 + 1 := by omega
          simp [t2]
          refine ⟨by omega, by omega, by omega, ?_⟩
          refine CC_by (fun c1 => ?_) (fun c1 => ?_)
          · have hr0 : r = [] := by simpa using c1
            subst hr0
            simp
            refine FF_by (ok147 _) ?_
            simp [adr]
            refine FF_by (ok148 _ 0 0 (txt [])) ?_
            simp [adr, r130]
            exact REr_by _ _ (WkV.ofPure (by simp) rfl) ⟨rfl, hR _ (.inl ⟨rfl, 0, 0, rfl⟩)⟩
          · have hr0 : ¬ r = [] := by rintro rfl; simp at c1
            simp
            exact tail130 hR h (58 :: 58 :: r) r [] true 0 [58, 58] hz hl ⟨by simp, by simp, by simp, .inl ⟨rfl, by simp, by simp⟩, by rw [q6]; simp [hr0]⟩ _ _ _ _ _ _ _ _ _ _ _ _ _ _ _ _ _ _ _ _ _ _ _ _ _ _ _ _ _ _ _ _ _ _ _ _ _ _ _ _ _ _ _ _ _ _ _
        · have qb : ((b.toNat : Int) == 58) = false := by
            rw [← Bool.not_eq_true]
            intro h
            exact hb (UInt8.toNat_inj.1 (by simp at h; simp; omega))
          simp [qb]
          refine ⟨by omega, by omega, ?_⟩
          exact tail130 hR h (58 :: b :: r) (58 :: b :: r) [] false (-1) [] hz hl (hA (by simp [hb])) _ _ _ _ _ _ _ _ _ _ _ _ _ _ _ _ _ _ _ _ _ _ _ _ _ _ _ _ _ _ _ _ _ _ _ _ _ _ _ _ _ _ _ _ _ _ _
      · have qa : ((a.toNat : Int) == 58) = false := by
          rw [← Bool.not_eq_true]
          intro h
          exact ha (UInt8.toNat_inj.1 (by simp at h; simp; omega))
        simp [qa]
        refine ⟨by omega, ?_⟩
        exact tail130 hR h (a :: b :: r) (a :: b :: r) [] false (-1) [] hz hl (hA (by simp [ha])) _ _ _ _ _ _ _ _ _ _ _ _ _ _ _ _ _ _ _ _ _ _ _ _ _ _ _ _ _ _ _ _ _ _ _ _ _ _ _ _ _ _ _ _ _ _ _
theorem ok104 {G : Nat → DV} (h : List Blk) (l : List UInt8) (hl : l.length ≤ 2147483647) : OkR Try.prog G 104 [.p (.string (txt l))] h fun v h' => h' = h ∧ OutA (ipOk l) v := by
  refine OkR_by Try.func104 c104_ok r104_ok 35 rfl ?_
  have hH : h ++ [.cells 5 [A0]] = h ++ [.cells 5 [A0]] := rfl
  simp [c104, r104]
  refine VV_fam (fun i : Nat => ⟨fr 36 [(0, .p (.string (txt l))), (2, .ptr h.length 0 0 1), (3, .p .nilIface), (4, .p (.int .i64 i))], h ++ [.cells 5 [A0]]⟩)
    (fun i => i ≤ l.length ∧ ipOk l = ipGo l (l.drop i)) (fun i => l.length - i) 0 ⟨by simp, by simp [ipOk]⟩ (Wk.fits (by simp)) ?_
  rintro i ⟨hi, hgo⟩ B hb he hr
  have w1 : IntKind.i64.wrap ((i : Int) + 1) = ((i + 1 : Nat) : Int) := by simp [IntKind.wrap, IntKind.bits, IntKind.signed]; omega
  have errv : ∀ (x y w : ByteArray) (h1 : List Blk), ipOk l = false → REr h (some [.agg [.p (.int .u64 0), .p (.int .u64 0), .p (.bool false), .p (.bool false), .p (.string ⟨#[]⟩)], .iface 160 (.agg [.p (.string x), .p (.string y), .p (.string w)])]) (h ++ h1) fun v h' => h' = h ∧ OutA (ipOk l) v := fun x y w h1 hW =>
    REr_by _ _ (WkV.ofPure (by simp) rfl) ⟨rfl, .inr ⟨hW, .inl ⟨_, ⟨x, y, w, rfl⟩, rfl⟩⟩⟩
  simp [A0, adr]
  refine CC_by (fun c1 => ?_) (fun c1 => ?_)
  · have hi' : i < l.length := by simpa using c1
    rw [List.drop_eq_getElem_cons hi', ipGo] at hgo
    have hc256 := (l[i]).toNat_lt
    simp [hi', byteD]
    generalize hch : l[i] = c at hgo hc256 ⊢
    refine CC_by (fun c2 => ?_) (fun c2 => ?_)
    · have h46 : c = 46 := UInt8.toNat_inj.1 (by simp at c2; simp; omega)
      rw [if_pos h46] at hgo
      simp
      refine FF_byR (ok129 _ l hl) ?_
      rintro v h' ⟨rfl, hv⟩
      rcases hv with ⟨hp, n, rfl⟩ | ⟨hp, E, hE, rfl⟩
      · simp [adr]
        refine hr _ ?_
        simp
        exact REr_by _ _ (WkV.ofPure (by simp) rfl) ⟨rfl, .inl ⟨by rw [hgo, hp], 0, n, false, rfl⟩⟩
      · obtain ⟨x, y, w, rfl⟩ := hE
        simp [A0, adr]
        refine hr _ ?_
        simp
        exact errv _ _ _ _ (by rw [hgo, hp])
    have h46 : ¬ c = 46 := by rintro rfl; simp at c2
    rw [if_neg h46] at hgo
    simp
    refine CC_by (fun c3 => ?_) (fun c3 => ?_)
    · have h58 : c = 58 := UInt8.toNat_inj.1 (by simp at c3; simp; omega)
      rw [if_pos h58] at hgo
      simp
      refine FF_byR (ok130 _ l hl) ?_
      rintro v h' ⟨rfl, hv⟩
      rcases hv with ⟨hp, m, n, v6, rfl⟩ | ⟨hp, ⟨E, hE, rfl⟩ | ⟨m, n, z, hz, rfl⟩⟩
      · simp [adr]
        refine hr _ ?_
        simp
        exact REr_by _ _ (WkV.ofPure (by simp) rfl) ⟨rfl, .inl ⟨by rw [hgo, hp], m, n, v6, rfl⟩⟩
      · obtain ⟨x, y, w, rfl⟩ := hE
        simp [A0, adr]
        refine hr _ ?_
        simp
        exact errv _ _ _ _ (by rw [hgo, hp])
      · simp [adr]
        refine hr _ ?_
        simp
        exact REr_by _ _ (WkV.ofPure (by simp) rfl) ⟨rfl, .inr ⟨by rw [hgo, hp], .inr ⟨m, n, z, hz, rfl⟩⟩⟩
    have h58 : ¬ c = 58 := by rintro rfl; simp at c3
    rw [if_neg h58] at hgo
    simp
    refine CC_by (fun c4 => ?_) (fun c4 => ?_)
    · have h37 : c = 37 := UInt8.toNat_inj.1 (by simp at c4; simp; omega)
      rw [if_pos h37] at hgo
      simp
      refine hr _ ?_
      simp
      exact errv _ _ _ _ hgo
    · have h37 : ¬ c = 37 := by rintro rfl; simp at c4
      rw [if_neg h37] at hgo
      simp [w1]
      exact hb _ (i + 1) (Wk.fits (by simp)) ⟨hi', hgo⟩ (by omega)
  · have : i = l.length := by simp at c1; omega
    subst this
    rw [List.drop_length, ipGo] at hgo
    simp
    refine he _ _ ?_
    simp
    exact errv _ _ _ _ hgo
theorem ok43 {G : Nat → DV} (h : List Blk) (l : List UInt8) (hl : l.length ≤ 2147483647) : Ok Try.prog G 43 [.p (.string (txt l))] h (.p (.bool (ipOk l))) h := by
  refine Ok_by Try.func43 c43_ok r43_ok 16 rfl ?_
  simp [c43, r43]
  refine FF_byR (ok104 _ l hl) ?_
  rintro v h' ⟨rfl, hv⟩
  rcases hv with ⟨hp, m, n, v6, rfl⟩ | ⟨hp, ⟨E, ⟨x, y, w, rfl⟩, rfl⟩ | ⟨m, n, z, hz, rfl⟩⟩
  · simp [adr, isNilD]
    refine FF_by (ok105 _ m n v6 ⟨#[]⟩) ?_
    simp [hp]
  · simp [A0, adr, isNilD, hp]
  · simp [adr, isNilD]
    refine FF_by (ok105 _ m n true (txt z)) ?_
    simp [hp, hz]
theorem ok17 {G : Nat → DV} (h : List Blk) (l : List UInt8) (hl : l.length ≤ 2147483647) : Ok Try.prog G 17 [.p (.string (txt l))] h (.p (.bool (ipOk l))) h := by
  refine Ok_by Try.func17 c17_ok r17_ok 4 rfl ?_
  simp [c17, r17]
  refine FF_by (ok43 _ l hl) ?_
  simp
theorem ok4 {G : Nat → DV} (h : List Blk) (l : List UInt8) : Ok Try.prog G 4 [.p (.string (txt l))] h (.p (.bool true)) h := by
  refine Ok_by Try.func4 c4_ok r4_ok 27 rfl ?_
  simp [c4, r4]
  refine CC_by (fun c1 => ?_) (fun c1 => ?_)
  · simp
  have hl : l.length ≤ 2147483647 := by simp at c1; omega
  simp
  refine FF_by (ok16 _ l hl) ?_
  have e1 : ipOk [58, 58, 49] = true := by decide
  have e2 : ipOk [120] = false := by decide
  have hlaw := ip_law l
  generalize ipRef l = R at hlaw ⊢
  obtain ⟨want, dec⟩ := R
  cases dec
  · simp
    refine FF_by (ok17 _ [58, 58, 49] (by simp)) ?_
    simp [e1]
    refine FF_by (ok17 _ [120] (by simp)) ?_
    simp [e2]
  · have hw : want = ipOk l := hlaw rfl
    simp
    refine FF_by (ok17 _ l hl) ?_
    simp [hw]
    refine FF_by (ok17 _ [58, 58, 49] (by simp)) ?_
    simp [e1]
    refine FF_by (ok17 _ [120] (by simp)) ?_
    simp [e2]
/-- The law's contract. -/
theorem ip_walk (s : ByteArray) (hs : s.size ≤ 140737488351232) : Ok Try.prog (fun _ => .any) 4 [.p (.string s)] [] (.p (.bool true)) [] := ok4 [] s.data.toList
end Go.Proofs.Ytdgnjngbheecnaa
