/- Servers' handshakes: the walk of the law FnProtoServer, joined. -/
import Derived.Test.YtbbafeocmchlnaaSvC
set_option linter.unusedVariables false
set_option linter.unusedSimpArgs false
set_option maxRecDepth 100000
namespace Go.Proofs.Ytbbafeocmchlnaa
open Go Go.Den Go.Proofs

theorem ok9 (x : Srv) (z t bh : List UInt8) (cut : Nat) (hcut : cut < 65536) (hn : x.n.length ≤ maxLen) (hd : x.d.length ≤ maxLen) (hrev : x.rev < B64) (ha : x.a < B64) (hb : x.b < B64) (hc : x.c < B64) (hbh : bh.length ≤ 140737488351232) :
    Ok Try.prog (fun _ => .any) 9 [x.D z t, .p (.string (txt bh)), .p (.int .u16 cut)] [] (.p (.bool true)) [] := by
  refine Ok_by Try.func9 c9_ok r9_ok 90 rfl ?_
  have hWp := Srv.w_pos x
  have eU : (utc = [85, 84, 67]) = True := by simp [utc]
  have hm := Nat.mod_lt cut hWp
  have e1 : (cut : Int).tmod (x.w.length : Int) = ((cut % x.w.length : Nat) : Int) := by
    rw [Int.tmod_eq_emod_of_nonneg (by omega)]; simp
  generalize cut % x.w.length = M at hm e1
  have w16 : IntKind.i64.wrap (cut : Int) = cut := by simp [IntKind.wrap, IntKind.bits, IntKind.signed]; omega
  simp [c9, r9, Srv.D]
  refine FF_by (ok35 _ x z t) ?_
  cases hfit : (decide (x.n.length ≤ 2147483647) && (decide (x.d.length ≤ 2147483647) && (decide (z.length ≤ 2147483647) && decide (t.length ≤ 2147483647))))
  · simp
  · simp at hfit
    obtain ⟨f1, f2, f3, f4⟩ := hfit
    by_cases h3 : bh.length ≤ 2147483647
    · have h3' : decide ((2147483647 : Int) < (bh.length : Int)) = false := by simp; omega
      simp [h3']
      have h13 := ok13 (G := fun _ => .any) [] [x.n, x.d, bh] (by simp [sumLen]; omega) (by simp)
      refine FF_by (Ok.lend gz h13 (.cons (frzR_lit (h := [.cells 8 [x.D z t]]) (x := []) (l := txts [x.n, x.d, bh]) rfl txts_plain) .nil) rfl) ?_
      by_cases h4 : sumLen [x.n, x.d, bh] ≤ 5000
      · have h5 : x.n.length + (x.d.length + bh.length) ≤ 5000 := by simpa [sumLen] using h4
        have hx : x.Ok := ⟨by omega, by omega, hrev, ha, hb, hc⟩
        simp [h4, Srv.D]
        refine FF_by (ok36 _ x [] hx) ?_
        have hW := Srv.w_len hx
        have hWi : (x.w.length : Int) ≤ 5100 := by omega
        rcases Nat.lt_or_ge x.rev 54058 with b0 | b0
        · skip
          have k0 : (x.rev : Int) < 54058 := by omega
          have j0 : ¬ 54058 ≤ x.rev := by omega
          have k1 : (x.rev : Int) < 54372 := by omega
          have j1 : ¬ 54372 ≤ x.rev := by omega
          have k2 : (x.rev : Int) < 54401 := by omega
          have j2 : ¬ 54401 ≤ x.rev := by omega
          simp [k0, k1, k2, j0, j1, j2]
          refine ⟨by omega, ?_⟩
          refine FF_by (ok37s _ x hx bh (by omega)) ?_
          simp [k0, k1, k2, j0, j1, j2, w16, e1, Srv.R, Srv.d', Srv.c']
          refine ⟨fun h => by rw [h] at hWp; simp at hWp, by omega, ?_⟩
          refine FF_by (ok37e _ _ (by simp; omega) ((Srv.ex hx).of_take hm) (Srv.zone hx (X := []) (by rw [List.append_nil]; exact List.take_prefix _ _))) ?_
          simp [k0, k1, k2, j0, j1, j2, srvZ, eU]
          refine FF_by (ok14 _) ?_
          simp
        · rcases Nat.lt_or_ge x.rev 54372 with b1 | b1
          · skip
            have k0 : ¬ (x.rev : Int) < 54058 := by omega
            have j0 : 54058 ≤ x.rev := by omega
            have k1 : (x.rev : Int) < 54372 := by omega
            have j1 : ¬ 54372 ≤ x.rev := by omega
            have k2 : (x.rev : Int) < 54401 := by omega
            have j2 : ¬ 54401 ≤ x.rev := by omega
            simp [k0, k1, k2, j0, j1, j2]
            refine ⟨by omega, ?_⟩
            refine FF_by (ok37s _ x hx bh (by omega)) ?_
            simp [k0, k1, k2, j0, j1, j2, w16, e1, Srv.R, Srv.d', Srv.c']
            refine ⟨fun h => by rw [h] at hWp; simp at hWp, by omega, ?_⟩
            refine FF_by (ok37e _ _ (by simp; omega) ((Srv.ex hx).of_take hm) (Srv.zone hx (X := []) (by rw [List.append_nil]; exact List.take_prefix _ _))) ?_
            simp [k0, k1, k2, j0, j1, j2, srvZ, eU]
            refine FF_by (ok14 _) ?_
            simp
          · rcases Nat.lt_or_ge x.rev 54401 with b2 | b2
            · skip
              have k0 : ¬ (x.rev : Int) < 54058 := by omega
              have j0 : 54058 ≤ x.rev := by omega
              have k1 : ¬ (x.rev : Int) < 54372 := by omega
              have j1 : 54372 ≤ x.rev := by omega
              have k2 : (x.rev : Int) < 54401 := by omega
              have j2 : ¬ 54401 ≤ x.rev := by omega
              simp [k0, k1, k2, j0, j1, j2]
              refine ⟨by omega, ?_⟩
              refine FF_by (ok37s _ x hx bh (by omega)) ?_
              simp [k0, k1, k2, j0, j1, j2, w16, e1, Srv.R, Srv.d', Srv.c']
              refine ⟨fun h => by rw [h] at hWp; simp at hWp, by omega, ?_⟩
              refine FF_by (ok37e _ _ (by simp; omega) ((Srv.ex hx).of_take hm) (Srv.zone hx (X := []) (by rw [List.append_nil]; exact List.take_prefix _ _))) ?_
              simp [k0, k1, k2, j0, j1, j2, srvZ, eU]
              refine FF_by (ok14 _) ?_
              simp
            · skip
              have k0 : ¬ (x.rev : Int) < 54058 := by omega
              have j0 : 54058 ≤ x.rev := by omega
              have k1 : ¬ (x.rev : Int) < 54372 := by omega
              have j1 : 54372 ≤ x.rev := by omega
              have k2 : ¬ (x.rev : Int) < 54401 := by omega
              have j2 : 54401 ≤ x.rev := by omega
              simp [k0, k1, k2, j0, j1, j2]
              refine ⟨by omega, ?_⟩
              refine FF_by (ok37s _ x hx bh (by omega)) ?_
              simp [k0, k1, k2, j0, j1, j2, w16, e1, Srv.R, Srv.d', Srv.c']
              refine ⟨fun h => by rw [h] at hWp; simp at hWp, by omega, ?_⟩
              refine FF_by (ok37e _ _ (by simp; omega) ((Srv.ex hx).of_take hm) (Srv.zone hx (X := []) (by rw [List.append_nil]; exact List.take_prefix _ _))) ?_
              simp [k0, k1, k2, j0, j1, j2, srvZ, eU]
              refine FF_by (ok14 _) ?_
              simp
      · simp [h4]
        refine FF_by (ok14 _) ?_
        simp
    · have h3' : decide ((2147483647 : Int) < (bh.length : Int)) = true := by simp; omega
      simp [h3']

def srvSh : Sh := .st [(1, .str), (1, .str), (1, .str), (1, .str), (1, .int .u64), (3, .st [(1, .int .u64), (1, .int .u64), (1, .int .u64)])]
theorem shaped_srv {d : DV} (s : Shaped srvSh d) : ∃ (x : Srv) (z t : List UInt8), d = x.D z t ∧ x.n.length ≤ maxLen ∧ x.d.length ≤ maxLen ∧ x.rev < B64 ∧ x.a < B64 ∧ x.b < B64 ∧ x.c < B64 := by
  cases s with
  | st hl h hc =>
    rename_i ds
    match ds, hl, h with
    | [d1, d2, d3, d4, d5, d6], _, h =>
      obtain ⟨n, rfl, hn⟩ := shaped_str (h 0 (by simp) (by simp))
      obtain ⟨d, rfl, hd⟩ := shaped_str (h 1 (by simp) (by simp))
      obtain ⟨z, rfl, _⟩ := shaped_str (h 2 (by simp) (by simp))
      obtain ⟨t, rfl, _⟩ := shaped_str (h 3 (by simp) (by simp))
      obtain ⟨r, rfl, hr⟩ := shaped_u64 (h 4 (by simp) (by simp))
      obtain ⟨a, b, c, rfl, ha, hb, hc⟩ := shaped_ver (h 5 (by simp) (by simp))
      exact ⟨⟨n, d, r, a, b, c⟩, z, t, rfl, hn, hd, hr, ha, hb, hc⟩

theorem protoServer_walk (d : DV) (bh : ByteArray) (cut : Int) (sd : Shaped srvSh d) (hbh : bh.size ≤ 140737488351232) (hc : (Lit.int IntKind.u16 cut).wf = true) :
    Ok Try.prog (fun _ => .any) 9 [d, .p (.string bh), .p (.int .u16 cut)] [] (.p (.bool true)) [] := by
  obtain ⟨x, z, t, rfl, h1, h2, h3, h4, h5, h6⟩ := shaped_srv sd
  obtain ⟨cut, rfl, hcut⟩ := wf_nat rfl hc
  rw [txt_of bh]
  exact ok9 x z t _ cut (by simpa [IntKind.bits] using hcut) h1 h2 h3 h4 h5 h6 (by simpa using hbh)
end Go.Proofs.Ytbbafeocmchlnaa
