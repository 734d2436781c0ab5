/- The contract of spec.Fit. Printed by gen_Vg.py. -/
import Derived.Test.YtnaedpfaeioolaaVq
namespace Go.Proofs.Ytnaedpfaeioolaa
open Go.RowKit
set_option linter.unusedVariables false

/-- What the first loop keeps. -/
def FLoop (w : World) (M : Nat) (ds : List D) (v c i : Value) (wr : World) : Prop :=
  ∃ (k : Nat) (qs : List V4), k ≤ M ∧ i = .int .i64 k ∧ c = .int .i64 (cntA (ds.take k) : Nat) ∧ Kids4 wr w.heap.size 47 v qs ((fit1 (ds.take M)).take k) ∧ Below w.heap.size w wr

/-- What the second loop keeps. -/
def GLoop (w : World) (M : Nat) (xs : List D) (v i : Value) (wr : World) : Prop :=
  ∃ (k : Nat) (qs : List V4), k ≤ M ∧ i = .int .i64 k ∧ Kids4 wr w.heap.size 47 v qs (fit2 xs k) ∧ Below w.heap.size w wr

set_option maxHeartbeats 1000000 in
set_option maxRecDepth 100000 in
theorem Fit_big (ds : List D) (w : World) (a : Option Addr) (cap : Nat) (hM : 8 < ds.length) (hdv : DV w (.slice a ds.length cap) ds) :
    Calls Try.prog 19 #[.slice a ds.length cap] w fun e w' => ∃ v', e = .returned v' ∧ DV w' v' (fitD ds) ∧ Below w.heap.size w w' := by
  have hcap : ds.length ≤ cap ∧ cap ≤ 9223372036854775807 := by
    obtain ⟨_, _, _, e1, h1, h2, _⟩ := hdv
    simp at e1
    obtain ⟨_, rfl⟩ := e1
    exact ⟨h1, by simpa [maxLen] using h2⟩
  obtain ⟨hcap1, hcap2⟩ := hcap
  have Hdv := Lib.hid hdv; clear hdv
  have hlM : (ds.take 8).length = 8 := by rw [List.length_take]; omega
  have HlM := Lib.hid hlM; clear hlM
  go_enter Try.func19, Try.ntmps19
  go_wp2_with fail
  go_loopw [3, 4, 15] (FLoop w 8 ds) (fun _ _ i _ => 8 - (intOf i).toNat)
  case atStart => unfold FLoop; exact ⟨0, [], Nat.zero_le _, rfl, rfl, Kids4.nil _ _ _, Below.refl _ _⟩
  case round =>
    obtain ⟨k, qs, hk, rfl, rfl, hkids, hbw⟩ := hrel
    obtain ⟨c, hcc⟩ : ∃ c, c = cntA (ds.take k) := ⟨_, rfl⟩
    rw [← hcc]
    have hc8 : c ≤ 8 := by have := cntA_le (ds.take k); rw [List.length_take, ← hcc] at this; omega
    have Hcc := Lib.hid hcc; clear hcc
    have hlen : ((fit1 (ds.take 8)).take k).length = k := by rw [List.length_take, fit1_len, HlM.out]; omega
    have hown := hkids.own
    rw [hlen] at hown
    have Hkids := Lib.hid hkids; clear hkids
    have Hlen := Lib.hid hlen; clear hlen
    have Hown := Lib.hid hown
    obtain ⟨asv, csv, hsv, _, _, _⟩ := own_slice hown
    subst hsv
    clear hown
    by_cases hlt : k < 8
    · have hkd : k < ds.length := by omega
      obtain ⟨b, o, kd, md, x, y, rfl, x0, x1, x2, x3, ht⟩ := Hdv.out.at hkd
      obtain ⟨xl, xc⟩ := y
      have y0 := cell_later hbw x0
      have y1 := cell_later hbw x1
      have y2 := cell_later hbw x2
      have y3 := cell_later hbw x3
      simp only at y3
      clear x0 x1 x2 x3
      have htk : ds.take (k + 1) = ds.take k ++ [ds[k]] := List.take_succ_eq_append_getElem hkd
      have hal : ds[k].alias = alOf ds k := by unfold alOf; rw [getD_of hkd]
      have hof : ds[k].of = ofOf ds k := by unfold ofOf; rw [getD_of hkd]
      have hcs : cntA (ds.take (k + 1)) = c + if alOf ds k = true then 1 else 0 := by rw [htk, cntA_snoc, hal, Hcc.out]
      have hf : (fit1 (ds.take 8)).take (k + 1) = (fit1 (ds.take 8)).take k ++ [⟨alOf ds k && decide (cntA (ds.take (k + 1)) ≤ 3), ofOf ds k⟩] := by
        rw [fit1_take _ (by rw [HlM.out]; exact hlt)]
        rw [List.getElem_take, List.take_take, hal, hof, Nat.min_eq_left (by omega)]
      obtain ⟨fl, hfl⟩ : ∃ fl, (alOf ds k && decide (cntA (ds.take (k + 1)) ≤ 3)) = fl := ⟨_, rfl⟩
      rw [hfl] at hf
      rw [hcs] at hfl
      have Hf := Lib.hid hf; clear hf htk hal hof
      have Ht := Lib.hid ht; clear ht
      have Hcs := Lib.hid hcs; clear hcs
      have Hbw := Lib.hid hbw; clear hbw
      rcases (show (alOf ds k = true ∧ (c : Int) + 1 ≤ 3 ∧ fl = true) ∨ (alOf ds k = true ∧ ¬ ((c : Int) + 1 ≤ 3) ∧ fl = false) ∨ alOf ds k = false ∧ (c : Int) ≤ 8 ∧ fl = false by
        revert hfl
        cases alOf ds k <;> simp
        · rintro rfl
          first | exact ⟨by omega, rfl⟩ | exact hc8
        · rintro rfl
          by_cases h : c + 1 ≤ 3
          · left; simp; omega
          · right; simp; omega) with ⟨h1, h3, rfl⟩ | ⟨h1, h3, rfl⟩ | ⟨h1, h3, rfl⟩
      all_goals
        rw [h1] at y0
        clear hfl
        have H1 := Lib.hid h1; clear h1
        go_wp2_with (at_builtin; refine wpList_app _ rfl (.tmp 23) (.tmp 33) 32 rfl w.heap.size 47 _ 4 48 Try.underlying32 Try.info47 rfl (by decide) _ k _ _ (wr.heap.size + 1) rfl rfl (by simp) (Hown.out.alloc _) rfl (by simp [Value.oneCell']) ?_ ?_ ?_ ?_)
        · simp only [maxLen]; omega
        · omega
        · have := Hbw.out.size; simp; omega
        intro v' w1 hown1 _ hg1 hg4
        have hbA : Below wr.heap.size wr (wr.alloc (.cells #[.bool (alOf ds k), .int .i64 kd, .int .i64 md, .slice x xl xc] 47)) := (Below.refl _ _).alloc (Nat.le_refl _) _
        rw [H1.out] at hbA
        have hkW := Hkids.out.ext hbA
        have htW := TV.old Ht.out (Hbw.out.trans (hbA.mono Hbw.out.size)) hkW.own (Nat.le_refl _)
        first
          | have hkn := Kids4.snoc (q := (.bool true, .int .i64 kd, .int .i64 md, .slice x xl xc)) (d := ⟨true, ofOf ds k⟩) hkW rfl htW (by rw [Hlen.out]; exact hown1) hg1 (by simpa using hg4)
          | have hkn := Kids4.snoc (q := (.bool false, .int .i64 kd, .int .i64 md, .slice x xl xc)) (d := ⟨false, ofOf ds k⟩) hkW rfl htW (by rw [Hlen.out]; exact hown1) hg1 (by simpa using hg4)
        rw [← Hf.out] at hkn
        have Hkn := Lib.hid hkn; clear hkn htW hkW
        have Hb1 := Lib.hid (below_grown (Hbw.out.trans (hbA.mono Hbw.out.size)) (own_ext Hown.out hbA) (Nat.le_refl _) (by have := Hbw.out.size; have := hbA.size; omega) hg1)
        clear hbA hg1 hg4 hown1
        go_wp2_with fail
        go_roundw
        case rel =>
          unfold FLoop
          exact ⟨k + 1, _, by omega, by go_num, by rw [Hcs.out, H1.out]; go_num, Hkn.out, Hb1.out⟩
        case measure => simp [intOf]; omega
    · have hke : k = 8 := by omega
      subst hke
      have hk9 := Hkids.out
      rw [List.take_of_length_le (by rw [fit1_len, HlM.out]; exact Nat.le_refl _)] at hk9
      have hxl : (fit1 (ds.take 8)).length = 8 := by rw [fit1_len, HlM.out]
      have Hfd := Lib.hid (show fitD ds = fit2 (fit1 (ds.take 8)) 8 by unfold fitD; rw [HlM.out])
      generalize fit1 (ds.take 8) = xs at hk9 hxl Hfd
      have Hxl := Lib.hid hxl; clear hxl
      have Hk9 := Lib.hid hk9; clear hk9
      have Hbw := Lib.hid hbw; clear hbw
      clear Hcc
      obtain ⟨wo, rfl⟩ : ∃ wo : World, wo = wr := ⟨_, rfl⟩
      go_wp2_with fail
      try rw [show ((8 : Nat) : Int) = 8 from rfl]
      go_loopw [38] (GLoop w 8 xs (.slice asv 8 csv)) (fun i _ => 8 - (intOf i).toNat)
      case atStart => unfold GLoop; exact ⟨0, qs, Nat.zero_le _, rfl, by rw [fit2_zero]; exact Hk9.out, Hbw.out⟩
      case round =>
        obtain ⟨k, qs2, hk, rfl, hkids2, hbw2⟩ := hrel
        have Hkids2 := Lib.hid hkids2; clear hkids2
        have hl2 : (fit2 xs k).length = 8 := by rw [fit2_len, Hxl.out]
        by_cases hlt : k < 8
        · obtain ⟨g, cg, hv⟩ := Hkids2.out.len (by rw [hl2]; omega)
          rw [hl2] at hv
          simp at hv
          obtain ⟨rfl, rfl⟩ := hv
          have hgl := Hkids2.out.own.lt g rfl
          obtain ⟨hg1, hg2⟩ := hgl
          have hkl : k < (fit2 xs k).length := by rw [hl2]; exact hlt
          have Hl2 := Lib.hid hl2; clear hl2
          obtain ⟨kd, md, x, y, x0, x1, x2, x3, ht, _⟩ := Hkids2.out.cells hkl Hl2.out
          obtain ⟨xl, xc⟩ := y
          simp only at x3
          have Ht := Lib.hid ht; clear ht
          have Hdw := Lib.hid (Hkids2.out.dv); 
          have Hfs := Lib.hid (fit2_succ xs (k := k) (by rw [Hxl.out]; exact hlt))
          have Hbw2 := Lib.hid hbw2; clear hbw2
          go_wp2_with (go_at_call 32; refine (fit_any (fit2 xs k) (by rw [Hl2.out]; omega) k hkl (ofOf (fit2 xs k) k) 2 2 rfl (by omega) _ _ (.agg #[.int .i64 kd, .int .i64 md, .slice x xl xc]) (Hdw.out.ext ((Below.refl _ _).alloc (Nat.le_refl _) _)) (Ht.out.any.ext ((Below.refl _ _).alloc (Nat.le_refl _) _))).mono ?_; rintro e w2 ⟨v', rfl, htv2, hb2⟩; obtain ⟨k2, n2, a2, cap2, ts2, ps2, rfl, _⟩ := htv2.form; have hb3 : Below wr.heap.size wr w2 := ((Below.refl wr.heap.size wr).alloc (Nat.le_refl _) _).trans (hb2.mono (by simp)); have Hk3 := Lib.hid (Hkids2.out.ext hb3); obtain ⟨_, _, _, _, _, d1, d2, d3, _, hfz⟩ := Hk3.out.cells hkl Hl2.out)
          have hkn := Kids4.store (x := (.int .i64 k2, .int .i64 n2, .slice a2 ts2.length cap2)) Hk3.out hkl Hl2.out (htv2.mono fun b hb _ => by simp at hb; omega)
          rw [← Hfs.out] at hkn
          have Hkn := Lib.hid hkn; clear hkn
          have hb4 : Below w.heap.size w (((w2.setCell ⟨g, k * 4 + 1, none⟩ (.int .i64 k2)).setCell ⟨g, k * 4 + 2, none⟩ (.int .i64 n2)).setCell ⟨g, k * 4 + 3, none⟩ (.slice a2 ts2.length cap2)) :=
            (((Hbw2.out.trans (hb3.mono Hbw2.out.size)).setCell hg1 _).setCell hg1 _).setCell hg1 _
          have Hb4 := Lib.hid hb4; clear hb4
          clear d1 d2 d3 hfz x0 x1 x2 x3
          go_wp2_with fail
          go_roundw
          case rel =>
            unfold GLoop
            obtain ⟨qs3, hk3⟩ := Hkn.out
            exact ⟨k + 1, qs3, by omega, by go_num, hk3, Hb4.out⟩
          case measure => simp [intOf]; omega
        · have hke : k = 8 := by omega
          subst hke
          go_wp2_with fail
          go_ret
          exact ⟨_, rfl, by rw [Hfd.out]; exact Hkids2.out.dv, hbw2⟩

set_option maxHeartbeats 1000000 in
set_option maxRecDepth 100000 in
theorem Fit_small (ds : List D) (w : World) (a : Option Addr) (cap : Nat) (hM : ds.length ≤ 8) (hdv : DV w (.slice a ds.length cap) ds) :
    Calls Try.prog 19 #[.slice a ds.length cap] w fun e w' => ∃ v', e = .returned v' ∧ DV w' v' (fitD ds) ∧ Below w.heap.size w w' := by
  have hcap : ds.length ≤ cap ∧ cap ≤ 9223372036854775807 := by
    obtain ⟨_, _, _, e1, h1, h2, _⟩ := hdv
    simp at e1
    obtain ⟨_, rfl⟩ := e1
    exact ⟨h1, by simpa [maxLen] using h2⟩
  obtain ⟨hcap1, hcap2⟩ := hcap
  have Hdv := Lib.hid hdv; clear hdv
  have hlM : (ds.take ds.length).length = ds.length := by rw [List.length_take]; omega
  have HlM := Lib.hid hlM; clear hlM
  go_enter Try.func19, Try.ntmps19
  go_wp2_with fail
  go_loopw [3, 4, 15] (FLoop w ds.length ds) (fun _ _ i _ => ds.length - (intOf i).toNat)
  case atStart => unfold FLoop; exact ⟨0, [], Nat.zero_le _, rfl, rfl, Kids4.nil _ _ _, Below.refl _ _⟩
  case round =>
    obtain ⟨k, qs, hk, rfl, rfl, hkids, hbw⟩ := hrel
    obtain ⟨c, hcc⟩ : ∃ c, c = cntA (ds.take k) := ⟨_, rfl⟩
    rw [← hcc]
    have hc8 : c ≤ 8 := by have := cntA_le (ds.take k); rw [List.length_take, ← hcc] at this; omega
    have Hcc := Lib.hid hcc; clear hcc
    have hlen : ((fit1 (ds.take ds.length)).take k).length = k := by rw [List.length_take, fit1_len, HlM.out]; omega
    have hown := hkids.own
    rw [hlen] at hown
    have Hkids := Lib.hid hkids; clear hkids
    have Hlen := Lib.hid hlen; clear hlen
    have Hown := Lib.hid hown
    obtain ⟨asv, csv, hsv, _, _, _⟩ := own_slice hown
    subst hsv
    clear hown
    by_cases hlt : k < ds.length
    · have hkd : k < ds.length := by omega
      obtain ⟨b, o, kd, md, x, y, rfl, x0, x1, x2, x3, ht⟩ := Hdv.out.at hkd
      obtain ⟨xl, xc⟩ := y
      have y0 := cell_later hbw x0
      have y1 := cell_later hbw x1
      have y2 := cell_later hbw x2
      have y3 := cell_later hbw x3
      simp only at y3
      clear x0 x1 x2 x3
      have htk : ds.take (k + 1) = ds.take k ++ [ds[k]] := List.take_succ_eq_append_getElem hkd
      have hal : ds[k].alias = alOf ds k := by unfold alOf; rw [getD_of hkd]
      have hof : ds[k].of = ofOf ds k := by unfold ofOf; rw [getD_of hkd]
      have hcs : cntA (ds.take (k + 1)) = c + if alOf ds k = true then 1 else 0 := by rw [htk, cntA_snoc, hal, Hcc.out]
      have hf : (fit1 (ds.take ds.length)).take (k + 1) = (fit1 (ds.take ds.length)).take k ++ [⟨alOf ds k && decide (cntA (ds.take (k + 1)) ≤ 3), ofOf ds k⟩] := by
        rw [fit1_take _ (by rw [HlM.out]; exact hlt)]
        rw [List.getElem_take, List.take_take, hal, hof, Nat.min_eq_left (by omega)]
      obtain ⟨fl, hfl⟩ : ∃ fl, (alOf ds k && decide (cntA (ds.take (k + 1)) ≤ 3)) = fl := ⟨_, rfl⟩
      rw [hfl] at hf
      rw [hcs] at hfl
      have Hf := Lib.hid hf; clear hf htk hal hof
      have Ht := Lib.hid ht; clear ht
      have Hcs := Lib.hid hcs; clear hcs
      have Hbw := Lib.hid hbw; clear hbw
      rcases (show (alOf ds k = true ∧ (c : Int) + 1 ≤ 3 ∧ fl = true) ∨ (alOf ds k = true ∧ ¬ ((c : Int) + 1 ≤ 3) ∧ fl = false) ∨ alOf ds k = false ∧ (c : Int) ≤ 8 ∧ fl = false by
        revert hfl
        cases alOf ds k <;> simp
        · rintro rfl
          first | exact ⟨by omega, rfl⟩ | exact hc8
        · rintro rfl
          by_cases h : c + 1 ≤ 3
          · left; simp; omega
          · right; simp; omega) with ⟨h1, h3, rfl⟩ | ⟨h1, h3, rfl⟩ | ⟨h1, h3, rfl⟩
      all_goals
        rw [h1] at y0
        clear hfl
        have H1 := Lib.hid h1; clear h1
        go_wp2_with (at_builtin; refine wpList_app _ rfl (.tmp 23) (.tmp 33) 32 rfl w.heap.size 47 _ 4 48 Try.underlying32 Try.info47 rfl (by decide) _ k _ _ (wr.heap.size + 1) rfl rfl (by simp) (Hown.out.alloc _) rfl (by simp [Value.oneCell']) ?_ ?_ ?_ ?_)
        · simp only [maxLen]; omega
        · omega
        · have := Hbw.out.size; simp; omega
        intro v' w1 hown1 _ hg1 hg4
        have hbA : Below wr.heap.size wr (wr.alloc (.cells #[.bool (alOf ds k), .int .i64 kd, .int .i64 md, .slice x xl xc] 47)) := (Below.refl _ _).alloc (Nat.le_refl _) _
        rw [H1.out] at hbA
        have hkW := Hkids.out.ext hbA
        have htW := TV.old Ht.out (Hbw.out.trans (hbA.mono Hbw.out.size)) hkW.own (Nat.le_refl _)
        first
          | have hkn := Kids4.snoc (q := (.bool true, .int .i64 kd, .int .i64 md, .slice x xl xc)) (d := ⟨true, ofOf ds k⟩) hkW rfl htW (by rw [Hlen.out]; exact hown1) hg1 (by simpa using hg4)
          | have hkn := Kids4.snoc (q := (.bool false, .int .i64 kd, .int .i64 md, .slice x xl xc)) (d := ⟨false, ofOf ds k⟩) hkW rfl htW (by rw [Hlen.out]; exact hown1) hg1 (by simpa using hg4)
        rw [← Hf.out] at hkn
        have Hkn := Lib.hid hkn; clear hkn htW hkW
        have Hb1 := Lib.hid (below_grown (Hbw.out.trans (hbA.mono Hbw.out.size)) (own_ext Hown.out hbA) (Nat.le_refl _) (by have := Hbw.out.size; have := hbA.size; omega) hg1)
        clear hbA hg1 hg4 hown1
        go_wp2_with fail
        go_roundw
        case rel =>
          unfold FLoop
          exact ⟨k + 1, _, by omega, by go_num, by rw [Hcs.out, H1.out]; go_num, Hkn.out, Hb1.out⟩
        case measure => simp [intOf]; omega
    · have hke : k = ds.length := by omega
      subst hke
      have hk9 := Hkids.out
      rw [List.take_of_length_le (by rw [fit1_len, HlM.out]; exact Nat.le_refl _)] at hk9
      have hxl : (fit1 (ds.take ds.length)).length = ds.length := by rw [fit1_len, HlM.out]
      have Hfd := Lib.hid (show fitD ds = fit2 (fit1 (ds.take ds.length)) ds.length by unfold fitD; rw [List.take_of_length_le hM, List.take_of_length_le (Nat.le_refl _)])
      generalize fit1 (ds.take ds.length) = xs at hk9 hxl Hfd
      have Hxl := Lib.hid hxl; clear hxl
      have Hk9 := Lib.hid hk9; clear hk9
      have Hbw := Lib.hid hbw; clear hbw
      clear Hcc
      obtain ⟨wo, rfl⟩ : ∃ wo : World, wo = wr := ⟨_, rfl⟩
      go_wp2_with fail
      try rw [show ((8 : Nat) : Int) = 8 from rfl]
      go_loopw [38] (GLoop w ds.length xs (.slice asv ds.length csv)) (fun i _ => ds.length - (intOf i).toNat)
      case atStart => unfold GLoop; exact ⟨0, qs, Nat.zero_le _, rfl, by rw [fit2_zero]; exact Hk9.out, Hbw.out⟩
      case round =>
        obtain ⟨k, qs2, hk, rfl, hkids2, hbw2⟩ := hrel
        have Hkids2 := Lib.hid hkids2; clear hkids2
        have hl2 : (fit2 xs k).length = ds.length := by rw [fit2_len, Hxl.out]
        by_cases hlt : k < ds.length
        · obtain ⟨g, cg, hv⟩ := Hkids2.out.len (by rw [hl2]; omega)
          rw [hl2] at hv
          simp at hv
          obtain ⟨rfl, rfl⟩ := hv
          have hgl := Hkids2.out.own.lt g rfl
          obtain ⟨hg1, hg2⟩ := hgl
          have hkl : k < (fit2 xs k).length := by rw [hl2]; exact hlt
          have Hl2 := Lib.hid hl2; clear hl2
          obtain ⟨kd, md, x, y, x0, x1, x2, x3, ht, _⟩ := Hkids2.out.cells hkl Hl2.out
          obtain ⟨xl, xc⟩ := y
          simp only at x3
          have Ht := Lib.hid ht; clear ht
          have Hdw := Lib.hid (Hkids2.out.dv); 
          have Hfs := Lib.hid (fit2_succ xs (k := k) (by rw [Hxl.out]; exact hlt))
          have Hbw2 := Lib.hid hbw2; clear hbw2
          go_wp2_with (go_at_call 32; refine (fit_any (fit2 xs k) (by rw [Hl2.out]; omega) k hkl (ofOf (fit2 xs k) k) 2 2 rfl (by omega) _ _ (.agg #[.int .i64 kd, .int .i64 md, .slice x xl xc]) (Hdw.out.ext ((Below.refl _ _).alloc (Nat.le_refl _) _)) (Ht.out.any.ext ((Below.refl _ _).alloc (Nat.le_refl _) _))).mono ?_; rintro e w2 ⟨v', rfl, htv2, hb2⟩; obtain ⟨k2, n2, a2, cap2, ts2, ps2, rfl, _⟩ := htv2.form; have hb3 : Below wr.heap.size wr w2 := ((Below.refl wr.heap.size wr).alloc (Nat.le_refl _) _).trans (hb2.mono (by simp)); have Hk3 := Lib.hid (Hkids2.out.ext hb3); obtain ⟨_, _, _, _, _, d1, d2, d3, _, hfz⟩ := Hk3.out.cells hkl Hl2.out)
          have hkn := Kids4.store (x := (.int .i64 k2, .int .i64 n2, .slice a2 ts2.length cap2)) Hk3.out hkl Hl2.out (htv2.mono fun b hb _ => by simp at hb; omega)
          rw [← Hfs.out] at hkn
          have Hkn := Lib.hid hkn; clear hkn
          have hb4 : Below w.heap.size w (((w2.setCell ⟨g, k * 4 + 1, none⟩ (.int .i64 k2)).setCell ⟨g, k * 4 + 2, none⟩ (.int .i64 n2)).setCell ⟨g, k * 4 + 3, none⟩ (.slice a2 ts2.length cap2)) :=
            (((Hbw2.out.trans (hb3.mono Hbw2.out.size)).setCell hg1 _).setCell hg1 _).setCell hg1 _
          have Hb4 := Lib.hid hb4; clear hb4
          clear d1 d2 d3 hfz x0 x1 x2 x3
          go_wp2_with fail
          go_roundw
          case rel =>
            unfold GLoop
            obtain ⟨qs3, hk3⟩ := Hkn.out
            exact ⟨k + 1, qs3, by omega, by go_num, hk3, Hb4.out⟩
          case measure => simp [intOf]; omega
        · have hke : k = ds.length := by omega
          subst hke
          go_wp2_with fail
          go_ret
          exact ⟨_, rfl, by rw [Hfd.out]; exact Hkids2.out.dv, hbw2⟩

end Go.Proofs.Ytnaedpfaeioolaa
