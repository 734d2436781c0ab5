/- The contract of spec.replaced. Printed by gen_Ve.py. -/
import Derived.Test.YtnaedpfaeioolaaVp
namespace Go.Proofs.Ytnaedpfaeioolaa
open Go.RowKit
set_option linter.unusedVariables false

theorem replF_alias (ds : List D) (g : Nat) (n : Int) (es : List T) (h : alOf ds n.toNat = true) : replF ds (g + 1) (.mk 1 n es) = replF ds g (ofOf ds n.toNat) := by
  rw [replF.eq_def]; simp [h]
theorem replF_other (ds : List D) (f : Nat) (n : Int) (es : List T) : replF ds f (.mk 2 n es) = .mk 2 0 [] := by
  rw [replF.eq_def]; simp
theorem replF_rest (ds : List D) (f : Nat) (k n : Int) (es : List T) (h : ¬ (k = 1 ∧ alOf ds n.toNat = true)) (h2 : ¬ k = 2) : replF ds f (.mk k n es) = .mk k n (es.map (replF ds f)) := by
  rw [replF.eq_def]; simp [h, h2]

set_option maxHeartbeats 4000000 in
set_option maxRecDepth 100000 in
theorem repl_any (ds : List D) (hds : DOk ds) (h100 : ds.length ≤ 100) : ∀ (f m : Nat), ds.length ≤ f + m → ∀ (t : T), Ok ds.length t → AT ds m t → ∀ (w : World) (lv v : Value), DV w lv ds → TV w Any v t →
    Calls Try.prog 35 #[lv, v] w fun e w' => ∃ v', e = .returned v' ∧ TV w' (fun b => w.heap.size ≤ b) v' (replF ds f t) ∧ Below w.heap.size w w' := by
  have main : ∀ f : Nat, (∀ g, g < f → ∀ m : Nat, ds.length ≤ g + m → ∀ (t : T), Ok ds.length t → AT ds m t → ∀ (w : World) (lv v : Value), DV w lv ds → TV w Any v t →
      Calls Try.prog 35 #[lv, v] w fun e w' => ∃ v', e = .returned v' ∧ TV w' (fun b => w.heap.size ≤ b) v' (replF ds g t) ∧ Below w.heap.size w w') →
      ∀ m : Nat, ds.length ≤ f + m → ∀ (t : T), Ok ds.length t → AT ds m t → ∀ (w : World) (lv v : Value), DV w lv ds → TV w Any v t →
      Calls Try.prog 35 #[lv, v] w fun e w' => ∃ v', e = .returned v' ∧ TV w' (fun b => w.heap.size ≤ b) v' (replF ds f t) ∧ Below w.heap.size w w' := by
    intro f IHf m hm t
    induction t using T.ind with
    | _ k0 n ts ih =>
      intro hok hat w lv v hdv hv
      obtain ⟨_, _, _, hk0, hk6, hl3, hn1, _, hokes⟩ := hok
      obtain ⟨_, _, _, hat1, hates⟩ := hat
      obtain ⟨k', n', a, cap, ts', ps, rfl, e, hcap, hcm, hrow, htv⟩ := hv.form
      injection e with e1 e2 e3
      subst e1 e2 e3
      obtain ⟨la, lcap, lps, rfl, hlc, hlm, _, _⟩ := id hdv
      have hlm' : lcap ≤ 9223372036854775807 := by simpa [maxLen] using hlm
      have Ih := Lib.hid ih; clear ih
      have IHF := Lib.hid IHf; clear IHf
      have Hds := Lib.hid hds
      have Hdv := Lib.hid hdv; clear hdv
      have Hok := Lib.hid hokes; clear hokes
      have Hat := Lib.hid hates; clear hates
      have Hat1 := Lib.hid hat1; clear hat1
      have Hn1 := Lib.hid hn1; clear hn1
      have Hrow := Lib.hid hrow; clear hrow
      have Htv := Lib.hid htv; clear htv hv
      have hcm' : cap ≤ 9223372036854775807 := by simpa [maxLen] using hcm
      clear hcm hlm
      go_enter Try.func35, Try.ntmps35
      obtain ⟨B, hB⟩ : ∃ B, B = w.heap.size := ⟨_, rfl⟩
      have key : ∀ (W2 : World), W2 = ((w.alloc (.cells #[.int .i64 k0, .int .i64 n, .slice a ts.length cap] 45)).alloc (.cells #[.int .i64 0, .int .i64 0, .slice none 0 0] 45)).alloc (.cells #[.int .i64 k0, .int .i64 n, .slice none 0 0] 45) →
          W2.heap[B + 2]? = some (.cells #[.int .i64 k0, .int .i64 n, .slice none 0 0] 45 (0, 0)) ∧ Below B w W2 ∧ W2.heap[B + 1]? = some (.cells #[.int .i64 0, .int .i64 0, .slice none 0 0] 45 (0, 0)) ∧ B + 3 ≤ W2.heap.size ∧ W2.cell? ⟨B, 2, none⟩ = some (.slice a ts.length cap) := by
        rintro W2 rfl
        refine ⟨alloc_at (by simp [hB]), ?_, ?_, by simp [hB], ?_⟩
        · rw [hB]; exact (((Below.refl _ _).alloc (Nat.le_refl _) _).alloc (by simp) _).alloc (by simp; omega) _
        · rw [alloc_lt (by simp [hB])]; exact alloc_at (by simp [hB])
        · rw [cell_of (b := B) (c := #[.int .i64 k0, .int .i64 n, .slice a ts.length cap]) (e := 45) (fr := (0, 0)) (by rw [alloc_lt (by simp [hB]; omega), alloc_lt (by simp [hB]), alloc_at hB])]; rfl
      have Key := Lib.hid key; clear key
      have HB := Lib.hid hB; clear hB
      have hbel : ∀ (o1 o2 : Obj), Below w.heap.size w ((w.alloc o1).alloc o2) := fun o1 o2 => ((Below.refl _ _).alloc (Nat.le_refl _) _).alloc (by simp) _
      have Hbel := Lib.hid hbel; clear hbel
      by_cases hal : k0 = 1 ∧ alOf ds n.toNat = true
      · obtain ⟨rfl, hal⟩ := hal
        obtain ⟨hn0, hnN⟩ := Hn1.out rfl
        obtain ⟨N, rfl⟩ := Int.eq_ofNat_of_zero_le hn0
        have hNl : N < ds.length := by omega
        have hmN : m ≤ N := Hat1.out rfl hal
        obtain ⟨g, rfl⟩ : ∃ g, f = g + 1 := ⟨f - 1, by omega⟩
        rw [replF_alias ds g _ _ hal]
        have hal' : alOf ds N = true := hal
        obtain ⟨b, o, kd, md, xd, yd, rfl, x0, x1, x2, x3, htd⟩ := Hdv.out.at hNl
        rw [hal'] at x0
        have Htd := Lib.hid htd; clear htd
        have y0 := fun (o1 o2 : Obj) => cell_later (Hbel.out o1 o2) x0
        have y1 := fun (o1 o2 : Obj) => cell_later (Hbel.out o1 o2) x1
        have y2 := fun (o1 o2 : Obj) => cell_later (Hbel.out o1 o2) x2
        have y3 := fun (o1 o2 : Obj) => cell_later (Hbel.out o1 o2) x3
        clear x0 x1 x2 x3 hal
        show Code.wp _ _ _ _ _
        go_wp2_with (go_at_call 35; refine (IHF.out g (Nat.lt_succ_self g) (N + 1) (by omega) (ofOf ds N) (Hds.out.of hNl) (Hds.out.at_ hNl hal') _ _ _ (Hdv.out.ext (Hbel.out _ _)) (Htd.out.ext (Hbel.out _ _))).mono ?_; rintro e w2 ⟨v', rfl, htv2, hb2⟩; obtain ⟨k2, n2, a2, cap2, ts2, ps2, rfl, _⟩ := htv2.form; have hR2 := below_ext hb2 (show (World.alloc (w.alloc _) (.cells #[.int .i64 0, .int .i64 0, .slice none 0 0] 45)).heap[w.heap.size + 1]? = some (.cells #[.int .i64 0, .int .i64 0, .slice none 0 0] 45 (0, 0)) from alloc_at (by simp)); have HR2 := Lib.hid hR2; clear hR2; have f0 := cell_of HR2.out 0; have f1 := cell_of HR2.out 1; have f2 := cell_of HR2.out 2; have e0 := free_of HR2.out 0; have e1 := free_of HR2.out 1; have e2 := free_of HR2.out 2)
        have hsz2 : w.heap.size + 2 ≤ w2.heap.size := by have := hb2.size; simp at this; omega
        refine bodyPost_ret (v := .agg #[.int .i64 k2, .int .i64 n2, .slice a2 ts2.length cap2]) ?_ rfl ⟨_, rfl, ?_, ?_⟩
        · simp [results, Try.results35, go_sem, f0, f1, f2]
        · refine (((htv2.mono (S' := fun b => w.heap.size + 2 ≤ b) fun b hb _ => by simpa using hb).low (a := ⟨w.heap.size + 1, 0, none⟩) (fun b hb => by show b ≠ w.heap.size + 1; omega) _).low (a := ⟨w.heap.size + 1, 1, none⟩) (fun b hb => by show b ≠ w.heap.size + 1; omega) _).low (a := ⟨w.heap.size + 1, 2, none⟩) (fun b hb => by show b ≠ w.heap.size + 1; omega) _ |>.mono fun b hb _ => by omega
        · exact ((((Hbel.out _ _).trans (hb2.mono (by simp; omega))).setCell (show w.heap.size ≤ w.heap.size + 1 by omega) _).setCell (show w.heap.size ≤ w.heap.size + 1 by omega) _).setCell (show w.heap.size ≤ w.heap.size + 1 by omega) _
      · by_cases hk2 : k0 = 2
        · subst hk2
          rw [replF_other]
          go_wp2_with fail
          refine bodyPost_ret (v := .agg #[.int .i64 2, .int .i64 0, .slice none 0 0]) ?_ rfl ⟨_, rfl, TV.leaf _ _ _ _, Hbel.out _ _⟩
          simp [results, Try.results35, go_sem]
        · rw [replF_rest ds f k0 n ts hal hk2]
          by_cases hk1 : k0 = 1
          case' pos =>
            obtain ⟨hn0, hnN⟩ := Hn1.out hk1
            obtain ⟨N, rfl⟩ := Int.eq_ofNat_of_zero_le hn0
            have hNl : N < ds.length := by omega
            have hal' : alOf ds N = false := by
              cases h : alOf ds N
              · rfl
              · exact absurd ⟨hk1, h⟩ hal
            obtain ⟨b, o, kd, md, xd, yd, rfl, x0, _, _, _, _⟩ := Hdv.out.at hNl
            rw [hal'] at x0
            have y0 := fun (o1 o2 : Obj) => cell_later (Hbel.out o1 o2) x0
            clear x0 hal
          all_goals
            go_wp2_with fail
          all_goals
            generalize hW : World.alloc (World.alloc (World.alloc w _) _) _ = W2
            have hk := Key.out W2 (by first | exact hW.symm | (rw [hk1]; exact hW.symm))
            clear hW
            rw [← HB.out]
            simp only [Nat.add_assoc, Nat.reduceAdd]
            obtain ⟨hout, hbel2, hb12, hsz2, c2⟩ := hk
          all_goals
            first | (generalize hn : (N : Int) = n at hout ⊢; clear y0 hk1) | (clear hk1)
          all_goals
            first | (rename_i h1 _ _; clear h1) | skip
            first | clear hal hk2 | clear hk2
            go_wp2_with fail

            go_loopw [39] (TLoop w B (B + 2) (B + 3) (B + 1) 45 (.int .i64 k0) (.int .i64 n) (replF ds f) ts ts.length) (fun i _ => ts.length - (intOf i).toNat)
            case atStart => unfold TLoop; exact ⟨0, _, [], Nat.zero_le _, rfl, hout, Kids.nil _ _ _, hbel2, hb12, hsz2⟩
            case round =>
              obtain ⟨k, sv, qs, hk, rfl, hO, hkids, hbw, hR, hszr⟩ := hrel
              have HO := Lib.hid hO; clear hO
              have HR := Lib.hid hR; clear hR
              have hlen : ((ts.take k).map (replF ds f)).length = k := by rw [List.length_map, List.length_take]; omega
              have hown : wr.ownsRow (B + 3) 45 3 sv k (flat3 qs) := by have := hkids.own; rwa [hlen] at this
              have Hkids := Lib.hid hkids; clear hkids
              have Hown := Lib.hid hown
              have Hlen := Lib.hid hlen; clear hlen
              obtain ⟨asv, csv, hsv, _, _, _⟩ := own_slice hown
              subst hsv
              clear hown
              have hbw' : Below w.heap.size w wr := by rw [← HB.out]; exact hbw
              by_cases hlt : k < ts.length
              · have hkp : k < ps.length := by rw [Htv.out.1]; exact hlt
                have hkt : k < ts.length := by rw [← Htv.out.1]; exact hkp
                have e1 : ps[k]? = some ps[k] := List.getElem?_eq_getElem hkp
                have e2 : ts[k]? = some ts[k] := List.getElem?_eq_getElem hkt
                have hte := (Htv.out.2 k _ _ e1 e2).ext hbw'
                have hmem := List.getElem_mem hkt
                have htake : (ts.take (k + 1)).map (replF ds f) = (ts.take k).map (replF ds f) ++ [(replF ds f) ts[k]] := by rw [List.take_succ_eq_append_getElem hkt, List.map_append]; rfl
                obtain ⟨b, o, rfl, x0, x1, x2⟩ := row3 (Hrow.out.ext hbw') e1
                obtain ⟨ke, ne, ae, ce, tse, pse, hpe, hte2, _⟩ := hte.form3
                rw [hpe] at x0 x1 x2 hte
                generalize ts[k] = te at hte hmem htake
                have Hte := Lib.hid hte; clear hte hte2 hpe e1 e2
                have Hmem := Lib.hid hmem; clear hmem
                have Htake := Lib.hid htake; clear htake
                have cO : wr.cell? ⟨B + 2, 2, none⟩ = some (.slice asv k csv) := cell_of HO.out 2
                have hA := fun (o : Obj) => cell_later ((Below.refl wr.heap.size wr).alloc (Nat.le_refl _) o) cO
                go_wp2_with fail
                obtain ⟨E, hE⟩ : ∃ E, E = wr.heap.size := ⟨_, rfl⟩
                obtain ⟨wA, hwA⟩ : ∃ wA, wA = wr.alloc (.cells #[.int .i64 ke, .int .i64 ne, .slice ae tse.length ce] 45) := ⟨_, rfl⟩
                have hEb : wA.heap[E]? = some (.cells #[.int .i64 ke, .int .i64 ne, .slice ae tse.length ce] 45 (0, 0)) := by rw [hwA, hE]; exact alloc_at rfl
                have hbA : Below wr.heap.size wr wA := by rw [hwA]; exact (Below.refl _ _).alloc (Nat.le_refl _) _
                have hszA : E + 1 = wA.heap.size := by rw [hwA, hE]; simp
                rw [← hwA, ← hE]
                have cOA := cell_later hbA cO
                have x3 : wA.cell? ⟨E, 0, none⟩ = some (.int .i64 ke) := cell_of hEb 0
                have x4 : wA.cell? ⟨E, 1, none⟩ = some (.int .i64 ne) := cell_of hEb 1
                have x5 : wA.cell? ⟨E, 2, none⟩ = some (.slice ae tse.length ce) := cell_of hEb 2
                have HteA := Lib.hid ((Hte.out.ext hbA).ext (show Below wA.heap.size wA wA.drew from (Below.refl _ _).drew))
                have HownA := Lib.hid ((own_ext Hown.out hbA).drew)
                have HcOA : Hid (wA.drew.cell? ⟨B + 2, 2, none⟩ = some (.slice asv k csv)) := Lib.hid cOA
                have hk30 : k ≤ 9223372036854775806 := by omega
                have hszB : B + 3 ≤ wA.heap.size := by have := hbA.size; omega
                have HOA := Lib.hid (below_ext hbA HO.out)
                have HbA := Lib.hid hbA
                have HszA := Lib.hid hszA
                have HEw := Lib.hid hE
                clear hA hEb hwA hE cO x0 x1 x2 hbA hszA
                go_region_law (first
                  | (go_simp; refine (Ih.out te Hmem.out (Hok.out te Hmem.out) (Hat.out te Hmem.out) wA.drew _ (.agg #[.int .i64 ke, .int .i64 ne, .slice ae tse.length ce]) ((Hdv.out.ext hbw').ext HbA.out.drew) HteA.out).mono ?_; rintro e w2 ⟨v', rfl, htv2, hb2⟩; obtain ⟨k2, n2, a2, cap2, ts2, ps2, rfl, _⟩ := htv2.form; have cO2 := cell_later hb2 HcOA.out; have cO2a := fun (o : Obj) => cell_later ((Below.refl w2.heap.size w2).alloc (Nat.le_refl _) o) cO2; have own2 := own_ext HownA.out hb2; have hs2 : wA.heap.size ≤ w2.heap.size := hb2.size; have HO2 := Lib.hid (below_ext hb2 (show wA.drew.heap[B + 2]? = _ from HOA.out)))
                  | (refine step_app w2 rfl (.tmp 44) (.tmp 48) 43 rfl (B + 3) 45 (.agg #[.int .i64 0, .int .i64 0, .slice none 0 0]) 3 40 Try.underlying43 Try.info45 rfl (by decide) (.slice asv k csv) k (flat3 qs) [.int .i64 k2, .int .i64 n2, .slice a2 ts2.length cap2] w2.heap.size rfl rfl rfl own2 rfl (by simp [Value.oneCell']) (by simp only [maxLen]; omega) (by omega) (by omega) ?_; intro sv' wB g1 g2 g3 g4; obtain ⟨asv', csv', rfl, _, _, _⟩ := own_slice g1; have HO3 := Lib.hid (low_grown own2 g3 (by omega) HO2.out); have cO3 := cell_of HO3.out 2; have fO3 := free_of HO3.out 2))
                all_goals
                  have HO4 := Lib.hid (setCell_heap (i := 2) HO3.out (.slice asv' (k + 1) csv'))
                  have hlow : Below B wr (wB.setCell ⟨B + 2, 2, none⟩ (.slice asv' (k + 1) csv')) := by
                    refine Below.setCell ?_ (show B ≤ B + 2 by omega) _
                    refine Below.trans (Below.trans ((HbA.out.mono (by omega)).drew) (hb2.mono (by show B ≤ wA.heap.size; omega))) ((below_low own2 g3 (by omega)).mono (by omega))
                  have Hlow := Lib.hid hlow
                  have Hk5 := Lib.hid (Kids.low (Kids.snoc (q := (.int .i64 k2, .int .i64 n2, .slice a2 ts2.length cap2)) (Hkids.out.ext (HbA.out.drew)) (show B + 3 ≤ wA.drew.heap.size from hszB) hb2 htv2 (by rw [Hlen.out]; exact g1) g3 g4) (a := ⟨B + 2, 2, none⟩) (by show B + 2 < B + 3; omega) (.slice asv' (k + 1) csv'))
                  have HR5 := Lib.hid ((Below.heap_setCell wB ⟨B + 2, 2, none⟩ (.slice asv' (k + 1) csv') (B + 1) (by show B + 1 ≠ B + 2; omega)).trans (low_grown own2 g3 (by omega) (below_ext hb2 (below_ext HbA.out.drew HR.out))))
                  have hs5 : w2.heap.size ≤ wB.heap.size := g3.size
                  have hs6 : (wB.setCell ⟨B + 2, 2, none⟩ (.slice asv' (k + 1) csv')).heap.size = wB.heap.size := by simp [World.setCell]
                  clear hlow
                  go_wp2_with fail
                  go_roundw
                  case rel =>
                    unfold TLoop
                    refine ⟨k + 1, .slice asv' (k + 1) csv', qs ++ [(.int .i64 k2, .int .i64 n2, .slice a2 ts2.length cap2)], by omega, by go_num, by simpa using HO4.out, ?_, hbw.trans Hlow.out, HR5.out, by omega⟩
                    rw [Htake.out]
                    exact Hk5.out
                  case measure => simp [intOf]; omega
              · have hke : k = ts.length := by omega
                subst hke
                have d0 : wr.cell? ⟨B + 2, 0, none⟩ = some (.int .i64 k0) := cell_of HO.out 0
                have d1 : wr.cell? ⟨B + 2, 1, none⟩ = some (.int .i64 n) := cell_of HO.out 1
                have d2 : wr.cell? ⟨B + 2, 2, none⟩ = some (.slice asv ts.length csv) := cell_of HO.out 2
                have f0 : wr.cell? ⟨B + 1, 0, none⟩ = some (.int .i64 0) := cell_of HR.out 0
                have f1 : wr.cell? ⟨B + 1, 1, none⟩ = some (.int .i64 0) := cell_of HR.out 1
                have f2 : wr.cell? ⟨B + 1, 2, none⟩ = some (.slice none 0 0) := cell_of HR.out 2
                have e0 := free_of HR.out 0
                have e1 := free_of HR.out 1
                have e2 := free_of HR.out 2
                go_wp2_with fail
                have hk9 := Hkids.out
                rw [List.take_of_length_le (Nat.le_refl _)] at hk9
                have hk10 := ((((hk9.low (a := ⟨B + 1, 0, none⟩) (by show B + 1 < B + 3; omega) (.int .i64 k0)).low (a := ⟨B + 1, 1, none⟩) (by show B + 1 < B + 3; omega) (.int .i64 n)).low (a := ⟨B + 1, 2, none⟩) (by show B + 1 < B + 3; omega) (.slice asv ts.length csv)).tree k0 n).mono (S' := fun b => w.heap.size ≤ b) fun b hb _ => by have := HB.out; omega
                refine bodyPost_ret (v := .agg #[.int .i64 k0, .int .i64 n, .slice asv ts.length csv]) ?_ rfl ⟨_, rfl, ?_, ?_⟩
                · simp [results, Try.results35, go_sem, f0, f1, f2]
                · first | exact hk10 | (rw [hn]; exact hk10)
                · rw [← HB.out]
                  exact ((hbw.setCell (show B ≤ B + 1 by omega) _).setCell (show B ≤ B + 1 by omega) _).setCell (show B ≤ B + 1 by omega) _
  intro f
  induction f using Nat.strongRecOn with
  | _ f ih => exact main f ih

end Go.Proofs.Ytnaedpfaeioolaa
