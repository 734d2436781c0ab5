/- The contracts of spec.Structs and spec.moved. Printed by gen_Vc.py. -/
import Derived.Test.YtnaedpfaeioolaaVb
namespace Go.Proofs.Ytnaedpfaeioolaa
open Go.RowKit
set_option linter.unusedVariables false

/-- Structs in the place of arrays, interfaces and unions. -/
def structsK (k : Int) : Int := if k = 3 ∨ k = 5 ∨ k = 6 then 4 else k
def structsT : T → T
  | .mk k n es => .mk (structsK k) n (es.map structsT)
theorem structsT_mk (k n : Int) (es : List T) : structsT (.mk k n es) = .mk (structsK k) n (es.map structsT) := by rw [structsT]

/-- References moved. -/
def movedN (by_ k n : Int) : Int := if k = 1 then n + by_ else n
def movedT (by_ : Int) : T → T
  | .mk k n es => .mk k (movedN by_ k n) (es.map (movedT by_))
theorem movedT_mk (by_ k n : Int) (es : List T) : movedT by_ (.mk k n es) = .mk k (movedN by_ k n) (es.map (movedT by_)) := by rw [movedT]

set_option maxHeartbeats 2000000 in
set_option maxRecDepth 100000 in
theorem structs_any (t : T) : Ok7 t → ∀ (w : World) (v : Value), TV w Any v t →
    Calls Try.prog 30 #[v] w fun e w' => ∃ v', e = .returned v' ∧ TV w' (fun b => w.heap.size ≤ b) v' (structsT t) ∧ Below w.heap.size w w' := by
  induction t using T.ind with
  | _ k0 n ts ih =>
    intro hok w v hv
    obtain ⟨_, _, _, hk0, hk6, hl3, hokes⟩ := hok
    obtain ⟨k', n', a, cap, ts', ps, rfl, e, hcap, hcm, hrow, htv⟩ := hv.form
    injection e with e1 e2 e3
    subst e1 e2 e3
    have Ih := Lib.hid ih; clear ih
    have Hok := Lib.hid hokes; clear hokes
    have Hrow := Lib.hid hrow; clear hrow
    have Htv := Lib.hid htv; clear htv hv
    have hcm' : cap ≤ 9223372036854775807 := by simpa [maxLen] using hcm
    clear hcm
    rw [structsT_mk]
    go_enter Try.func30, Try.ntmps30
    obtain ⟨B, hB⟩ : ∃ B, B = w.heap.size := ⟨_, rfl⟩
    obtain ⟨kk, hkk⟩ : ∃ kk, kk = structsK k0 := ⟨_, rfl⟩
    rw [← hkk]
    have key : ∀ (kb kv : Int) (W2 : World), W2 = ((w.alloc (.cells #[.int .i64 kb, .int .i64 n, .slice a ts.length cap] 45)).alloc (.cells #[.int .i64 0, .int .i64 0, .slice none 0 0] 45)).alloc (.cells #[.int .i64 kv, .int .i64 n, .slice none 0 0] 45) → kv = kk →
        W2.heap[B + 2]? = some (.cells #[.int .i64 kk, .int .i64 n, .slice none 0 0] 45 (0, 0)) ∧ Below B w W2 ∧ W2.heap[B + 1]? = some (.cells #[.int .i64 0, .int .i64 0, .slice none 0 0] 45 (0, 0)) ∧ B + 3 ≤ W2.heap.size ∧ W2.cell? ⟨B, 2, none⟩ = some (.slice a ts.length cap) := by
      rintro kb kv W2 rfl rfl
      refine ⟨alloc_at (by simp [hB]), ?_, ?_, by simp [hB], ?_⟩
      · rw [hB]; exact (((Below.refl _ _).alloc (Nat.le_refl _) _).alloc (by simp) _).alloc (by simp; omega) _
      · rw [alloc_lt (by simp [hB])]; exact alloc_at (by simp [hB])
      · rw [cell_of (b := B) (c := #[.int .i64 kb, .int .i64 n, .slice a ts.length cap]) (e := 45) (fr := (0, 0)) (by rw [alloc_lt (by simp [hB]; omega), alloc_lt (by simp [hB]), alloc_at hB])]; rfl
    have Key := Lib.hid key; clear key
    have HB := Lib.hid hB; clear hB
    have Hkk := Lib.hid hkk; clear hkk
    go_wp2_with fail
    all_goals
      rw [← HB.out]
      simp only [Nat.add_assoc, Nat.reduceAdd]
      generalize hW : World.alloc (World.alloc (World.alloc w _) _) _ = W2
      have hk := Key.out _ _ W2 hW.symm (by rw [Hkk.out]; unfold structsK; split <;> (try simp only [beq_iff_eq, beq_eq_false_iff_ne, ne_eq] at *) <;> omega)
      clear hW
      first | (rename_i h1 h2 h3 _ _; clear h1 h2 h3) | (rename_i h2 h3 _ _; clear h2 h3) | (rename_i h3 _ _; clear h3)
      obtain ⟨hout, hbel2, hb12, hsz2, c2⟩ := hk
      go_wp2_with fail

      go_loopw [28] (TLoop w B (B + 2) (B + 3) (B + 1) 45 (.int .i64 kk) (.int .i64 n) (structsT) ts ts.length) (fun i _ => ts.length - (intOf i).toNat)
      case atStart => unfold TLoop; exact ⟨0, _, [], Nat.zero_le _, rfl, hout, Kids.nil _ _ _, hbel2, hb12, hsz2⟩
      case round =>
        obtain ⟨k, sv, qs, hk, rfl, hO, hkids, hbw, hR, hszr⟩ := hrel
        have HO := Lib.hid hO; clear hO
        have HR := Lib.hid hR; clear hR
        have hlen : ((ts.take k).map (structsT)).length = k := by rw [List.length_map, List.length_take]; omega
        have hown : wr.ownsRow (B + 3) 45 3 sv k (flat3 qs) := by have := hkids.own; rwa [hlen] at this
        have Hkids := Lib.hid hkids; clear hkids
        have Hown := Lib.hid hown
        have Hlen := Lib.hid hlen; clear hlen
        obtain ⟨asv, csv, hsv, _, _, _⟩ := own_slice hown
        subst hsv
        clear hown
        have hbw' : Below w.heap.size w wr := by rw [← HB.out]; exact hbw
        by_cases hlt : k < ts.length
        · have hkp : k < ps.length := by rw [Htv.out.1]; exact hlt
          have hkt : k < ts.length := by rw [← Htv.out.1]; exact hkp
          have e1 : ps[k]? = some ps[k] := List.getElem?_eq_getElem hkp
          have e2 : ts[k]? = some ts[k] := List.getElem?_eq_getElem hkt
          have hte := (Htv.out.2 k _ _ e1 e2).ext hbw'
          have hmem := List.getElem_mem hkt
          have htake : (ts.take (k + 1)).map (structsT) = (ts.take k).map (structsT) ++ [(structsT) ts[k]] := by rw [List.take_succ_eq_append_getElem hkt, List.map_append]; rfl
          obtain ⟨b, o, rfl, x0, x1, x2⟩ := row3 (Hrow.out.ext hbw') e1
          obtain ⟨ke, ne, ae, ce, tse, pse, hpe, hte2, _⟩ := hte.form3
          rw [hpe] at x0 x1 x2 hte
          generalize ts[k] = te at hte hmem htake
          have Hte := Lib.hid hte; clear hte hte2 hpe e1 e2
          have Hmem := Lib.hid hmem; clear hmem
          have Htake := Lib.hid htake; clear htake
          have cO : wr.cell? ⟨B + 2, 2, none⟩ = some (.slice asv k csv) := cell_of HO.out 2
          have hA := fun (o : Obj) => cell_later ((Below.refl wr.heap.size wr).alloc (Nat.le_refl _) o) cO
          go_wp2_with fail
          obtain ⟨E, hE⟩ : ∃ E, E = wr.heap.size := ⟨_, rfl⟩
          obtain ⟨wA, hwA⟩ : ∃ wA, wA = wr.alloc (.cells #[.int .i64 ke, .int .i64 ne, .slice ae tse.length ce] 45) := ⟨_, rfl⟩
          have hEb : wA.heap[E]? = some (.cells #[.int .i64 ke, .int .i64 ne, .slice ae tse.length ce] 45 (0, 0)) := by rw [hwA, hE]; exact alloc_at rfl
          have hbA : Below wr.heap.size wr wA := by rw [hwA]; exact (Below.refl _ _).alloc (Nat.le_refl _) _
          have hszA : E + 1 = wA.heap.size := by rw [hwA, hE]; simp
          rw [← hwA, ← hE]
          have cOA := cell_later hbA cO
          have x3 : wA.cell? ⟨E, 0, none⟩ = some (.int .i64 ke) := cell_of hEb 0
          have x4 : wA.cell? ⟨E, 1, none⟩ = some (.int .i64 ne) := cell_of hEb 1
          have x5 : wA.cell? ⟨E, 2, none⟩ = some (.slice ae tse.length ce) := cell_of hEb 2
          have HteA := Lib.hid ((Hte.out.ext hbA).ext (show Below wA.heap.size wA wA.drew from (Below.refl _ _).drew))
          have HownA := Lib.hid ((own_ext Hown.out hbA).drew)
          have HcOA : Hid (wA.drew.cell? ⟨B + 2, 2, none⟩ = some (.slice asv k csv)) := Lib.hid cOA
          have hk30 : k ≤ 9223372036854775806 := by omega
          have hszB : B + 3 ≤ wA.heap.size := by have := hbA.size; omega
          have HOA := Lib.hid (below_ext hbA HO.out)
          have HbA := Lib.hid hbA
          have HszA := Lib.hid hszA
          have HEw := Lib.hid hE
          clear hA hEb hwA hE cO x0 x1 x2 hbA hszA
          go_region_law (first
            | (go_simp; refine (Ih.out te Hmem.out (Hok.out te Hmem.out) wA.drew (.agg #[.int .i64 ke, .int .i64 ne, .slice ae tse.length ce]) HteA.out).mono ?_; rintro e w2 ⟨v', rfl, htv2, hb2⟩; obtain ⟨k2, n2, a2, cap2, ts2, ps2, rfl, _⟩ := htv2.form; have cO2 := cell_later hb2 HcOA.out; have cO2a := fun (o : Obj) => cell_later ((Below.refl w2.heap.size w2).alloc (Nat.le_refl _) o) cO2; have own2 := own_ext HownA.out hb2; have hs2 : wA.heap.size ≤ w2.heap.size := hb2.size; have HO2 := Lib.hid (below_ext hb2 (show wA.drew.heap[B + 2]? = _ from HOA.out)))
            | (refine step_app w2 rfl (.tmp 33) (.tmp 36) 43 rfl (B + 3) 45 (.agg #[.int .i64 0, .int .i64 0, .slice none 0 0]) 3 40 Try.underlying43 Try.info45 rfl (by decide) (.slice asv k csv) k (flat3 qs) [.int .i64 k2, .int .i64 n2, .slice a2 ts2.length cap2] w2.heap.size rfl rfl rfl own2 rfl (by simp [Value.oneCell']) (by simp only [maxLen]; omega) (by omega) (by omega) ?_; intro sv' wB g1 g2 g3 g4; obtain ⟨asv', csv', rfl, _, _, _⟩ := own_slice g1; have HO3 := Lib.hid (low_grown own2 g3 (by omega) HO2.out); have cO3 := cell_of HO3.out 2; have fO3 := free_of HO3.out 2))
          all_goals
            have HO4 := Lib.hid (setCell_heap (i := 2) HO3.out (.slice asv' (k + 1) csv'))
            have hlow : Below B wr (wB.setCell ⟨B + 2, 2, none⟩ (.slice asv' (k + 1) csv')) := by
              refine Below.setCell ?_ (show B ≤ B + 2 by omega) _
              refine Below.trans (Below.trans ((HbA.out.mono (by omega)).drew) (hb2.mono (by show B ≤ wA.heap.size; omega))) ((below_low own2 g3 (by omega)).mono (by omega))
            have Hlow := Lib.hid hlow
            have Hk5 := Lib.hid (Kids.low (Kids.snoc (q := (.int .i64 k2, .int .i64 n2, .slice a2 ts2.length cap2)) (Hkids.out.ext (HbA.out.drew)) (show B + 3 ≤ wA.drew.heap.size from hszB) hb2 htv2 (by rw [Hlen.out]; exact g1) g3 g4) (a := ⟨B + 2, 2, none⟩) (by show B + 2 < B + 3; omega) (.slice asv' (k + 1) csv'))
            have HR5 := Lib.hid ((Below.heap_setCell wB ⟨B + 2, 2, none⟩ (.slice asv' (k + 1) csv') (B + 1) (by show B + 1 ≠ B + 2; omega)).trans (low_grown own2 g3 (by omega) (below_ext hb2 (below_ext HbA.out.drew HR.out))))
            have hs5 : w2.heap.size ≤ wB.heap.size := g3.size
            have hs6 : (wB.setCell ⟨B + 2, 2, none⟩ (.slice asv' (k + 1) csv')).heap.size = wB.heap.size := by simp [World.setCell]
            clear hlow
            go_wp2_with fail
            go_roundw
            case rel =>
              unfold TLoop
              refine ⟨k + 1, .slice asv' (k + 1) csv', qs ++ [(.int .i64 k2, .int .i64 n2, .slice a2 ts2.length cap2)], by omega, by go_num, by simpa using HO4.out, ?_, hbw.trans Hlow.out, HR5.out, by omega⟩
              rw [Htake.out]
              exact Hk5.out
            case measure => simp [intOf]; omega
        · have hke : k = ts.length := by omega
          subst hke
          have d0 : wr.cell? ⟨B + 2, 0, none⟩ = some (.int .i64 kk) := cell_of HO.out 0
          have d1 : wr.cell? ⟨B + 2, 1, none⟩ = some (.int .i64 n) := cell_of HO.out 1
          have d2 : wr.cell? ⟨B + 2, 2, none⟩ = some (.slice asv ts.length csv) := cell_of HO.out 2
          have f0 : wr.cell? ⟨B + 1, 0, none⟩ = some (.int .i64 0) := cell_of HR.out 0
          have f1 : wr.cell? ⟨B + 1, 1, none⟩ = some (.int .i64 0) := cell_of HR.out 1
          have f2 : wr.cell? ⟨B + 1, 2, none⟩ = some (.slice none 0 0) := cell_of HR.out 2
          have e0 := free_of HR.out 0
          have e1 := free_of HR.out 1
          have e2 := free_of HR.out 2
          go_wp2_with fail
          have hk9 := Hkids.out
          rw [List.take_of_length_le (Nat.le_refl _)] at hk9
          have hk10 := ((((hk9.low (a := ⟨B + 1, 0, none⟩) (by show B + 1 < B + 3; omega) (.int .i64 kk)).low (a := ⟨B + 1, 1, none⟩) (by show B + 1 < B + 3; omega) (.int .i64 n)).low (a := ⟨B + 1, 2, none⟩) (by show B + 1 < B + 3; omega) (.slice asv ts.length csv)).tree kk n).mono (S' := fun b => w.heap.size ≤ b) fun b hb _ => by have := HB.out; omega
          refine bodyPost_ret (v := .agg #[.int .i64 kk, .int .i64 n, .slice asv ts.length csv]) ?_ rfl ⟨_, rfl, ?_, ?_⟩
          · simp [results, Try.results30, go_sem, f0, f1, f2]
          · exact hk10
          · rw [← HB.out]
            exact ((hbw.setCell (show B ≤ B + 1 by omega) _).setCell (show B ≤ B + 1 by omega) _).setCell (show B ≤ B + 1 by omega) _
end Go.Proofs.Ytnaedpfaeioolaa
