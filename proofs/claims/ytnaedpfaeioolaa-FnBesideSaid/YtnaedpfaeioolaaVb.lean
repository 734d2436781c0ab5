/- The contract of impl.tree: a tree of the package's own, the same. The kinds are those that are listed. -/
import Derived.Test.YtnaedpfaeioolaaVa
import Derived.Deep.RegionLaw
namespace Go.Proofs.Ytnaedpfaeioolaa
open Go.RowKit
set_option linter.unusedVariables false

/-- All kinds are those that are listed, and no type has more than three elements. -/
inductive Ok7 : T → Prop
  | mk (k n : Int) (es : List T) (h0 : 0 ≤ k) (h6 : k ≤ 6) (h3 : es.length ≤ 3) (he : ∀ e ∈ es, Ok7 e) : Ok7 (.mk k n es)

/-- As the statements speak of them: references are to declarations, arrays have one element. -/
inductive Ok (N : Nat) : T → Prop
  | mk (k n : Int) (es : List T) (h0 : 0 ≤ k) (h6 : k ≤ 6) (h3 : es.length ≤ 3) (hn : k = 1 → 0 ≤ n ∧ n < N) (ha : k = 3 → es.length = 1) (he : ∀ e ∈ es, Ok N e) : Ok N (.mk k n es)

theorem Ok.ok7 {N : Nat} {t : T} (h : Ok N t) : Ok7 t := by
  induction h with
  | mk k n es h0 h6 h3 hn ha he ih => exact .mk k n es h0 h6 h3 ih

set_option maxHeartbeats 1000000 in
set_option maxRecDepth 100000 in
theorem tree_any (t : T) : Ok7 t → ∀ (w : World) (v : Value), TV w Any v t →
    Calls Try.prog 33 #[v] w fun e w' => ∃ v', e = .returned v' ∧ TV w' (fun b => w.heap.size ≤ b) v' t ∧ Below w.heap.size w w' := by
  induction t using T.ind with
  | _ k n ts ih =>
    intro hok w v hv
    obtain ⟨_, _, _, hk0, hk6, hl3, hokes⟩ := hok
    obtain ⟨k', n', a, cap, ts', ps, rfl, e, hcap, hcm, hrow, htv⟩ := hv.form
    injection e with e1 e2 e3
    subst e1 e2 e3
    have Ih := Lib.hid ih; clear ih
    have Hok := Lib.hid hokes; clear hokes
    have Hrow := Lib.hid hrow; clear hrow
    have Htv := Lib.hid htv; clear htv hv
    have hcm' : cap ≤ 9223372036854775807 := by simpa [maxLen] using hcm
    clear hcm
    go_enter Try.func33, Try.ntmps33
    go_wp2_with fail
    obtain ⟨kn, rfl⟩ := Int.eq_ofNat_of_zero_le hk0
    obtain ⟨B, hB⟩ : ∃ B, B = w.heap.size := ⟨_, rfl⟩
    obtain ⟨W, hW⟩ : ∃ W, W = ((w.alloc (.cells #[.int .i64 (kn : Int), .int .i64 n, .slice a ts.length cap] 45)).alloc (.cells #[.int .i64 0, .int .i64 0, .slice none 0 0] 55)).alloc
      (.cells #[.int .i64 0, .int .i64 1, .int .i64 2, .int .i64 3, .int .i64 4, .int .i64 5, .int .i64 6] 95) := ⟨_, rfl⟩
    have hsz : W.heap.size = B + 3 := by rw [hW, hB]; simp
    have hbel : Below B w W := by rw [hW, hB]; exact (((Below.refl _ _).alloc (Nat.le_refl _) _).alloc (by simp) _).alloc (by simp; omega) _
    have hb0 : W.heap[B]? = some (.cells #[.int .i64 (kn : Int), .int .i64 n, .slice a ts.length cap] 45 (0, 0)) := by
      rw [hW, hB, alloc_lt (by simp; omega), alloc_lt (by simp), alloc_at rfl]
    have hb1 : W.heap[B + 1]? = some (.cells #[.int .i64 0, .int .i64 0, .slice none 0 0] 55 (0, 0)) := by
      rw [hW, hB, alloc_lt (by simp), alloc_at (by simp)]
    have hb2 : W.heap[B + 2]? = some (.cells #[.int .i64 0, .int .i64 1, .int .i64 2, .int .i64 3, .int .i64 4, .int .i64 5, .int .i64 6] 95 (0, 0)) := by
      rw [hW, hB, alloc_at (by simp)]
    rw [← hW, ← hB]
    have hkn : kn ≤ 6 := by omega
    have c0 : W.cell? ⟨B, 0, none⟩ = some (.int .i64 (kn : Int)) := cell_of hb0 0
    have c1 : W.cell? ⟨B, 1, none⟩ = some (.int .i64 n) := cell_of hb0 1
    have ca : W.cell? ⟨B + 2, kn, none⟩ = some (.int .i64 (kn : Int)) := by
      rw [cell_of hb2]
      match kn, hkn with
      | 0, _ | 1, _ | 2, _ | 3, _ | 4, _ | 5, _ | 6, _ => rfl
    have HB := Lib.hid hB
    have Hsz := Lib.hid hsz
    have hszl : B + 3 ≤ W.heap.size := by omega
    have Hb0 := Lib.hid hb0
    have Hb1 := Lib.hid hb1
    have hk7 : (kn : Int) < 7 := by omega
    have hk00 : (0 : Int) ≤ (kn : Int) := by omega
    clear hW hb0 hb1 hb2 hB hsz
    simp only [Nat.add_assoc, Nat.reduceAdd]
    go_region_held3 (fun w' => w'.cell? ⟨B, 0, none⟩ = some (.int .i64 (kn : Int)) ∧ w'.cell? ⟨B, 1, none⟩ = some (.int .i64 n) ∧ w'.cell? ⟨B + 2, kn, none⟩ = some (.int .i64 (kn : Int))) (go_keep) (fail)
    have hout : (W.alloc (.cells #[.int .i64 (kn : Int), .int .i64 n, .slice none 0 0] 55)).drew.heap[B + 3]? = some (.cells #[.int .i64 (kn : Int), .int .i64 n, .slice none 0 0] 55 (0, 0)) := alloc_at (by rw [Hsz.out])
    have hbel2 : Below B w (W.alloc (.cells #[.int .i64 (kn : Int), .int .i64 n, .slice none 0 0] 55)).drew := (hbel.alloc (by omega) _).drew
    have hsz2 : B + 4 ≤ (W.alloc (.cells #[.int .i64 (kn : Int), .int .i64 n, .slice none 0 0] 55)).drew.heap.size := by
      show B + 4 ≤ (W.alloc _).heap.size
      rw [World.size_alloc, Hsz.out]; omega
    have hb02 : (W.alloc (.cells #[.int .i64 (kn : Int), .int .i64 n, .slice none 0 0] 55)).drew.heap[B]? = some (.cells #[.int .i64 (kn : Int), .int .i64 n, .slice a ts.length cap] 45 (0, 0)) := by
      show (W.alloc _).heap[B]? = _
      rw [alloc_lt (by omega)]; exact Hb0.out
    have hb12 : (W.alloc (.cells #[.int .i64 (kn : Int), .int .i64 n, .slice none 0 0] 55)).drew.heap[B + 1]? = some (.cells #[.int .i64 0, .int .i64 0, .slice none 0 0] 55 (0, 0)) := by
      show (W.alloc _).heap[B + 1]? = _
      rw [alloc_lt (by omega)]; exact Hb1.out
    rw [Hsz.out]
    generalize (W.alloc (.cells #[.int .i64 (kn : Int), .int .i64 n, .slice none 0 0] 55)).drew = W2 at hout hbel2 hsz2 hb02 hb12
    clear c0 c1 ca hszl hbel Hb0 Hb1 Hsz
    have c2 : W2.cell? ⟨B, 2, none⟩ = some (.slice a ts.length cap) := cell_of hb02 2
    clear hb02
    go_wp2_with fail
    go_loopw [18] (fun i wr => ∃ (k : Nat) (sv : Value) (qs : List V3), k ≤ ts.length ∧ i = .int .i64 k ∧ wr.heap[B + 3]? = some (.cells #[.int .i64 (kn : Int), .int .i64 n, sv] 55 (0, 0)) ∧
      Kids wr (B + 4) 55 sv qs (ts.take k) ∧ Below B w wr ∧ wr.heap[B + 1]? = some (.cells #[.int .i64 0, .int .i64 0, .slice none 0 0] 55 (0, 0)) ∧ B + 4 ≤ wr.heap.size) (fun i _ => ts.length - (intOf i).toNat)
    case atStart => exact ⟨0, _, [], Nat.zero_le _, rfl, hout, Kids.nil _ _ _, hbel2, hb12, hsz2⟩
    case round =>
      obtain ⟨k, sv, qs, hk, rfl, hO, hkids, hbw, hR, hszr⟩ := hrel
      have HO := Lib.hid hO; clear hO
      have HR := Lib.hid hR; clear hR
      have hown : wr.ownsRow (B + 4) 55 3 sv k (flat3 qs) := by have := hkids.own; rwa [List.length_take, Nat.min_eq_left hk] at this
      have Hkids := Lib.hid hkids; clear hkids
      have Hown := Lib.hid hown
      obtain ⟨asv, csv, hsv, _, _, _⟩ := own_slice hown
      subst hsv
      clear hown
      have hbw' : Below w.heap.size w wr := by rw [← HB.out]; exact hbw
      by_cases hlt : k < ts.length
      · have hkp : k < ps.length := by rw [Htv.out.1]; exact hlt
        have e1 : ps[k]? = some ps[k] := List.getElem?_eq_getElem hkp
        have e2 : ts[k]? = some ts[k] := List.getElem?_eq_getElem hlt
        have hte := (Htv.out.2 k _ _ e1 e2).ext hbw'
        have hmem := List.getElem_mem hlt
        have htake : ts.take (k + 1) = ts.take k ++ [ts[k]] := List.take_succ_eq_append_getElem hlt
        obtain ⟨b, o, rfl, x0, x1, x2⟩ := row3 (Hrow.out.ext hbw') e1
        obtain ⟨ke, ne, ae, ce, tse, pse, hpe, hte2, _⟩ := hte.form3
        rw [hpe] at x0 x1 x2 hte
        generalize ts[k] = te at hte hmem htake
        have Hte := Lib.hid hte; clear hte hte2 hpe e1 e2
        have Hmem := Lib.hid hmem; clear hmem
        have Htake := Lib.hid htake; clear htake
        have cO : wr.cell? ⟨B + 3, 2, none⟩ = some (.slice asv k csv) := cell_of HO.out 2
        have hA := fun (o : Obj) => cell_later ((Below.refl wr.heap.size wr).alloc (Nat.le_refl _) o) cO
        go_wp2_with fail
        obtain ⟨E, hE⟩ : ∃ E, E = wr.heap.size := ⟨_, rfl⟩
        obtain ⟨wA, hwA⟩ : ∃ wA, wA = wr.alloc (.cells #[.int .i64 ke, .int .i64 ne, .slice ae tse.length ce] 45) := ⟨_, rfl⟩
        have hEb : wA.heap[E]? = some (.cells #[.int .i64 ke, .int .i64 ne, .slice ae tse.length ce] 45 (0, 0)) := by rw [hwA, hE]; exact alloc_at rfl
        have hbA : Below wr.heap.size wr wA := by rw [hwA]; exact (Below.refl _ _).alloc (Nat.le_refl _) _
        have hszA : E + 1 = wA.heap.size := by rw [hwA, hE]; simp
        rw [← hwA, ← hE]
        have cOA := cell_later hbA cO
        have x3 : wA.cell? ⟨E, 0, none⟩ = some (.int .i64 ke) := cell_of hEb 0
        have x4 : wA.cell? ⟨E, 1, none⟩ = some (.int .i64 ne) := cell_of hEb 1
        have x5 : wA.cell? ⟨E, 2, none⟩ = some (.slice ae tse.length ce) := cell_of hEb 2
        have HteA := Lib.hid ((Hte.out.ext hbA).ext (show Below wA.heap.size wA wA.drew from (Below.refl _ _).drew))
        have HownA := Lib.hid ((own_ext Hown.out hbA).drew)
        have HcOA : Hid (wA.drew.cell? ⟨B + 3, 2, none⟩ = some (.slice asv k csv)) := Lib.hid cOA
        have hk30 : k ≤ 9223372036854775806 := by omega
        have hszB : B + 4 ≤ wA.heap.size := by have := hbA.size; omega
        have HOA := Lib.hid (below_ext hbA HO.out)
        have HbA := Lib.hid hbA
        have HszA := Lib.hid hszA
        have HEw := Lib.hid hE
        clear hA hEb hwA hE cO x0 x1 x2 hbA hszA
        go_region_law (first
          | (go_simp; refine (Ih.out te Hmem.out (Hok.out te Hmem.out) wA.drew (.agg #[.int .i64 ke, .int .i64 ne, .slice ae tse.length ce]) HteA.out).mono ?_; rintro e w2 ⟨v', rfl, htv2, hb2⟩; obtain ⟨k2, n2, a2, cap2, ts2, ps2, rfl, _⟩ := htv2.form; have cO2 := cell_later hb2 HcOA.out; have cO2a := fun (o : Obj) => cell_later ((Below.refl w2.heap.size w2).alloc (Nat.le_refl _) o) cO2; have own2 := own_ext HownA.out hb2; have hs2 : wA.heap.size ≤ w2.heap.size := hb2.size; have HO2 := Lib.hid (below_ext hb2 (show wA.drew.heap[B + 3]? = _ from HOA.out)))
          | (refine step_app w2 rfl (.tmp 23) (.tmp 26) 53 rfl (B + 4) 55 (.agg #[.int .i64 0, .int .i64 0, .slice none 0 0]) 3 40 Try.underlying53 Try.info55 rfl (by decide) (.slice asv k csv) k (flat3 qs) [.int .i64 k2, .int .i64 n2, .slice a2 ts2.length cap2] w2.heap.size rfl rfl rfl own2 rfl (by simp [Value.oneCell']) (by simp only [maxLen]; omega) (by omega) (by omega) ?_; intro sv' wB g1 g2 g3 g4; obtain ⟨asv', csv', rfl, _, _, _⟩ := own_slice g1; have HO3 := Lib.hid (low_grown own2 g3 (by omega) HO2.out); have cO3 := cell_of HO3.out 2; have fO3 := free_of HO3.out 2))
        all_goals
          have HO4 := Lib.hid (setCell_heap (i := 2) HO3.out (.slice asv' (k + 1) csv'))
          have hlow : Below B wr (wB.setCell ⟨B + 3, 2, none⟩ (.slice asv' (k + 1) csv')) := by
            refine Below.setCell ?_ (show B ≤ B + 3 by omega) _
            refine Below.trans (Below.trans ((HbA.out.mono (by omega)).drew) (hb2.mono (by show B ≤ wA.heap.size; omega))) ((below_low own2 g3 (by omega)).mono (by omega))
          have Hlow := Lib.hid hlow
          have Hk5 := Lib.hid (Kids.low (Kids.snoc (q := (.int .i64 k2, .int .i64 n2, .slice a2 ts2.length cap2)) (Hkids.out.ext (HbA.out.drew)) (show B + 4 ≤ wA.drew.heap.size from hszB) hb2 htv2 (by rw [List.length_take, Nat.min_eq_left hk]; exact g1) g3 g4) (a := ⟨B + 3, 2, none⟩) (by show B + 3 < B + 4; omega) (.slice asv' (k + 1) csv'))
          have HR5 := Lib.hid ((Below.heap_setCell wB ⟨B + 3, 2, none⟩ (.slice asv' (k + 1) csv') (B + 1) (by show B + 1 ≠ B + 3; omega)).trans (low_grown own2 g3 (by omega) (below_ext hb2 (below_ext HbA.out.drew HR.out))))
          have hs5 : w2.heap.size ≤ wB.heap.size := g3.size
          have hs6 : (wB.setCell ⟨B + 3, 2, none⟩ (.slice asv' (k + 1) csv')).heap.size = wB.heap.size := by simp [World.setCell]
          clear hlow
          go_wp2_with fail
          go_roundw
          case rel =>
            refine ⟨k + 1, .slice asv' (k + 1) csv', qs ++ [(.int .i64 k2, .int .i64 n2, .slice a2 ts2.length cap2)], by omega, by go_num, by simpa using HO4.out, ?_, hbw.trans Hlow.out, HR5.out, by omega⟩
            rw [Htake.out]
            exact Hk5.out
          case measure => simp [intOf]; omega
      · have hke : k = ts.length := by omega
        subst hke
        have d0 : wr.cell? ⟨B + 3, 0, none⟩ = some (.int .i64 (kn : Int)) := cell_of HO.out 0
        have d1 : wr.cell? ⟨B + 3, 1, none⟩ = some (.int .i64 n) := cell_of HO.out 1
        have d2 : wr.cell? ⟨B + 3, 2, none⟩ = some (.slice asv ts.length csv) := cell_of HO.out 2
        have f0 : wr.cell? ⟨B + 1, 0, none⟩ = some (.int .i64 0) := cell_of HR.out 0
        have f1 : wr.cell? ⟨B + 1, 1, none⟩ = some (.int .i64 0) := cell_of HR.out 1
        have f2 : wr.cell? ⟨B + 1, 2, none⟩ = some (.slice none 0 0) := cell_of HR.out 2
        have e0 := free_of HR.out 0
        have e1 := free_of HR.out 1
        have e2 := free_of HR.out 2
        go_wp2_with fail
        have hk9 := Hkids.out
        rw [List.take_of_length_le (Nat.le_refl _)] at hk9
        refine bodyPost_ret (v := .agg #[.int .i64 kn, .int .i64 n, .slice asv ts.length csv]) ?_ rfl ⟨_, rfl, ?_, ?_⟩
        · simp [results, Try.results33, go_sem, f0, f1, f2]
        · exact ((((hk9.low (a := ⟨B + 1, 0, none⟩) (by show B + 1 < B + 4; omega) _).low (a := ⟨B + 1, 1, none⟩) (by show B + 1 < B + 4; omega) _).low (a := ⟨B + 1, 2, none⟩) (by show B + 1 < B + 4; omega) _).tree kn n).mono fun b hb _ => by have := HB.out; omega
        · rw [← HB.out]
          exact ((hbw.setCell (show B ≤ B + 1 by omega) _).setCell (show B ≤ B + 1 by omega) _).setCell (show B ≤ B + 1 by omega) _

end Go.Proofs.Ytnaedpfaeioolaa
