/- The contract of spec.fit. Printed by gen_Vf.py. -/
import Derived.Test.YtnaedpfaeioolaaVp
namespace Go.Proofs.Ytnaedpfaeioolaa
open Go.RowKit
set_option linter.unusedVariables false

def fitK (k : Int) : Int := (k.tmod 7 + 7) % 7
def fitN (L : Nat) (n : Int) : Int := (n.tmod L + L) % L
def fitE (k : Int) (es : List T) : List T := if k = 3 ∧ es = [] then [.mk 0 0 []] else es
def fitT (al : Nat → Bool) (L fr : Nat) : Nat → T → T
  | d, .mk k n es =>
    if fitK k = 1 then (if al fr = true ∧ al (fitN L n).toNat = true ∧ fitN L n ≤ fr then .mk 0 0 [] else .mk 1 (fitN L n) [])
    else .mk (fitK k) 0 (fitE (fitK k) (match d with
      | 0 => []
      | e + 1 => if fitK k = 0 then [] else (es.take (if fitK k = 3 then 1 else 3)).map (fitT al L fr e)))
termination_by d t => (d, SizeOf.sizeOf t)

/-- The elements that a type has left. -/
def fitL (al : Nat → Bool) (L fr d : Nat) (k : Int) (es : List T) : List T :=
  match d with
  | 0 => []
  | e + 1 => if k = 0 then [] else (es.take (if k = 3 then 1 else 3)).map (fitT al L fr e)

theorem fitT_mk (al : Nat → Bool) (L fr d : Nat) (k n : Int) (es : List T) : fitT al L fr d (.mk k n es) =
    if fitK k = 1 then (if al fr = true ∧ al (fitN L n).toNat = true ∧ fitN L n ≤ fr then .mk 0 0 [] else .mk 1 (fitN L n) [])
    else .mk (fitK k) 0 (fitE (fitK k) (fitL al L fr d (fitK k) es)) := by
  rw [fitT.eq_def]; rfl

theorem fitL_grow (al : Nat → Bool) (L fr e : Nat) (k : Int) (es : List T) (h : ¬ k = 0) : fitL al L fr (e + 1) k es = (es.take (if k = 3 then 1 else 3)).map (fitT al L fr e) := by
  unfold fitL; simp [h]
theorem fitL_no (al : Nat → Bool) (L fr d : Nat) (k : Int) (es : List T) (h : d = 0 ∨ k = 0) : fitL al L fr d k es = [] := by
  unfold fitL
  rcases h with rfl | h
  · rfl
  · cases d <;> simp [h]

theorem TV.one0 {w : World} {S : Nat → Prop} {Z : Nat} (k n : Int) (h : w.heap[Z]? = some (.cells #[.int .i64 0, .int .i64 0, .slice none 0 0] 45 (0, 0))) (hS : S Z) :
    TV w S (.agg #[.int .i64 k, .int .i64 n, .slice (some ⟨Z, 0, none⟩) 1 1]) (.mk k n [.mk 0 0 []]) := by
  refine .mk k n (some ⟨Z, 0, none⟩) 1 [.mk 0 0 []] [(.int .i64 0, .int .i64 0, .slice none 0 0)] rfl (Nat.le_refl _) (by unfold maxLen; omega) ?_ (by rintro b o _ h1; simp at h1; exact h1.1 ▸ hS) ?_
  · intro j u hj
    refine ⟨Z, 0, rfl, ?_⟩
    rw [Nat.zero_add, cell_of h]
    match j, hj with
    | 0, hj => exact hj
    | 1, hj => exact hj
    | 2, hj => exact hj
    | j + 3, hj => simp [flat3] at hj
  · intro i p t hp ht
    match i, hp, ht with
    | 0, hp, ht => simp at hp ht; subst hp; subst ht; exact TV.leaf _ _ 0 0
    | i + 1, hp, ht => simp at hp

/-- What the loop keeps where nothing is added. -/
def NLoop (w : World) (B O O1 R : Nat) (kv nv : Value) (len : Nat) (i : Value) (wr : World) : Prop :=
  ∃ k : Nat, k ≤ len ∧ i = .int .i64 k ∧ wr.heap[O]? = some (.cells #[kv, nv, .slice none 0 0] 45 (0, 0)) ∧ Below B w wr ∧
    wr.heap[R]? = some (.cells #[.int .i64 0, .int .i64 0, .slice none 0 0] 45 (0, 0)) ∧ O1 ≤ wr.heap.size

theorem fitK_bd (k : Int) : -6 ≤ k.tmod 7 ∧ k.tmod 7 ≤ 6 ∧ 0 ≤ fitK k ∧ fitK k ≤ 6 ∧ (k.tmod 7 + 7).tmod 7 = fitK k := by
  have h1 := Int.tmod_lt_of_pos k (show (0 : Int) < 7 by omega)
  have h2 := Int.lt_tmod_of_pos k (show (0 : Int) < 7 by omega)
  unfold fitK
  refine ⟨by omega, by omega, by omega, by omega, ?_⟩
  rw [Int.tmod_eq_emod_of_nonneg (by omega)]

theorem fitN_bd (L : Nat) (hL : 0 < L) (n : Int) : -(L : Int) < n.tmod L ∧ n.tmod L < L ∧ 0 ≤ fitN L n ∧ fitN L n < L ∧ (n.tmod L + L).tmod L = fitN L n := by
  have h1 := Int.tmod_lt_of_pos n (show (0 : Int) < (L : Int) by omega)
  have h2 := Int.lt_tmod_of_pos n (show (0 : Int) < (L : Int) by omega)
  unfold fitN
  refine ⟨by omega, by omega, Int.emod_nonneg _ (by omega), Int.emod_lt_of_pos _ (by omega), ?_⟩
  rw [Int.tmod_eq_emod_of_nonneg (by omega)]

set_option maxHeartbeats 4000000 in
set_option maxRecDepth 100000 in
theorem fit_any (ds : List D) (h100 : ds.length ≤ 100) (fr : Nat) (hfr : fr < ds.length) (t : T) : ∀ (d : Nat) (dd : Int), dd = (d : Int) → d ≤ 2 → ∀ (w : World) (lv v : Value), DV w lv ds → TV w Any v t →
    Calls Try.prog 32 #[lv, .int .i64 fr, v, .int .i64 dd] w fun e w' => ∃ v', e = .returned v' ∧ TV w' (fun b => w.heap.size ≤ b) v' (fitT (alOf ds) ds.length fr d t) ∧ Below w.heap.size w w' := by
  induction t using T.ind with
  | _ k0 n ts ih =>
    rintro d dd rfl hd w lv v hdv hv
    obtain ⟨k', n', a, cap, ts', ps, rfl, e, hcap, hcm, hrow, htv⟩ := hv.form
    injection e with e1 e2 e3
    subst e1 e2 e3
    obtain ⟨la, lcap, lps, rfl, hlc, hlm, _, _⟩ := id hdv
    have hlm' : lcap ≤ 9223372036854775807 := by simpa [maxLen] using hlm
    have Ih := Lib.hid ih; clear ih
    have Hdv := Lib.hid hdv; clear hdv
    have Hrow := Lib.hid hrow; clear hrow
    have Htv := Lib.hid htv; clear htv hv
    have hcm' : cap ≤ 9223372036854775807 := by simpa [maxLen] using hcm
    clear hcm hlm
    rw [fitT_mk]
    obtain ⟨hb1, hb2, hkk0, hkk6, hkk⟩ := fitK_bd k0
    have hkk' : (k0.tmod 7 + 7) % 7 = fitK k0 := rfl
    obtain ⟨kk, hkd⟩ : ∃ kk, fitK k0 = kk := ⟨_, rfl⟩
    rw [hkd] at hkk0 hkk6 hkk hkk' ⊢
    clear hkd
    obtain ⟨hm1, hm2, hm3, hm4, hm5⟩ := fitN_bd ds.length (by omega) n
    have hm6 : (n.tmod (ds.length : Int) + (ds.length : Int)) % (ds.length : Int) = fitN ds.length n := rfl
    obtain ⟨M, hM⟩ := Int.eq_ofNat_of_zero_le hm3
    rw [hM] at hm4 hm5 hm6 ⊢
    clear hm3 hM
    have hMl : M < ds.length := by omega
    go_enter Try.func32, Try.ntmps32
    by_cases h1 : kk = 1
    · subst h1
      obtain ⟨b, o, kd, md, xd, yd, hla, x0, _, _, _, _⟩ := Hdv.out.at hfr
      obtain ⟨b', o', _, _, _, _, hla', x1, _, _, _, _⟩ := Hdv.out.at hMl
      subst hla
      simp at hla'
      obtain ⟨rfl, rfl⟩ := hla'
      have hbel : ∀ (o1 o2 o3 : Obj), Below w.heap.size w (((w.alloc o1).alloc o2).alloc o3) := fun o1 o2 o3 => (((Below.refl _ _).alloc (Nat.le_refl _) _).alloc (by simp) _).alloc (by simp; omega) _
      have y0 := fun (o1 o2 o3 : Obj) => cell_later (hbel o1 o2 o3) x0
      have y1 := fun (o1 o2 o3 : Obj) => cell_later (hbel o1 o2 o3) x1
      have Hbel := Lib.hid hbel
      clear x0 x1 hbel
      go_wp2_with fail
      all_goals first
        | (refine bodyPost_ret (v := .agg #[.int .i64 0, .int .i64 0, .slice none 0 0]) (by simp [results, Try.results32, go_sem]) rfl ⟨_, rfl, TV.leaf _ _ 0 0, Hbel.out _ _ _⟩)
        | (refine bodyPost_ret (v := .agg #[.int .i64 1, .int .i64 M, .slice none 0 0]) (by simp [results, Try.results32, go_sem]) rfl ⟨_, rfl, TV.leaf _ _ 1 M, Hbel.out _ _ _⟩)
    · rw [if_neg h1]
      obtain ⟨B, hB⟩ : ∃ B, B = w.heap.size := ⟨_, rfl⟩
      have key : ∀ (W2 : World), W2 = ((w.alloc (.cells #[.int .i64 k0, .int .i64 n, .slice a ts.length cap] 45)).alloc (.cells #[.int .i64 0, .int .i64 0, .slice none 0 0] 45)).alloc (.cells #[.int .i64 kk, .int .i64 0, .slice none 0 0] 45) →
          W2.heap[B + 2]? = some (.cells #[.int .i64 kk, .int .i64 0, .slice none 0 0] 45 (0, 0)) ∧ Below B w W2 ∧ W2.heap[B + 1]? = some (.cells #[.int .i64 0, .int .i64 0, .slice none 0 0] 45 (0, 0)) ∧ B + 3 ≤ W2.heap.size ∧ W2.cell? ⟨B, 2, none⟩ = some (.slice a ts.length cap) := by
        rintro W2 rfl
        refine ⟨alloc_at (by simp [hB]), ?_, ?_, by simp [hB], ?_⟩
        · rw [hB]; exact (((Below.refl _ _).alloc (Nat.le_refl _) _).alloc (by simp) _).alloc (by simp; omega) _
        · rw [alloc_lt (by simp [hB])]; exact alloc_at (by simp [hB])
        · rw [cell_of (b := B) (c := #[.int .i64 k0, .int .i64 n, .slice a ts.length cap]) (e := 45) (fr := (0, 0)) (by rw [alloc_lt (by simp [hB]; omega), alloc_lt (by simp [hB]), alloc_at hB])]; rfl
      have Key := Lib.hid key; clear key
      have HB := Lib.hid hB; clear hB
      have Hkf := Lib.hid h1
      clear hm1 hm2 hm4 hm5 hm6 hMl
      obtain ⟨mst, hmst⟩ : ∃ mst : Nat, mst = if kk = 3 then 1 else 3 := ⟨_, rfl⟩
      have Hmst := Lib.hid hmst; clear hmst
      have Hd := Lib.hid hd
      rcases (show kk = 3 ∨ ¬ kk = 3 by omega) with h3 | h3
      case' inl => subst h3

      · go_wp2_with fail
        all_goals
          generalize hW : World.alloc (World.alloc (World.alloc w _) _) _ = W2
          have hk := Key.out W2 hW.symm
          clear hW
          rw [← HB.out]
          simp only [Nat.add_assoc, Nat.reduceAdd]
          obtain ⟨hout, hbel2, hb12, hsz2, c2⟩ := hk
        ·
          rcases (show d = 0 ∨ 0 < d by omega) with hd0 | hd0
          · subst hd0
            have Hgoal := Lib.hid (show fitE 3 (fitL (alOf ds) ds.length fr 0 3 ts) = [.mk 0 0 []] by rw [fitL_no _ _ _ _ _ _ (Or.inl rfl)]; simp [fitE])
            go_wp2_with fail
            go_loopw [67] (NLoop w B (B + 2) (B + 3) (B + 1) (.int .i64 3) (.int .i64 0) (1)) (fun i _ => 1 - (intOf i).toNat)
            case atStart => unfold NLoop; exact ⟨0, Nat.zero_le _, rfl, hout, hbel2, hb12, hsz2⟩
            case round =>
              obtain ⟨k, hk, rfl, hO, hbw, hR, hszr⟩ := hrel
              have HO := Lib.hid hO; clear hO
              have HR := Lib.hid hR; clear hR
              have hbw' : Below w.heap.size w wr := by rw [← HB.out]; exact hbw
              by_cases hlt : k < 1
              · have hkt : k < ts.length := by omega
                have hkp : k < ps.length := by rw [Htv.out.1]; exact hkt
                have e1 : ps[k]? = some ps[k] := List.getElem?_eq_getElem hkp
                have e2 : ts[k]? = some ts[k] := List.getElem?_eq_getElem hkt
                have hte := (Htv.out.2 k _ _ e1 e2).ext hbw'
                obtain ⟨b, o, rfl, x0, x1, x2⟩ := row3 (Hrow.out.ext hbw') e1
                obtain ⟨ke, ne, ae, ce, tse, pse, hpe, hte2, _⟩ := hte.form3
                rw [hpe] at x0 x1 x2
                clear hte hte2 hpe e1 e2
                have cO : wr.cell? ⟨B + 2, 0, none⟩ = some (.int .i64 3) := cell_of HO.out 0
                have hA := fun (o : Obj) => cell_later ((Below.refl wr.heap.size wr).alloc (Nat.le_refl _) o) cO
                have hbA : ∀ o : Obj, Below wr.heap.size wr (wr.alloc o) := fun o => (Below.refl _ _).alloc (Nat.le_refl _) _
                have HbA := Lib.hid hbA; clear hbA
                go_wp2_with fail
                all_goals
                  go_roundw
                  case rel =>
                    unfold NLoop
                    refine ⟨k + 1, by omega, by go_num, below_ext (HbA.out _) HO.out, hbw.trans ((HbA.out _).mono (by omega)), below_ext (HbA.out _) HR.out, ?_⟩
                    have := (HbA.out (.cells #[.int .i64 ke, .int .i64 ne, .slice ae tse.length ce] 45)).size
                    omega
                  case measure => simp [intOf]; omega
              · have hke : k = 1 := by omega
                subst hke
                have d0 : wr.cell? ⟨B + 2, 0, none⟩ = some (.int .i64 3) := cell_of HO.out 0
                have d1 : wr.cell? ⟨B + 2, 1, none⟩ = some (.int .i64 0) := cell_of HO.out 1
                have d2 : wr.cell? ⟨B + 2, 2, none⟩ = some (.slice none 0 0) := cell_of HO.out 2
                have f0 : wr.cell? ⟨B + 1, 0, none⟩ = some (.int .i64 0) := cell_of HR.out 0
                have f1 : wr.cell? ⟨B + 1, 1, none⟩ = some (.int .i64 0) := cell_of HR.out 1
                have f2 : wr.cell? ⟨B + 1, 2, none⟩ = some (.slice none 0 0) := cell_of HR.out 2
                have e0 := free_of HR.out 0
                have e1 := free_of HR.out 1
                have e2 := free_of HR.out 2
                have d2a := fun (o : Obj) => cell_later ((Below.refl wr.heap.size wr).alloc (Nat.le_refl _) o) d2
                have HbA := Lib.hid (fun (o : Obj) => (Below.refl wr.heap.size wr).alloc (Nat.le_refl _) o)
                have g2 := fun (o : Obj) => free_of (below_ext (HbA.out o) HO.out) 2
                have g0 := fun (o : Obj) => cell_of (below_ext (HbA.out o) HO.out) 0
                have g1 := fun (o : Obj) => cell_of (below_ext (HbA.out o) HO.out) 1
                have h0 := fun (o : Obj) => cell_of (below_ext (HbA.out o) HR.out) 0
                have h1 := fun (o : Obj) => cell_of (below_ext (HbA.out o) HR.out) 1
                have h2 := fun (o : Obj) => cell_of (below_ext (HbA.out o) HR.out) 2
                have i0 := fun (o : Obj) => free_of (below_ext (HbA.out o) HR.out) 0
                have i1 := fun (o : Obj) => free_of (below_ext (HbA.out o) HR.out) 1
                have i2 := fun (o : Obj) => free_of (below_ext (HbA.out o) HR.out) 2
                go_wp2_with fail
                have hZ : B + 3 ≤ wr.heap.size := hszr
                have hgz := Hgoal.out
                refine bodyPost_ret (v := .agg #[.int .i64 3, .int .i64 0, .slice (some ⟨wr.heap.size, 0, none⟩) 1 1]) ?_ rfl ⟨_, rfl, ?_, ?_⟩
                · simp [results, Try.results32, go_sem, h0, h1, h2]
                · rw [hgz]
                  refine TV.one0 3 0 ?_ (by have := hbw.size; omega)
                  refine (Below.heap_setCell _ _ _ _ (by show wr.heap.size ≠ B + 1; omega)).trans ?_
                  refine (Below.heap_setCell _ _ _ _ (by show wr.heap.size ≠ B + 1; omega)).trans ?_
                  refine (Below.heap_setCell _ _ _ _ (by show wr.heap.size ≠ B + 1; omega)).trans ?_
                  refine (Below.heap_setCell _ _ _ _ (by show wr.heap.size ≠ B + 2; omega)).trans ?_
                  exact alloc_at rfl
                · rw [← HB.out]
                  exact ((((hbw.alloc (by omega) _).setCell (show B ≤ B + 2 by omega) _).setCell (show B ≤ B + 1 by omega) _).setCell (show B ≤ B + 1 by omega) _).setCell (show B ≤ B + 1 by omega) _
          · obtain ⟨dp, rfl⟩ : ∃ dp, d = dp + 1 := ⟨d - 1, by omega⟩
            rw [show ((dp + 1 : Nat) : Int) = (dp : Int) + 1 from rfl]
            have Hgoal := Lib.hid (show fitE 3 (fitL (alOf ds) ds.length fr (dp + 1) 3 ts) = (ts.take 1).map (fitT (alOf ds) ds.length fr dp) by rw [fitL_grow _ _ _ _ _ _ (by omega), if_pos rfl]; unfold fitE; rw [if_neg]; rintro ⟨_, h⟩; have h := congrArg List.length h; rw [List.length_map, List.length_take] at h; simp only [List.length_nil] at h; omega)
            go_wp2_with fail
            go_loopw [67] (TLoop w B (B + 2) (B + 3) (B + 1) 45 (.int .i64 3) (.int .i64 0) (fitT (alOf ds) ds.length fr dp) ts 1) (fun i _ => 1 - (intOf i).toNat)
            case atStart => unfold TLoop; exact ⟨0, _, [], Nat.zero_le _, rfl, hout, Kids.nil _ _ _, hbel2, hb12, hsz2⟩
            case round =>
              obtain ⟨k, sv, qs, hk, rfl, hO, hkids, hbw, hR, hszr⟩ := hrel
              have HO := Lib.hid hO; clear hO
              have HR := Lib.hid hR; clear hR
              have hlen : ((ts.take k).map (fitT (alOf ds) ds.length fr dp)).length = k := by rw [List.length_map, List.length_take]; omega
              have hown : wr.ownsRow (B + 3) 45 3 sv k (flat3 qs) := by have := hkids.own; rwa [hlen] at this
              have Hkids := Lib.hid hkids; clear hkids
              have Hown := Lib.hid hown
              have Hlen := Lib.hid hlen; clear hlen
              obtain ⟨asv, csv, hsv, _, _, _⟩ := own_slice hown
              subst hsv
              clear hown
              have hbw' : Below w.heap.size w wr := by rw [← HB.out]; exact hbw
              by_cases hlt : k < 1
              · have hkp : k < ps.length := by rw [Htv.out.1]; omega
                have hkt : k < ts.length := by rw [← Htv.out.1]; exact hkp
                have e1 : ps[k]? = some ps[k] := List.getElem?_eq_getElem hkp
                have e2 : ts[k]? = some ts[k] := List.getElem?_eq_getElem hkt
                have hte := (Htv.out.2 k _ _ e1 e2).ext hbw'
                have hmem := List.getElem_mem hkt
                have htake : (ts.take (k + 1)).map (fitT (alOf ds) ds.length fr dp) = (ts.take k).map (fitT (alOf ds) ds.length fr dp) ++ [(fitT (alOf ds) ds.length fr dp) ts[k]] := by rw [List.take_succ_eq_append_getElem hkt, List.map_append]; rfl
                obtain ⟨b, o, rfl, x0, x1, x2⟩ := row3 (Hrow.out.ext hbw') e1
                obtain ⟨ke, ne, ae, ce, tse, pse, hpe, hte2, _⟩ := hte.form3
                rw [hpe] at x0 x1 x2 hte
                generalize ts[k] = te at hte hmem htake
                have Hte := Lib.hid hte; clear hte hte2 hpe e1 e2
                have Hmem := Lib.hid hmem; clear hmem
                have Htake := Lib.hid htake; clear htake
                have cO : wr.cell? ⟨B + 2, 2, none⟩ = some (.slice asv k csv) := cell_of HO.out 2
                have hA := fun (o : Obj) => cell_later ((Below.refl wr.heap.size wr).alloc (Nat.le_refl _) o) cO
                have cK : wr.cell? ⟨B + 2, 0, none⟩ = some (.int .i64 3) := cell_of HO.out 0
                have hAK := fun (o : Obj) => cell_later ((Below.refl wr.heap.size wr).alloc (Nat.le_refl _) o) cK
                have hdw : IntKind.i64.wrap (dp : Int) = (dp : Int) := IntWalk.i64_in _ (by have := Hd.out; omega)
                go_wp2_with fail
                obtain ⟨E, hE⟩ : ∃ E, E = wr.heap.size := ⟨_, rfl⟩
                obtain ⟨wA, hwA⟩ : ∃ wA, wA = wr.alloc (.cells #[.int .i64 ke, .int .i64 ne, .slice ae tse.length ce] 45) := ⟨_, rfl⟩
                have hEb : wA.heap[E]? = some (.cells #[.int .i64 ke, .int .i64 ne, .slice ae tse.length ce] 45 (0, 0)) := by rw [hwA, hE]; exact alloc_at rfl
                have hbA : Below wr.heap.size wr wA := by rw [hwA]; exact (Below.refl _ _).alloc (Nat.le_refl _) _
                have hszA : E + 1 = wA.heap.size := by rw [hwA, hE]; simp
                rw [← hwA, ← hE]
                have cOA := cell_later hbA cO
                have x3 : wA.cell? ⟨E, 0, none⟩ = some (.int .i64 ke) := cell_of hEb 0
                have x4 : wA.cell? ⟨E, 1, none⟩ = some (.int .i64 ne) := cell_of hEb 1
                have x5 : wA.cell? ⟨E, 2, none⟩ = some (.slice ae tse.length ce) := cell_of hEb 2
                have HteA := Lib.hid ((Hte.out.ext hbA).ext (show Below wA.heap.size wA wA.drew from (Below.refl _ _).drew))
                have HownA := Lib.hid ((own_ext Hown.out hbA).drew)
                have HcOA : Hid (wA.drew.cell? ⟨B + 2, 2, none⟩ = some (.slice asv k csv)) := Lib.hid cOA
                have hk30 : k ≤ 9223372036854775806 := by omega
                have hszB : B + 3 ≤ wA.heap.size := by have := hbA.size; omega
                have HOA := Lib.hid (below_ext hbA HO.out)
                have HbA := Lib.hid hbA
                have HszA := Lib.hid hszA
                have HEw := Lib.hid hE
                clear hA hEb hwA hE cO x0 x1 x2 hbA hszA
                clear hAK cK
                go_region_law (first
                  | (go_simp; refine (Ih.out te Hmem.out dp _ rfl (by have := Hd.out; omega) wA.drew _ (.agg #[.int .i64 ke, .int .i64 ne, .slice ae tse.length ce]) ((Hdv.out.ext hbw').ext HbA.out.drew) HteA.out).mono ?_; rintro e w2 ⟨v', rfl, htv2, hb2⟩; obtain ⟨k2, n2, a2, cap2, ts2, ps2, rfl, _⟩ := htv2.form; have cO2 := cell_later hb2 HcOA.out; have cO2a := fun (o : Obj) => cell_later ((Below.refl w2.heap.size w2).alloc (Nat.le_refl _) o) cO2; have own2 := own_ext HownA.out hb2; have hs2 : wA.heap.size ≤ w2.heap.size := hb2.size; have HO2 := Lib.hid (below_ext hb2 (show wA.drew.heap[B + 2]? = _ from HOA.out)))
                  | (refine step_app w2 rfl (.tmp 79) (.tmp 86) 43 rfl (B + 3) 45 (.agg #[.int .i64 0, .int .i64 0, .slice none 0 0]) 3 40 Try.underlying43 Try.info45 rfl (by decide) (.slice asv k csv) k (flat3 qs) [.int .i64 k2, .int .i64 n2, .slice a2 ts2.length cap2] w2.heap.size rfl rfl rfl own2 rfl (by simp [Value.oneCell']) (by simp only [maxLen]; omega) (by omega) (by omega) ?_; intro sv' wB g1 g2 g3 g4; obtain ⟨asv', csv', rfl, _, _, _⟩ := own_slice g1; have HO3 := Lib.hid (low_grown own2 g3 (by omega) HO2.out); have cO3 := cell_of HO3.out 2; have fO3 := free_of HO3.out 2))
                all_goals
                  clear hdw
                  have HO4 := Lib.hid (setCell_heap (i := 2) HO3.out (.slice asv' (k + 1) csv'))
                  have hlow : Below B wr (wB.setCell ⟨B + 2, 2, none⟩ (.slice asv' (k + 1) csv')) := by
                    refine Below.setCell ?_ (show B ≤ B + 2 by omega) _
                    refine Below.trans (Below.trans ((HbA.out.mono (by omega)).drew) (hb2.mono (by show B ≤ wA.heap.size; omega))) ((below_low own2 g3 (by omega)).mono (by omega))
                  have Hlow := Lib.hid hlow
                  have Hk5 := Lib.hid (Kids.low (Kids.snoc (q := (.int .i64 k2, .int .i64 n2, .slice a2 ts2.length cap2)) (Hkids.out.ext (HbA.out.drew)) (show B + 3 ≤ wA.drew.heap.size from hszB) hb2 htv2 (by rw [Hlen.out]; exact g1) g3 g4) (a := ⟨B + 2, 2, none⟩) (by show B + 2 < B + 3; omega) (.slice asv' (k + 1) csv'))
                  have HR5 := Lib.hid ((Below.heap_setCell wB ⟨B + 2, 2, none⟩ (.slice asv' (k + 1) csv') (B + 1) (by show B + 1 ≠ B + 2; omega)).trans (low_grown own2 g3 (by omega) (below_ext hb2 (below_ext HbA.out.drew HR.out))))
                  have hs5 : w2.heap.size ≤ wB.heap.size := g3.size
                  have hs6 : (wB.setCell ⟨B + 2, 2, none⟩ (.slice asv' (k + 1) csv')).heap.size = wB.heap.size := by simp [World.setCell]
                  clear hlow
                  go_wp2_with fail
                  go_roundw
                  case rel =>
                    unfold TLoop
                    refine ⟨k + 1, .slice asv' (k + 1) csv', qs ++ [(.int .i64 k2, .int .i64 n2, .slice a2 ts2.length cap2)], by omega, by go_num, by simpa using HO4.out, ?_, hbw.trans Hlow.out, HR5.out, by omega⟩
                    rw [Htake.out]
                    exact Hk5.out
                  case measure => simp [intOf]; omega
              · have hke : k = 1 := by omega
                subst hke
                have d0 : wr.cell? ⟨B + 2, 0, none⟩ = some (.int .i64 3) := cell_of HO.out 0
                have d1 : wr.cell? ⟨B + 2, 1, none⟩ = some (.int .i64 0) := cell_of HO.out 1
                have d2 : wr.cell? ⟨B + 2, 2, none⟩ = some (.slice asv 1 csv) := cell_of HO.out 2
                have f0 : wr.cell? ⟨B + 1, 0, none⟩ = some (.int .i64 0) := cell_of HR.out 0
                have f1 : wr.cell? ⟨B + 1, 1, none⟩ = some (.int .i64 0) := cell_of HR.out 1
                have f2 : wr.cell? ⟨B + 1, 2, none⟩ = some (.slice none 0 0) := cell_of HR.out 2
                have e0 := free_of HR.out 0
                have e1 := free_of HR.out 1
                have e2 := free_of HR.out 2
                go_wp2_with fail
                have hk9 := Hkids.out
                have hk10 := ((((hk9.low (a := ⟨B + 1, 0, none⟩) (by show B + 1 < B + 3; omega) (.int .i64 3)).low (a := ⟨B + 1, 1, none⟩) (by show B + 1 < B + 3; omega) (.int .i64 0)).low (a := ⟨B + 1, 2, none⟩) (by show B + 1 < B + 3; omega) (.slice asv 1 csv)).tree 3 0).mono (S' := fun b => w.heap.size ≤ b) fun b hb _ => by have := HB.out; omega
                refine bodyPost_ret (v := .agg #[.int .i64 3, .int .i64 0, .slice asv 1 csv]) ?_ rfl ⟨_, rfl, ?_, ?_⟩
                · simp [results, Try.results32, go_sem, f0, f1, f2]
                · first | exact hk10 | (rw [Hgoal.out]; exact hk10)
                · rw [← HB.out]
                  exact ((hbw.setCell (show B ≤ B + 1 by omega) _).setCell (show B ≤ B + 1 by omega) _).setCell (show B ≤ B + 1 by omega) _
        ·
          rcases (show d = 0 ∨ 0 < d by omega) with hd0 | hd0
          · subst hd0
            have Hgoal := Lib.hid (show fitE 3 (fitL (alOf ds) ds.length fr 0 3 ts) = [.mk 0 0 []] by rw [fitL_no _ _ _ _ _ _ (Or.inl rfl)]; simp [fitE])
            go_wp2_with fail
            go_loopw [67] (NLoop w B (B + 2) (B + 3) (B + 1) (.int .i64 3) (.int .i64 0) (ts.length)) (fun i _ => ts.length - (intOf i).toNat)
            case atStart => unfold NLoop; exact ⟨0, Nat.zero_le _, rfl, hout, hbel2, hb12, hsz2⟩
            case round =>
              obtain ⟨k, hk, rfl, hO, hbw, hR, hszr⟩ := hrel
              have HO := Lib.hid hO; clear hO
              have HR := Lib.hid hR; clear hR
              have hbw' : Below w.heap.size w wr := by rw [← HB.out]; exact hbw
              by_cases hlt : k < ts.length
              · have hkt : k < ts.length := by omega
                have hkp : k < ps.length := by rw [Htv.out.1]; exact hkt
                have e1 : ps[k]? = some ps[k] := List.getElem?_eq_getElem hkp
                have e2 : ts[k]? = some ts[k] := List.getElem?_eq_getElem hkt
                have hte := (Htv.out.2 k _ _ e1 e2).ext hbw'
                obtain ⟨b, o, rfl, x0, x1, x2⟩ := row3 (Hrow.out.ext hbw') e1
                obtain ⟨ke, ne, ae, ce, tse, pse, hpe, hte2, _⟩ := hte.form3
                rw [hpe] at x0 x1 x2
                clear hte hte2 hpe e1 e2
                have cO : wr.cell? ⟨B + 2, 0, none⟩ = some (.int .i64 3) := cell_of HO.out 0
                have hA := fun (o : Obj) => cell_later ((Below.refl wr.heap.size wr).alloc (Nat.le_refl _) o) cO
                have hbA : ∀ o : Obj, Below wr.heap.size wr (wr.alloc o) := fun o => (Below.refl _ _).alloc (Nat.le_refl _) _
                have HbA := Lib.hid hbA; clear hbA
                go_wp2_with fail
                all_goals
                  go_roundw
                  case rel =>
                    unfold NLoop
                    refine ⟨k + 1, by omega, by go_num, below_ext (HbA.out _) HO.out, hbw.trans ((HbA.out _).mono (by omega)), below_ext (HbA.out _) HR.out, ?_⟩
                    have := (HbA.out (.cells #[.int .i64 ke, .int .i64 ne, .slice ae tse.length ce] 45)).size
                    omega
                  case measure => simp [intOf]; omega
              · have hke : k = ts.length := by omega
                subst hke
                have d0 : wr.cell? ⟨B + 2, 0, none⟩ = some (.int .i64 3) := cell_of HO.out 0
                have d1 : wr.cell? ⟨B + 2, 1, none⟩ = some (.int .i64 0) := cell_of HO.out 1
                have d2 : wr.cell? ⟨B + 2, 2, none⟩ = some (.slice none 0 0) := cell_of HO.out 2
                have f0 : wr.cell? ⟨B + 1, 0, none⟩ = some (.int .i64 0) := cell_of HR.out 0
                have f1 : wr.cell? ⟨B + 1, 1, none⟩ = some (.int .i64 0) := cell_of HR.out 1
                have f2 : wr.cell? ⟨B + 1, 2, none⟩ = some (.slice none 0 0) := cell_of HR.out 2
                have e0 := free_of HR.out 0
                have e1 := free_of HR.out 1
                have e2 := free_of HR.out 2
                have d2a := fun (o : Obj) => cell_later ((Below.refl wr.heap.size wr).alloc (Nat.le_refl _) o) d2
                have HbA := Lib.hid (fun (o : Obj) => (Below.refl wr.heap.size wr).alloc (Nat.le_refl _) o)
                have g2 := fun (o : Obj) => free_of (below_ext (HbA.out o) HO.out) 2
                have g0 := fun (o : Obj) => cell_of (below_ext (HbA.out o) HO.out) 0
                have g1 := fun (o : Obj) => cell_of (below_ext (HbA.out o) HO.out) 1
                have h0 := fun (o : Obj) => cell_of (below_ext (HbA.out o) HR.out) 0
                have h1 := fun (o : Obj) => cell_of (below_ext (HbA.out o) HR.out) 1
                have h2 := fun (o : Obj) => cell_of (below_ext (HbA.out o) HR.out) 2
                have i0 := fun (o : Obj) => free_of (below_ext (HbA.out o) HR.out) 0
                have i1 := fun (o : Obj) => free_of (below_ext (HbA.out o) HR.out) 1
                have i2 := fun (o : Obj) => free_of (below_ext (HbA.out o) HR.out) 2
                go_wp2_with fail
                have hZ : B + 3 ≤ wr.heap.size := hszr
                have hgz := Hgoal.out
                refine bodyPost_ret (v := .agg #[.int .i64 3, .int .i64 0, .slice (some ⟨wr.heap.size, 0, none⟩) 1 1]) ?_ rfl ⟨_, rfl, ?_, ?_⟩
                · simp [results, Try.results32, go_sem, h0, h1, h2]
                · rw [hgz]
                  refine TV.one0 3 0 ?_ (by have := hbw.size; omega)
                  refine (Below.heap_setCell _ _ _ _ (by show wr.heap.size ≠ B + 1; omega)).trans ?_
                  refine (Below.heap_setCell _ _ _ _ (by show wr.heap.size ≠ B + 1; omega)).trans ?_
                  refine (Below.heap_setCell _ _ _ _ (by show wr.heap.size ≠ B + 1; omega)).trans ?_
                  refine (Below.heap_setCell _ _ _ _ (by show wr.heap.size ≠ B + 2; omega)).trans ?_
                  exact alloc_at rfl
                · rw [← HB.out]
                  exact ((((hbw.alloc (by omega) _).setCell (show B ≤ B + 2 by omega) _).setCell (show B ≤ B + 1 by omega) _).setCell (show B ≤ B + 1 by omega) _).setCell (show B ≤ B + 1 by omega) _
          · obtain ⟨dp, rfl⟩ : ∃ dp, d = dp + 1 := ⟨d - 1, by omega⟩
            rw [show ((dp + 1 : Nat) : Int) = (dp : Int) + 1 from rfl]
            by_cases hz : ts.length = 0
            · have hz2 : ts = [] := List.eq_nil_of_length_eq_zero hz
              have Hgoal := Lib.hid (show fitE 3 (fitL (alOf ds) ds.length fr (dp + 1) 3 ts) = [.mk 0 0 []] by rw [fitL_grow _ _ _ _ _ _ (by omega), hz2]; simp [fitE])
              clear hz2
              go_wp2_with fail
              go_loopw [67] (NLoop w B (B + 2) (B + 3) (B + 1) (.int .i64 3) (.int .i64 0) (ts.length)) (fun i _ => ts.length - (intOf i).toNat)
              case atStart => unfold NLoop; exact ⟨0, Nat.zero_le _, rfl, hout, hbel2, hb12, hsz2⟩
              case round =>
                obtain ⟨k, hk, rfl, hO, hbw, hR, hszr⟩ := hrel
                have HO := Lib.hid hO; clear hO
                have HR := Lib.hid hR; clear hR
                have hbw' : Below w.heap.size w wr := by rw [← HB.out]; exact hbw
                by_cases hlt : k < ts.length
                · exact absurd hlt (by omega)
                · have hke : k = ts.length := by omega
                  subst hke
                  have d0 : wr.cell? ⟨B + 2, 0, none⟩ = some (.int .i64 3) := cell_of HO.out 0
                  have d1 : wr.cell? ⟨B + 2, 1, none⟩ = some (.int .i64 0) := cell_of HO.out 1
                  have d2 : wr.cell? ⟨B + 2, 2, none⟩ = some (.slice none 0 0) := cell_of HO.out 2
                  have f0 : wr.cell? ⟨B + 1, 0, none⟩ = some (.int .i64 0) := cell_of HR.out 0
                  have f1 : wr.cell? ⟨B + 1, 1, none⟩ = some (.int .i64 0) := cell_of HR.out 1
                  have f2 : wr.cell? ⟨B + 1, 2, none⟩ = some (.slice none 0 0) := cell_of HR.out 2
                  have e0 := free_of HR.out 0
                  have e1 := free_of HR.out 1
                  have e2 := free_of HR.out 2
                  have d2a := fun (o : Obj) => cell_later ((Below.refl wr.heap.size wr).alloc (Nat.le_refl _) o) d2
                  have HbA := Lib.hid (fun (o : Obj) => (Below.refl wr.heap.size wr).alloc (Nat.le_refl _) o)
                  have g2 := fun (o : Obj) => free_of (below_ext (HbA.out o) HO.out) 2
                  have g0 := fun (o : Obj) => cell_of (below_ext (HbA.out o) HO.out) 0
                  have g1 := fun (o : Obj) => cell_of (below_ext (HbA.out o) HO.out) 1
                  have h0 := fun (o : Obj) => cell_of (below_ext (HbA.out o) HR.out) 0
                  have h1 := fun (o : Obj) => cell_of (below_ext (HbA.out o) HR.out) 1
                  have h2 := fun (o : Obj) => cell_of (below_ext (HbA.out o) HR.out) 2
                  have i0 := fun (o : Obj) => free_of (below_ext (HbA.out o) HR.out) 0
                  have i1 := fun (o : Obj) => free_of (below_ext (HbA.out o) HR.out) 1
                  have i2 := fun (o : Obj) => free_of (below_ext (HbA.out o) HR.out) 2
                  go_wp2_with fail
                  have hZ : B + 3 ≤ wr.heap.size := hszr
                  have hgz := Hgoal.out
                  refine bodyPost_ret (v := .agg #[.int .i64 3, .int .i64 0, .slice (some ⟨wr.heap.size, 0, none⟩) 1 1]) ?_ rfl ⟨_, rfl, ?_, ?_⟩
                  · simp [results, Try.results32, go_sem, h0, h1, h2]
                  · rw [hgz]
                    refine TV.one0 3 0 ?_ (by have := hbw.size; omega)
                    refine (Below.heap_setCell _ _ _ _ (by show wr.heap.size ≠ B + 1; omega)).trans ?_
                    refine (Below.heap_setCell _ _ _ _ (by show wr.heap.size ≠ B + 1; omega)).trans ?_
                    refine (Below.heap_setCell _ _ _ _ (by show wr.heap.size ≠ B + 1; omega)).trans ?_
                    refine (Below.heap_setCell _ _ _ _ (by show wr.heap.size ≠ B + 2; omega)).trans ?_
                    exact alloc_at rfl
                  · rw [← HB.out]
                    exact ((((hbw.alloc (by omega) _).setCell (show B ≤ B + 2 by omega) _).setCell (show B ≤ B + 1 by omega) _).setCell (show B ≤ B + 1 by omega) _).setCell (show B ≤ B + 1 by omega) _
            · have Hgoal := Lib.hid (show fitE 3 (fitL (alOf ds) ds.length fr (dp + 1) 3 ts) = (ts.take ts.length).map (fitT (alOf ds) ds.length fr dp) by rw [fitL_grow _ _ _ _ _ _ (by omega), if_pos rfl, List.take_of_length_le (show ts.length ≤ 1 by omega), List.take_of_length_le (Nat.le_refl _)]; unfold fitE; rw [if_neg]; rintro ⟨_, h⟩; exact hz (by simpa using h))
              go_wp2_with fail
              go_loopw [67] (TLoop w B (B + 2) (B + 3) (B + 1) 45 (.int .i64 3) (.int .i64 0) (fitT (alOf ds) ds.length fr dp) ts ts.length) (fun i _ => ts.length - (intOf i).toNat)
              case atStart => unfold TLoop; exact ⟨0, _, [], Nat.zero_le _, rfl, hout, Kids.nil _ _ _, hbel2, hb12, hsz2⟩
              case round =>
                obtain ⟨k, sv, qs, hk, rfl, hO, hkids, hbw, hR, hszr⟩ := hrel
                have HO := Lib.hid hO; clear hO
                have HR := Lib.hid hR; clear hR
                have hlen : ((ts.take k).map (fitT (alOf ds) ds.length fr dp)).length = k := by rw [List.length_map, List.length_take]; omega
                have hown : wr.ownsRow (B + 3) 45 3 sv k (flat3 qs) := by have := hkids.own; rwa [hlen] at this
                have Hkids := Lib.hid hkids; clear hkids
                have Hown := Lib.hid hown
                have Hlen := Lib.hid hlen; clear hlen
                obtain ⟨asv, csv, hsv, _, _, _⟩ := own_slice hown
                subst hsv
                clear hown
                have hbw' : Below w.heap.size w wr := by rw [← HB.out]; exact hbw
                by_cases hlt : k < ts.length
                · have hkp : k < ps.length := by rw [Htv.out.1]; exact hlt
                  have hkt : k < ts.length := by rw [← Htv.out.1]; exact hkp
                  have e1 : ps[k]? = some ps[k] := List.getElem?_eq_getElem hkp
                  have e2 : ts[k]? = some ts[k] := List.getElem?_eq_getElem hkt
                  have hte := (Htv.out.2 k _ _ e1 e2).ext hbw'
                  have hmem := List.getElem_mem hkt
                  have htake : (ts.take (k + 1)).map (fitT (alOf ds) ds.length fr dp) = (ts.take k).map (fitT (alOf ds) ds.length fr dp) ++ [(fitT (alOf ds) ds.length fr dp) ts[k]] := by rw [List.take_succ_eq_append_getElem hkt, List.map_append]; rfl
                  obtain ⟨b, o, rfl, x0, x1, x2⟩ := row3 (Hrow.out.ext hbw') e1
                  obtain ⟨ke, ne, ae, ce, tse, pse, hpe, hte2, _⟩ := hte.form3
                  rw [hpe] at x0 x1 x2 hte
                  generalize ts[k] = te at hte hmem htake
                  have Hte := Lib.hid hte; clear hte hte2 hpe e1 e2
                  have Hmem := Lib.hid hmem; clear hmem
                  have Htake := Lib.hid htake; clear htake
                  have cO : wr.cell? ⟨B + 2, 2, none⟩ = some (.slice asv k csv) := cell_of HO.out 2
                  have hA := fun (o : Obj) => cell_later ((Below.refl wr.heap.size wr).alloc (Nat.le_refl _) o) cO
                  have cK : wr.cell? ⟨B + 2, 0, none⟩ = some (.int .i64 3) := cell_of HO.out 0
                  have hAK := fun (o : Obj) => cell_later ((Below.refl wr.heap.size wr).alloc (Nat.le_refl _) o) cK
                  have hdw : IntKind.i64.wrap (dp : Int) = (dp : Int) := IntWalk.i64_in _ (by have := Hd.out; omega)
                  go_wp2_with fail
                  obtain ⟨E, hE⟩ : ∃ E, E = wr.heap.size := ⟨_, rfl⟩
                  obtain ⟨wA, hwA⟩ : ∃ wA, wA = wr.alloc (.cells #[.int .i64 ke, .int .i64 ne, .slice ae tse.length ce] 45) := ⟨_, rfl⟩
                  have hEb : wA.heap[E]? = some (.cells #[.int .i64 ke, .int .i64 ne, .slice ae tse.length ce] 45 (0, 0)) := by rw [hwA, hE]; exact alloc_at rfl
                  have hbA : Below wr.heap.size wr wA := by rw [hwA]; exact (Below.refl _ _).alloc (Nat.le_refl _) _
                  have hszA : E + 1 = wA.heap.size := by rw [hwA, hE]; simp
                  rw [← hwA, ← hE]
                  have cOA := cell_later hbA cO
                  have x3 : wA.cell? ⟨E, 0, none⟩ = some (.int .i64 ke) := cell_of hEb 0
                  have x4 : wA.cell? ⟨E, 1, none⟩ = some (.int .i64 ne) := cell_of hEb 1
                  have x5 : wA.cell? ⟨E, 2, none⟩ = some (.slice ae tse.length ce) := cell_of hEb 2
                  have HteA := Lib.hid ((Hte.out.ext hbA).ext (show Below wA.heap.size wA wA.drew from (Below.refl _ _).drew))
                  have HownA := Lib.hid ((own_ext Hown.out hbA).drew)
                  have HcOA : Hid (wA.drew.cell? ⟨B + 2, 2, none⟩ = some (.slice asv k csv)) := Lib.hid cOA
                  have hk30 : k ≤ 9223372036854775806 := by omega
                  have hszB : B + 3 ≤ wA.heap.size := by have := hbA.size; omega
                  have HOA := Lib.hid (below_ext hbA HO.out)
                  have HbA := Lib.hid hbA
                  have HszA := Lib.hid hszA
                  have HEw := Lib.hid hE
                  clear hA hEb hwA hE cO x0 x1 x2 hbA hszA
                  clear hAK cK
                  go_region_law (first
                    | (go_simp; refine (Ih.out te Hmem.out dp _ rfl (by have := Hd.out; omega) wA.drew _ (.agg #[.int .i64 ke, .int .i64 ne, .slice ae tse.length ce]) ((Hdv.out.ext hbw').ext HbA.out.drew) HteA.out).mono ?_; rintro e w2 ⟨v', rfl, htv2, hb2⟩; obtain ⟨k2, n2, a2, cap2, ts2, ps2, rfl, _⟩ := htv2.form; have cO2 := cell_later hb2 HcOA.out; have cO2a := fun (o : Obj) => cell_later ((Below.refl w2.heap.size w2).alloc (Nat.le_refl _) o) cO2; have own2 := own_ext HownA.out hb2; have hs2 : wA.heap.size ≤ w2.heap.size := hb2.size; have HO2 := Lib.hid (below_ext hb2 (show wA.drew.heap[B + 2]? = _ from HOA.out)))
                    | (refine step_app w2 rfl (.tmp 79) (.tmp 86) 43 rfl (B + 3) 45 (.agg #[.int .i64 0, .int .i64 0, .slice none 0 0]) 3 40 Try.underlying43 Try.info45 rfl (by decide) (.slice asv k csv) k (flat3 qs) [.int .i64 k2, .int .i64 n2, .slice a2 ts2.length cap2] w2.heap.size rfl rfl rfl own2 rfl (by simp [Value.oneCell']) (by simp only [maxLen]; omega) (by omega) (by omega) ?_; intro sv' wB g1 g2 g3 g4; obtain ⟨asv', csv', rfl, _, _, _⟩ := own_slice g1; have HO3 := Lib.hid (low_grown own2 g3 (by omega) HO2.out); have cO3 := cell_of HO3.out 2; have fO3 := free_of HO3.out 2))
                  all_goals
                    clear hdw
                    have HO4 := Lib.hid (setCell_heap (i := 2) HO3.out (.slice asv' (k + 1) csv'))
                    have hlow : Below B wr (wB.setCell ⟨B + 2, 2, none⟩ (.slice asv' (k + 1) csv')) := by
                      refine Below.setCell ?_ (show B ≤ B + 2 by omega) _
                      refine Below.trans (Below.trans ((HbA.out.mono (by omega)).drew) (hb2.mono (by show B ≤ wA.heap.size; omega))) ((below_low own2 g3 (by omega)).mono (by omega))
                    have Hlow := Lib.hid hlow
                    have Hk5 := Lib.hid (Kids.low (Kids.snoc (q := (.int .i64 k2, .int .i64 n2, .slice a2 ts2.length cap2)) (Hkids.out.ext (HbA.out.drew)) (show B + 3 ≤ wA.drew.heap.size from hszB) hb2 htv2 (by rw [Hlen.out]; exact g1) g3 g4) (a := ⟨B + 2, 2, none⟩) (by show B + 2 < B + 3; omega) (.slice asv' (k + 1) csv'))
                    have HR5 := Lib.hid ((Below.heap_setCell wB ⟨B + 2, 2, none⟩ (.slice asv' (k + 1) csv') (B + 1) (by show B + 1 ≠ B + 2; omega)).trans (low_grown own2 g3 (by omega) (below_ext hb2 (below_ext HbA.out.drew HR.out))))
                    have hs5 : w2.heap.size ≤ wB.heap.size := g3.size
                    have hs6 : (wB.setCell ⟨B + 2, 2, none⟩ (.slice asv' (k + 1) csv')).heap.size = wB.heap.size := by simp [World.setCell]
                    clear hlow
                    go_wp2_with fail
                    go_roundw
                    case rel =>
                      unfold TLoop
                      refine ⟨k + 1, .slice asv' (k + 1) csv', qs ++ [(.int .i64 k2, .int .i64 n2, .slice a2 ts2.length cap2)], by omega, by go_num, by simpa using HO4.out, ?_, hbw.trans Hlow.out, HR5.out, by omega⟩
                      rw [Htake.out]
                      exact Hk5.out
                    case measure => simp [intOf]; omega
                · have hke : k = ts.length := by omega
                  subst hke
                  have d0 : wr.cell? ⟨B + 2, 0, none⟩ = some (.int .i64 3) := cell_of HO.out 0
                  have d1 : wr.cell? ⟨B + 2, 1, none⟩ = some (.int .i64 0) := cell_of HO.out 1
                  have d2 : wr.cell? ⟨B + 2, 2, none⟩ = some (.slice asv ts.length csv) := cell_of HO.out 2
                  have f0 : wr.cell? ⟨B + 1, 0, none⟩ = some (.int .i64 0) := cell_of HR.out 0
                  have f1 : wr.cell? ⟨B + 1, 1, none⟩ = some (.int .i64 0) := cell_of HR.out 1
                  have f2 : wr.cell? ⟨B + 1, 2, none⟩ = some (.slice none 0 0) := cell_of HR.out 2
                  have e0 := free_of HR.out 0
                  have e1 := free_of HR.out 1
                  have e2 := free_of HR.out 2
                  go_wp2_with fail
                  have hk9 := Hkids.out
                  have hk10 := ((((hk9.low (a := ⟨B + 1, 0, none⟩) (by show B + 1 < B + 3; omega) (.int .i64 3)).low (a := ⟨B + 1, 1, none⟩) (by show B + 1 < B + 3; omega) (.int .i64 0)).low (a := ⟨B + 1, 2, none⟩) (by show B + 1 < B + 3; omega) (.slice asv ts.length csv)).tree 3 0).mono (S' := fun b => w.heap.size ≤ b) fun b hb _ => by have := HB.out; omega
                  refine bodyPost_ret (v := .agg #[.int .i64 3, .int .i64 0, .slice asv ts.length csv]) ?_ rfl ⟨_, rfl, ?_, ?_⟩
                  · simp [results, Try.results32, go_sem, f0, f1, f2]
                  · first | exact hk10 | (rw [Hgoal.out]; exact hk10)
                  · rw [← HB.out]
                    exact ((hbw.setCell (show B ≤ B + 1 by omega) _).setCell (show B ≤ B + 1 by omega) _).setCell (show B ≤ B + 1 by omega) _
      · go_wp2_with fail
        all_goals
          generalize hW : World.alloc (World.alloc (World.alloc w _) _) _ = W2
          have hk := Key.out W2 hW.symm
          clear hW
          rw [← HB.out]
          simp only [Nat.add_assoc, Nat.reduceAdd]
          obtain ⟨hout, hbel2, hb12, hsz2, c2⟩ := hk
        ·
          rcases (show (d = 0 ∨ kk = 0) ∨ (0 < d ∧ ¬ kk = 0) by omega) with hd0 | hd0
          · have Hgoal := Lib.hid (show fitE kk (fitL (alOf ds) ds.length fr d kk ts) = [] by rw [fitL_no _ _ _ _ _ _ hd0]; simp [fitE, h3])
            rcases hd0 with hd0 | hd0
            · have Hd0 := Lib.hid hd0
              subst hd0
              go_wp2_with fail
              go_loopw [67] (NLoop w B (B + 2) (B + 3) (B + 1) (.int .i64 kk) (.int .i64 0) (3)) (fun i _ => 3 - (intOf i).toNat)
              case atStart => unfold NLoop; exact ⟨0, Nat.zero_le _, rfl, hout, hbel2, hb12, hsz2⟩
              case round =>
                obtain ⟨k, hk, rfl, hO, hbw, hR, hszr⟩ := hrel
                have HO := Lib.hid hO; clear hO
                have HR := Lib.hid hR; clear hR
                have hbw' : Below w.heap.size w wr := by rw [← HB.out]; exact hbw
                by_cases hlt : k < 3
                · have hkt : k < ts.length := by omega
                  have hkp : k < ps.length := by rw [Htv.out.1]; exact hkt
                  have e1 : ps[k]? = some ps[k] := List.getElem?_eq_getElem hkp
                  have e2 : ts[k]? = some ts[k] := List.getElem?_eq_getElem hkt
                  have hte := (Htv.out.2 k _ _ e1 e2).ext hbw'
                  obtain ⟨b, o, rfl, x0, x1, x2⟩ := row3 (Hrow.out.ext hbw') e1
                  obtain ⟨ke, ne, ae, ce, tse, pse, hpe, hte2, _⟩ := hte.form3
                  rw [hpe] at x0 x1 x2
                  clear hte hte2 hpe e1 e2
                  have cO : wr.cell? ⟨B + 2, 0, none⟩ = some (.int .i64 kk) := cell_of HO.out 0
                  have hA := fun (o : Obj) => cell_later ((Below.refl wr.heap.size wr).alloc (Nat.le_refl _) o) cO
                  have hbA : ∀ o : Obj, Below wr.heap.size wr (wr.alloc o) := fun o => (Below.refl _ _).alloc (Nat.le_refl _) _
                  have HbA := Lib.hid hbA; clear hbA
                  go_wp2_with fail
                  all_goals
                    go_roundw
                    case rel =>
                      unfold NLoop
                      refine ⟨k + 1, by omega, by go_num, below_ext (HbA.out _) HO.out, hbw.trans ((HbA.out _).mono (by omega)), below_ext (HbA.out _) HR.out, ?_⟩
                      have := (HbA.out (.cells #[.int .i64 ke, .int .i64 ne, .slice ae tse.length ce] 45)).size
                      omega
                    case measure => simp [intOf]; omega
                · have hke : k = 3 := by omega
                  subst hke
                  have d0 : wr.cell? ⟨B + 2, 0, none⟩ = some (.int .i64 kk) := cell_of HO.out 0
                  have d1 : wr.cell? ⟨B + 2, 1, none⟩ = some (.int .i64 0) := cell_of HO.out 1
                  have d2 : wr.cell? ⟨B + 2, 2, none⟩ = some (.slice none 0 0) := cell_of HO.out 2
                  have f0 : wr.cell? ⟨B + 1, 0, none⟩ = some (.int .i64 0) := cell_of HR.out 0
                  have f1 : wr.cell? ⟨B + 1, 1, none⟩ = some (.int .i64 0) := cell_of HR.out 1
                  have f2 : wr.cell? ⟨B + 1, 2, none⟩ = some (.slice none 0 0) := cell_of HR.out 2
                  have e0 := free_of HR.out 0
                  have e1 := free_of HR.out 1
                  have e2 := free_of HR.out 2
                  go_wp2_with fail
                  have hk9 := (Kids.nil wr (B + 3) 45)
                  have hk10 := ((((hk9.low (a := ⟨B + 1, 0, none⟩) (by show B + 1 < B + 3; omega) (.int .i64 kk)).low (a := ⟨B + 1, 1, none⟩) (by show B + 1 < B + 3; omega) (.int .i64 0)).low (a := ⟨B + 1, 2, none⟩) (by show B + 1 < B + 3; omega) (.slice none 0 0)).tree kk 0).mono (S' := fun b => w.heap.size ≤ b) fun b hb _ => by have := HB.out; omega
                  refine bodyPost_ret (v := .agg #[.int .i64 kk, .int .i64 0, .slice none 0 0]) ?_ rfl ⟨_, rfl, ?_, ?_⟩
                  · simp [results, Try.results32, go_sem, f0, f1, f2]
                  · first | exact hk10 | (rw [Hgoal.out]; exact hk10)
                  · rw [← HB.out]
                    exact ((hbw.setCell (show B ≤ B + 1 by omega) _).setCell (show B ≤ B + 1 by omega) _).setCell (show B ≤ B + 1 by omega) _
            · have Hd0 := Lib.hid hd0
              subst hd0
              go_wp2_with fail
              go_loopw [67] (NLoop w B (B + 2) (B + 3) (B + 1) (.int .i64 0) (.int .i64 0) (3)) (fun i _ => 3 - (intOf i).toNat)
              case atStart => unfold NLoop; exact ⟨0, Nat.zero_le _, rfl, hout, hbel2, hb12, hsz2⟩
              case round =>
                obtain ⟨k, hk, rfl, hO, hbw, hR, hszr⟩ := hrel
                have HO := Lib.hid hO; clear hO
                have HR := Lib.hid hR; clear hR
                have hbw' : Below w.heap.size w wr := by rw [← HB.out]; exact hbw
                by_cases hlt : k < 3
                · have hkt : k < ts.length := by omega
                  have hkp : k < ps.length := by rw [Htv.out.1]; exact hkt
                  have e1 : ps[k]? = some ps[k] := List.getElem?_eq_getElem hkp
                  have e2 : ts[k]? = some ts[k] := List.getElem?_eq_getElem hkt
                  have hte := (Htv.out.2 k _ _ e1 e2).ext hbw'
                  obtain ⟨b, o, rfl, x0, x1, x2⟩ := row3 (Hrow.out.ext hbw') e1
                  obtain ⟨ke, ne, ae, ce, tse, pse, hpe, hte2, _⟩ := hte.form3
                  rw [hpe] at x0 x1 x2
                  clear hte hte2 hpe e1 e2
                  have cO : wr.cell? ⟨B + 2, 0, none⟩ = some (.int .i64 0) := cell_of HO.out 0
                  have hA := fun (o : Obj) => cell_later ((Below.refl wr.heap.size wr).alloc (Nat.le_refl _) o) cO
                  have hbA : ∀ o : Obj, Below wr.heap.size wr (wr.alloc o) := fun o => (Below.refl _ _).alloc (Nat.le_refl _) _
                  have HbA := Lib.hid hbA; clear hbA
                  go_wp2_with fail
                  all_goals
                    go_roundw
                    case rel =>
                      unfold NLoop
                      refine ⟨k + 1, by omega, by go_num, below_ext (HbA.out _) HO.out, hbw.trans ((HbA.out _).mono (by omega)), below_ext (HbA.out _) HR.out, ?_⟩
                      have := (HbA.out (.cells #[.int .i64 ke, .int .i64 ne, .slice ae tse.length ce] 45)).size
                      omega
                    case measure => simp [intOf]; omega
                · have hke : k = 3 := by omega
                  subst hke
                  have d0 : wr.cell? ⟨B + 2, 0, none⟩ = some (.int .i64 0) := cell_of HO.out 0
                  have d1 : wr.cell? ⟨B + 2, 1, none⟩ = some (.int .i64 0) := cell_of HO.out 1
                  have d2 : wr.cell? ⟨B + 2, 2, none⟩ = some (.slice none 0 0) := cell_of HO.out 2
                  have f0 : wr.cell? ⟨B + 1, 0, none⟩ = some (.int .i64 0) := cell_of HR.out 0
                  have f1 : wr.cell? ⟨B + 1, 1, none⟩ = some (.int .i64 0) := cell_of HR.out 1
                  have f2 : wr.cell? ⟨B + 1, 2, none⟩ = some (.slice none 0 0) := cell_of HR.out 2
                  have e0 := free_of HR.out 0
                  have e1 := free_of HR.out 1
                  have e2 := free_of HR.out 2
                  go_wp2_with fail
                  have hk9 := (Kids.nil wr (B + 3) 45)
                  have hk10 := ((((hk9.low (a := ⟨B + 1, 0, none⟩) (by show B + 1 < B + 3; omega) (.int .i64 0)).low (a := ⟨B + 1, 1, none⟩) (by show B + 1 < B + 3; omega) (.int .i64 0)).low (a := ⟨B + 1, 2, none⟩) (by show B + 1 < B + 3; omega) (.slice none 0 0)).tree 0 0).mono (S' := fun b => w.heap.size ≤ b) fun b hb _ => by have := HB.out; omega
                  refine bodyPost_ret (v := .agg #[.int .i64 0, .int .i64 0, .slice none 0 0]) ?_ rfl ⟨_, rfl, ?_, ?_⟩
                  · simp [results, Try.results32, go_sem, f0, f1, f2]
                  · first | exact hk10 | (rw [Hgoal.out]; exact hk10)
                  · rw [← HB.out]
                    exact ((hbw.setCell (show B ≤ B + 1 by omega) _).setCell (show B ≤ B + 1 by omega) _).setCell (show B ≤ B + 1 by omega) _
          · obtain ⟨hd1, hk9⟩ := hd0
            obtain ⟨dp, rfl⟩ : ∃ dp, d = dp + 1 := ⟨d - 1, by omega⟩
            rw [show ((dp + 1 : Nat) : Int) = (dp : Int) + 1 from rfl]
            have Hgoal := Lib.hid (show fitE kk (fitL (alOf ds) ds.length fr (dp + 1) kk ts) = (ts.take 3).map (fitT (alOf ds) ds.length fr dp) by rw [fitL_grow _ _ _ _ _ _ hk9, if_neg h3]; skip; simp [fitE, h3])
            go_wp2_with fail
            go_loopw [67] (TLoop w B (B + 2) (B + 3) (B + 1) 45 (.int .i64 kk) (.int .i64 0) (fitT (alOf ds) ds.length fr dp) ts 3) (fun i _ => 3 - (intOf i).toNat)
            case atStart => unfold TLoop; exact ⟨0, _, [], Nat.zero_le _, rfl, hout, Kids.nil _ _ _, hbel2, hb12, hsz2⟩
            case round =>
              obtain ⟨k, sv, qs, hk, rfl, hO, hkids, hbw, hR, hszr⟩ := hrel
              have HO := Lib.hid hO; clear hO
              have HR := Lib.hid hR; clear hR
              have hlen : ((ts.take k).map (fitT (alOf ds) ds.length fr dp)).length = k := by rw [List.length_map, List.length_take]; omega
              have hown : wr.ownsRow (B + 3) 45 3 sv k (flat3 qs) := by have := hkids.own; rwa [hlen] at this
              have Hkids := Lib.hid hkids; clear hkids
              have Hown := Lib.hid hown
              have Hlen := Lib.hid hlen; clear hlen
              obtain ⟨asv, csv, hsv, _, _, _⟩ := own_slice hown
              subst hsv
              clear hown
              have hbw' : Below w.heap.size w wr := by rw [← HB.out]; exact hbw
              by_cases hlt : k < 3
              · have hkp : k < ps.length := by rw [Htv.out.1]; omega
                have hkt : k < ts.length := by rw [← Htv.out.1]; exact hkp
                have e1 : ps[k]? = some ps[k] := List.getElem?_eq_getElem hkp
                have e2 : ts[k]? = some ts[k] := List.getElem?_eq_getElem hkt
                have hte := (Htv.out.2 k _ _ e1 e2).ext hbw'
                have hmem := List.getElem_mem hkt
                have htake : (ts.take (k + 1)).map (fitT (alOf ds) ds.length fr dp) = (ts.take k).map (fitT (alOf ds) ds.length fr dp) ++ [(fitT (alOf ds) ds.length fr dp) ts[k]] := by rw [List.take_succ_eq_append_getElem hkt, List.map_append]; rfl
                obtain ⟨b, o, rfl, x0, x1, x2⟩ := row3 (Hrow.out.ext hbw') e1
                obtain ⟨ke, ne, ae, ce, tse, pse, hpe, hte2, _⟩ := hte.form3
                rw [hpe] at x0 x1 x2 hte
                generalize ts[k] = te at hte hmem htake
                have Hte := Lib.hid hte; clear hte hte2 hpe e1 e2
                have Hmem := Lib.hid hmem; clear hmem
                have Htake := Lib.hid htake; clear htake
                have cO : wr.cell? ⟨B + 2, 2, none⟩ = some (.slice asv k csv) := cell_of HO.out 2
                have hA := fun (o : Obj) => cell_later ((Below.refl wr.heap.size wr).alloc (Nat.le_refl _) o) cO
                have cK : wr.cell? ⟨B + 2, 0, none⟩ = some (.int .i64 kk) := cell_of HO.out 0
                have hAK := fun (o : Obj) => cell_later ((Below.refl wr.heap.size wr).alloc (Nat.le_refl _) o) cK
                have hdw : IntKind.i64.wrap (dp : Int) = (dp : Int) := IntWalk.i64_in _ (by have := Hd.out; omega)
                go_wp2_with fail
                obtain ⟨E, hE⟩ : ∃ E, E = wr.heap.size := ⟨_, rfl⟩
                obtain ⟨wA, hwA⟩ : ∃ wA, wA = wr.alloc (.cells #[.int .i64 ke, .int .i64 ne, .slice ae tse.length ce] 45) := ⟨_, rfl⟩
                have hEb : wA.heap[E]? = some (.cells #[.int .i64 ke, .int .i64 ne, .slice ae tse.length ce] 45 (0, 0)) := by rw [hwA, hE]; exact alloc_at rfl
                have hbA : Below wr.heap.size wr wA := by rw [hwA]; exact (Below.refl _ _).alloc (Nat.le_refl _) _
                have hszA : E + 1 = wA.heap.size := by rw [hwA, hE]; simp
                rw [← hwA, ← hE]
                have cOA := cell_later hbA cO
                have x3 : wA.cell? ⟨E, 0, none⟩ = some (.int .i64 ke) := cell_of hEb 0
                have x4 : wA.cell? ⟨E, 1, none⟩ = some (.int .i64 ne) := cell_of hEb 1
                have x5 : wA.cell? ⟨E, 2, none⟩ = some (.slice ae tse.length ce) := cell_of hEb 2
                have HteA := Lib.hid ((Hte.out.ext hbA).ext (show Below wA.heap.size wA wA.drew from (Below.refl _ _).drew))
                have HownA := Lib.hid ((own_ext Hown.out hbA).drew)
                have HcOA : Hid (wA.drew.cell? ⟨B + 2, 2, none⟩ = some (.slice asv k csv)) := Lib.hid cOA
                have hk30 : k ≤ 9223372036854775806 := by omega
                have hszB : B + 3 ≤ wA.heap.size := by have := hbA.size; omega
                have HOA := Lib.hid (below_ext hbA HO.out)
                have HbA := Lib.hid hbA
                have HszA := Lib.hid hszA
                have HEw := Lib.hid hE
                clear hA hEb hwA hE cO x0 x1 x2 hbA hszA
                clear hAK cK
                go_region_law (first
                  | (go_simp; refine (Ih.out te Hmem.out dp _ rfl (by have := Hd.out; omega) wA.drew _ (.agg #[.int .i64 ke, .int .i64 ne, .slice ae tse.length ce]) ((Hdv.out.ext hbw').ext HbA.out.drew) HteA.out).mono ?_; rintro e w2 ⟨v', rfl, htv2, hb2⟩; obtain ⟨k2, n2, a2, cap2, ts2, ps2, rfl, _⟩ := htv2.form; have cO2 := cell_later hb2 HcOA.out; have cO2a := fun (o : Obj) => cell_later ((Below.refl w2.heap.size w2).alloc (Nat.le_refl _) o) cO2; have own2 := own_ext HownA.out hb2; have hs2 : wA.heap.size ≤ w2.heap.size := hb2.size; have HO2 := Lib.hid (below_ext hb2 (show wA.drew.heap[B + 2]? = _ from HOA.out)))
                  | (refine step_app w2 rfl (.tmp 79) (.tmp 86) 43 rfl (B + 3) 45 (.agg #[.int .i64 0, .int .i64 0, .slice none 0 0]) 3 40 Try.underlying43 Try.info45 rfl (by decide) (.slice asv k csv) k (flat3 qs) [.int .i64 k2, .int .i64 n2, .slice a2 ts2.length cap2] w2.heap.size rfl rfl rfl own2 rfl (by simp [Value.oneCell']) (by simp only [maxLen]; omega) (by omega) (by omega) ?_; intro sv' wB g1 g2 g3 g4; obtain ⟨asv', csv', rfl, _, _, _⟩ := own_slice g1; have HO3 := Lib.hid (low_grown own2 g3 (by omega) HO2.out); have cO3 := cell_of HO3.out 2; have fO3 := free_of HO3.out 2))
                all_goals
                  clear hdw
                  have HO4 := Lib.hid (setCell_heap (i := 2) HO3.out (.slice asv' (k + 1) csv'))
                  have hlow : Below B wr (wB.setCell ⟨B + 2, 2, none⟩ (.slice asv' (k + 1) csv')) := by
                    refine Below.setCell ?_ (show B ≤ B + 2 by omega) _
                    refine Below.trans (Below.trans ((HbA.out.mono (by omega)).drew) (hb2.mono (by show B ≤ wA.heap.size; omega))) ((below_low own2 g3 (by omega)).mono (by omega))
                  have Hlow := Lib.hid hlow
                  have Hk5 := Lib.hid (Kids.low (Kids.snoc (q := (.int .i64 k2, .int .i64 n2, .slice a2 ts2.length cap2)) (Hkids.out.ext (HbA.out.drew)) (show B + 3 ≤ wA.drew.heap.size from hszB) hb2 htv2 (by rw [Hlen.out]; exact g1) g3 g4) (a := ⟨B + 2, 2, none⟩) (by show B + 2 < B + 3; omega) (.slice asv' (k + 1) csv'))
                  have HR5 := Lib.hid ((Below.heap_setCell wB ⟨B + 2, 2, none⟩ (.slice asv' (k + 1) csv') (B + 1) (by show B + 1 ≠ B + 2; omega)).trans (low_grown own2 g3 (by omega) (below_ext hb2 (below_ext HbA.out.drew HR.out))))
                  have hs5 : w2.heap.size ≤ wB.heap.size := g3.size
                  have hs6 : (wB.setCell ⟨B + 2, 2, none⟩ (.slice asv' (k + 1) csv')).heap.size = wB.heap.size := by simp [World.setCell]
                  clear hlow
                  go_wp2_with fail
                  go_roundw
                  case rel =>
                    unfold TLoop
                    refine ⟨k + 1, .slice asv' (k + 1) csv', qs ++ [(.int .i64 k2, .int .i64 n2, .slice a2 ts2.length cap2)], by omega, by go_num, by simpa using HO4.out, ?_, hbw.trans Hlow.out, HR5.out, by omega⟩
                    rw [Htake.out]
                    exact Hk5.out
                  case measure => simp [intOf]; omega
              · have hke : k = 3 := by omega
                subst hke
                have d0 : wr.cell? ⟨B + 2, 0, none⟩ = some (.int .i64 kk) := cell_of HO.out 0
                have d1 : wr.cell? ⟨B + 2, 1, none⟩ = some (.int .i64 0) := cell_of HO.out 1
                have d2 : wr.cell? ⟨B + 2, 2, none⟩ = some (.slice asv 3 csv) := cell_of HO.out 2
                have f0 : wr.cell? ⟨B + 1, 0, none⟩ = some (.int .i64 0) := cell_of HR.out 0
                have f1 : wr.cell? ⟨B + 1, 1, none⟩ = some (.int .i64 0) := cell_of HR.out 1
                have f2 : wr.cell? ⟨B + 1, 2, none⟩ = some (.slice none 0 0) := cell_of HR.out 2
                have e0 := free_of HR.out 0
                have e1 := free_of HR.out 1
                have e2 := free_of HR.out 2
                go_wp2_with fail
                have hk9 := Hkids.out
                have hk10 := ((((hk9.low (a := ⟨B + 1, 0, none⟩) (by show B + 1 < B + 3; omega) (.int .i64 kk)).low (a := ⟨B + 1, 1, none⟩) (by show B + 1 < B + 3; omega) (.int .i64 0)).low (a := ⟨B + 1, 2, none⟩) (by show B + 1 < B + 3; omega) (.slice asv 3 csv)).tree kk 0).mono (S' := fun b => w.heap.size ≤ b) fun b hb _ => by have := HB.out; omega
                refine bodyPost_ret (v := .agg #[.int .i64 kk, .int .i64 0, .slice asv 3 csv]) ?_ rfl ⟨_, rfl, ?_, ?_⟩
                · simp [results, Try.results32, go_sem, f0, f1, f2]
                · first | exact hk10 | (rw [Hgoal.out]; exact hk10)
                · rw [← HB.out]
                  exact ((hbw.setCell (show B ≤ B + 1 by omega) _).setCell (show B ≤ B + 1 by omega) _).setCell (show B ≤ B + 1 by omega) _
        ·
          rcases (show (d = 0 ∨ kk = 0) ∨ (0 < d ∧ ¬ kk = 0) by omega) with hd0 | hd0
          · have Hgoal := Lib.hid (show fitE kk (fitL (alOf ds) ds.length fr d kk ts) = [] by rw [fitL_no _ _ _ _ _ _ hd0]; simp [fitE, h3])
            rcases hd0 with hd0 | hd0
            · have Hd0 := Lib.hid hd0
              subst hd0
              go_wp2_with fail
              go_loopw [67] (NLoop w B (B + 2) (B + 3) (B + 1) (.int .i64 kk) (.int .i64 0) (ts.length)) (fun i _ => ts.length - (intOf i).toNat)
              case atStart => unfold NLoop; exact ⟨0, Nat.zero_le _, rfl, hout, hbel2, hb12, hsz2⟩
              case round =>
                obtain ⟨k, hk, rfl, hO, hbw, hR, hszr⟩ := hrel
                have HO := Lib.hid hO; clear hO
                have HR := Lib.hid hR; clear hR
                have hbw' : Below w.heap.size w wr := by rw [← HB.out]; exact hbw
                by_cases hlt : k < ts.length
                · have hkt : k < ts.length := by omega
                  have hkp : k < ps.length := by rw [Htv.out.1]; exact hkt
                  have e1 : ps[k]? = some ps[k] := List.getElem?_eq_getElem hkp
                  have e2 : ts[k]? = some ts[k] := List.getElem?_eq_getElem hkt
                  have hte := (Htv.out.2 k _ _ e1 e2).ext hbw'
                  obtain ⟨b, o, rfl, x0, x1, x2⟩ := row3 (Hrow.out.ext hbw') e1
                  obtain ⟨ke, ne, ae, ce, tse, pse, hpe, hte2, _⟩ := hte.form3
                  rw [hpe] at x0 x1 x2
                  clear hte hte2 hpe e1 e2
                  have cO : wr.cell? ⟨B + 2, 0, none⟩ = some (.int .i64 kk) := cell_of HO.out 0
                  have hA := fun (o : Obj) => cell_later ((Below.refl wr.heap.size wr).alloc (Nat.le_refl _) o) cO
                  have hbA : ∀ o : Obj, Below wr.heap.size wr (wr.alloc o) := fun o => (Below.refl _ _).alloc (Nat.le_refl _) _
                  have HbA := Lib.hid hbA; clear hbA
                  go_wp2_with fail
                  all_goals
                    go_roundw
                    case rel =>
                      unfold NLoop
                      refine ⟨k + 1, by omega, by go_num, below_ext (HbA.out _) HO.out, hbw.trans ((HbA.out _).mono (by omega)), below_ext (HbA.out _) HR.out, ?_⟩
                      have := (HbA.out (.cells #[.int .i64 ke, .int .i64 ne, .slice ae tse.length ce] 45)).size
                      omega
                    case measure => simp [intOf]; omega
                · have hke : k = ts.length := by omega
                  subst hke
                  have d0 : wr.cell? ⟨B + 2, 0, none⟩ = some (.int .i64 kk) := cell_of HO.out 0
                  have d1 : wr.cell? ⟨B + 2, 1, none⟩ = some (.int .i64 0) := cell_of HO.out 1
                  have d2 : wr.cell? ⟨B + 2, 2, none⟩ = some (.slice none 0 0) := cell_of HO.out 2
                  have f0 : wr.cell? ⟨B + 1, 0, none⟩ = some (.int .i64 0) := cell_of HR.out 0
                  have f1 : wr.cell? ⟨B + 1, 1, none⟩ = some (.int .i64 0) := cell_of HR.out 1
                  have f2 : wr.cell? ⟨B + 1, 2, none⟩ = some (.slice none 0 0) := cell_of HR.out 2
                  have e0 := free_of HR.out 0
                  have e1 := free_of HR.out 1
                  have e2 := free_of HR.out 2
                  go_wp2_with fail
                  have hk9 := (Kids.nil wr (B + 3) 45)
                  have hk10 := ((((hk9.low (a := ⟨B + 1, 0, none⟩) (by show B + 1 < B + 3; omega) (.int .i64 kk)).low (a := ⟨B + 1, 1, none⟩) (by show B + 1 < B + 3; omega) (.int .i64 0)).low (a := ⟨B + 1, 2, none⟩) (by show B + 1 < B + 3; omega) (.slice none 0 0)).tree kk 0).mono (S' := fun b => w.heap.size ≤ b) fun b hb _ => by have := HB.out; omega
                  refine bodyPost_ret (v := .agg #[.int .i64 kk, .int .i64 0, .slice none 0 0]) ?_ rfl ⟨_, rfl, ?_, ?_⟩
                  · simp [results, Try.results32, go_sem, f0, f1, f2]
                  · first | exact hk10 | (rw [Hgoal.out]; exact hk10)
                  · rw [← HB.out]
                    exact ((hbw.setCell (show B ≤ B + 1 by omega) _).setCell (show B ≤ B + 1 by omega) _).setCell (show B ≤ B + 1 by omega) _
            · have Hd0 := Lib.hid hd0
              subst hd0
              go_wp2_with fail
              go_loopw [67] (NLoop w B (B + 2) (B + 3) (B + 1) (.int .i64 0) (.int .i64 0) (ts.length)) (fun i _ => ts.length - (intOf i).toNat)
              case atStart => unfold NLoop; exact ⟨0, Nat.zero_le _, rfl, hout, hbel2, hb12, hsz2⟩
              case round =>
                obtain ⟨k, hk, rfl, hO, hbw, hR, hszr⟩ := hrel
                have HO := Lib.hid hO; clear hO
                have HR := Lib.hid hR; clear hR
                have hbw' : Below w.heap.size w wr := by rw [← HB.out]; exact hbw
                by_cases hlt : k < ts.length
                · have hkt : k < ts.length := by omega
                  have hkp : k < ps.length := by rw [Htv.out.1]; exact hkt
                  have e1 : ps[k]? = some ps[k] := List.getElem?_eq_getElem hkp
                  have e2 : ts[k]? = some ts[k] := List.getElem?_eq_getElem hkt
                  have hte := (Htv.out.2 k _ _ e1 e2).ext hbw'
                  obtain ⟨b, o, rfl, x0, x1, x2⟩ := row3 (Hrow.out.ext hbw') e1
                  obtain ⟨ke, ne, ae, ce, tse, pse, hpe, hte2, _⟩ := hte.form3
                  rw [hpe] at x0 x1 x2
                  clear hte hte2 hpe e1 e2
                  have cO : wr.cell? ⟨B + 2, 0, none⟩ = some (.int .i64 0) := cell_of HO.out 0
                  have hA := fun (o : Obj) => cell_later ((Below.refl wr.heap.size wr).alloc (Nat.le_refl _) o) cO
                  have hbA : ∀ o : Obj, Below wr.heap.size wr (wr.alloc o) := fun o => (Below.refl _ _).alloc (Nat.le_refl _) _
                  have HbA := Lib.hid hbA; clear hbA
                  go_wp2_with fail
                  all_goals
                    go_roundw
                    case rel =>
                      unfold NLoop
                      refine ⟨k + 1, by omega, by go_num, below_ext (HbA.out _) HO.out, hbw.trans ((HbA.out _).mono (by omega)), below_ext (HbA.out _) HR.out, ?_⟩
                      have := (HbA.out (.cells #[.int .i64 ke, .int .i64 ne, .slice ae tse.length ce] 45)).size
                      omega
                    case measure => simp [intOf]; omega
                · have hke : k = ts.length := by omega
                  subst hke
                  have d0 : wr.cell? ⟨B + 2, 0, none⟩ = some (.int .i64 0) := cell_of HO.out 0
                  have d1 : wr.cell? ⟨B + 2, 1, none⟩ = some (.int .i64 0) := cell_of HO.out 1
                  have d2 : wr.cell? ⟨B + 2, 2, none⟩ = some (.slice none 0 0) := cell_of HO.out 2
                  have f0 : wr.cell? ⟨B + 1, 0, none⟩ = some (.int .i64 0) := cell_of HR.out 0
                  have f1 : wr.cell? ⟨B + 1, 1, none⟩ = some (.int .i64 0) := cell_of HR.out 1
                  have f2 : wr.cell? ⟨B + 1, 2, none⟩ = some (.slice none 0 0) := cell_of HR.out 2
                  have e0 := free_of HR.out 0
                  have e1 := free_of HR.out 1
                  have e2 := free_of HR.out 2
                  go_wp2_with fail
                  have hk9 := (Kids.nil wr (B + 3) 45)
                  have hk10 := ((((hk9.low (a := ⟨B + 1, 0, none⟩) (by show B + 1 < B + 3; omega) (.int .i64 0)).low (a := ⟨B + 1, 1, none⟩) (by show B + 1 < B + 3; omega) (.int .i64 0)).low (a := ⟨B + 1, 2, none⟩) (by show B + 1 < B + 3; omega) (.slice none 0 0)).tree 0 0).mono (S' := fun b => w.heap.size ≤ b) fun b hb _ => by have := HB.out; omega
                  refine bodyPost_ret (v := .agg #[.int .i64 0, .int .i64 0, .slice none 0 0]) ?_ rfl ⟨_, rfl, ?_, ?_⟩
                  · simp [results, Try.results32, go_sem, f0, f1, f2]
                  · first | exact hk10 | (rw [Hgoal.out]; exact hk10)
                  · rw [← HB.out]
                    exact ((hbw.setCell (show B ≤ B + 1 by omega) _).setCell (show B ≤ B + 1 by omega) _).setCell (show B ≤ B + 1 by omega) _
          · obtain ⟨hd1, hk9⟩ := hd0
            obtain ⟨dp, rfl⟩ : ∃ dp, d = dp + 1 := ⟨d - 1, by omega⟩
            rw [show ((dp + 1 : Nat) : Int) = (dp : Int) + 1 from rfl]
            have Hgoal := Lib.hid (show fitE kk (fitL (alOf ds) ds.length fr (dp + 1) kk ts) = (ts.take ts.length).map (fitT (alOf ds) ds.length fr dp) by rw [fitL_grow _ _ _ _ _ _ hk9, if_neg h3]; rw [List.take_of_length_le (show ts.length ≤ 3 by omega), List.take_of_length_le (Nat.le_refl _)]; simp [fitE, h3])
            go_wp2_with fail
            go_loopw [67] (TLoop w B (B + 2) (B + 3) (B + 1) 45 (.int .i64 kk) (.int .i64 0) (fitT (alOf ds) ds.length fr dp) ts ts.length) (fun i _ => ts.length - (intOf i).toNat)
            case atStart => unfold TLoop; exact ⟨0, _, [], Nat.zero_le _, rfl, hout, Kids.nil _ _ _, hbel2, hb12, hsz2⟩
            case round =>
              obtain ⟨k, sv, qs, hk, rfl, hO, hkids, hbw, hR, hszr⟩ := hrel
              have HO := Lib.hid hO; clear hO
              have HR := Lib.hid hR; clear hR
              have hlen : ((ts.take k).map (fitT (alOf ds) ds.length fr dp)).length = k := by rw [List.length_map, List.length_take]; omega
              have hown : wr.ownsRow (B + 3) 45 3 sv k (flat3 qs) := by have := hkids.own; rwa [hlen] at this
              have Hkids := Lib.hid hkids; clear hkids
              have Hown := Lib.hid hown
              have Hlen := Lib.hid hlen; clear hlen
              obtain ⟨asv, csv, hsv, _, _, _⟩ := own_slice hown
              subst hsv
              clear hown
              have hbw' : Below w.heap.size w wr := by rw [← HB.out]; exact hbw
              by_cases hlt : k < ts.length
              · have hkp : k < ps.length := by rw [Htv.out.1]; exact hlt
                have hkt : k < ts.length := by rw [← Htv.out.1]; exact hkp
                have e1 : ps[k]? = some ps[k] := List.getElem?_eq_getElem hkp
                have e2 : ts[k]? = some ts[k] := List.getElem?_eq_getElem hkt
                have hte := (Htv.out.2 k _ _ e1 e2).ext hbw'
                have hmem := List.getElem_mem hkt
                have htake : (ts.take (k + 1)).map (fitT (alOf ds) ds.length fr dp) = (ts.take k).map (fitT (alOf ds) ds.length fr dp) ++ [(fitT (alOf ds) ds.length fr dp) ts[k]] := by rw [List.take_succ_eq_append_getElem hkt, List.map_append]; rfl
                obtain ⟨b, o, rfl, x0, x1, x2⟩ := row3 (Hrow.out.ext hbw') e1
                obtain ⟨ke, ne, ae, ce, tse, pse, hpe, hte2, _⟩ := hte.form3
                rw [hpe] at x0 x1 x2 hte
                generalize ts[k] = te at hte hmem htake
                have Hte := Lib.hid hte; clear hte hte2 hpe e1 e2
                have Hmem := Lib.hid hmem; clear hmem
                have Htake := Lib.hid htake; clear htake
                have cO : wr.cell? ⟨B + 2, 2, none⟩ = some (.slice asv k csv) := cell_of HO.out 2
                have hA := fun (o : Obj) => cell_later ((Below.refl wr.heap.size wr).alloc (Nat.le_refl _) o) cO
                have cK : wr.cell? ⟨B + 2, 0, none⟩ = some (.int .i64 kk) := cell_of HO.out 0
                have hAK := fun (o : Obj) => cell_later ((Below.refl wr.heap.size wr).alloc (Nat.le_refl _) o) cK
                have hdw : IntKind.i64.wrap (dp : Int) = (dp : Int) := IntWalk.i64_in _ (by have := Hd.out; omega)
                go_wp2_with fail
                obtain ⟨E, hE⟩ : ∃ E, E = wr.heap.size := ⟨_, rfl⟩
                obtain ⟨wA, hwA⟩ : ∃ wA, wA = wr.alloc (.cells #[.int .i64 ke, .int .i64 ne, .slice ae tse.length ce] 45) := ⟨_, rfl⟩
                have hEb : wA.heap[E]? = some (.cells #[.int .i64 ke, .int .i64 ne, .slice ae tse.length ce] 45 (0, 0)) := by rw [hwA, hE]; exact alloc_at rfl
                have hbA : Below wr.heap.size wr wA := by rw [hwA]; exact (Below.refl _ _).alloc (Nat.le_refl _) _
                have hszA : E + 1 = wA.heap.size := by rw [hwA, hE]; simp
                rw [← hwA, ← hE]
                have cOA := cell_later hbA cO
                have x3 : wA.cell? ⟨E, 0, none⟩ = some (.int .i64 ke) := cell_of hEb 0
                have x4 : wA.cell? ⟨E, 1, none⟩ = some (.int .i64 ne) := cell_of hEb 1
                have x5 : wA.cell? ⟨E, 2, none⟩ = some (.slice ae tse.length ce) := cell_of hEb 2
                have HteA := Lib.hid ((Hte.out.ext hbA).ext (show Below wA.heap.size wA wA.drew from (Below.refl _ _).drew))
                have HownA := Lib.hid ((own_ext Hown.out hbA).drew)
                have HcOA : Hid (wA.drew.cell? ⟨B + 2, 2, none⟩ = some (.slice asv k csv)) := Lib.hid cOA
                have hk30 : k ≤ 9223372036854775806 := by omega
                have hszB : B + 3 ≤ wA.heap.size := by have := hbA.size; omega
                have HOA := Lib.hid (below_ext hbA HO.out)
                have HbA := Lib.hid hbA
                have HszA := Lib.hid hszA
                have HEw := Lib.hid hE
                clear hA hEb hwA hE cO x0 x1 x2 hbA hszA
                clear hAK cK
                go_region_law (first
                  | (go_simp; refine (Ih.out te Hmem.out dp _ rfl (by have := Hd.out; omega) wA.drew _ (.agg #[.int .i64 ke, .int .i64 ne, .slice ae tse.length ce]) ((Hdv.out.ext hbw').ext HbA.out.drew) HteA.out).mono ?_; rintro e w2 ⟨v', rfl, htv2, hb2⟩; obtain ⟨k2, n2, a2, cap2, ts2, ps2, rfl, _⟩ := htv2.form; have cO2 := cell_later hb2 HcOA.out; have cO2a := fun (o : Obj) => cell_later ((Below.refl w2.heap.size w2).alloc (Nat.le_refl _) o) cO2; have own2 := own_ext HownA.out hb2; have hs2 : wA.heap.size ≤ w2.heap.size := hb2.size; have HO2 := Lib.hid (below_ext hb2 (show wA.drew.heap[B + 2]? = _ from HOA.out)))
                  | (refine step_app w2 rfl (.tmp 79) (.tmp 86) 43 rfl (B + 3) 45 (.agg #[.int .i64 0, .int .i64 0, .slice none 0 0]) 3 40 Try.underlying43 Try.info45 rfl (by decide) (.slice asv k csv) k (flat3 qs) [.int .i64 k2, .int .i64 n2, .slice a2 ts2.length cap2] w2.heap.size rfl rfl rfl own2 rfl (by simp [Value.oneCell']) (by simp only [maxLen]; omega) (by omega) (by omega) ?_; intro sv' wB g1 g2 g3 g4; obtain ⟨asv', csv', rfl, _, _, _⟩ := own_slice g1; have HO3 := Lib.hid (low_grown own2 g3 (by omega) HO2.out); have cO3 := cell_of HO3.out 2; have fO3 := free_of HO3.out 2))
                all_goals
                  clear hdw
                  have HO4 := Lib.hid (setCell_heap (i := 2) HO3.out (.slice asv' (k + 1) csv'))
                  have hlow : Below B wr (wB.setCell ⟨B + 2, 2, none⟩ (.slice asv' (k + 1) csv')) := by
                    refine Below.setCell ?_ (show B ≤ B + 2 by omega) _
                    refine Below.trans (Below.trans ((HbA.out.mono (by omega)).drew) (hb2.mono (by show B ≤ wA.heap.size; omega))) ((below_low own2 g3 (by omega)).mono (by omega))
                  have Hlow := Lib.hid hlow
                  have Hk5 := Lib.hid (Kids.low (Kids.snoc (q := (.int .i64 k2, .int .i64 n2, .slice a2 ts2.length cap2)) (Hkids.out.ext (HbA.out.drew)) (show B + 3 ≤ wA.drew.heap.size from hszB) hb2 htv2 (by rw [Hlen.out]; exact g1) g3 g4) (a := ⟨B + 2, 2, none⟩) (by show B + 2 < B + 3; omega) (.slice asv' (k + 1) csv'))
                  have HR5 := Lib.hid ((Below.heap_setCell wB ⟨B + 2, 2, none⟩ (.slice asv' (k + 1) csv') (B + 1) (by show B + 1 ≠ B + 2; omega)).trans (low_grown own2 g3 (by omega) (below_ext hb2 (below_ext HbA.out.drew HR.out))))
                  have hs5 : w2.heap.size ≤ wB.heap.size := g3.size
                  have hs6 : (wB.setCell ⟨B + 2, 2, none⟩ (.slice asv' (k + 1) csv')).heap.size = wB.heap.size := by simp [World.setCell]
                  clear hlow
                  go_wp2_with fail
                  go_roundw
                  case rel =>
                    unfold TLoop
                    refine ⟨k + 1, .slice asv' (k + 1) csv', qs ++ [(.int .i64 k2, .int .i64 n2, .slice a2 ts2.length cap2)], by omega, by go_num, by simpa using HO4.out, ?_, hbw.trans Hlow.out, HR5.out, by omega⟩
                    rw [Htake.out]
                    exact Hk5.out
                  case measure => simp [intOf]; omega
              · have hke : k = ts.length := by omega
                subst hke
                have d0 : wr.cell? ⟨B + 2, 0, none⟩ = some (.int .i64 kk) := cell_of HO.out 0
                have d1 : wr.cell? ⟨B + 2, 1, none⟩ = some (.int .i64 0) := cell_of HO.out 1
                have d2 : wr.cell? ⟨B + 2, 2, none⟩ = some (.slice asv ts.length csv) := cell_of HO.out 2
                have f0 : wr.cell? ⟨B + 1, 0, none⟩ = some (.int .i64 0) := cell_of HR.out 0
                have f1 : wr.cell? ⟨B + 1, 1, none⟩ = some (.int .i64 0) := cell_of HR.out 1
                have f2 : wr.cell? ⟨B + 1, 2, none⟩ = some (.slice none 0 0) := cell_of HR.out 2
                have e0 := free_of HR.out 0
                have e1 := free_of HR.out 1
                have e2 := free_of HR.out 2
                go_wp2_with fail
                have hk9 := Hkids.out
                have hk10 := ((((hk9.low (a := ⟨B + 1, 0, none⟩) (by show B + 1 < B + 3; omega) (.int .i64 kk)).low (a := ⟨B + 1, 1, none⟩) (by show B + 1 < B + 3; omega) (.int .i64 0)).low (a := ⟨B + 1, 2, none⟩) (by show B + 1 < B + 3; omega) (.slice asv ts.length csv)).tree kk 0).mono (S' := fun b => w.heap.size ≤ b) fun b hb _ => by have := HB.out; omega
                refine bodyPost_ret (v := .agg #[.int .i64 kk, .int .i64 0, .slice asv ts.length csv]) ?_ rfl ⟨_, rfl, ?_, ?_⟩
                · simp [results, Try.results32, go_sem, f0, f1, f2]
                · first | exact hk10 | (rw [Hgoal.out]; exact hk10)
                · rw [← HB.out]
                  exact ((hbw.setCell (show B ≤ B + 1 by omega) _).setCell (show B ≤ B + 1 by omega) _).setCell (show B ≤ B + 1 by omega) _

end Go.Proofs.Ytnaedpfaeioolaa
