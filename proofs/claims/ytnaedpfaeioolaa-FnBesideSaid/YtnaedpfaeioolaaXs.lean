/- The statement FnStructs: what its call computes. -/
import Derived.Test.YtnaedpfaeioolaaXp
import Derived.Test.YtnaedpfaeioolaaVc
import Derived.Deep.DrawnRows
namespace Go.Proofs.Ytnaedpfaeioolaa
open Go.RowKit
set_option linter.unusedVariables false
attribute [local go_sem ↓] Go.wp_at_zero Go.wp_at_succ

theorem bools_eq (v v' : Value) (xs : List Bool) (w : World) (h : SliceV w v xs.length (xs.map Value.bool)) (h' : SliceV w v' xs.length (xs.map Value.bool)) :
    Calls Try.prog 23 #[v, v'] w fun e w' => e = .returned (.bool true) ∧ ∃ n, w' = w.drewN n :=
  (bools_sv v v' xs xs w h h').mono fun e w' ⟨h1, h2⟩ => ⟨by rw [h1, ← eqB_true rfl], h2⟩

theorem fmap_congr {α β : Type} {l : List α} {f g : α → List β} (h : ∀ a ∈ l, f a = g a) : l.flatMap f = l.flatMap g := by
  induction l with
  | nil => rfl
  | cons a l ih => rw [List.flatMap_cons, List.flatMap_cons, h a (by simp), ih fun b hb => h b (by simp [hb])]

def structD (d : D) : D := ⟨d.alias, structsT d.of⟩

theorem map_al (f : D → D) (hf : ∀ d, (f d).alias = d.alias) (ds : List D) : alOf (ds.map f) = alOf ds := by
  funext n
  unfold alOf
  rw [List.getD_eq_getElem?_getD, List.getD_eq_getElem?_getD, List.getElem?_map]
  cases ds[n]? with
  | none => rfl
  | some d => exact hf d

theorem struct_of (ds : List D) (n : Nat) : ofOf (ds.map structD) n = structsT (ofOf ds n) := by
  unfold ofOf
  rw [List.getD_eq_getElem?_getD, List.getD_eq_getElem?_getD, List.getElem?_map]
  cases ds[n]? with
  | none => rw [show (none : Option D).getD dNone = dNone from rfl]; simp [dNone, structsT_mk, structsK]
  | some d => rfl

theorem struct_flat (ds : List D) : ∀ (f : Nat) (t : T), flatF (ds.map structD) f (structsT t) = flatF ds f t := by
  intro f
  induction f with
  | zero =>
    intro t
    induction t using T.ind with
    | _ k n es ih =>
      rw [structsT_mk, flatF.eq_def, flatF.eq_def ds]
      simp only [map_al structD (fun _ => rfl)]
      unfold structsK
      by_cases h1 : k = 1
      · subst h1; simp
      · by_cases h2 : 3 ≤ k ∧ k ≤ 6
        · rw [if_neg (by split <;> omega), if_pos (by split <;> omega), if_neg h1, if_pos h2, List.flatMap_map]
          exact fmap_congr fun e he => ih e he
        · rw [if_neg (by split <;> omega), if_neg (by split <;> omega), if_neg h1, if_neg h2]
  | succ f ihf =>
    intro t
    induction t using T.ind with
    | _ k n es ih =>
      rw [structsT_mk, flatF.eq_def, flatF.eq_def ds]
      simp only [map_al structD (fun _ => rfl)]
      unfold structsK
      by_cases h1 : k = 1
      · subst h1
        simp only [show ¬ ((1 : Int) = 3 ∨ (1 : Int) = 5 ∨ (1 : Int) = 6) from by omega, if_false, if_true]
        rw [struct_of, ihf]
      · by_cases h2 : 3 ≤ k ∧ k ≤ 6
        · rw [if_neg (by split <;> omega), if_pos (by split <;> omega), if_neg h1, if_pos h2, List.flatMap_map]
          exact fmap_congr fun e he => ih e he
        · rw [if_neg (by split <;> omega), if_neg (by split <;> omega), if_neg h1, if_neg h2]

theorem struct_G (ds : List D) : GG (ds.map structD) = GG ds := by
  funext n
  unfold GG
  rw [struct_of, struct_flat, List.length_map]

theorem struct_okT {N : Nat} {t : T} (h : Ok N t) : Ok N (structsT t) := by
  induction h with
  | mk k n es h0 h6 h3 hn ha he ih =>
    rw [structsT_mk]
    refine .mk _ n _ (by unfold structsK; split <;> omega) (by unfold structsK; split <;> omega) (by simpa using h3) (fun h => hn (by unfold structsK at h; split at h <;> omega)) (fun h => by unfold structsK at h; split at h <;> omega) ?_
    intro e he'
    obtain ⟨e', h1, rfl⟩ := List.mem_map.1 he'
    exact ih e' h1

theorem struct_atT {ds : List D} {m : Nat} {t : T} (h : AT ds m t) : AT ds m (structsT t) := by
  induction h with
  | mk k n es ha he ih =>
    rw [structsT_mk]
    refine .mk _ n _ (fun h => ha (by unfold structsK at h; split at h <;> omega)) ?_
    intro e he'
    obtain ⟨e', h1, rfl⟩ := List.mem_map.1 he'
    exact ih e' h1

theorem struct_ok {ds : List D} (h : DOk ds) : DOk (ds.map structD) := by
  refine ⟨fun d hd => ?_, fun i d hd ha => ?_⟩
  · obtain ⟨d0, hd0, rfl⟩ := List.mem_map.1 hd
    rw [List.length_map]
    exact struct_okT (h.ok d0 hd0)
  · rw [List.getElem?_map] at hd
    cases hq : ds[i]? with
    | none => rw [hq] at hd; simp at hd
    | some d0 =>
      rw [hq] at hd
      simp at hd
      subst hd
      exact struct_atT ((h.al i d0 hq ha).congr (map_al structD (fun _ => rfl) ds).symm)

def RS (ds : List D) (B : Nat) (w : World) (v i : Value) (wr : World) : Prop := ∃ (k : Nat) (qs : List V4), k ≤ ds.length ∧ i = .int .i64 k ∧ Kids4 wr B 47 v qs ((ds.map structD).take k) ∧ Below B w wr

set_option maxHeartbeats 4000000 in
set_option maxRecDepth 100000 in
theorem structsLaw_any (ds0 : List D) (w : World) (a : Option Addr) (cap : Nat) (hdv : DV w (.slice a ds0.length cap) ds0) : Calls Try.prog 12 #[.slice a ds0.length cap] w fun e w' => e = .returned (.bool true) ∧ Below w.heap.size w w' := by
  obtain ⟨_, _, e1, hc1, hc2⟩ := hdv.form
  simp at e1
  obtain ⟨rfl, rfl⟩ := e1
  by_cases hbig : 2147483647 < ds0.length
  · go_enter Try.func12, Try.ntmps12
    go_wp2_with fail
    go_ret
    exact ⟨rfl, Below.refl _ _⟩
  · have hbig' : ds0.length ≤ 2147483647 := by omega
    clear hbig
    have Hdv := Lib.hid hdv; clear hdv
    go_enter Try.func12, Try.ntmps12
    go_wp2_with fail
    refine (Fit_any ds0 w a cap Hdv.out).mono ?_
    rintro e w1 ⟨v1, rfl, hd1, hb1⟩
    have hok := fitD_ok ds0
    have h8 := fitD_8 ds0
    generalize fitD ds0 = ds at hd1 hok h8
    obtain ⟨a1, cap1, rfl, hc3, hc4⟩ := hd1.form
    have Hd1 := Lib.hid hd1; clear hd1
    have Hok := Lib.hid hok; clear hok
    have Hb1 := Lib.hid hb1; clear hb1
    have hbs : w.heap.size ≤ w1.heap.size := Hb1.out.size
    go_wp2_with fail
    go_loopw [3, 19] (RS ds w1.heap.size w1) (fun _ i _ => ds.length - (intOf i).toNat)
    case atStart => unfold RS; exact ⟨0, [], Nat.zero_le _, rfl, Kids4.nil _ _ _, Below.refl _ _⟩
    case round =>
      obtain ⟨k, qs, hk, rfl, hkids, hbw⟩ := hrel
      have hlen : ((ds.map structD).take k).length = k := by rw [List.length_take, List.length_map]; omega
      have hown := hkids.own
      rw [hlen] at hown
      have Hkids := Lib.hid hkids; clear hkids
      have Hlen := Lib.hid hlen; clear hlen
      have Hown := Lib.hid hown
      obtain ⟨asv, csv, hsv, _, _, _⟩ := own_slice hown
      subst hsv
      clear hown
      by_cases hlt : k < ds.length
      · obtain ⟨b, o, kd, md, x, y, rfl, x0, x1, x2, x3, ht⟩ := Hd1.out.at hlt
        obtain ⟨xl, xc⟩ := y
        have y0 := cell_later hbw x0
        have y1 := cell_later hbw x1
        have y2 := cell_later hbw x2
        have y3 := cell_later hbw x3
        simp only at y3
        clear x0 x1 x2 x3
        have htake : (ds.map structD).take (k + 1) = (ds.map structD).take k ++ [⟨alOf ds k, structsT (ofOf ds k)⟩] := by
          rw [List.take_succ_eq_append_getElem (by simpa using hlt), List.getElem_map]
          unfold alOf ofOf structD
          rw [getD_of hlt]
        have Htake := Lib.hid htake; clear htake
        have Ht := Lib.hid (ht.ext hbw); clear ht
        have Hok7 := Lib.hid (Hok.out.of hlt).ok7
        generalize alOf ds k = al at y0 Htake
        generalize ofOf ds k = te at Htake Ht Hok7
        go_wp2_with fail
        obtain ⟨E, hE⟩ : ∃ E, E = wr.heap.size := ⟨_, rfl⟩
        obtain ⟨wA, hwA⟩ : ∃ wA, wA = wr.alloc (.cells #[.bool al, .int .i64 kd, .int .i64 md, .slice x xl xc] 47) := ⟨_, rfl⟩
        have hEb : wA.heap[E]? = some (.cells #[.bool al, .int .i64 kd, .int .i64 md, .slice x xl xc] 47 (0, 0)) := by rw [hwA, hE]; exact alloc_at rfl
        have hbA : Below wr.heap.size wr wA := by rw [hwA]; exact (Below.refl _ _).alloc (Nat.le_refl _) _
        rw [← hwA, ← hE]
        have z0 : wA.cell? ⟨E, 0, none⟩ = some (.bool al) := cell_of hEb 0
        have z1 : wA.cell? ⟨E, 1, none⟩ = some (.int .i64 kd) := cell_of hEb 1
        have z2 : wA.cell? ⟨E, 2, none⟩ = some (.int .i64 md) := cell_of hEb 2
        have z3 : wA.cell? ⟨E, 3, none⟩ = some (.slice x xl xc) := cell_of hEb 3
        have HteA := Lib.hid ((Ht.out.ext hbA).ext (show Below wA.heap.size wA wA.drew from (Below.refl _ _).drew))
        have HkA := Lib.hid (Hkids.out.ext (hbA.drew))
        have HownA := Lib.hid ((own_ext Hown.out hbA).drew)
        have HEb := Lib.hid hEb
        have HbA := Lib.hid hbA
        have Hbw := Lib.hid hbw
        have hszA : w1.heap.size ≤ wA.heap.size := by have := hbA.size; have := hbw.size; omega
        clear hEb hwA hE y0 y1 y2 y3 hbA hbw
        go_region_law (first
          | (go_simp; refine (structs_any te Hok7.out wA.drew (.agg #[.int .i64 kd, .int .i64 md, .slice x xl xc]) HteA.out).mono ?_; rintro e w2 ⟨v', rfl, htv2, hb2⟩; obtain ⟨k2, n2, a2, cap2, ts2, ps2, rfl, _⟩ := htv2.form; have own2 := own_ext HownA.out hb2; have hs2 : wA.heap.size ≤ w2.heap.size := hb2.size; have hEb2 := cell_of (below_ext hb2 (show wA.drew.heap[E]? = _ from HEb.out)))
          | (refine step_app w2 rfl (.tmp 23) (.tmp 30) 32 rfl w1.heap.size 47 (.agg #[.bool false, .int .i64 0, .int .i64 0, .slice none 0 0]) 4 48 Try.underlying32 Try.info47 rfl (by decide) (.slice asv k csv) k (flat4 qs) [.bool al, .int .i64 k2, .int .i64 n2, .slice a2 ts2.length cap2] w2.heap.size rfl rfl rfl own2 rfl (by simp [Value.oneCell']) (by simp only [maxLen]; omega) (by omega) (by omega) ?_; intro sv' wB g1 g2 g3 g4; obtain ⟨asv', csv', rfl, _, _, _⟩ := own_slice g1))
        all_goals
          have hk2 := HkA.out.ext hb2
          have hnew := Kids4.snoc (q := (.bool al, .int .i64 k2, .int .i64 n2, .slice a2 ts2.length cap2)) (d := ⟨al, structsT te⟩) hk2 rfl (TV.fresh htv2 HownA.out) (by rw [Hlen.out]; exact g1) g3 g4
          rw [← Htake.out] at hnew
          have Hnew := Lib.hid hnew; clear hnew hk2
          have Hb5 := Lib.hid (below_grown (((Hbw.out.trans (HbA.out.mono Hbw.out.size)).drew).trans (hb2.mono (by show w1.heap.size ≤ wA.heap.size; exact hszA))) own2 (Nat.le_refl _) (by omega) g3)
          clear g1 g2 g3 g4 hb2 htv2 hEb2
          go_wp2_with fail
          go_roundw
          case rel => unfold RS; exact ⟨k + 1, _, by omega, by go_num, Hnew.out, Hb5.out⟩
          case measure => simp [intOf]; omega
      · have hke : k = ds.length := by omega
        subst hke
        have hk9 := Hkids.out
        rw [List.take_of_length_le (by simp)] at hk9
        have hml : (ds.map structD).length = ds.length := by simp
        have Hdm := Lib.hid hk9.dv; clear hk9
        have h20 := fun (W : World) (hb : Below wr.heap.size wr W) => Valid_any (ds.map structD) (struct_ok Hok.out) (by rw [hml]; omega) W asv csv (by rw [hml]; exact Hdm.out.ext hb)
        rw [hml] at h20
        have H20 := Lib.hid h20
        have Hml := Lib.hid hml
        clear hml h20
        have Hbw := Lib.hid hbw; clear hbw
        have H20a := Lib.hid (Valid_any ds Hok.out (by omega) wr a1 cap1 (Hd1.out.ext Hbw.out))
        go_wp2_with fail
        refine H20a.out.mono ?_
        rintro e w3 ⟨va, vb, vc, rfl, q1, q2, q3, hb3⟩
        have Ha := Lib.hid q1
        have Hm := Lib.hid q2
        have Hc := Lib.hid q3
        have Hb3 := Lib.hid hb3
        clear q1 q2 q3 hb3
        go_wp2_with fail
        refine (H20.out w3 Hb3.out).mono ?_
        rintro e w4 ⟨va', vb', vc', rfl, q1, q2, q3, hb4⟩
        rw [Hml.out, map_al structD (fun _ => rfl), struct_G] at q1 q2 q3
        have Hb4 := Lib.hid hb4
        have Ha' := Lib.hid q1
        have Hm' := Lib.hid q2
        have Hc' := Lib.hid q3
        clear q1 q2 q3 hb4
        go_wp2_with fail
        refine (works_any _).mono ?_
        rintro e w5 ⟨rfl, hb5⟩
        have hb35 := (Hb4.out.trans (hb5.mono Hb4.out.size))
        have hlv : (vtValid (alOf ds) (GG ds) ds.length).length = ds.length := vt_len _ _ _ _
        have hlm : (vtMarked (alOf ds) (GG ds) ds.length).length = ds.length := by simp [vtMarked]
        have Ha5 := Lib.hid (own_slice (own_ext Ha.out hb35))
        have Hm5 := Lib.hid (own_slice (own_ext Hm.out hb35))
        have Hc5 := Lib.hid (Hc.out.ext hb35).ll
        have Ha6 := Lib.hid (own_slice (own_ext Ha'.out hb5))
        have Hm6 := Lib.hid (own_slice (own_ext Hm'.out hb5))
        have Hc6 := Lib.hid (Hc'.out.ext hb5).ll
        have Hb5 := Lib.hid hb5
        have Hlv := Lib.hid hlv
        have Hlm := Lib.hid hlm
        clear hb5 hb35 hlv hlm
        go_wp2_with fail
        refine (bools_eq _ _ (vtValid (alOf ds) (GG ds) ds.length) _ (by rw [Hlv.out]; exact Ha5.out) (by rw [Hlv.out]; exact Ha6.out)).mono ?_
        rintro e w6 ⟨rfl, n6, rfl⟩
        go_wp2_with fail
        refine (bools_eq _ _ (vtMarked (alOf ds) (GG ds) ds.length) _ (by rw [Hlm.out]; exact Hm5.out.ext (below_refl_drewN _ _ _)) (by rw [Hlm.out]; exact Hm6.out.ext (below_refl_drewN _ _ _))).mono ?_
        rintro e w7 ⟨rfl, n7, rfl⟩
        go_wp2_with fail
        refine (lists_eq _ _ (vtCycles (alOf ds) (GG ds) ds.length) _ (by first | exact Hc5.out.ext (below_refl_drewN _ _ _) | exact (Hc5.out.ext (below_refl_drewN _ _ n6)).ext (below_refl_drewN _ _ n7)) (by first | exact Hc6.out.ext (below_refl_drewN _ _ _) | exact (Hc6.out.ext (below_refl_drewN _ _ n6)).ext (below_refl_drewN _ _ n7))).mono ?_
        rintro e w8 ⟨rfl, n8, rfl⟩
        go_wp2_with fail
        go_ret
        refine ⟨rfl, ?_⟩
        have hs1 := Hb1.out.size
        have hs2 := Hbw.out.size
        have hs3 := Hb3.out.size
        have hs4 := Hb4.out.size
        refine Hb1.out.trans ((Hbw.out.trans ((Hb3.out.trans ((Hb4.out.trans (Hb5.out.mono hs4)).mono hs3)).mono hs2)).mono hs1) |>.trans ?_
        exact below_refl_drewN _ _ _

end Go.Proofs.Ytnaedpfaeioolaa
