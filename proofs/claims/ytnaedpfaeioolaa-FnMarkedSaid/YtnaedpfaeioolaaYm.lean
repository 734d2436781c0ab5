/- The statement FnMarked: what its call computes. Printed by gen_Ym.py. -/
import Derived.Test.YtnaedpfaeioolaaYw
import Derived.Test.YtnaedpfaeioolaaYs
namespace Go.Proofs.Ytnaedpfaeioolaa
open Go.RowKit
set_option linter.unusedVariables false

/-- Those that are marked, and those that are not valid. -/
def strk (ds : List D) (n : Nat) : Bool := ((vtMarked (alOf ds) (GG ds) ds.length)[n]?.getD false) || !((vtValid (alOf ds) (GG ds) ds.length)[n]?.getD true)

theorem strk_al {ds : List D} (hds : DOk ds) (n : Nat) (h : strk ds n = true) : alOf ds n = false := by
  unfold strk at h
  rw [Bool.or_eq_true] at h
  rcases Nat.lt_or_ge n ds.length with hn | hn
  · rcases h with h | h
    · cases hm : (vtMarked (alOf ds) (GG ds) ds.length)[n]? with
      | none => rw [hm] at h; cases h
      | some b => rw [hm] at h; simp at h; subst h; exact (marked_cyc (GG_ok hds) hm).1
    · cases hv : (vtValid (alOf ds) (GG ds) ds.length)[n]? with
      | none => rw [hv] at h; cases h
      | some b =>
        rw [hv] at h
        simp at h
        subst h
        cases hal : alOf ds n
        · rfl
        · rw [valid_of (GG_ok hds) hn (Or.inl hal)] at hv; cases hv
  · rw [List.getElem?_eq_none (by rw [marked_len]; exact hn), List.getElem?_eq_none (by rw [valid_len]; exact hn)] at h
    rcases h with h | h <;> cases h

theorem strk_ans {ds : List D} (hds : DOk ds) : vtValid (alOf (stD (strk ds) ds)) (GG (stD (strk ds) ds)) ds.length = List.replicate ds.length true ∧ vtMarked (alOf (stD (strk ds) ds)) (GG (stD (strk ds) ds)) ds.length = List.replicate ds.length false ∧
    vtCycles (alOf (stD (strk ds) ds)) (GG (stD (strk ds) ds)) ds.length = [] := by
  rw [stD_al]
  obtain ⟨h1, h2⟩ := vt_struck (GG_ok hds) (GG (stD (strk ds) ds)) fun n hn => by
    rw [st_G hds (strk_al hds) hn]
    have hm : ∃ b, (vtMarked (alOf ds) (GG ds) ds.length)[n]? = some b := ⟨_, marked_at hn⟩
    have hv : ∃ b, (vtValid (alOf ds) (GG ds) ds.length)[n]? = some b := ⟨_, valid_at hn⟩
    obtain ⟨mb, hm⟩ := hm
    obtain ⟨vb, hv⟩ := hv
    unfold strk
    rw [hm, hv]
    cases mb <;> cases vb <;> simp
  exact vt_fine h1 h2

set_option maxHeartbeats 4000000 in
set_option maxRecDepth 100000 in
theorem markedLaw_any (ds0 : List D) (w : World) (a : Option Addr) (cap : Nat) (hdv : DV w (.slice a ds0.length cap) ds0) : Calls Try.prog 10 #[.slice a ds0.length cap] w fun e w' => e = .returned (.bool true) ∧ Below w.heap.size w w' := by
  obtain ⟨_, _, e1, hc1, hc2⟩ := hdv.form
  simp at e1
  obtain ⟨rfl, rfl⟩ := e1
  by_cases hbig : 2147483647 < ds0.length
  · go_enter Try.func10, Try.ntmps10
    go_wp2_with fail
    go_ret
    exact ⟨rfl, Below.refl _ _⟩
  · have hbig' : ds0.length ≤ 2147483647 := by omega
    clear hbig
    have Hdv := Lib.hid hdv; clear hdv
    go_enter Try.func10, Try.ntmps10
    go_wp2_with fail
    refine (Fit_any ds0 w a cap Hdv.out).mono ?_
    rintro e w1 ⟨v1, rfl, hd1, hb1⟩
    have hok := fitD_ok ds0
    have h8 := fitD_8 ds0
    have hdir := fitD_dir ds0
    generalize fitD ds0 = ds at hd1 hok h8 hdir
    obtain ⟨a1, cap1, rfl, hc3, hc4⟩ := hd1.form
    have H25 := Lib.hid (holds_any ds hok (by omega) hdir w1 a1 cap1 hd1)
    have Hd1 := Lib.hid hd1; clear hd1
    have Hok := Lib.hid hok; clear hok hdir
    have Hb1 := Lib.hid hb1; clear hb1
    go_wp2_with fail
    refine H25.out.mono ?_
    rintro e w2 ⟨gv, gs, rfl, hgl, hll, hho, hb2⟩
    obtain ⟨ga, gc, rfl, hgc1, hgc2⟩ := hll.form
    rw [List.length_map] at hgc1
    rw [List.length_map]
    have hF := Lib.hid (GG_ok Hok.out)
    have H20 := Lib.hid (Valid_any ds Hok.out (by omega) w2 a1 cap1 (Hd1.out.ext hb2))
    have Hgl := Lib.hid hgl
    have Hll := Lib.hid hll
    have Hho := Lib.hid hho
    have Hb2 := Lib.hid hb2
    have hN : gs.length ≤ 8 := by omega
    clear hgl hll hho hb2 H25
    go_wp2_with fail
    refine H20.out.mono ?_
    rintro e w3 ⟨va, vb, vc, rfl, q1, q2, q3, hb3⟩
    have Hv := Lib.hid q1
    have Hm := Lib.hid q2
    have Hcy := Lib.hid q3
    have Hb3 := Lib.hid hb3
    obtain ⟨va1, vac, rfl, hvc1, hvc2, _⟩ := own_slice q1
    obtain ⟨vb1, vbc, rfl, hvb1, hvb2, _⟩ := own_slice q2
    have Hbt := Lib.hid (Hb1.out.trans ((Hb2.out.trans (Hb3.out.mono Hb2.out.size)).mono Hb1.out.size))
    have hvc3 : vac ≤ 9223372036854775807 := by simpa [maxLen] using hvc2
    have hvb3 : vbc ≤ 9223372036854775807 := by simpa [maxLen] using hvb2
    have hs13 : w.heap.size ≤ w3.heap.size := Hbt.out.size
    have Hreach := Lib.hid (fun (W : World) (hb : Below w3.heap.size w3 W) (k : Nat) (hk : k < ds.length) => reaches_any gs (holds_gs Hho.out Hgl.out) (by omega) W ga gc hgc1 hgc2 (by have h := ((Hll.out.ll.ext hb3).ext hb); rwa [List.length_map] at h) k (by rw [Hgl.out]; exact hk))
    clear q1 q2 q3 hb3 H20
    go_wp2_with fail
    go_loopw [7, 40] (fun sv i wr => ∃ k : Nat, k ≤ ds.length ∧ i = .int .i64 k ∧ wr.ownsRow w3.heap.size 4 1 sv k (((List.range k).map (strk ds)).map Value.bool) ∧ Below w3.heap.size w3 wr) (fun _ i _ => ds.length - (intOf i).toNat)
    case atStart => exact ⟨0, Nat.zero_le _, rfl, World.ownsRow_nil _ _ _ _, Below.refl _ _⟩
    case round =>
      obtain ⟨k, hk, rfl, hso, hbw⟩ := hrel
      have Hso := Lib.hid hso
      obtain ⟨sa, sc, hsv, _, _, _⟩ := own_slice hso
      subst hsv
      by_cases hlt : k < ds.length
      · obtain ⟨b, o, kd, md, x, y, rfl, x0, _, _, _, _⟩ := Hd1.out.at hlt
        have hb1w := Hb2.out.trans ((Hb3.out.trans (hbw.mono Hb3.out.size)).mono Hb2.out.size)
        have y0 := cell_later hb1w x0
        clear x0
        obtain ⟨mb, hm⟩ : ∃ b, (vtMarked (alOf ds) (GG ds) ds.length)[k]? = some b := ⟨_, marked_at hlt⟩
        obtain ⟨vb, hv⟩ : ∃ b, (vtValid (alOf ds) (GG ds) ds.length)[k]? = some b := ⟨_, valid_at hlt⟩
        have hst : strk ds k = (mb || !vb) := by unfold strk; rw [hm, hv]; rfl
        obtain ⟨g, o2, c2, e2, z0⟩ := row_bool (own_ext Hm.out hbw) hm
        simp at e2
        obtain ⟨rfl, rfl⟩ := e2
        obtain ⟨g', o3, c3, e3, z1⟩ := row_bool (own_ext Hv.out hbw) hv
        simp at e3
        obtain ⟨rfl, rfl⟩ := e3
        have hrow : ((List.range (k + 1)).map (strk ds)).map Value.bool = ((List.range k).map (strk ds)).map Value.bool ++ [.bool (strk ds k)] := by
          rw [List.range_succ, List.map_append, List.map_append]; rfl
        rw [hst] at hrow
        have hmc := fun (h : mb = true) => marked_cyc hF.out (h ▸ hm)
        have H28 := Lib.hid (onCycle_any gs (holds_gs Hho.out Hgl.out) (by omega) wr ga gc hgc1 hgc2 (by have h := ((Hll.out.ll.ext Hb3.out).ext hbw); rwa [List.length_map] at h) k (by rw [Hgl.out]; exact hlt))
        have Hrow := Lib.hid hrow
        have Hbw := Lib.hid hbw
        have hbs3 : w3.heap.size ≤ wr.heap.size := Hbw.out.size
        clear hrow hst hm hv hbw hso hb1w
        cases mb
        · clear hmc
          cases vb
          all_goals
            go_wp2_with (at_builtin; refine wpList_app1 _ rfl (.tmp 59) (.tmp 68) 25 rfl w3.heap.size 4 _ 1 Try.underlying25 Try.info4 rfl _ k _ _ rfl rfl Hso.out rfl ?_ ?_ ?_ ?_)
            · simp only [maxLen]; omega
            · omega
            · exact hbs3
            intro sv' w4 g1 _ g3 _
            obtain ⟨sa', sc', hsv', _, _, _⟩ := own_slice g1
            subst hsv'
            have hn : w4.ownsRow w3.heap.size 4 1 (.slice sa' (k + 1) sc') (k + 1) (((List.range (k + 1)).map (strk ds)).map Value.bool) := by rw [Hrow.out, List.map_map]; exact g1
            have Hn := Lib.hid hn
            have Hb4 := Lib.hid (below_grown Hbw.out Hso.out (Nat.le_refl _) hbs3 g3)
            clear hn g1 g3
            go_wp2_with fail
            go_roundw
            case rel => exact ⟨k + 1, by omega, by go_num, Hn.out, Hb4.out⟩
            case measure => simp [intOf]; omega
        · obtain ⟨ha, hr⟩ := hmc rfl
          rw [(holds_onC Hho.out Hgl.out k).2 hr] at H28
          rw [ha] at y0
          clear ha hr hmc
          go_wp2_with (first
            | (go_at_call 28; refine H28.out.mono ?_; rintro e w4 ⟨rfl, hb4⟩; have Hb4 := Lib.hid hb4; clear hb4)
            | (at_builtin; refine wpList_app1 _ rfl (.tmp 59) (.tmp 68) 25 rfl w3.heap.size 4 _ 1 Try.underlying25 Try.info4 rfl _ k _ _ rfl rfl (own_ext Hso.out Hb4.out) rfl ?_ ?_ ?_ ?_))
          · simp only [maxLen]; omega
          · omega
          · have := Hb4.out.size; omega
          intro sv' w5 g1 _ g3 _
          obtain ⟨sa', sc', hsv', _, _, _⟩ := own_slice g1
          subst hsv'
          have hn : w5.ownsRow w3.heap.size 4 1 (.slice sa' (k + 1) sc') (k + 1) (((List.range (k + 1)).map (strk ds)).map Value.bool) := by rw [Hrow.out, List.map_map]; exact g1
          have Hn := Lib.hid hn
          have Hb5 := Lib.hid (below_grown (Hbw.out.trans (Hb4.out.mono hbs3)) (own_ext Hso.out Hb4.out) (Nat.le_refl _) (by have := Hb4.out.size; omega) g3)
          clear hn g1 g3
          go_wp2_with fail
          go_roundw
          case rel => exact ⟨k + 1, by omega, by go_num, Hn.out, Hb5.out⟩
          case measure => simp [intOf]; omega
      · have hke : k = ds.length := by omega
        subst hke
        have Hbw := Lib.hid hbw
        have hbw0 : Below w1.heap.size w1 wr := Hb2.out.trans ((Hb3.out.trans (hbw.mono Hb3.out.size)).mono Hb2.out.size)
        obtain ⟨sa', sc', e4, hq1, hq2, hq3⟩ := own_slice hso
        simp at e4
        obtain ⟨rfl, rfl⟩ := e4
        have H29 := Lib.hid (struck_any ds (by omega) (strk ds) wr a1 cap1 hc4 (Hd1.out.ext hbw0) sa sc hq1 (by simpa [maxLen] using hq2) hq3)
        have Hbw0 := Lib.hid hbw0
        clear hbw hbw0 hso hq1 hq2 hq3
        go_wp2_with fail
        refine H29.out.mono ?_
        rintro e w4 ⟨v4, rfl, hd4, hb4⟩
        obtain ⟨a4, cap4, rfl, hq1, hq2⟩ := hd4.form
        have h20 := Valid_any (stD (strk ds) ds) (st_ok Hok.out _) (by rw [stD_len]; omega) w4 a4 cap4 hd4
        rw [stD_len] at h20 hq1
        rw [stD_len]
        have H20 := Lib.hid h20
        have Hans := Lib.hid (strk_ans Hok.out)
        have Hsl := Lib.hid (stD_len (strk ds) ds)
        have Hb4 := Lib.hid hb4
        clear hb4 hd4 h20 H29
        go_wp2_with fail
        refine H20.out.mono ?_
        rintro e w5 ⟨va', vb', vc', rfl, q1, q2, q3, hb5⟩
        rw [Hsl.out, Hans.out.1] at q1
        rw [Hsl.out, Hans.out.2.1] at q2
        rw [Hsl.out, Hans.out.2.2] at q3
        have Ha5 := Lib.hid q1
        have Hm5 := Lib.hid q2
        have Hc5 := Lib.hid q3
        have Hb5 := Lib.hid hb5
        clear q1 q2 q3 hb5
        obtain ⟨vs, hvs, _⟩ := Hc5.out
        obtain ⟨ca, cc, rfl, _, _, _⟩ := own_slice hvs
        clear hvs
        go_wp2_with fail
        refine (works_any _).mono ?_
        rintro e w6 ⟨rfl, hb6⟩
        have Ha6 := Lib.hid (own_slice (own_ext Ha5.out hb6))
        have Hm6 := Lib.hid (own_slice (own_ext Hm5.out hb6))
        have Hb6 := Lib.hid hb6; clear hb6
        go_wp2_with fail
        refine (all_yes _ (List.replicate ds.length true) _ true _ (by simpa using Ha6.out) (allB_rep _ _)).mono ?_
        rintro e w7 ⟨rfl, rfl⟩
        go_wp2_with fail
        refine (all_yes _ (List.replicate ds.length false) _ false _ (by simpa using Hm6.out) (allB_rep _ _)).mono ?_
        rintro e w7 ⟨rfl, rfl⟩
        go_wp2_with fail
        go_ret
        refine ⟨rfl, ?_⟩
        have hs3 := Hbw.out.size
        have hs4 := Hb4.out.size
        have hs5 := Hb5.out.size
        exact Hbt.out.trans ((Hbw.out.trans ((Hb4.out.trans ((Hb5.out.trans (Hb6.out.mono hs5)).mono hs4)).mono hs3)).mono hs13)

end Go.Proofs.Ytnaedpfaeioolaa
