/- The statement FnBeside: what its call computes. -/
import Derived.Test.YtnaedpfaeioolaaXbs
import Derived.Test.YtnaedpfaeioolaaXn
import Derived.Test.YtnaedpfaeioolaaYc
import Derived.Test.YtnaedpfaeioolaaXs
namespace Go.Proofs.Ytnaedpfaeioolaa
open Go.RowKit
set_option linter.unusedVariables false

def shN (s : Nat) (c : List Nat) : List Nat := c.map (· + s)
theorem sh_ints (s : Nat) (c : List Nat) : sh s (ints c) = ints (shN s c) := by
  unfold sh ints shN
  rw [List.map_map, List.map_map]
  apply List.map_congr_left
  intro x _
  show (x : Int) + (s : Int) = ((x + s : Nat) : Int)
  omega

/-- Lists of lists where a row of truth values has turned. -/
theorem LLO.grwB {w w' : World} {base B : Nat} {v c c' : Value} {n : Nat} {xss : List (List Int)} {ys : List Value} (h : LLO w base v xss) (hc : w.ownsRow B 4 1 c n ys) (hg : Grw w w' c c') : LLO w' base v xss := by
  obtain ⟨vs, h1, h2⟩ := h
  refine ⟨vs, own_keep h1 fun g hgv => hg.by_.block g (h1.lt g hgv).2 fun e => own_diff h1 hc (by decide) g hgv e.symm, fun i u xs hu hx => ?_⟩
  have h3 := h2 i u xs hu hx
  exact own_keep h3 fun g hgv => hg.by_.block g (h3.lt g hgv).2 fun e => own_diff h3 hc (by decide) g hgv e.symm

/-- What the loop over the second list's cycles keeps. -/
def CLoop (w6 : World) (B : Nat) (c0 : Value) (cyc1 : List (List Int)) (css : List (List Nat)) (s : Nat) (cv i : Value) (wr : World) : Prop :=
  ∃ k : Nat, k ≤ css.length ∧ i = .int .i64 k ∧ LLO wr B cv (cyc1 ++ (css.take k).map fun c => ints (shN s c)) ∧ Grw w6 wr c0 cv

set_option maxHeartbeats 4000000 in
set_option maxRecDepth 100000 in
theorem besideLaw_any (l0 m0 : List D) (w : World) (a a' : Option Addr) (cap cap' : Nat) (hdv : DV w (.slice a l0.length cap) l0) (hdv' : DV w (.slice a' m0.length cap') m0) :
    Calls Try.prog 6 #[.slice a l0.length cap, .slice a' m0.length cap'] w fun e w' => e = .returned (.bool true) ∧ Below w.heap.size w w' := by
  obtain ⟨_, _, e1, hc1, hc2⟩ := hdv.form
  simp at e1
  obtain ⟨rfl, rfl⟩ := e1
  obtain ⟨_, _, e1, hc1', hc2'⟩ := hdv'.form
  simp at e1
  obtain ⟨rfl, rfl⟩ := e1
  by_cases hbig : 2147483647 < l0.length
  · go_enter Try.func6, Try.ntmps6
    go_wp2_with fail
    go_ret
    exact ⟨rfl, Below.refl _ _⟩
  · have hbig' : l0.length ≤ 2147483647 := by omega
    clear hbig
    by_cases hbig2 : 2147483647 < m0.length
    · go_enter Try.func6, Try.ntmps6
      go_wp2_with fail
      go_ret
      exact ⟨rfl, Below.refl _ _⟩
    · have hbig2' : m0.length ≤ 2147483647 := by omega
      clear hbig2
      have Hdv := Lib.hid hdv; clear hdv
      have Hdv' := Lib.hid hdv'; clear hdv'
      go_enter Try.func6, Try.ntmps6
      go_wp2_with fail
      refine (Fit_any l0 w a cap Hdv.out).mono ?_
      rintro e w1 ⟨v1, rfl, hd1, hb1⟩
      have hok1 := fitD_ok l0
      have h81 := fitD_8 l0
      generalize fitD l0 = l at hd1 hok1 h81
      obtain ⟨a1, cap1, rfl, hc3, hc4⟩ := hd1.form
      have Hd1 := Lib.hid hd1
      have Hok1 := Lib.hid hok1
      have Hb1 := Lib.hid hb1
      have H19 := Lib.hid (Fit_any m0 w1 a' cap' (Hdv'.out.ext hb1))
      clear hd1 hok1 hb1
      go_wp2_with fail
      refine H19.out.mono ?_
      rintro e w2 ⟨v2, rfl, hd2, hb2⟩
      have hok2 := fitD_ok m0
      have h82 := fitD_8 m0
      generalize fitD m0 = m at hd2 hok2 h82
      obtain ⟨a2, cap2, rfl, hc5, hc6⟩ := hd2.form
      have Hd2 := Lib.hid hd2
      have Hok2 := Lib.hid hok2
      have Hb2 := Lib.hid hb2
      have H20 := Lib.hid (ValidD_any l Hok1.out (by omega) w2 a1 cap1 (Hd1.out.ext hb2))
      clear hd2 hok2 hb2 H19
      go_wp2_with fail
      refine H20.out.mono ?_
      rintro e w3 ⟨va, vb, vc, rfl, p1, p2, p3, hb3, pd⟩
      have P1 := Lib.hid p1
      have P2 := Lib.hid p2
      have P3 := Lib.hid p3
      have Pd := Lib.hid pd
      have Hb3 := Lib.hid hb3
      have H20b := Lib.hid (Valid_any m Hok2.out (by omega) w3 a2 cap2 (Hd2.out.ext hb3))
      clear p1 p2 p3 pd hb3 H20
      go_wp2_with fail
      refine H20b.out.mono ?_
      rintro e w4 ⟨xa, xb, xc, rfl, q1, q2, q3, hb4⟩
      obtain ⟨css, hcss, hcsl, hcsp⟩ := cycles_nat Hok2.out
      rw [hcss] at q3
      have Hcss := Lib.hid hcss
      have Hcsp := Lib.hid hcsp
      have Q1 := Lib.hid q1
      have Q2 := Lib.hid q2
      have Q3 := Lib.hid q3
      have Hb4 := Lib.hid hb4
      obtain ⟨za, zc, rfl, hz1, hz2⟩ := q3.form
      rw [List.length_map] at hz1
      rw [List.length_map]
      have hb24 : Below w2.heap.size w2 w4 := Hb3.out.trans (hb4.mono Hb3.out.size)
      have H24 := Lib.hid (beside_any l m Hok2.out h81 h82 w4 a1 a2 cap1 cap2 hc3 hc4 hc5 hc6 ((Hd1.out.ext Hb2.out).ext hb24) (Hd2.out.ext hb24))
      clear q1 q2 q3 hb4 hcss hcsp hb24 H20b
      go_wp2_with fail
      refine H24.out.mono ?_
      rintro e w5 ⟨v5, rfl, hd5, hb5⟩
      obtain ⟨a5, cap5, rfl, hc7, hc8⟩ := hd5.form
      have h20 := Valid_any (bsD l m) (bs_ok Hok1.out Hok2.out) (by rw [bs_len]; omega) w5 a5 cap5 hd5
      rw [bs_len] at h20
      rw [bs_len]
      have H20c := Lib.hid h20
      have Hb5 := Lib.hid hb5
      have Hbf := Lib.hid (bs_final Hok1.out Hok2.out)
      have Hbl := Lib.hid (bs_len l m)
      clear h20 hd5 hb5 H24 hc7 hc8
      go_wp2_with fail
      refine H20c.out.mono ?_
      rintro e w6 ⟨ua, ub, uc, rfl, r1, r2, r3, hb6⟩
      rw [Hbl.out, Hbf.out.1] at r1
      rw [Hbl.out, Hbf.out.2.1] at r2
      rw [Hbl.out, Hbf.out.2.2, Hcss.out] at r3
      have R1' := Lib.hid r1
      have R2' := Lib.hid r2
      have R3' := Lib.hid r3
      have Hb6 := Lib.hid hb6
      have hb56 : Below w4.heap.size w4 w6 := Hb5.out.trans (hb6.mono Hb5.out.size)
      have hb36 : Below w3.heap.size w3 w6 := Hb4.out.trans (hb56.mono Hb4.out.size)
      have Hb46 := Lib.hid hb56
      have Hb36 := Lib.hid hb36
      have Hs := Lib.hid (show w2.heap.size ≤ w3.heap.size ∧ w3.heap.size ≤ w4.heap.size ∧ w4.heap.size ≤ w5.heap.size ∧ w5.heap.size ≤ w6.heap.size from ⟨Hb3.out.size, Hb4.out.size, Hb5.out.size, hb6.size⟩)
      -- the row of the first list's cycles
      obtain ⟨cvs, hcvs, _⟩ := P3.out
      have hc0lt : ∀ b, vc.ownBlock = some b → b < w3.heap.size := fun b hb => (hcvs.lt b hb).2
      have Hc0 := Lib.hid (own_ext hcvs hb36)
      have Hc0lt := Lib.hid hc0lt
      obtain ⟨ya, yc, rfl, _, _⟩ := P3.out.form
      have Hstart := Lib.hid (show CLoop w6 w2.heap.size (.slice ya (vtCycles (alOf l) (GG l) l.length).length yc) (vtCycles (alOf l) (GG l) l.length) css l.length (.slice ya (vtCycles (alOf l) (GG l) l.length).length yc) (.int .i64 0) w6 from
        ⟨0, Nat.zero_le _, rfl, by simpa using P3.out.ext hb36, Grw.refl _ _⟩)
      have hcl1 : (vtCycles (alOf l) (GG l) l.length).length ≤ 8 := by have := vt_cyc (alOf l) (GG l) l.length l.length; unfold vtCycles; omega
      generalize vtCycles (alOf l) (GG l) l.length = cyc1 at P3 R3' Hc0 Hc0lt Hstart hcl1
      clear r1 r2 r3 hb6 hb56 hb36 hcvs hc0lt H20c
      go_wp2_with fail
      go_loopw [7, 53] (CLoop w6 w2.heap.size (.slice ya cyc1.length yc) cyc1 css l.length) (fun _ i _ => css.length - (intOf i).toNat)
      case atStart => exact Hstart.out
      case round =>
        obtain ⟨k, hk, rfl, hll, hgr⟩ := hrel
        clear Hstart
        have Hgr := Lib.hid hgr
        obtain ⟨vs, hvs, hin⟩ := hll
        obtain ⟨n, hn⟩ : ∃ n, n = (cyc1 ++ (css.take k).map fun c => ints (shN l.length c)).length := ⟨_, rfl⟩
        rw [← hn] at hvs
        have hn16 : n ≤ 20 := by rw [hn, List.length_append, List.length_map, List.length_take]; omega
        have Hvs := Lib.hid hvs
        obtain ⟨ca, cc, rfl, _, _, _⟩ := own_slice hvs
        have Hin := Lib.hid hin
        have Hn := Lib.hid hn
        have hsr : w6.heap.size ≤ wr.heap.size := hgr.size
        obtain ⟨hsz1, hsz2, hsz3, hsz4⟩ := Hs.out
        have hzl : LLO wr w3.heap.size (.slice za css.length zc) (css.map ints) := by
          have h := (Q3.out.ext Hb46.out).grw Hc0.out Hc0lt.out hgr
          rwa [List.length_map] at h
        clear hvs hin hn
        by_cases hlt : k < css.length
        · have hck : gF css k = css[k] := by unfold gF; rw [List.getD_eq_getElem?_getD, List.getElem?_eq_getElem hlt]; rfl
          obtain ⟨_, h2, _⟩ := Hcsp.out css[k] (List.getElem_mem hlt)
          obtain ⟨cb, co, xa', xc', rfl, y0, hy3, hy4, hy5⟩ := LL.at (a := za) (n := css.length) (cap := zc) (by have h := hzl.ll; exact h) hlt
          have hy4' : xc' ≤ 9223372036854775807 := by simpa [maxLen] using hy4
          rw [hck] at y0 hy3 hy5
          have htake : (cyc1 ++ (css.take (k + 1)).map fun c => ints (shN l.length c)) = (cyc1 ++ (css.take k).map fun c => ints (shN l.length c)) ++ [ints (shN l.length css[k])] := by
            rw [List.take_succ_eq_append_getElem hlt, List.map_append, List.append_assoc]; rfl
          have hclen : css[k].length ≤ m.length := by
            obtain ⟨h1, _, _⟩ := Hcsp.out css[k] (List.getElem_mem hlt)
            exact nodup_le m.length _ h1.nodup fun x hx => (h2 x hx).1
          generalize css[k] = c at h2 y0 hy3 hy5 htake hclen
          have H2 := Lib.hid h2
          have Hy5 := Lib.hid hy5
          have Htake := Lib.hid htake
          clear h2 hy5 htake hck hgr hzl
          go_wp2_with fail
          obtain ⟨wo, rfl⟩ : ∃ wo : World, wo = wr := ⟨_, rfl⟩
          go_loopw [16, 59] (fun nv i wr => ∃ j : Nat, j ≤ c.length ∧ i = .int .i64 j ∧ wr.ownsRow wo.heap.size 3 1 nv j ((ints ((shN l.length c).take j)).map (Value.int .i64)) ∧ Below wo.heap.size wo wr) (fun _ i _ => c.length - (intOf i).toNat)
          case atStart => exact ⟨0, Nat.zero_le _, rfl, World.ownsRow_nil _ _ _ _, Below.refl _ _⟩
          case round =>
            obtain ⟨j, hj, rfl, hnv, hbj⟩ := hrel
            have Hnv := Lib.hid hnv
            obtain ⟨na, nc, rfl, _, _, _⟩ := own_slice hnv
            have Hbj := Lib.hid hbj
            by_cases hlt2 : j < c.length
            · obtain ⟨cb2, co2, rfl, z0⟩ := (Hy5.out.ext hbj) j (.int .i64 ((c[j] : Nat) : Int)) (by rw [List.getElem?_map]; simp [ints, hlt2])
              obtain ⟨hnl, _⟩ := H2.out _ (List.getElem_mem hlt2)
              have htk : (shN l.length c).take (j + 1) = (shN l.length c).take j ++ [c[j] + l.length] := by
                rw [List.take_succ_eq_append_getElem (by simpa [shN] using hlt2)]
                simp [shN]
              generalize c[j] = x at z0 hnl htk
              have Htk := Lib.hid htk
              clear htk hnv hbj
              go_wp2_with (at_builtin; refine wpList_app1 _ rfl (.tmp 63) (.tmp 68) 22 rfl wo.heap.size 3 _ 8 Try.underlying22 Try.info3 rfl _ j _ _ rfl rfl Hnv.out rfl ?_ ?_ ?_ ?_)
              · simp only [maxLen]; omega
              · omega
              · exact Hbj.out.size
              intro nv' w8 g1 _ g3 _
              have ho : w8.ownsRow wo.heap.size 3 1 nv' (j + 1) ((ints ((shN l.length c).take (j + 1))).map (Value.int .i64)) := by
                rw [Htk.out, ints_append, List.map_append]
                simpa [ints] using g1
              obtain ⟨na', nc', rfl, _, _, _⟩ := own_slice g1
              have Ho := Lib.hid ho
              have Hb8 := Lib.hid (below_grown Hbj.out Hnv.out (Nat.le_refl _) Hbj.out.size g3)
              clear ho g1 g3
              go_wp2_with fail
              go_roundw
              case rel => exact ⟨j + 1, by omega, by go_num, Ho.out, Hb8.out⟩
              case measure => simp [intOf]; omega
            · have hje : j = c.length := by omega
              subst hje
              have hfull : wr.ownsRow wo.heap.size 3 1 (.slice na c.length nc) c.length ((ints (shN l.length c)).map (Value.int .i64)) := by
                have h := hnv
                rwa [List.take_of_length_le (by simp [shN])] at h
              have Hfull := Lib.hid hfull
              have Hvs7 := Lib.hid (own_ext Hvs.out hbj)
              clear hnv hfull hbj
              go_wp2_with (at_builtin; refine wpList_app1 _ rfl (.tmp 71) (.tmp 73) 24 rfl w2.heap.size 22 _ 24 Try.underlying24 Try.info22 rfl _ n _ _ rfl rfl Hvs7.out rfl ?_ ?_ ?_ ?_)
              · simp only [maxLen]; omega
              · omega
              · have := Hbj.out.size; omega
              intro cv' w8 g1 _ g3 g4
              have hl0 : LLO w8 w2.heap.size cv' ((cyc1 ++ (css.take k).map fun c => ints (shN l.length c)) ++ [ints (shN l.length c)]) := by
                refine LLO.snoc (w := wr) (vs := vs) (by rw [← Hn.out]; exact Hvs7.out) (fun i u xs hu hx => (Hin.out i u xs hu hx).ext Hbj.out) ?_ (by rw [← Hn.out]; exact g1) g3
                unfold IntsO
                have h := own_base Hfull.out (Nat.zero_le _)
                have e : (ints (shN l.length c)).length = c.length := by simp [ints, shN]
                rw [e]
                exact h
              rw [← Htake.out] at hl0
              obtain ⟨ca', cc', rfl, _, _, _⟩ := own_slice g1
              have Hl0 := Lib.hid hl0
              have Hg8 := Lib.hid (Hgr.out.trans ((Grw.below _ Hbj.out).trans ⟨g3, g4⟩))
              clear hl0 g1 g3 g4
              go_wp2_with fail
              go_roundw
              case rel => exact ⟨k + 1, by omega, by go_num, Hl0.out, Hg8.out⟩
              case measure => simp [intOf]; omega
        · have hke : k = css.length := by omega
          subst hke
          have hcl : LLO wr w2.heap.size (.slice ca n cc) (cyc1 ++ css.map fun c => ints (shN l.length c)) := ⟨vs, by rw [List.take_of_length_le (Nat.le_refl _)] at Hn; rw [← Hn.out]; exact Hvs.out, fun i u xs hu hx => Hin.out i u xs hu (by rw [List.take_of_length_le (Nat.le_refl _)]; exact hx)⟩
          have e3 : (css.map ints).map (sh l.length) = css.map fun c => ints (shN l.length c) := by
            rw [List.map_map]; exact List.map_congr_left fun c _ => sh_ints _ _
          have hc0 := Hc0.out
          have hva := (own_grw (own_ext P1.out Hb36.out) hgr (own_diff (own_ext P1.out Hb36.out) hc0 (by decide))).1
          have hvb := (own_grw (own_ext P2.out Hb36.out) hgr (own_diff (own_ext P2.out Hb36.out) hc0 (by decide))).1
          have hxa := (own_grw (own_ext Q1.out Hb46.out) hgr (own_diff (own_ext Q1.out Hb46.out) hc0 (by decide))).1
          have hxb := (own_grw (own_ext Q2.out Hb46.out) hgr (own_diff (own_ext Q2.out Hb46.out) hc0 (by decide))).1
          have hua := (own_grw R1'.out hgr (own_diff R1'.out hc0 (by decide))).1
          have hub := (own_grw R2'.out hgr (own_diff R2'.out hc0 (by decide))).1
          have huc : LLO wr w5.heap.size uc (cyc1 ++ css.map fun c => ints (shN l.length c)) := by
            rw [← e3]
            exact LLO.grw R3'.out hc0 (fun b hb => by have := Hc0lt.out b hb; omega) hgr
          have hdxa : ∀ b, xb.ownBlock = some b → va.ownBlock ≠ some b := fun b h h' => by
            have := (Q2.out.lt b h).1
            have := (P1.out.lt b h').2
            omega
          have hdua : ∀ b, ua.ownBlock = some b → va.ownBlock ≠ some b := fun b h h' => by
            have := (R1'.out.lt b h).1
            have := (P1.out.lt b h').2
            omega
          have hdub : ∀ b, ub.ownBlock = some b → va.ownBlock ≠ some b := fun b h h' => by
            have := (R2'.out.lt b h).1
            have := (P1.out.lt b h').2
            omega
          have hdub' : ∀ b, ub.ownBlock = some b → vb.ownBlock ≠ some b := fun b h h' => by
            have := (R2'.out.lt b h).1
            have := (P2.out.lt b h').2
            omega
          have hs0 : w.heap.size ≤ w2.heap.size := by have := Hb1.out.size; have := Hb2.out.size; omega
          have hb06 : Below w.heap.size w w6 := Hb1.out.trans ((Hb2.out.trans ((Hb3.out.trans (Hb36.out.mono Hb3.out.size)).mono Hb2.out.size)).mono Hb1.out.size)
          have hb0r : Below w.heap.size w wr := below_grown hb06 hc0 hs0 (by omega) hgr.by_
          have Hva := Lib.hid hva
          have Hvb := Lib.hid hvb
          have Hxa := Lib.hid hxa
          have Hxb := Lib.hid hxb
          have Hua := Lib.hid hua
          have Hub := Lib.hid hub
          have Huc := Lib.hid huc
          have Hcl := Lib.hid hcl
          have Hdxa := Lib.hid hdxa
          have Hdua := Lib.hid hdua
          have Hdub := Lib.hid hdub
          have Hdub' := Lib.hid hdub'
          have Hb0r := Lib.hid hb0r
          have hle : w2.heap.size ≤ wr.heap.size := by omega
          obtain ⟨xa1, xac, rfl, hq1, hq2, hxr⟩ := own_slice hxa
          obtain ⟨xb1, xbc, rfl, hq3, hq4, hxr2⟩ := own_slice hxb
          have Hxr := Lib.hid hxr
          have Hxr2 := Lib.hid hxr2
          clear e3 hc0 hva hvb hxa hxb hua hub huc hcl hdxa hdua hdub hdub' hb06 hb0r hgr hzl hxr hxr2
          go_wp2_with fail
          refine (works_any _).mono ?_
          rintro e w7 ⟨rfl, hb7⟩
          have hb7x := Lib.hid hb7
          have Hb7 := Lib.hid hb7
          have hs7 : wr.heap.size ≤ w7.heap.size := hb7.size
          clear hb7
          have Hva7 := Lib.hid (own_ext Hva.out hb7x.out)
          have Hxr7 := Lib.hid (Hxr.out.ext hb7x.out)
          go_wp2_with (at_builtin; refine wpList_appBg w7 (by first | rfl | simp [Region.wanted, yielded] | trace_state) (.tmp 79) (.tmp 80) 25 rfl Try.underlying25 Try.info4 w2.heap.size va l.length _ rfl Hva7.out xa1 m.length xac rfl _ (by rw [List.length_map, valid_len]) Hxr7.out (by intro u hu; obtain ⟨b, _, rfl⟩ := List.mem_map.1 hu; rfl) (by omega) (by omega) ?_)
          intro ya1 w8 g1 g2
          -- the world behind the first append
          have hva7 := Hva7.out
          have hvb8 := own_grw (own_ext Hvb.out hb7x.out) g2 Pd.out
          have hxb8 := (own_grw (own_ext Hxb.out hb7x.out) g2 Hdxa.out).1
          have hua8 := (own_grw (own_ext Hua.out hb7x.out) g2 Hdua.out).1
          have hub8 := (own_grw (own_ext Hub.out hb7x.out) g2 Hdub.out).1
          have huc8 := LLO.grwB (Huc.out.ext hb7x.out) hva7 g2
          have hcl8 := LLO.grwB (Hcl.out.ext hb7x.out) hva7 g2
          have hs8 : w7.heap.size ≤ w8.heap.size := g2.size
          have hb08 : Below w.heap.size w w8 := below_grown (Hb0r.out.trans (hb7x.out.mono Hb0r.out.size)) hva7 hs0 (by omega) g2.by_
          rw [← List.map_append] at g1
          have Hya := Lib.hid g1
          have Hvb8 := Lib.hid hvb8.1
          have Hxb8 := Lib.hid hxb8
          have Hua8 := Lib.hid hua8
          have Hub8 := Lib.hid hub8
          have Huc8 := Lib.hid huc8
          have Hcl8 := Lib.hid hcl8
          have Hb08 := Lib.hid hb08
          have Hbo1 := Lib.hid (bools_eq ua ya1 (vtValid (alOf l) (GG l) l.length ++ vtValid (alOf m) (GG m) m.length) w8 (by have h := own_slice hua8; rwa [show l.length + m.length = (vtValid (alOf l) (GG l) l.length ++ vtValid (alOf m) (GG m) m.length).length from by rw [List.length_append, valid_len, valid_len]] at h) (by have h := own_slice g1; rwa [show l.length + m.length = (vtValid (alOf l) (GG l) l.length ++ vtValid (alOf m) (GG m) m.length).length from by rw [List.length_append, valid_len, valid_len]] at h))
          clear g1 g2 hva7 hvb8 hxb8 hua8 hub8 huc8 hcl8 hb08
          go_wp2_with fail
          refine Hbo1.out.mono ?_
          rintro e w9 ⟨rfl, n9, hw9⟩
          have hb9 : Below w8.heap.size w8 w9 := by rw [hw9]; exact below_refl_drewN _ _ _
          have Hb9 := Lib.hid hb9
          have hs9 : w8.heap.size ≤ w9.heap.size := hb9.size
          clear hw9 hb9
          have Hvb9 := Lib.hid (own_ext Hvb8.out Hb9.out)
          obtain ⟨xb2, xb2c, hxe, _, _, hxr9⟩ := own_slice (own_ext Hxb8.out Hb9.out)
          obtain ⟨rfl, _, rfl⟩ : xb1 = xb2 ∧ True ∧ xbc = xb2c := by simpa using hxe
          have Hxr9 := Lib.hid hxr9
          clear hxr9 hxe
          go_wp2_with (at_builtin; refine wpList_appBg w9 (by first | rfl | simp [Region.wanted, yielded] | trace_state) (.tmp 86) (.tmp 87) 25 rfl Try.underlying25 Try.info4 w2.heap.size vb l.length _ rfl Hvb9.out xb1 m.length xbc rfl _ (by rw [List.length_map, marked_len]) Hxr9.out (by intro u hu; obtain ⟨b, _, rfl⟩ := List.mem_map.1 hu; rfl) (by omega) (by omega) ?_)
          intro yb1 wa g1 g2
          have hvb9 := Hvb9.out
          have hub10 := (own_grw (own_ext Hub8.out Hb9.out) g2 Hdub'.out).1
          have huc10 := LLO.grwB (Huc8.out.ext Hb9.out) hvb9 g2
          have hcl10 := LLO.grwB (Hcl8.out.ext Hb9.out) hvb9 g2
          have hs10 : w9.heap.size ≤ wa.heap.size := g2.size
          have hb010 : Below w.heap.size w wa := below_grown (Hb08.out.trans (Hb9.out.mono Hb08.out.size)) hvb9 hs0 (by omega) g2.by_
          rw [← List.map_append] at g1
          have Hb010 := Lib.hid hb010
          have Huc10 := Lib.hid huc10
          have Hcl10 := Lib.hid hcl10
          have Hbo2 := Lib.hid (bools_eq ub yb1 (vtMarked (alOf l) (GG l) l.length ++ vtMarked (alOf m) (GG m) m.length) wa (by have h := own_slice hub10; rwa [show l.length + m.length = (vtMarked (alOf l) (GG l) l.length ++ vtMarked (alOf m) (GG m) m.length).length from by rw [List.length_append, marked_len, marked_len]] at h) (by have h := own_slice g1; rwa [show l.length + m.length = (vtMarked (alOf l) (GG l) l.length ++ vtMarked (alOf m) (GG m) m.length).length from by rw [List.length_append, marked_len, marked_len]] at h))
          clear g1 g2 hvb9 hub10 huc10 hcl10 hb010
          go_wp2_with fail
          refine Hbo2.out.mono ?_
          rintro e wb ⟨rfl, nb, hwb⟩
          have hbb : Below wa.heap.size wa wb := by rw [hwb]; exact below_refl_drewN _ _ _
          have Hbb := Lib.hid hbb
          clear hwb hbb
          go_wp2_with fail
          refine (lists_eq _ _ _ _ (Huc10.out.ext Hbb.out).ll (Hcl10.out.ext Hbb.out).ll).mono ?_
          rintro e wc ⟨rfl, nc, hwc⟩
          have Hbc := Lib.hid (show Below wb.heap.size wb wc by rw [hwc]; exact below_refl_drewN _ _ _)
          clear hwc
          go_wp2_with fail
          go_ret
          exact ⟨rfl, Hb010.out.trans ((Hbb.out.trans (Hbc.out.mono Hbb.out.size)).mono Hb010.out.size)⟩

end Go.Proofs.Ytnaedpfaeioolaa
