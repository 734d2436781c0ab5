/- The statement FnCycles: what its call computes. Printed by gen_Yc.py. -/
import Derived.Test.YtnaedpfaeioolaaYw
import Derived.Test.YtnaedpfaeioolaaYi
namespace Go.Proofs.Ytnaedpfaeioolaa
open Go.RowKit
set_option linter.unusedVariables false

/-- Whether it is marked. -/
def mkd (ds : List D) (n : Nat) : Bool := (vtMarked (alOf ds) (GG ds) ds.length)[n]?.getD false

/-- The cycles that are reported, as lists of declarations. -/
theorem cycles_nat {ds : List D} (hds : DOk ds) : ∃ css : List (List Nat), vtCycles (alOf ds) (GG ds) ds.length = css.map ints ∧ css.length ≤ ds.length ∧ ∀ c ∈ css, IsCyc (GG ds) noMk c ∧ (∀ x ∈ c, x < ds.length ∧ alOf ds x = false) ∧ c.any (mkd ds) = true := by
  have h := cycles_ok (GG_ok hds) ds.length (Nat.le_refl _)
  have hl : (vtCycles (alOf ds) (GG ds) ds.length).length ≤ ds.length := vt_cyc _ _ _ _
  have key : ∀ l : List (List Int), (∀ c ∈ l, ∃ c', c = c'.map Int.ofNat ∧ IsCyc (GG ds) noMk c' ∧ (∀ x ∈ c', x < ds.length ∧ alOf ds x = false) ∧ ∃ x ∈ c', mk (alOf ds) (GG ds) ds.length ds.length x = true) →
      ∃ css : List (List Nat), l = css.map ints ∧ ∀ c ∈ css, IsCyc (GG ds) noMk c ∧ (∀ x ∈ c, x < ds.length ∧ alOf ds x = false) ∧ c.any (mkd ds) = true := by
    intro l
    induction l with
    | nil => intro _; exact ⟨[], rfl, by simp⟩
    | cons c l ih =>
      intro hc
      obtain ⟨css, h1, h2⟩ := ih fun c' hc' => hc c' (by simp [hc'])
      obtain ⟨c', rfl, q1, q2, x, hx, q3⟩ := hc c (by simp)
      refine ⟨c' :: css, by rw [List.map_cons, h1]; rfl, fun d hd => ?_⟩
      rcases List.mem_cons.1 hd with rfl | hd
      · refine ⟨q1, q2, ?_⟩
        rw [List.any_eq_true]
        refine ⟨x, hx, ?_⟩
        unfold mkd
        rw [marked_at (q2 x hx).1, (q2 x hx).2, q3]
        rfl
      · exact h2 d hd
  obtain ⟨css, h1, h2⟩ := key _ h
  refine ⟨css, h1, ?_, h2⟩
  have : (css.map ints).length ≤ ds.length := by rw [← h1]; exact hl
  simpa using this

set_option maxHeartbeats 4000000 in
set_option maxRecDepth 100000 in
theorem cyclesLaw_any (ds0 : List D) (w : World) (a : Option Addr) (cap : Nat) (hdv : DV w (.slice a ds0.length cap) ds0) : Calls Try.prog 7 #[.slice a ds0.length cap] w fun e w' => e = .returned (.bool true) ∧ Below w.heap.size w w' := by
  obtain ⟨_, _, e1, hc1, hc2⟩ := hdv.form
  simp at e1
  obtain ⟨rfl, rfl⟩ := e1
  by_cases hbig : 2147483647 < ds0.length
  · go_enter Try.func7, Try.ntmps7
    go_wp2_with fail
    go_ret
    exact ⟨rfl, Below.refl _ _⟩
  · have hbig' : ds0.length ≤ 2147483647 := by omega
    clear hbig
    have Hdv := Lib.hid hdv; clear hdv
    go_enter Try.func7, Try.ntmps7
    go_wp2_with fail
    refine (Fit_any ds0 w a cap Hdv.out).mono ?_
    rintro e w1 ⟨v1, rfl, hd1, hb1⟩
    have hok := fitD_ok ds0
    have h8 := fitD_8 ds0
    have hdir := fitD_dir ds0
    generalize fitD ds0 = ds at hd1 hok h8 hdir
    obtain ⟨a1, cap1, rfl, hc3, hc4⟩ := hd1.form
    have H25 := Lib.hid (holds_any ds hok (by omega) hdir w1 a1 cap1 hd1)
    have Hd1 := Lib.hid hd1; clear hd1
    have Hok := Lib.hid hok; clear hok hdir
    have Hb1 := Lib.hid hb1; clear hb1
    go_wp2_with fail
    refine H25.out.mono ?_
    rintro e w2 ⟨gv, gs, rfl, hgl, hll, hho, hb2⟩
    obtain ⟨ga, gc, rfl, hgc1, hgc2⟩ := hll.form
    rw [List.length_map] at hgc1
    rw [List.length_map]
    have hF := Lib.hid (GG_ok Hok.out)
    have H20 := Lib.hid (Valid_any ds Hok.out (by omega) w2 a1 cap1 (Hd1.out.ext hb2))
    have Hgl := Lib.hid hgl
    have Hll := Lib.hid hll
    have Hho := Lib.hid hho
    have Hb2 := Lib.hid hb2
    have hN : gs.length ≤ 8 := by omega
    clear hgl hll hho hb2 H25
    go_wp2_with fail
    refine H20.out.mono ?_
    rintro e w3 ⟨va, vb, vc, rfl, q1, q2, q3, hb3⟩
    have Hv := Lib.hid q1
    have Hm := Lib.hid q2
    have Hcy := Lib.hid q3
    have Hb3 := Lib.hid hb3
    obtain ⟨va1, vac, rfl, hvc1, hvc2, _⟩ := own_slice q1
    obtain ⟨vb1, vbc, rfl, hvb1, hvb2, _⟩ := own_slice q2
    have Hbt := Lib.hid (Hb1.out.trans ((Hb2.out.trans (Hb3.out.mono Hb2.out.size)).mono Hb1.out.size))
    have hvc3 : vac ≤ 9223372036854775807 := by simpa [maxLen] using hvc2
    have hvb3 : vbc ≤ 9223372036854775807 := by simpa [maxLen] using hvb2
    have hs13 : w.heap.size ≤ w3.heap.size := Hbt.out.size
    have Hreach := Lib.hid (fun (W : World) (hb : Below w3.heap.size w3 W) (k : Nat) (hk : k < ds.length) => reaches_any gs (holds_gs Hho.out Hgl.out) (by omega) W ga gc hgc1 hgc2 (by have h := ((Hll.out.ll.ext hb3).ext hb); rwa [List.length_map] at h) k (by rw [Hgl.out]; exact hk))
    obtain ⟨css, hcss, hcsl, hcsp⟩ := cycles_nat Hok.out
    rw [hcss] at q3
    obtain ⟨ya, yc, rfl, hy1, hy2⟩ := q3.form
    rw [List.length_map] at hy1
    rw [List.length_map]
    have Hlc := Lib.hid (show LL w3 (.slice ya css.length yc) (css.map ints) by have h := q3.ll; rwa [List.length_map] at h)
    have Hcsp := Lib.hid hcsp
    clear hcsp hcss Hcy
    clear q1 q2 q3 hb3 H20
    go_wp2_with fail
    go_loopw [32] (fun i wr => ∃ k : Nat, k ≤ css.length ∧ i = .int .i64 k ∧ Below w3.heap.size w3 wr) (fun i _ => css.length - (intOf i).toNat)
    case atStart => exact ⟨0, Nat.zero_le _, rfl, Below.refl _ _⟩
    case round =>
      obtain ⟨k, hk, rfl, hbw⟩ := hrel
      by_cases hlt : k < css.length
      · have hck : gF css k = css[k] := by unfold gF; rw [List.getD_eq_getElem?_getD, List.getElem?_eq_getElem hlt]; rfl
        obtain ⟨h1, h2, h3⟩ := Hcsp.out css[k] (List.getElem_mem hlt)
        obtain ⟨cb, co, xa, xc, rfl, y0, hy3, hy4, hy5⟩ := (Hlc.out.ext hbw).at hlt
        have hy4' : xc ≤ 9223372036854775807 := by simpa [maxLen] using hy4
        rw [hck] at y0 hy3 hy5
        generalize css[k] = c at h1 h2 h3 y0 hy3 hy5
        have hb1w : Below w1.heap.size w1 wr := Hb2.out.trans ((Hb3.out.trans (hbw.mono Hb3.out.size)).mono Hb2.out.size)
        have H26 := Lib.hid (isCycle_any ds (by omega) gs Hgl.out Hho.out c h1 h2 wr a1 cap1 hc3 hc4 (Hd1.out.ext hb1w) ga gc hgc1 hgc2 (by have h := ((Hll.out.ll.ext Hb3.out).ext hbw); rwa [List.length_map] at h) xa xc hy3 hy4' hy5)
        have H2 := Lib.hid h2
        have H3 := Lib.hid h3
        have Hy5 := Lib.hid hy5
        have Hbw := Lib.hid hbw
        have hpos : 0 < c.length := List.length_pos_iff.2 h1.ne
        have hcl : c.length ≤ ds.length := nodup_le ds.length c h1.nodup fun x hx => (h2 x hx).1
        clear h1 h2 h3 hy5 hbw hb1w hck
        go_wp2_with (go_at_call 26; refine H26.out.mono ?_; rintro e w4 ⟨rfl, hb4⟩; have Hb4 := Lib.hid hb4; clear hb4)
        obtain ⟨wo, rfl⟩ : ∃ wo : World, wo = wr := ⟨_, rfl⟩
        go_loopw [9, 43] (fun s i wr => ∃ j : Nat, j ≤ c.length ∧ i = .int .i64 j ∧ s = .bool ((c.take j).any (mkd ds)) ∧ Below w4.heap.size w4 wr) (fun _ i _ => c.length - (intOf i).toNat)
        case atStart => exact ⟨0, Nat.zero_le _, rfl, rfl, Below.refl _ _⟩
        case round =>
          obtain ⟨j, hj, rfl, hs, hbj⟩ := hrel
          have Hbj := Lib.hid hbj
          by_cases hlt2 : j < c.length
          · obtain ⟨cb2, co2, rfl, z0⟩ := (Hy5.out.ext (Hb4.out.trans (hbj.mono Hb4.out.size))) j (.int .i64 ((c[j] : Nat) : Int)) (by rw [List.getElem?_map]; simp [ints, hlt2])
            have htake : (c.take (j + 1)).any (mkd ds) = ((c.take j).any (mkd ds) || mkd ds c[j]) := by rw [List.take_succ_eq_append_getElem hlt2, List.any_append]; simp
            obtain ⟨hn, _⟩ := H2.out _ (List.getElem_mem hlt2)
            generalize c[j] = n at z0 htake hn
            obtain ⟨mb, hm⟩ : ∃ b, (vtMarked (alOf ds) (GG ds) ds.length)[n]? = some b := ⟨_, marked_at hn⟩
            have hmn : mkd ds n = mb := by unfold mkd; rw [hm]; rfl
            rw [hmn] at htake
            have hbt : Below w3.heap.size w3 wr := Hbw.out.trans ((Hb4.out.trans (hbj.mono Hb4.out.size)).mono Hbw.out.size)
            obtain ⟨g, o2, c2, e2, z1⟩ := row_bool (own_ext Hm.out hbt) hm
            simp at e2
            obtain ⟨rfl, rfl⟩ := e2
            generalize (c.take j).any (mkd ds) = sb at hs htake
            subst hs
            have Htake := Lib.hid htake
            clear htake hm hmn hbj hbt
            cases sb
            all_goals
              go_wp2_with fail
              go_roundw
              case rel => exact ⟨j + 1, by omega, by go_num, by rw [Htake.out]; simp, Hbj.out⟩
              case measure => simp [intOf]; omega
          · have hje : j = c.length := by omega
            subst hje
            rw [List.take_of_length_le (Nat.le_refl _), H3.out] at hs
            subst hs
            clear hbj
            go_wp2_with fail
            go_roundw
            case rel => exact ⟨k + 1, by omega, by go_num, Hbw.out.trans ((Hb4.out.trans (Hbj.out.mono Hb4.out.size)).mono Hbw.out.size)⟩
            case measure => simp [intOf]; omega
      · have hke : k = css.length := by omega
        subst hke
        have Hbw := Lib.hid hbw
        clear hbw
        go_wp2_with fail
        refine (works_any _).mono ?_
        rintro e w5 ⟨rfl, hb5⟩
        have Hb5 := Lib.hid hb5; clear hb5
        go_wp2_with fail
        go_ret
        exact ⟨rfl, Hbt.out.trans ((Hbw.out.trans (Hb5.out.mono Hbw.out.size)).mono hs13)⟩

end Go.Proofs.Ytnaedpfaeioolaa
