/- The statements FnFirst and FnInvalid: what their calls compute. Printed by gen_Yw.py. -/
import Derived.Test.YtnaedpfaeioolaaYl
namespace Go.Proofs.Ytnaedpfaeioolaa
open Go.RowKit
set_option linter.unusedVariables false

theorem row_bool {w : World} {B : Nat} {v : Value} {xs : List Bool} {n : Nat} (h : w.ownsRow B 4 1 v n (xs.map Value.bool)) {k : Nat} {b : Bool} (hk : xs[k]? = some b) : ∃ g o c, v = .slice (some ⟨g, o, none⟩) n c ∧ w.cell? ⟨g, o + k, none⟩ = some (.bool b) := by
  obtain ⟨a, c, rfl, _, _, hr⟩ := own_slice h
  obtain ⟨g, o, rfl, hc⟩ := hr k (.bool b) (by rw [List.getElem?_map, hk]; rfl)
  exact ⟨g, o, c, rfl, hc⟩

set_option maxHeartbeats 4000000 in
set_option maxRecDepth 100000 in
theorem firstLaw_any (ds0 : List D) (w : World) (a : Option Addr) (cap : Nat) (hdv : DV w (.slice a ds0.length cap) ds0) : Calls Try.prog 8 #[.slice a ds0.length cap] w fun e w' => e = .returned (.bool true) ∧ Below w.heap.size w w' := by
  obtain ⟨_, _, e1, hc1, hc2⟩ := hdv.form
  simp at e1
  obtain ⟨rfl, rfl⟩ := e1
  by_cases hbig : 2147483647 < ds0.length
  · go_enter Try.func8, Try.ntmps8
    go_wp2_with fail
    go_ret
    exact ⟨rfl, Below.refl _ _⟩
  · have hbig' : ds0.length ≤ 2147483647 := by omega
    clear hbig
    have Hdv := Lib.hid hdv; clear hdv
    go_enter Try.func8, Try.ntmps8
    go_wp2_with fail
    refine (Fit_any ds0 w a cap Hdv.out).mono ?_
    rintro e w1 ⟨v1, rfl, hd1, hb1⟩
    have hok := fitD_ok ds0
    have h8 := fitD_8 ds0
    have hdir := fitD_dir ds0
    generalize fitD ds0 = ds at hd1 hok h8 hdir
    obtain ⟨a1, cap1, rfl, hc3, hc4⟩ := hd1.form
    have H25 := Lib.hid (holds_any ds hok (by omega) hdir w1 a1 cap1 hd1)
    have Hd1 := Lib.hid hd1; clear hd1
    have Hok := Lib.hid hok; clear hok hdir
    have Hb1 := Lib.hid hb1; clear hb1
    go_wp2_with fail
    refine H25.out.mono ?_
    rintro e w2 ⟨gv, gs, rfl, hgl, hll, hho, hb2⟩
    obtain ⟨ga, gc, rfl, hgc1, hgc2⟩ := hll.form
    rw [List.length_map] at hgc1
    rw [List.length_map]
    have hF := Lib.hid (GG_ok Hok.out)
    have H20 := Lib.hid (Valid_any ds Hok.out (by omega) w2 a1 cap1 (Hd1.out.ext hb2))
    have Hgl := Lib.hid hgl
    have Hll := Lib.hid hll
    have Hho := Lib.hid hho
    have Hb2 := Lib.hid hb2
    have hN : gs.length ≤ 8 := by omega
    clear hgl hll hho hb2 H25
    go_wp2_with fail
    refine H20.out.mono ?_
    rintro e w3 ⟨va, vb, vc, rfl, q1, q2, q3, hb3⟩
    have Hv := Lib.hid q1
    have Hm := Lib.hid q2
    have Hcy := Lib.hid q3
    have Hb3 := Lib.hid hb3
    obtain ⟨va1, vac, rfl, hvc1, hvc2, _⟩ := own_slice q1
    obtain ⟨vb1, vbc, rfl, hvb1, hvb2, _⟩ := own_slice q2
    have Hbt := Lib.hid (Hb1.out.trans ((Hb2.out.trans (Hb3.out.mono Hb2.out.size)).mono Hb1.out.size))
    have hvc3 : vac ≤ 9223372036854775807 := by simpa [maxLen] using hvc2
    have hvb3 : vbc ≤ 9223372036854775807 := by simpa [maxLen] using hvb2
    have hs13 : w.heap.size ≤ w3.heap.size := Hbt.out.size
    have Hreach := Lib.hid (fun (W : World) (hb : Below w3.heap.size w3 W) (k : Nat) (hk : k < ds.length) => reaches_any gs (holds_gs Hho.out Hgl.out) (by omega) W ga gc hgc1 hgc2 (by have h := ((Hll.out.ll.ext hb3).ext hb); rwa [List.length_map] at h) k (by rw [Hgl.out]; exact hk))
    clear q1 q2 q3 hb3 H20
    go_wp2_with fail
    go_loopw [24] (fun i wr => ∃ k : Nat, k ≤ ds.length ∧ i = .int .i64 k ∧ Below w3.heap.size w3 wr ∧ Hid (∀ j, j < k → (vtValid (alOf ds) (GG ds) ds.length)[j]? = some true)) (fun i _ => ds.length - (intOf i).toNat)
    case atStart => exact ⟨0, Nat.zero_le _, rfl, Below.refl _ _, Lib.hid (by intro j hj; omega)⟩
    case round =>
      obtain ⟨k, hk, rfl, hbw, hall⟩ := hrel
      by_cases hlt : k < ds.length
      · obtain ⟨b, o, kd, md, x, y, rfl, x0, x1, x2, x3, _⟩ := Hd1.out.at hlt
        obtain ⟨xl, xc⟩ := y
        have hb1w := Hb2.out.trans ((Hb3.out.trans (hbw.mono Hb3.out.size)).mono Hb2.out.size)
        have y0 := cell_later hb1w x0
        have y1 := cell_later hb1w x1
        have y2 := cell_later hb1w x2
        have y3 := cell_later hb1w x3
        simp only at y3
        clear x0 x1 x2 x3
        have hbA : ∀ o' : Obj, Below w3.heap.size w3 (wr.alloc o') := fun o' => hbw.alloc hbw.size o'
        have HbA := Lib.hid hbA
        have H27 := Lib.hid (fun o' : Obj => Hreach.out (wr.alloc o') (hbA o') k hlt)
        have hnext : ∀ (h : (vtValid (alOf ds) (GG ds) ds.length)[k]? = some true), ∀ j, j < k + 1 → (vtValid (alOf ds) (GG ds) ds.length)[j]? = some true := by
          intro h j hj
          rcases (show j < k ∨ j = k by omega) with h1 | rfl
          · exact hall.out j h1
          · exact h
        have hcase : (alOf ds k = true ∧ (vtValid (alOf ds) (GG ds) ds.length)[k]? = some true) ∨ (alOf ds k = false ∧ reB (gF gs) k = true ∧ (vtValid (alOf ds) (GG ds) ds.length)[k]? = some false) ∨ (alOf ds k = false ∧ reB (gF gs) k = false ∧ (vtValid (alOf ds) (GG ds) ds.length)[k]? = some true) := by
          cases hal : alOf ds k
          · right
            cases hr : reB (gF gs) k
            · right
              refine ⟨rfl, rfl, valid_of hF.out hlt (Or.inr fun h => ?_)⟩
              rw [(holds_reB Hho.out Hgl.out k).2 h] at hr
              cases hr
            · left
              exact ⟨rfl, rfl, first_invalid hF.out hlt hal ((holds_reB Hho.out Hgl.out k).1 hr) hall.out⟩
          · exact Or.inl ⟨rfl, valid_of hF.out hlt (Or.inl hal)⟩
        have Hnext := Lib.hid hnext
        clear hnext hbA hb1w
        rcases hcase with ⟨hal, hv⟩ | ⟨hal, hr, hv⟩ | ⟨hal, hr, hv⟩
        · obtain ⟨g, o2, c2, e2, z0⟩ := row_bool (own_ext Hv.out hbw) hv
          simp at e2
          obtain ⟨rfl, rfl⟩ := e2
          have Hn2 := Lib.hid (Hnext.out hv)
          have z1 := fun o' => cell_later ((Below.refl wr.heap.size wr).alloc (Nat.le_refl _) o') z0
          rw [hal] at y0
          have Hal := Lib.hid hal
          have Hvv := Lib.hid hv
          have Hbw := Lib.hid hbw
          clear hal hv z0 hbw
          go_wp2_with fail
          go_roundw
          case rel => exact ⟨k + 1, by omega, by go_num, HbA.out _, Hn2⟩
          case measure => simp [intOf]; omega
        · obtain ⟨g, o2, c2, e2, z0⟩ := row_bool (own_ext Hv.out hbw) hv
          simp at e2
          obtain ⟨rfl, rfl⟩ := e2
          rw [hr] at H27
          rw [hal] at y0
          have Hz := Lib.hid (fun o' => cell_later ((Below.refl wr.heap.size wr).alloc (Nat.le_refl _) o') z0)
          have Hal := Lib.hid hal
          have Hvv := Lib.hid hv
          have Hr := Lib.hid hr
          clear hal hv hr z0 hbw
          go_wp2_with (first
            | (go_at_call 27; refine (H27.out _).mono ?_; rintro e w4 ⟨rfl, hb4⟩; have Hb4 := Lib.hid hb4; have z1 := cell_later hb4 (Hz.out _); clear hb4)
            | (go_at_call 22; refine (works_any _).mono ?_; rintro e w5 ⟨rfl, hb5⟩; have Hb5 := Lib.hid hb5; clear hb5))
          go_ret
          refine ⟨rfl, Hbt.out.trans (((HbA.out _).trans ((Hb4.out.trans (Hb5.out.mono Hb4.out.size)).mono (HbA.out _).size)).mono hs13)⟩
        · obtain ⟨g, o2, c2, e2, z0⟩ := row_bool (own_ext Hv.out hbw) hv
          simp at e2
          obtain ⟨rfl, rfl⟩ := e2
          rw [hr] at H27
          rw [hal] at y0
          have Hn2 := Lib.hid (Hnext.out hv)
          have Hz := Lib.hid (fun o' => cell_later ((Below.refl wr.heap.size wr).alloc (Nat.le_refl _) o') z0)
          have Hal := Lib.hid hal
          have Hvv := Lib.hid hv
          have Hr := Lib.hid hr
          clear hal hv hr z0 hbw
          go_wp2_with (go_at_call 27; refine (H27.out _).mono ?_; rintro e w4 ⟨rfl, hb4⟩; have Hb4 := Lib.hid hb4; have z1 := cell_later hb4 (Hz.out _); clear hb4)
          go_roundw
          case rel => exact ⟨k + 1, by omega, by go_num, (HbA.out _).trans (Hb4.out.mono (HbA.out _).size), Hn2⟩
          case measure => simp [intOf]; omega
      · have hke : k = ds.length := by omega
        subst hke
        have Hbw := Lib.hid hbw
        clear hbw
        go_wp2_with fail
        refine (works_any _).mono ?_
        rintro e w5 ⟨rfl, hb5⟩
        have Hb5 := Lib.hid hb5; clear hb5
        go_wp2_with fail
        go_ret
        exact ⟨rfl, Hbt.out.trans ((Hbw.out.trans (Hb5.out.mono Hbw.out.size)).mono hs13)⟩

set_option maxHeartbeats 4000000 in
set_option maxRecDepth 100000 in
theorem invalidLaw_any (ds0 : List D) (w : World) (a : Option Addr) (cap : Nat) (hdv : DV w (.slice a ds0.length cap) ds0) : Calls Try.prog 9 #[.slice a ds0.length cap] w fun e w' => e = .returned (.bool true) ∧ Below w.heap.size w w' := by
  obtain ⟨_, _, e1, hc1, hc2⟩ := hdv.form
  simp at e1
  obtain ⟨rfl, rfl⟩ := e1
  by_cases hbig : 2147483647 < ds0.length
  · go_enter Try.func9, Try.ntmps9
    go_wp2_with fail
    go_ret
    exact ⟨rfl, Below.refl _ _⟩
  · have hbig' : ds0.length ≤ 2147483647 := by omega
    clear hbig
    have Hdv := Lib.hid hdv; clear hdv
    go_enter Try.func9, Try.ntmps9
    go_wp2_with fail
    refine (Fit_any ds0 w a cap Hdv.out).mono ?_
    rintro e w1 ⟨v1, rfl, hd1, hb1⟩
    have hok := fitD_ok ds0
    have h8 := fitD_8 ds0
    have hdir := fitD_dir ds0
    generalize fitD ds0 = ds at hd1 hok h8 hdir
    obtain ⟨a1, cap1, rfl, hc3, hc4⟩ := hd1.form
    have H25 := Lib.hid (holds_any ds hok (by omega) hdir w1 a1 cap1 hd1)
    have Hd1 := Lib.hid hd1; clear hd1
    have Hok := Lib.hid hok; clear hok hdir
    have Hb1 := Lib.hid hb1; clear hb1
    go_wp2_with fail
    refine H25.out.mono ?_
    rintro e w2 ⟨gv, gs, rfl, hgl, hll, hho, hb2⟩
    obtain ⟨ga, gc, rfl, hgc1, hgc2⟩ := hll.form
    rw [List.length_map] at hgc1
    rw [List.length_map]
    have hF := Lib.hid (GG_ok Hok.out)
    have H20 := Lib.hid (Valid_any ds Hok.out (by omega) w2 a1 cap1 (Hd1.out.ext hb2))
    have Hgl := Lib.hid hgl
    have Hll := Lib.hid hll
    have Hho := Lib.hid hho
    have Hb2 := Lib.hid hb2
    have hN : gs.length ≤ 8 := by omega
    clear hgl hll hho hb2 H25
    go_wp2_with fail
    refine H20.out.mono ?_
    rintro e w3 ⟨va, vb, vc, rfl, q1, q2, q3, hb3⟩
    have Hv := Lib.hid q1
    have Hm := Lib.hid q2
    have Hcy := Lib.hid q3
    have Hb3 := Lib.hid hb3
    obtain ⟨va1, vac, rfl, hvc1, hvc2, _⟩ := own_slice q1
    obtain ⟨vb1, vbc, rfl, hvb1, hvb2, _⟩ := own_slice q2
    have Hbt := Lib.hid (Hb1.out.trans ((Hb2.out.trans (Hb3.out.mono Hb2.out.size)).mono Hb1.out.size))
    have hvc3 : vac ≤ 9223372036854775807 := by simpa [maxLen] using hvc2
    have hvb3 : vbc ≤ 9223372036854775807 := by simpa [maxLen] using hvb2
    have hs13 : w.heap.size ≤ w3.heap.size := Hbt.out.size
    have Hreach := Lib.hid (fun (W : World) (hb : Below w3.heap.size w3 W) (k : Nat) (hk : k < ds.length) => reaches_any gs (holds_gs Hho.out Hgl.out) (by omega) W ga gc hgc1 hgc2 (by have h := ((Hll.out.ll.ext hb3).ext hb); rwa [List.length_map] at h) k (by rw [Hgl.out]; exact hk))
    clear q1 q2 q3 hb3 H20
    go_wp2_with fail
    go_loopw [23] (fun i wr => ∃ k : Nat, k ≤ ds.length ∧ i = .int .i64 k ∧ Below w3.heap.size w3 wr) (fun i _ => ds.length - (intOf i).toNat)
    case atStart => exact ⟨0, Nat.zero_le _, rfl, Below.refl _ _⟩
    case round =>
      obtain ⟨k, hk, rfl, hbw⟩ := hrel
      by_cases hlt : k < ds.length
      · obtain ⟨b, o, kd, md, x, y, rfl, x0, _, _, _, _⟩ := Hd1.out.at hlt
        have hb1w := Hb2.out.trans ((Hb3.out.trans (hbw.mono Hb3.out.size)).mono Hb2.out.size)
        have y0 := cell_later hb1w x0
        clear x0
        have H27 := Lib.hid (Hreach.out wr hbw k hlt)
        have hcase : (vtValid (alOf ds) (GG ds) ds.length)[k]? = some true ∨ (alOf ds k = false ∧ reB (gF gs) k = true ∧ (vtValid (alOf ds) (GG ds) ds.length)[k]? = some false) := by
          by_cases h : alOf ds k = true ∨ ¬ ∃ x, (x = k ∨ Rch (GG ds) noMk k x) ∧ Rch (GG ds) noMk x x
          · exact Or.inl (valid_of hF.out hlt h)
          · have h1 : alOf ds k = false := by
              cases hal : alOf ds k
              · rfl
              · exact absurd (Or.inl hal) h
            have h2 : ∃ x, (x = k ∨ Rch (GG ds) noMk k x) ∧ Rch (GG ds) noMk x x := Classical.byContradiction fun hn => h (Or.inr hn)
            rw [h1]
            have hv := valid_at (al := alOf ds) (F := GG ds) hlt
            generalize hb : (alOf ds k || (find (GG ds) (mk (alOf ds) (GG ds) ds.length k) ds.length [] [k]).isNone) = bb at hv
            cases bb
            · exact Or.inr ⟨rfl, (holds_reB Hho.out Hgl.out k).2 h2, hv⟩
            · exact Or.inl hv
        have Hbw := Lib.hid hbw
        rcases hcase with hv | ⟨hal, hr, hv⟩
        · obtain ⟨g, o2, c2, e2, z0⟩ := row_bool (own_ext Hv.out hbw) hv
          simp at e2
          obtain ⟨rfl, rfl⟩ := e2
          clear hv hbw hb1w
          go_wp2_with fail
          go_roundw
          case rel => exact ⟨k + 1, by omega, by go_num, Hbw.out⟩
          case measure => simp [intOf]; omega
        · obtain ⟨g, o2, c2, e2, z0⟩ := row_bool (own_ext Hv.out hbw) hv
          simp at e2
          obtain ⟨rfl, rfl⟩ := e2
          rw [hr] at H27
          rw [hal] at y0
          clear hv hal hr hbw hb1w
          go_wp2_with (go_at_call 27; refine H27.out.mono ?_; rintro e w4 ⟨rfl, hb4⟩; have Hb4 := Lib.hid hb4; clear hb4)
          go_roundw
          case rel => exact ⟨k + 1, by omega, by go_num, Hbw.out.trans (Hb4.out.mono Hbw.out.size)⟩
          case measure => simp [intOf]; omega
      · have hke : k = ds.length := by omega
        subst hke
        have Hbw := Lib.hid hbw
        clear hbw
        go_wp2_with fail
        refine (works_any _).mono ?_
        rintro e w5 ⟨rfl, hb5⟩
        have Hb5 := Lib.hid hb5; clear hb5
        go_wp2_with fail
        go_ret
        exact ⟨rfl, Hbt.out.trans ((Hbw.out.trans (Hb5.out.mono Hbw.out.size)).mono hs13)⟩

end Go.Proofs.Ytnaedpfaeioolaa
