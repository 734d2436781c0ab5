/- The statement FnValid: what its call computes. -/
import Derived.Test.YtnaedpfaeioolaaYl
namespace Go.Proofs.Ytnaedpfaeioolaa
open Go.RowKit
set_option linter.unusedVariables false

/-- Whether one of the first k contains itself. -/
noncomputable def cyB (ds : List D) (gs : List (List Nat)) (k : Nat) : Bool := (List.range k).any fun j => !alOf ds j && onC (gF gs) j
theorem cyB_succ (ds : List D) (gs : List (List Nat)) (k : Nat) : cyB ds gs (k + 1) = (cyB ds gs k || (!alOf ds k && onC (gF gs) k)) := by
  unfold cyB
  rw [List.range_succ, List.any_append]
  simp

set_option maxHeartbeats 4000000 in
set_option maxRecDepth 100000 in
theorem validLaw_any (ds0 : List D) (w : World) (a : Option Addr) (cap : Nat) (hdv : DV w (.slice a ds0.length cap) ds0) : Calls Try.prog 13 #[.slice a ds0.length cap] w fun e w' => e = .returned (.bool true) ∧ Below w.heap.size w w' := by
  obtain ⟨_, _, e1, hc1, hc2⟩ := hdv.form
  simp at e1
  obtain ⟨rfl, rfl⟩ := e1
  by_cases hbig : 2147483647 < ds0.length
  · go_enter Try.func13, Try.ntmps13
    go_wp2_with fail
    go_ret
    exact ⟨rfl, Below.refl _ _⟩
  · have hbig' : ds0.length ≤ 2147483647 := by omega
    clear hbig
    have Hdv := Lib.hid hdv; clear hdv
    go_enter Try.func13, Try.ntmps13
    go_wp2_with fail
    refine (Fit_any ds0 w a cap Hdv.out).mono ?_
    rintro e w1 ⟨v1, rfl, hd1, hb1⟩
    have hok := fitD_ok ds0
    have h8 := fitD_8 ds0
    have hdir := fitD_dir ds0
    generalize fitD ds0 = ds at hd1 hok h8 hdir
    obtain ⟨a1, cap1, rfl, hc3, hc4⟩ := hd1.form
    have H25 := Lib.hid (holds_any ds hok (by omega) hdir w1 a1 cap1 hd1)
    have Hd1 := Lib.hid hd1; clear hd1
    have Hok := Lib.hid hok; clear hok hdir
    have Hb1 := Lib.hid hb1; clear hb1
    go_wp2_with fail
    refine H25.out.mono ?_
    rintro e w2 ⟨gv, gs, rfl, hgl, hll, hho, hb2⟩
    obtain ⟨ga, gc, rfl, hgc1, hgc2⟩ := hll.form
    rw [List.length_map] at hgc1
    rw [List.length_map]
    have Hgl := Lib.hid hgl
    have Hll := Lib.hid hll
    have Hho := Lib.hid hho
    have Hb2 := Lib.hid hb2
    have hN : gs.length ≤ 8 := by omega
    clear hgl hll hho hb2 H25
    go_wp2_with fail
    go_loopw [4, 19] (fun c i wr => ∃ k : Nat, k ≤ ds.length ∧ i = .int .i64 k ∧ c = .bool (cyB ds gs k) ∧ Below w2.heap.size w2 wr) (fun _ i _ => ds.length - (intOf i).toNat)
    case atStart => exact ⟨0, Nat.zero_le _, rfl, rfl, Below.refl _ _⟩
    case round =>
      obtain ⟨k, hk, rfl, hc, hbw⟩ := hrel
      by_cases hlt : k < ds.length
      · obtain ⟨b, o, kd, md, x, y, rfl, x0, x1, x2, x3, _⟩ := Hd1.out.at hlt
        obtain ⟨xl, xc⟩ := y
        have hb1w := Hb2.out.trans (hbw.mono Hb2.out.size)
        have y0 := cell_later hb1w x0
        have y1 := cell_later hb1w x1
        have y2 := cell_later hb1w x2
        have y3 := cell_later hb1w x3
        simp only at y3
        clear x0 x1 x2 x3
        have hbA : ∀ o' : Obj, Below w2.heap.size w2 (wr.alloc o') := fun o' => hbw.alloc hbw.size o'
        have HbA := Lib.hid hbA
        have hs := cyB_succ ds gs k
        have H28 := Lib.hid (fun o' : Obj => onCycle_any gs (holds_gs Hho.out Hgl.out) (by omega) (wr.alloc o') ga gc hgc1 hgc2 (by have := Hll.out.ll.ext (hbA o'); rwa [List.length_map] at this) k (by rw [Hgl.out]; exact hlt))
        generalize hcy : cyB ds gs k = cy at hc hs
        generalize hal : alOf ds k = al at y0 hs
        generalize honc : onC (gF gs) k = oc at hs H28
        subst hc
        have Hs := Lib.hid hs
        clear hs hbA hcy hal honc hb1w
        cases cy
        · cases al
          · go_wp2_with (go_at_call 28; refine (H28.out _).mono ?_; rintro e w4 ⟨rfl, hb4⟩; have Hb4 := Lib.hid hb4; clear hb4)
            go_roundw
            case rel => exact ⟨k + 1, by omega, by go_num, by rw [Hs.out]; simp, (HbA.out _).trans (Hb4.out.mono (HbA.out _).size)⟩
            case measure => simp [intOf]; omega
          · go_wp2_with fail
            go_roundw
            case rel => exact ⟨k + 1, by omega, by go_num, by rw [Hs.out]; simp, HbA.out _⟩
            case measure => simp [intOf]; omega
        · go_wp2_with fail
          go_roundw
          case rel => exact ⟨k + 1, by omega, by go_num, by rw [Hs.out]; simp, HbA.out _⟩
          case measure => simp [intOf]; omega
      · have hke : k = ds.length := by omega
        subst hke
        have Hbw := Lib.hid hbw
        have H20 := Lib.hid (Valid_any ds Hok.out (by omega) wr a1 cap1 ((Hd1.out.ext Hb2.out).ext hbw))
        have hF := GG_ok Hok.out
        cases hcy : cyB ds gs ds.length
        · have hans := vt_fine hF (fun i hi ha hr => by
            have : cyB ds gs ds.length = true := by
              unfold cyB
              rw [List.any_eq_true]
              exact ⟨i, List.mem_range.2 hi, by rw [ha, (holds_onC Hho.out Hgl.out i).2 hr]; rfl⟩
            rw [hcy] at this
            cases this)
          have Hans := Lib.hid hans
          rw [hcy] at hc
          subst hc
          clear hbw hF hcy hans
          go_wp2_with fail
          refine H20.out.mono ?_
          rintro e w3 ⟨va, vb, vc, rfl, q1, q2, q3, hb3⟩
          rw [Hans.out.1] at q1
          rw [Hans.out.2.1] at q2
          rw [Hans.out.2.2] at q3
          have Ha := Lib.hid q1
          have Hm := Lib.hid q2
          have Hc := Lib.hid q3
          have Hb3 := Lib.hid hb3
          clear q1 q2 q3 hb3
          obtain ⟨vs, hvs, _⟩ := Hc.out
          obtain ⟨ca, cc, rfl, _, _, _⟩ := own_slice hvs
          clear hvs
          go_wp2_with fail
          refine (works_any _).mono ?_
          rintro e w4 ⟨rfl, hb4⟩
          have Ha4 := Lib.hid (own_slice (own_ext Ha.out hb4))
          have Hm4 := Lib.hid (own_slice (own_ext Hm.out hb4))
          have Hb4 := Lib.hid hb4; clear hb4
          go_wp2_with fail
          refine (all_yes _ (List.replicate ds.length true) _ true _ (by simpa using Ha4.out) (allB_rep _ _)).mono ?_
          rintro e w5 ⟨rfl, rfl⟩
          go_wp2_with fail
          refine (all_yes _ (List.replicate ds.length false) _ false _ (by simpa using Hm4.out) (allB_rep _ _)).mono ?_
          rintro e w5 ⟨rfl, rfl⟩
          go_wp2_with fail
          go_ret
          refine ⟨rfl, ?_⟩
          have hs1 := Hb1.out.size
          have hs2 := Hb2.out.size
          have hs3 := Hbw.out.size
          have hs4 := Hb3.out.size
          exact Hb1.out.trans ((Hb2.out.trans ((Hbw.out.trans ((Hb3.out.trans (Hb4.out.mono hs4)).mono hs3)).mono hs2)).mono hs1)
        · have hex : ∃ i, i < ds.length ∧ alOf ds i = false ∧ Rch (GG ds) noMk i i := by
            unfold cyB at hcy
            rw [List.any_eq_true] at hcy
            obtain ⟨i, hi, h⟩ := hcy
            simp at h
            exact ⟨i, List.mem_range.1 hi, h.1, (holds_onC Hho.out Hgl.out i).1 h.2⟩
          obtain ⟨i, hi, ha, hr⟩ := hex
          have hans := vt_bad hF hi ha hr
          have Hans := Lib.hid hans
          rw [hcy] at hc
          subst hc
          clear hbw hF hcy hans hi ha hr
          go_wp2_with fail
          refine H20.out.mono ?_
          rintro e w3 ⟨va, vb, vc, rfl, q1, q2, q3, hb3⟩
          have hcl : 0 < (vtCycles (alOf ds) (GG ds) ds.length).length := List.length_pos_iff.2 Hans.out.2.2
          have hcl8 : (vtCycles (alOf ds) (GG ds) ds.length).length ≤ ds.length := vt_cyc _ _ _ _
          have Ha := Lib.hid (own_slice q1)
          have Hm := Lib.hid (own_slice q2)
          obtain ⟨va1, vac, rfl, _, _, _⟩ := own_slice q1
          obtain ⟨vb1, vbc, rfl, _, _, _⟩ := own_slice q2
          obtain ⟨ca, cc, rfl, _, _⟩ := q3.form
          generalize (vtCycles (alOf ds) (GG ds) ds.length).length = cl at hcl hcl8
          have Hb3 := Lib.hid hb3
          have hcl' : (0 : Int) < (cl : Int) := by omega
          clear q1 q2 q3 hb3
          go_wp2_with fail
          refine (all_no _ (vtValid (alOf ds) (GG ds) ds.length) _ true _ (by rw [valid_len]; exact Ha.out) Hans.out.1).mono ?_
          rintro e w5 ⟨rfl, rfl⟩
          go_wp2_with fail
          refine (all_no _ (vtMarked (alOf ds) (GG ds) ds.length) _ false _ (by rw [marked_len]; exact Hm.out) Hans.out.2.1).mono ?_
          rintro e w5 ⟨rfl, rfl⟩
          go_wp2_with fail
          go_ret
          refine ⟨rfl, ?_⟩
          have hs1 := Hb1.out.size
          have hs2 := Hb2.out.size
          have hs3 := Hbw.out.size
          exact Hb1.out.trans ((Hb2.out.trans ((Hbw.out.trans (Hb3.out.mono hs3)).mono hs2)).mono hs1)

end Go.Proofs.Ytnaedpfaeioolaa
