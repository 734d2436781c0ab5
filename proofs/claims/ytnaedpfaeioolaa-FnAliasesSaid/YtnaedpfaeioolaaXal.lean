/- The statement FnAliases: what its call computes. -/
import Derived.Test.YtnaedpfaeioolaaXs
import Derived.Test.YtnaedpfaeioolaaXa
namespace Go.Proofs.Ytnaedpfaeioolaa
open Go.RowKit
set_option linter.unusedVariables false

theorem repl_flat (ds ds' : List D) (hal : alOf ds' = alOf ds) : ∀ (F : Nat) (t : T) (f : Nat), flatF ds' f (replF ds F t) = flatF ds F t := by
  intro F
  induction F with
  | zero =>
    intro t
    induction t using T.ind with
    | _ k n es ih =>
      intro f
      by_cases h1 : k = 1 ∧ alOf ds n.toNat = true
      · obtain ⟨rfl, h⟩ := h1
        rw [replF.eq_def, flatF.eq_def ds]
        simp only [h, and_self, if_true]
        exact flatF_none _ _ _ _ _ (Or.inl rfl)
      · by_cases h2 : k = 2
        · subst h2; rw [replF_other, flatF_none _ _ _ _ _ (Or.inr rfl), flatF_none _ _ _ _ _ (Or.inr rfl)]
        · rw [replF_rest ds 0 k n es h1 h2, flatF.eq_def, flatF.eq_def ds]
          simp only [hal]
          by_cases hk : k = 1
          · subst hk
            have h : alOf ds n.toNat = false := by
              cases h : alOf ds n.toNat
              · rfl
              · exact absurd ⟨rfl, h⟩ h1
            simp [h]
          · simp only [if_neg hk]
            split
            · rw [List.flatMap_map]; exact fmap_congr fun e he => ih e he f
            · rfl
  | succ F ihF =>
    intro t
    induction t using T.ind with
    | _ k n es ih =>
      intro f
      by_cases h1 : k = 1 ∧ alOf ds n.toNat = true
      · obtain ⟨rfl, h⟩ := h1
        rw [replF_alias ds F n es h, flatF_alias ds F n es h]
        exact ihF _ f
      · by_cases h2 : k = 2
        · subst h2; rw [replF_other, flatF_none _ _ _ _ _ (Or.inr rfl), flatF_none _ _ _ _ _ (Or.inr rfl)]
        · rw [replF_rest ds (F + 1) k n es h1 h2, flatF.eq_def, flatF.eq_def ds]
          simp only [hal]
          by_cases hk : k = 1
          · subst hk
            have h : alOf ds n.toNat = false := by
              cases h : alOf ds n.toNat
              · rfl
              · exact absurd ⟨rfl, h⟩ h1
            simp [h]
          · simp only [if_neg hk]
            split
            · rw [List.flatMap_map]; exact fmap_congr fun e he => ih e he f
            · rfl

theorem noAl_al (ds : List D) : alOf (noAlD ds) = alOf ds := map_al (fun d => ⟨d.alias, replF ds ds.length d.of⟩) (fun _ => rfl) ds
theorem noAl_len (ds : List D) : (noAlD ds).length = ds.length := by simp [noAlD]
theorem noAl_of (ds : List D) (n : Nat) : ofOf (noAlD ds) n = replF ds ds.length (ofOf ds n) := by
  unfold ofOf noAlD
  rw [List.getD_eq_getElem?_getD, List.getD_eq_getElem?_getD, List.getElem?_map]
  cases ds[n]? with
  | none =>
    rw [show (Option.map _ (none : Option D)).getD dNone = dNone from rfl, show (none : Option D).getD dNone = dNone from rfl]
    show dNone.of = replF ds ds.length (.mk 0 0 [])
    rw [replF_rest _ _ _ _ _ (by omega) (by omega)]
    rfl
  | some d => rfl
theorem noAl_G (ds : List D) : GG (noAlD ds) = GG ds := by
  funext n
  unfold GG
  rw [noAl_of, repl_flat ds _ (noAl_al ds)]

theorem repl_ok {ds : List D} (hds : DOk ds) : ∀ (F : Nat) (t : T), Ok ds.length t → Ok ds.length (replF ds F t) := by
  have leaf : Ok ds.length (.mk 0 0 []) := .mk 0 0 [] (by omega) (by omega) (by simp) (by omega) (by omega) (by simp)
  intro F
  induction F with
  | zero =>
    intro t h
    induction h with
    | mk k n es h0 h6 h3 hn ha he ih =>
      by_cases h1 : k = 1 ∧ alOf ds n.toNat = true
      · obtain ⟨rfl, h⟩ := h1
        rw [replF.eq_def]
        simp only [h, and_self, if_true]
        exact leaf
      · by_cases h2 : k = 2
        · subst h2; rw [replF_other]; exact .mk 2 0 [] (by omega) (by omega) (by simp) (by omega) (by omega) (by simp)
        · rw [replF_rest ds _ k n es h1 h2]
          refine .mk k n _ h0 h6 (by simpa using h3) hn (by simpa using ha) ?_
          intro e he'
          obtain ⟨e', h4, rfl⟩ := List.mem_map.1 he'
          exact ih e' h4
  | succ F ihF =>
    intro t h
    induction h with
    | mk k n es h0 h6 h3 hn ha he ih =>
      by_cases h1 : k = 1 ∧ alOf ds n.toNat = true
      · obtain ⟨rfl, h⟩ := h1
        rw [replF_alias ds F n es h]
        have := hn rfl
        exact ihF _ (hds.of (by omega))
      · by_cases h2 : k = 2
        · subst h2; rw [replF_other]; exact .mk 2 0 [] (by omega) (by omega) (by simp) (by omega) (by omega) (by simp)
        · rw [replF_rest ds _ k n es h1 h2]
          refine .mk k n _ h0 h6 (by simpa using h3) hn (by simpa using ha) ?_
          intro e he'
          obtain ⟨e', h4, rfl⟩ := List.mem_map.1 he'
          exact ih e' h4

theorem repl_at (ds ds' : List D) (hal : alOf ds' = alOf ds) (m : Nat) : ∀ (F : Nat) (t : T), AT ds' m (replF ds F t) := by
  intro F
  induction F with
  | zero =>
    intro t
    induction t using T.ind with
    | _ k n es ih =>
      by_cases h1 : k = 1 ∧ alOf ds n.toNat = true
      · obtain ⟨rfl, h⟩ := h1
        rw [replF.eq_def]
        simp only [h, and_self, if_true]
        exact .mk 0 0 [] (by omega) (by simp)
      · by_cases h2 : k = 2
        · subst h2; rw [replF_other]; exact .mk 2 0 [] (by omega) (by simp)
        · rw [replF_rest ds _ k n es h1 h2]
          refine .mk k n _ (fun hk ha => absurd ⟨hk, by rw [← hal]; exact ha⟩ h1) ?_
          intro e he'
          obtain ⟨e', h4, rfl⟩ := List.mem_map.1 he'
          exact ih e' h4
  | succ F ihF =>
    intro t
    induction t using T.ind with
    | _ k n es ih =>
      by_cases h1 : k = 1 ∧ alOf ds n.toNat = true
      · obtain ⟨rfl, h⟩ := h1
        rw [replF_alias ds F n es h]
        exact ihF _
      · by_cases h2 : k = 2
        · subst h2; rw [replF_other]; exact .mk 2 0 [] (by omega) (by simp)
        · rw [replF_rest ds _ k n es h1 h2]
          refine .mk k n _ (fun hk ha => absurd ⟨hk, by rw [← hal]; exact ha⟩ h1) ?_
          intro e he'
          obtain ⟨e', h4, rfl⟩ := List.mem_map.1 he'
          exact ih e' h4

theorem noAl_ok {ds : List D} (h : DOk ds) : DOk (noAlD ds) := by
  refine ⟨fun d hd => ?_, fun i d hd ha => ?_⟩
  · unfold noAlD at hd
    obtain ⟨d0, hd0, rfl⟩ := List.mem_map.1 hd
    rw [noAl_len]
    exact repl_ok h _ _ (h.ok d0 hd0)
  · unfold noAlD at hd
    rw [List.getElem?_map] at hd
    cases hq : ds[i]? with
    | none => rw [hq] at hd; simp at hd
    | some d0 =>
      rw [hq] at hd
      simp at hd
      subst hd
      exact repl_at ds _ (noAl_al ds) _ _ _

set_option maxHeartbeats 4000000 in
set_option maxRecDepth 100000 in
theorem aliasesLaw_any (ds0 : List D) (w : World) (a : Option Addr) (cap : Nat) (hdv : DV w (.slice a ds0.length cap) ds0) : Calls Try.prog 5 #[.slice a ds0.length cap] w fun e w' => e = .returned (.bool true) ∧ Below w.heap.size w w' := by
  obtain ⟨_, _, e1, hc1, hc2⟩ := hdv.form
  simp at e1
  obtain ⟨rfl, rfl⟩ := e1
  by_cases hbig : 2147483647 < ds0.length
  · go_enter Try.func5, Try.ntmps5
    go_wp2_with fail
    go_ret
    exact ⟨rfl, Below.refl _ _⟩
  · have hbig' : ds0.length ≤ 2147483647 := by omega
    clear hbig
    have Hdv := Lib.hid hdv; clear hdv
    go_enter Try.func5, Try.ntmps5
    go_wp2_with fail
    refine (Fit_any ds0 w a cap Hdv.out).mono ?_
    rintro e w1 ⟨v1, rfl, hd1, hb1⟩
    have hok := fitD_ok ds0
    have h8 := fitD_8 ds0
    generalize fitD ds0 = ds at hd1 hok h8
    obtain ⟨a1, cap1, rfl, hc3, hc4⟩ := hd1.form
    have Hd1 := Lib.hid hd1; clear hd1
    have Hok := Lib.hid hok; clear hok
    have Hb1 := Lib.hid hb1; clear hb1
    have hbs : w.heap.size ≤ w1.heap.size := Hb1.out.size
    have Hml := Lib.hid (noAl_len ds)
    have H20 := Lib.hid (Valid_any ds Hok.out (by omega) w1 a1 cap1 Hd1.out)
    go_wp2_with fail
    refine H20.out.mono ?_
    rintro e w3 ⟨va, vb, vc, rfl, q1, q2, q3, hb3⟩
    have Ha := Lib.hid q1
    have Hm := Lib.hid q2
    have Hc := Lib.hid q3
    have Hb3 := Lib.hid hb3
    clear q1 q2 q3 hb3 H20
    have H21 := Lib.hid (noAl_any ds Hok.out (by omega) w3 a1 cap1 hc4 (Hd1.out.ext Hb3.out))
    go_wp2_with fail
    refine H21.out.mono ?_
    rintro e wm ⟨vm, rfl, hdm, hbm⟩
    obtain ⟨am, capm, rfl, hcm3, hcm4⟩ := hdm.form
    have h20b := Valid_any (noAlD ds) (noAl_ok Hok.out) (by rw [Hml.out]; omega) wm am capm hdm
    rw [Hml.out]
    rw [Hml.out] at h20b
    have H20b := Lib.hid h20b
    have Hbm := Lib.hid hbm
    clear H21 hdm hcm3 hcm4 h20b hbm
    go_wp2_with fail
    refine H20b.out.mono ?_
    rintro e w4 ⟨va', vb', vc', rfl, q1, q2, q3, hb4'⟩
    rw [Hml.out, noAl_al, noAl_G] at q1 q2 q3
    have hb4 : Below w3.heap.size w3 w4 := Hbm.out.trans (hb4'.mono Hbm.out.size)
    have Hb4 := Lib.hid hb4
    have Ha' := Lib.hid q1
    have Hm' := Lib.hid q2
    have Hc' := Lib.hid q3
    clear q1 q2 q3 hb4 hb4' H20b
    go_wp2_with fail
    refine (works_any _).mono ?_
    rintro e w5 ⟨rfl, hb5⟩
    have hb35 := (Hb4.out.trans (hb5.mono Hb4.out.size))
    have hlv : (vtValid (alOf ds) (GG ds) ds.length).length = ds.length := vt_len _ _ _ _
    have hlm : (vtMarked (alOf ds) (GG ds) ds.length).length = ds.length := by simp [vtMarked]
    have Ha5 := Lib.hid (own_slice (own_ext Ha.out hb35))
    have Hm5 := Lib.hid (own_slice (own_ext Hm.out hb35))
    have Hc5 := Lib.hid (Hc.out.ext hb35).ll
    have Ha6 := Lib.hid (own_slice (own_ext Ha'.out hb5))
    have Hm6 := Lib.hid (own_slice (own_ext Hm'.out hb5))
    have Hc6 := Lib.hid (Hc'.out.ext hb5).ll
    have Hb5 := Lib.hid hb5
    have Hlv := Lib.hid hlv
    have Hlm := Lib.hid hlm
    clear hb5 hb35 hlv hlm
    go_wp2_with fail
    refine (bools_eq _ _ (vtValid (alOf ds) (GG ds) ds.length) _ (by rw [Hlv.out]; exact Ha5.out) (by rw [Hlv.out]; exact Ha6.out)).mono ?_
    rintro e w6 ⟨rfl, n6, rfl⟩
    go_wp2_with fail
    refine (bools_eq _ _ (vtMarked (alOf ds) (GG ds) ds.length) _ (by rw [Hlm.out]; exact Hm5.out.ext (below_refl_drewN _ _ _)) (by rw [Hlm.out]; exact Hm6.out.ext (below_refl_drewN _ _ _))).mono ?_
    rintro e w7 ⟨rfl, n7, rfl⟩
    go_wp2_with fail
    refine (lists_eq _ _ (vtCycles (alOf ds) (GG ds) ds.length) _ (by first | exact Hc5.out.ext (below_refl_drewN _ _ _) | exact (Hc5.out.ext (below_refl_drewN _ _ n6)).ext (below_refl_drewN _ _ n7)) (by first | exact Hc6.out.ext (below_refl_drewN _ _ _) | exact (Hc6.out.ext (below_refl_drewN _ _ n6)).ext (below_refl_drewN _ _ n7))).mono ?_
    rintro e w8 ⟨rfl, n8, rfl⟩
    go_wp2_with fail
    go_ret
    refine ⟨rfl, ?_⟩
    have hs1 := Hb1.out.size
    have hs3 := Hb3.out.size
    have hs4 := Hb4.out.size
    refine Hb1.out.trans ((Hb3.out.trans ((Hb4.out.trans (Hb5.out.mono hs4)).mono hs3)).mono hs1) |>.trans ?_
    exact below_refl_drewN _ _ _

end Go.Proofs.Ytnaedpfaeioolaa
