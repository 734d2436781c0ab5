/- The contract of spec.DirectCycles: it returns what the plain function specDC says. The numbers are declarations or -1, at most 30. -/
import Derived.Test.YtnaedpfaeioolaaMem
import Derived.Test.YtnaedpfaeioolaaDP
import Derived.Deep.QuietTactic
import Derived.BigQuiet
namespace Go.Proofs.Ytnaedpfaeioolaa
open Go.RowKit
set_option linter.unusedVariables false

theorem it_one (r : List Int) (x : Int) : it r 1 x = stp r x := rfl
theorem stp_at (r : List Int) (m : Nat) (h : m < r.length) : stp r (m : Int) = r[m] := by
  unfold stp
  rw [if_neg (by omega)]
  simp [List.getElem?_eq_getElem h]

theorem headD_get (l : List Int) (h : 0 < l.length) : l.headD 0 = l[0] := by
  cases l with
  | nil => simp at h
  | cons x l => rfl

theorem head_at {w : World} {a : Option Addr} {vs : List Value} {out : List (List Int)} (hrow : Row w a vs) (hin : ∀ (i : Nat) u xs, vs[i]? = some u → out[i]? = some xs → IntsO w u xs)
    (hlen : vs.length = out.length) (j : Nat) (hj : j < out.length) (hne : out[j] ≠ []) :
    ∃ b3 o3 b4 o4 ll cap4, a = some ⟨b3, o3, none⟩ ∧ w.cell? ⟨b3, o3 + j, none⟩ = some (.slice (some ⟨b4, o4, none⟩) ll cap4) ∧ 0 < ll ∧ w.cell? ⟨b4, o4, none⟩ = some (.int .i64 (out[j].headD 0)) := by
  have f1 : vs[j]? = some (vs[j]'(by omega)) := List.getElem?_eq_getElem _
  have f2 : out[j]? = some out[j] := List.getElem?_eq_getElem _
  obtain ⟨b3, o3, ha, hx3⟩ := hrow j _ f1
  obtain ⟨a4, cap4, h1, h2, h3, h4⟩ := own_slice (hin j _ _ f1 f2)
  have hl0 : 0 < (out[j]).length := List.length_pos_iff.2 hne
  obtain ⟨b4, o4, rfl, hx4⟩ := Row.int h4 0 hl0
  rw [h1] at hx3
  refine ⟨b3, o3, b4, o4, _, _, ha, hx3, hl0, ?_⟩
  rw [headD_get _ hl0]
  exact hx4

set_option maxHeartbeats 2000000 in
set_option maxRecDepth 100000 in
theorem specDC_any (a : Option Addr) (cap : Nat) (r : List Int) (w : World) (hf : Fine r) (h30 : r.length ≤ 30) (hc : Row w a (r.map (Value.int .i64))) :
    Calls Try.prog 17 #[.slice a r.length cap] w fun e w' => ∃ v, e = .returned v ∧ LLO w' w.heap.size v (specDC r) ∧ Below w.heap.size w w' := by
  have Hf := Lib.hid hf; clear hf
  have Hc := Lib.hid hc; clear hc
  go_enter Try.func17, Try.ntmps17
  go_wp2_with fail
  go_loopw [3, 15] (fun v i wr => ∃ k : Nat, k ≤ r.length ∧ i = .int .i64 k ∧ LLO wr w.heap.size v ((List.range k).foldl (specStep r) []) ∧ Below w.heap.size w wr) (fun _ i _ => 30 - (intOf i).toNat)
  case atStart => exact ⟨0, Nat.zero_le _, rfl, LLO.nil _ _, Below.refl _ _⟩
  case round =>
    obtain ⟨k, hk, rfl, hout, hnx⟩ := hrel
    obtain ⟨out, hO⟩ : ∃ out, out = (List.range k).foldl (specStep r) [] := ⟨_, rfl⟩
    have HO := Lib.hid hO
    have hol : out.length ≤ k := by rw [hO]; exact spec_length r k
    rw [← hO] at hout
    clear hO
    have Hout := Lib.hid hout; clear hout
    by_cases hlt : k < r.length
    · obtain ⟨b, o, rfl, _⟩ := Hc.out.int k hlt
      have hcell : ∀ m (hm : m < r.length), wr.cell? ⟨b, o + m, none⟩ = some (.int .i64 r[m]) := by
        intro m hm
        obtain ⟨b', o', e, hx⟩ := (Hc.out.ext hnx).int m hm
        simp at e
        obtain ⟨rfl, rfl⟩ := e
        exact hx
      have Hcell := Lib.hid hcell; clear hcell
      go_wp2_with fail
      go_loop [5, 21] (fun x t => ∃ (j : Nat) (y : Int), j ≤ r.length ∧ t = .int .i64 j ∧ x = .int .i64 y ∧ -1 ≤ y ∧ y < r.length ∧ Hid (y = it r j k)) (fun _ t => 30 - (intOf t).toNat)
      case atStart => exact ⟨0, k, Nat.zero_le _, rfl, rfl, by omega, by omega, rfl⟩
      case round =>
        obtain ⟨j, y, hj, rfl, rfl, hy1, hy2, Hy⟩ := hrel
        by_cases hj2 : j < r.length
        · by_cases hy0 : y < 0
          · go_wp2_with fail
            go_round
            case rel => exact ⟨j + 1, y, by omega, by go_num, rfl, hy1, hy2, by show y = stp r (it r j k); rw [← Hy.out]; unfold stp; rw [if_pos hy0]⟩
            case measure => simp [intOf]; omega
          · obtain ⟨m, rfl⟩ := Int.eq_ofNat_of_zero_le (show 0 ≤ y by omega)
            have hm : m < r.length := by omega
            have hx := Hcell.out m hm
            have hz := Hf.out m _ (List.getElem?_eq_getElem hm)
            have e1 : r[m] = it r (j + 1) k := by show r[m] = stp r (it r j k); rw [← Hy.out, stp_at r m hm]
            generalize r[m] = z at hx hz e1
            have E1 := Lib.hid e1; clear e1
            obtain ⟨hz1, hz2⟩ := hz
            go_wp2_with fail
            go_round
            case rel => exact ⟨j + 1, z, by omega, by go_num, rfl, hz1, hz2, E1⟩
            case measure => simp [intOf]; omega
        · have hje : j = r.length := by omega
          subst hje
          by_cases hy0 : y < 0
          · go_wp2_with fail
            go_roundw
            case rel =>
              refine ⟨k + 1, by omega, by go_num, ?_, hnx⟩
              rw [specDC_take, ← HO.out]
              unfold specStep
              rw [if_pos (by rw [← Hy.out]; exact hy0)]
              exact Hout.out
            case measure => simp [intOf]; omega
          · obtain ⟨m, rfl⟩ := Int.eq_ofNat_of_zero_le (show 0 ≤ y by omega)
            have hm : m < r.length := by omega
            have hx := Hcell.out m hm
            have hz := Hf.out m _ (List.getElem?_eq_getElem hm)
            have hoc : OnC r m := ⟨by omega, hy2, by
              obtain ⟨p, h1, h2, h3⟩ := on_cycle Hf.out (show -1 ≤ ((k : Nat) : Int) by omega) (by omega) (by rw [← Hy.out]; exact Int.natCast_nonneg _)
              exact ⟨p, h1, h2, by rw [Hy.out]; exact h3⟩⟩
            have e1 : r[m] = it r 1 m := by rw [it_one, stp_at r m hm]
            generalize r[m] = z at hx hz e1
            have E1 := Lib.hid e1; clear e1
            obtain ⟨hz1, hz2⟩ := hz
            have hz0 : 0 ≤ z := by rw [E1.out]; exact it_pos hoc 1
            obtain ⟨hp0, hpn, hpe, hpm⟩ := per_spec hoc
            have Hoc := Lib.hid hoc; clear hoc
            have Hpe := Lib.hid hpe; clear hpe
            have Hpm := Lib.hid hpm; clear hpm
            obtain ⟨p, hp⟩ : ∃ p, p = perOf r m := ⟨_, rfl⟩
            have Hp := Lib.hid hp
            rw [← hp] at hp0 hpn Hpe Hpm
            clear hp
            go_wp2_with fail
            obtain ⟨wo, rfl⟩ : ∃ wo : World, wo = wr := ⟨_, rfl⟩
            go_loopg [6, 7] (p - 1) (fun left f y w2 => ∃ (j : Nat) (g q : Int), left + j = p ∧ 1 ≤ j ∧ f = .int .i64 g ∧ y = .int .i64 q ∧ 0 ≤ q ∧ q < r.length ∧ 0 ≤ g ∧ g < r.length ∧ Hid (q = it r j m) ∧ Hid (g = minTo r m j) ∧ w2 = wo)
            case atStart => exact ⟨1, m, z, by omega, Nat.le_refl _, rfl, rfl, hz0, hz2, by omega, hy2, E1, (minTo_one r m).symm, rfl⟩
            case round =>
              obtain ⟨j, g, q, hlj, hj1, rfl, rfl, hq0, hq2, hg0, hg2, Hq, Hg, hwe⟩ := hrel
              subst hwe
              by_cases hjp : j < p
              · obtain ⟨qn, rfl⟩ := Int.eq_ofNat_of_zero_le hq0
                have hqn : qn < r.length := by omega
                have hx2 := Hcell.out qn hqn
                have hne : ((qn : Int) != (m : Int)) = true := by
                  rw [bne_iff_ne, Hq.out]
                  exact Hpm.out j (by omega) hjp
                have f1 : r[qn] = it r (j + 1) m := by show r[qn] = stp r (it r j m); rw [← Hq.out, stp_at r qn hqn]
                have hz' := Hf.out qn _ (List.getElem?_eq_getElem hqn)
                generalize r[qn] = z' at hx2 f1 hz'
                have F1 := Lib.hid f1; clear f1
                obtain ⟨hz1', hz2'⟩ := hz'
                have hz0' : 0 ≤ z' := by rw [F1.out]; exact it_pos Hoc.out (j + 1)
                have Hmin : Hid (min g (qn : Int) = minTo r m (j + 1)) := by show _ = _; rw [minTo_succ, ← Hg.out, ← Hq.out]
                by_cases hgq : g ≤ (qn : Int)
                · have Hm2 : Hid (g = minTo r m (j + 1)) := by rw [← Hmin.out]; show g = min g _; omega
                  go_wp2_with fail
                  go_roundg (gk - 1)
                  case measure => omega
                  case rel => exact ⟨j + 1, g, z', by omega, by omega, rfl, rfl, hz0', hz2', hg0, hg2, F1, Hm2, rfl⟩
                · have Hm2 : Hid ((qn : Int) = minTo r m (j + 1)) := by rw [← Hmin.out]; show (qn : Int) = min g _; omega
                  go_wp2_with fail
                  go_roundg (gk - 1)
                  case measure => omega
                  case rel => exact ⟨j + 1, qn, z', by omega, by omega, rfl, rfl, hz0', hz2', by omega, hq2, F1, Hm2, rfl⟩
              · have hjp' : j = p := by omega
                have hne : (q != (m : Int)) = false := by
                  rw [bne_eq_false_iff_eq, Hq.out, hjp']
                  exact Hpe.out
                have hfirst : g = firstOf r m := by rw [Hg.out, hjp', Hp.out]; rfl
                have Hfirst := Lib.hid hfirst; clear hfirst
                have hjle : 1 ≤ p := hp0
                clear hjp' hjp hj1 hlj
                obtain ⟨vs, hvs, hin⟩ := Hout.out
                have Hvs := Lib.hid hvs; clear hvs
                have Hin := Lib.hid hin; clear hin
                have Hlen := Lib.hid (LLO.len Hvs.out)
                obtain ⟨a3, cap3, hv3, hn3, _, hrow3⟩ := own_slice Hvs.out
                subst hv3
                have Hrow := Lib.hid hrow3; clear hrow3
                go_wp2_with fail
                go_loop [8, 49] (fun kn t => ∃ (j : Nat) (bb : Bool), j ≤ out.length ∧ t = .int .i64 j ∧ kn = .bool bb ∧ Hid (bb = (out.take j).any (fun c => c.headD 0 == g))) (fun _ t => out.length - (intOf t).toNat)
                case atStart => exact ⟨0, false, Nat.zero_le _, rfl, rfl, rfl⟩
                case round =>
                  obtain ⟨j, bb, hj, rfl, rfl, Hb⟩ := hrel
                  by_cases hj3 : j < out.length
                  · obtain ⟨b3, o3, b4, o4, ll, cap4, rfl, hx3, hl0, hx4⟩ := head_at Hrow.out Hin.out Hlen.out j hj3 (spec_ne r k _ (by rw [← HO.out]; exact List.getElem_mem hj3))
                    have HB : ∀ b', b' = (bb || (out[j].headD 0 == g)) → Hid (b' = (out.take (j + 1)).any (fun c => c.headD 0 == g)) := by
                      intro b' h
                      show b' = _
                      rw [h, Hb.out, List.take_succ_eq_append_getElem hj3, List.any_append]
                      simp
                    generalize out[j].headD 0 = hd at hx4 HB
                    have HB := Lib.hid HB
                    cases bb with
                    | true =>
                      go_wp2_with fail
                      go_round
                      case rel => exact ⟨j + 1, true, by omega, by go_num, rfl, HB.out true (by simp)⟩
                      case measure => simp [intOf]; omega
                    | false =>
                      by_cases hg : hd = g
                      · subst hg
                        go_wp2_with fail
                        go_round
                        case rel => exact ⟨j + 1, true, by omega, by go_num, rfl, HB.out true (by simp)⟩
                        case measure => simp [intOf]; omega
                      · have hg' : (hd == g) = false := by simpa using hg
                        have Hg' := Lib.hid hg; clear hg
                        go_wp2_with fail
                        go_round
                        case rel => exact ⟨j + 1, false, by omega, by go_num, rfl, HB.out false (by simp [Hg'.out])⟩
                        case measure => simp [intOf]; omega
                  · have hje : j = out.length := by omega
                    have Hb2 : Hid (bb = out.any (fun c => c.headD 0 == g)) := by show _ = _; rw [Hb.out, hje, List.take_length]
                    cases bb with
                    | true =>
                      go_wp2_with fail
                      go_roundw
                      case rel =>
                        refine ⟨k + 1, by omega, by go_num, ?_, hnx⟩
                        rw [specDC_take, ← HO.out]
                        unfold specStep
                        rw [if_neg (by rw [← Hy.out]; omega), if_pos (by rw [← Hy.out, ← Hfirst.out, ← Hb2.out])]
                        exact Hout.out
                      case measure => simp [intOf]; omega
                    | false =>
                      have hog : OnC r g := by rw [Hfirst.out]; exact onC_first Hf.out Hoc.out
                      obtain ⟨gn, rfl⟩ := Int.eq_ofNat_of_zero_le hg0
                      have hgn : gn < r.length := by omega
                      obtain ⟨hq0', hqn', hqe, hqm⟩ := per_spec hog
                      have Hqe := Lib.hid hqe; clear hqe
                      have Hqm := Lib.hid hqm; clear hqm
                      have Hog := Lib.hid hog; clear hog
                      obtain ⟨pf, hpf⟩ : ∃ pf, pf = perOf r gn := ⟨_, rfl⟩
                      have HPf := Lib.hid hpf
                      rw [← hpf] at hq0' hqn' Hqe Hqm
                      clear hpf
                      have hx5 := Hcell.out gn hgn
                      have hz5 := Hf.out gn _ (List.getElem?_eq_getElem hgn)
                      have e5 : r[gn] = it r 1 gn := by rw [it_one, stp_at r gn hgn]
                      generalize r[gn] = z5 at hx5 hz5 e5
                      have E5 := Lib.hid e5; clear e5
                      obtain ⟨hz51, hz52⟩ := hz5
                      have hz50 : 0 ≤ z5 := by rw [E5.out]; exact it_pos Hog.out 1
                      have hnxa : Below wr.heap.size wr (wr.alloc (.cells #[.int .i64 (gn : Int)] 3)) := (Below.refl _ _).alloc (Nat.le_refl _) _
                      have hx6 := cell_later hnxa hx5
                      go_wp2_with fail
                      obtain ⟨wq, rfl⟩ : ∃ wq : World, wq = wr := ⟨_, rfl⟩
                      go_loopg [11, 12] (pf - 1) (fun left c y w2 => ∃ (j : Nat) (q : Int), left + j = pf ∧ 1 ≤ j ∧ y = .int .i64 q ∧ 0 ≤ q ∧ q < r.length ∧ Hid (q = it r j gn) ∧ w2.ownsRow wq.heap.size 3 1 c j (((List.range j).map fun j => it r j gn).map (Value.int .i64)) ∧ Below wq.heap.size wq w2)
                      case atStart => exact ⟨1, z5, by omega, Nat.le_refl _, rfl, hz50, hz52, E5, World.ownsRow_lit wq #[.int .i64 (gn : Int)] 1 (Nat.le_refl _) (by unfold maxLen; omega) rfl, hnxa⟩
                      case round =>
                        obtain ⟨j, q2, hlj, hj1, rfl, hq20, hq22, Hq2, hcown, hnx2⟩ := hrel
                        have Hcown := Lib.hid hcown
                        by_cases hjp : j < pf
                        · obtain ⟨qn, rfl⟩ := Int.eq_ofNat_of_zero_le hq20
                          have hqn : qn < r.length := by omega
                          have hx7 := cell_later hnx2 (Hcell.out qn hqn)
                          have hne2 : ((qn : Int) != (gn : Int)) = true := by
                            rw [bne_iff_ne, Hq2.out]
                            exact Hqm.out j (by omega) hjp
                          have f1 : r[qn] = it r (j + 1) gn := by show r[qn] = stp r (it r j gn); rw [← Hq2.out, stp_at r qn hqn]
                          have hz' := Hf.out qn _ (List.getElem?_eq_getElem hqn)
                          generalize r[qn] = z' at hx7 f1 hz'
                          have F1 := Lib.hid f1; clear f1
                          obtain ⟨hz1', hz2'⟩ := hz'
                          have hz0' : 0 ≤ z' := by rw [F1.out]; exact it_pos Hog.out (j + 1)
                          have hj30 : j ≤ 30 := by omega
                          go_wp2_with (at_builtin; refine wpList_app1 _ rfl (.tmp 76) (.tmp 78) 22 rfl wq.heap.size 3 _ 8 Try.underlying22 Try.info3 rfl _ j _ _ rfl rfl Hcown.out rfl ?_ ?_ ?_ ?_)
                          · unfold maxLen; omega
                          · omega
                          · exact hnx2.size
                          intro v' w1 hown1 _ hg1 _
                          have hnx3 := below_grown hnx2 Hcown.out (Nat.le_refl _) hnx2.size hg1
                          have hx8 := cell_later hnx3 (Hcell.out qn hqn)
                          rw [show r[qn] = z' from by rw [F1.out]; show r[qn] = stp r (it r j gn); rw [← Hq2.out, stp_at r qn hqn]] at hx8
                          have Hown1 := Lib.hid hown1; clear hown1
                          go_wp2_with fail
                          go_roundg (gk - 1)
                          case measure => omega
                          case rel =>
                            refine ⟨j + 1, z', by omega, by omega, rfl, hz0', hz2', F1, ?_, hnx3⟩
                            rw [cyc_take, List.map_append]
                            simpa [Hq2.out] using Hown1.out
                        · obtain rfl : j = pf := by omega
                          have hne2 : (q2 != (gn : Int)) = false := by
                            rw [bne_eq_false_iff_eq, Hq2.out]
                            exact Hqe.out
                          have hcy : IntsO wr u11 (cyc r gn) := by
                            have e : (cyc r gn).length = j := by rw [HPf.out]; simp [cyc]
                            unfold IntsO
                            rw [e]
                            have e2 : cyc r gn = (List.range j).map fun j => it r j gn := by rw [HPf.out]; rfl
                            rw [e2]
                            exact own_base Hcown.out (Nat.zero_le _)
                          have Hcy := Lib.hid hcy; clear hcy
                          obtain ⟨a11, cap11, hv11, _, _, _⟩ := own_slice Hcown.out
                          subst hv11
                          clear hcown
                          have Hvs2 := Lib.hid (own_ext Hvs.out hnx2)
                          have Hin2 := Lib.hid (fun (i : Nat) u xs hu hx => (Hin.out i u xs hu hx).ext hnx2)
                          go_wp2_with (at_builtin; refine wpList_app1 _ rfl (.tmp 80) (.tmp 82) 24 rfl w.heap.size 22 _ 24 Try.underlying24 Try.info22 rfl _ out.length _ _ rfl rfl Hvs2.out rfl ?_ ?_ ?_ ?_)
                          · unfold maxLen; omega
                          · omega
                          · have := hnx.size; have := hnx2.size; omega
                          intro v' w1 hown1 _ hg1 _
                          have hnx4 := below_grown (hnx.trans (hnx2.mono hnx.size)) Hvs2.out (Nat.le_refl _) (by have := hnx.size; have := hnx2.size; omega) hg1
                          have hfin := LLO.snoc Hvs2.out Hin2.out Hcy.out hown1 hg1
                          have Hfin := Lib.hid hfin; clear hfin hown1 hg1
                          go_wp2_with fail
                          go_roundw
                          case rel =>
                            refine ⟨k + 1, by omega, by go_num, ?_, hnx4⟩
                            rw [specDC_take, ← HO.out]
                            unfold specStep
                            rw [if_neg (by rw [← Hy.out]; omega), if_neg (by rw [← Hy.out, ← Hfirst.out, ← Hb2.out]; decide), ← Hy.out, ← Hfirst.out]
                            exact Hfin.out
                          case measure => simp [intOf]; omega
    · go_wp2_with fail
      go_ret
      have hke : k = r.length := by omega
      refine ⟨_, rfl, ?_, hnx⟩
      have := Hout.out
      rw [HO.out, hke] at this
      exact this

end Go.Proofs.Ytnaedpfaeioolaa
