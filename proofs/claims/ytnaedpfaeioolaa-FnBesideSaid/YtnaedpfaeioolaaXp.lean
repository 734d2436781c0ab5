/- The statement FnPointers: what its call computes. -/
import Derived.Test.YtnaedpfaeioolaaWw
import Derived.Test.YtnaedpfaeioolaaVg
import Derived.Test.YtnaedpfaeioolaaXf
namespace Go.Proofs.Ytnaedpfaeioolaa
open Go.RowKit
set_option linter.unusedVariables false

theorem Fit_any (ds : List D) (w : World) (a : Option Addr) (cap : Nat) (hdv : DV w (.slice a ds.length cap) ds) :
    Calls Try.prog 19 #[.slice a ds.length cap] w fun e w' => ∃ v', e = .returned v' ∧ DV w' v' (fitD ds) ∧ Below w.heap.size w w' := by
  rcases Nat.lt_or_ge 8 ds.length with h | h
  · exact Fit_big ds w a cap h hdv
  · exact Fit_small ds w a cap h hdv

/-- What DV says of the value. -/
theorem DV.form {w : World} {v : Value} {ds : List D} (h : DV w v ds) : ∃ a cap, v = .slice a ds.length cap ∧ ds.length ≤ cap ∧ cap ≤ 9223372036854775807 := by
  obtain ⟨a, cap, _, rfl, h1, h2, _⟩ := h
  exact ⟨a, cap, rfl, h1, by simpa [maxLen] using h2⟩

/-- Where no declaration contains another, all are valid. -/
theorem vt_none {al : Nat → Bool} {G : Nat → List Nat} {N : Nat} (h : ∀ n, n < N → G n = []) (k : Nat) (hk : k ≤ N) : vt al G N k = (List.replicate k true, fun _ => false, []) := by
  induction k with
  | zero => rfl
  | succ k ih =>
    rw [vt_succ, ih (by omega)]
    unfold vtStep
    have hf : find G (fun _ => false) N [] [k] = none := by
      obtain ⟨M, rfl⟩ : ∃ M, N = M + 1 := ⟨N - 1, by omega⟩
      rw [find_go _ (by simp) rfl, h k (by omega), find_nil, find_nil]
      rfl
    simp only [hf]
    split <;> simp [List.replicate_succ', mark, addc]

theorem none_ans {al : Nat → Bool} {G : Nat → List Nat} {N : Nat} (h : ∀ n, n < N → G n = []) : vtValid al G N = List.replicate N true ∧ vtMarked al G N = List.replicate N false ∧ vtCycles al G N = [] := by
  unfold vtValid vtMarked vtCycles
  rw [vt_none h N (Nat.le_refl _)]
  refine ⟨rfl, ?_, rfl⟩
  simp [List.map_const']

theorem allB_rep (N : Nat) (b : Bool) : allB (List.replicate N b) b (N : Int) = true := by simp [allB]

/-- A tree as the only element of another. -/
theorem TV.box {w : World} {S : Nat → Prop} {Z : Nat} {p : V3} {t : T} (k n : Int) (hb : w.heap[Z]? = some (.cells #[p.1, p.2.1, p.2.2] 45 (0, 0))) (hS : S Z) (ht : TV w S (agg3 p) t) :
    TV w S (.agg #[.int .i64 k, .int .i64 n, .slice (some ⟨Z, 0, none⟩) 1 1]) (.mk k n [t]) := by
  refine .mk k n (some ⟨Z, 0, none⟩) 1 [t] [p] rfl (Nat.le_refl _) (by unfold maxLen; simp) ?_ (by rintro b o _ h1; simp at h1; exact h1.1 ▸ hS) ?_
  · intro j u hj
    refine ⟨Z, 0, rfl, ?_⟩
    rw [Nat.zero_add, cell_of hb]
    match j, hj with
    | 0, hj => exact hj
    | 1, hj => exact hj
    | 2, hj => exact hj
    | j + 3, hj => simp [flat3] at hj
  · intro i q u hq hu
    match i, hq, hu with
    | 0, hq, hu => simp at hq hu; subst hq; subst hu; exact ht
    | i + 1, hq, hu => simp at hq

def ptrD (d : D) : D := ⟨d.alias, .mk 4 0 [.mk 2 0 [d.of]]⟩

theorem ptr_G (ds : List D) (n : Nat) (hn : n < ds.length) : GG (ds.map ptrD) n = [] := by
  have : ofOf (ds.map ptrD) n = .mk 4 0 [.mk 2 0 [ofOf ds n]] := by
    unfold ofOf
    rw [getD_of (by simpa using hn), getD_of hn]
    simp [ptrD]
  unfold GG
  rw [this, flatF_row _ _ _ _ _ (by omega)]
  simp [flatF_none]

theorem ptr_al (ds : List D) : alOf (ds.map ptrD) = alOf ds := by
  funext n
  unfold alOf
  rw [List.getD_eq_getElem?_getD, List.getD_eq_getElem?_getD, List.getElem?_map]
  cases ds[n]? <;> rfl

theorem ptr_ok {ds : List D} (h : DOk ds) : DOk (ds.map ptrD) := by
  refine ⟨fun d hd => ?_, fun i d hd ha => ?_⟩
  · obtain ⟨d0, hd0, rfl⟩ := List.mem_map.1 hd
    have h0 := h.ok d0 hd0
    rw [List.length_map]
    exact .mk 4 0 _ (by omega) (by omega) (by simp) (by omega) (by omega) (by simp; exact .mk 2 0 _ (by omega) (by omega) (by simp) (by omega) (by omega) (by simpa using h0))
  · rw [List.getElem?_map] at hd
    cases hq : ds[i]? with
    | none => rw [hq] at hd; simp at hd
    | some d0 =>
      rw [hq] at hd
      simp at hd
      subst hd
      have h1 := (h.al i d0 hq ha).congr (ptr_al ds).symm
      exact .mk 4 0 _ (by omega) (by simp; exact .mk 2 0 _ (by omega) (by simpa using h1))

def RP (ds : List D) (B : Nat) (w : World) (v i : Value) (wr : World) : Prop := ∃ (k : Nat) (qs : List V4), k ≤ ds.length ∧ i = .int .i64 k ∧ Kids4 wr B 47 v qs ((ds.map ptrD).take k) ∧ Below B w wr

set_option maxHeartbeats 1000000 in
set_option maxRecDepth 100000 in
theorem pointers_any (ds0 : List D) (w : World) (a : Option Addr) (cap : Nat) (hdv : DV w (.slice a ds0.length cap) ds0) : Calls Try.prog 11 #[.slice a ds0.length cap] w fun e w' => e = .returned (.bool true) ∧ Below w.heap.size w w' := by
  obtain ⟨_, _, e1, hc1, hc2⟩ := hdv.form
  simp at e1
  obtain ⟨rfl, rfl⟩ := e1
  by_cases hbig : 2147483647 < ds0.length
  · go_enter Try.func11, Try.ntmps11
    go_wp2_with fail
    go_ret
    exact ⟨rfl, Below.refl _ _⟩
  · have hbig' : ds0.length ≤ 2147483647 := by omega
    clear hbig
    have Hdv := Lib.hid hdv; clear hdv
    go_enter Try.func11, Try.ntmps11
    go_wp2_with fail
    go_at_call 19
    refine (Fit_any ds0 w a cap Hdv.out).mono ?_
    rintro e w1 ⟨v1, rfl, hd1, hb1⟩
    have hok := fitD_ok ds0
    have h8 := fitD_8 ds0
    generalize fitD ds0 = ds at hd1 hok h8
    obtain ⟨a1, cap1, rfl, hc3, hc4⟩ := hd1.form
    have Hd1 := Lib.hid hd1; clear hd1
    have Hok := Lib.hid hok; clear hok
    have Hb1 := Lib.hid hb1; clear hb1
    have hbs : w.heap.size ≤ w1.heap.size := Hb1.out.size
    go_wp2_with fail
    go_loopw [3, 16] (RP ds w1.heap.size w1) (fun _ i _ => ds.length - (intOf i).toNat)
    case atStart => unfold RP; exact ⟨0, [], Nat.zero_le _, rfl, Kids4.nil _ _ _, Below.refl _ _⟩
    case round =>
      obtain ⟨k, qs, hk, rfl, hkids, hbw⟩ := hrel
      have hlen : ((ds.map ptrD).take k).length = k := by rw [List.length_take, List.length_map]; omega
      have hown := hkids.own
      rw [hlen] at hown
      have Hkids := Lib.hid hkids; clear hkids
      have Hlen := Lib.hid hlen; clear hlen
      have Hown := Lib.hid hown
      obtain ⟨asv, csv, hsv, _, _, _⟩ := own_slice hown
      subst hsv
      clear hown
      by_cases hlt : k < ds.length
      · obtain ⟨b, o, kd, md, x, y, rfl, x0, x1, x2, x3, ht⟩ := Hd1.out.at hlt
        obtain ⟨xl, xc⟩ := y
        have y0 := cell_later hbw x0
        have y1 := cell_later hbw x1
        have y2 := cell_later hbw x2
        have y3 := cell_later hbw x3
        simp only at y3
        clear x0 x1 x2 x3
        have htake : (ds.map ptrD).take (k + 1) = (ds.map ptrD).take k ++ [⟨alOf ds k, .mk 4 0 [.mk 2 0 [ofOf ds k]]⟩] := by
          rw [List.take_succ_eq_append_getElem (by simpa using hlt), List.getElem_map]
          unfold alOf ofOf ptrD
          rw [getD_of hlt]
        have Htake := Lib.hid htake; clear htake
        have Ht := Lib.hid ht; clear ht
        generalize alOf ds k = al at y0 Htake
        generalize ofOf ds k = te at Htake Ht
        have Hbw := Lib.hid hbw; clear hbw
        go_wp2_with (at_builtin; refine wpList_app _ rfl (.tmp 20) (.tmp 30) 32 rfl w1.heap.size 47 _ 4 48 Try.underlying32 Try.info47 rfl (by decide) _ k _ _ _ rfl rfl (by simp) (((Hown.out.alloc _).alloc _).alloc _) rfl (by simp [Value.oneCell']) ?_ ?_ ?_ ?_)
        · simp only [maxLen]; omega
        · omega
        · have := Hbw.out.size; simp; omega
        intro v' w2 g1 _ g3 g4
        obtain ⟨asv', csv', hsv', _, _, _⟩ := own_slice g1
        subst hsv'
        have hb3 : Below wr.heap.size wr (((wr.alloc (.cells #[.bool al, .int .i64 kd, .int .i64 md, .slice x xl xc] 47)).alloc (.cells #[.int .i64 kd, .int .i64 md, .slice x xl xc] 45)).alloc (.cells #[.int .i64 2, .int .i64 0, .slice (some ⟨wr.heap.size + 1, 0, none⟩) 1 1] 45)) :=
          (((Below.refl _ _).alloc (Nat.le_refl _) _).alloc (by simp) _).alloc (by simp; omega) _
        have hk3 := Hkids.out.ext hb3
        have h1 := TV.old Ht.out (Hbw.out.trans (hb3.mono Hbw.out.size)) hk3.own (Nat.le_refl _)
        have hlow : ∀ u, wr.heap.size ≤ u → (Value.slice asv k csv).ownBlock ≠ some u := fun u hu e => by have := (Hown.out.lt u e).2; omega
        have h2 := TV.box (p := (.int .i64 kd, .int .i64 md, .slice x xl xc)) (Z := wr.heap.size + 1) 2 0 (by rw [alloc_lt (by simp), alloc_at (by simp)]) (hlow _ (by omega)) h1
        have h3 := TV.box (p := (.int .i64 2, .int .i64 0, .slice (some ⟨wr.heap.size + 1, 0, none⟩) 1 1)) (Z := wr.heap.size + 1 + 1) 4 0 (alloc_at (by simp)) (hlow _ (by omega)) h2
        have hnew := Kids4.snoc (q := (.bool al, .int .i64 4, .int .i64 0, .slice (some ⟨wr.heap.size + 1 + 1, 0, none⟩) 1 1)) (d := ⟨al, .mk 4 0 [.mk 2 0 [te]]⟩) hk3 rfl h3 (by rw [Hlen.out]; exact g1) g3 (by simpa using g4)
        rw [← Htake.out] at hnew
        have Hnew := Lib.hid hnew
        have Hb5 := Lib.hid (below_grown (Hbw.out.trans (hb3.mono Hbw.out.size)) (own_ext Hown.out hb3) (Nat.le_refl _) (by have := Hbw.out.size; simp; omega) g3)
        clear hnew h1 h2 h3 hk3 g1 g3 g4 hb3
        go_wp2_with fail
        go_roundw
        case rel => unfold RP; exact ⟨k + 1, _, by omega, by go_num, Hnew.out, Hb5.out⟩
        case measure => simp [intOf]; omega
      · have hke : k = ds.length := by omega
        subst hke
        have hk9 := Hkids.out
        rw [List.take_of_length_le (by simp)] at hk9
        have hdm := hk9.dv
        have hml : (ds.map ptrD).length = ds.length := by simp
        rw [← hml] at hdm
        have h20 := Valid_any (ds.map ptrD) (ptr_ok Hok.out) (by rw [hml]; omega) wr asv csv (by simpa using hdm)
        rw [hml] at h20
        have H20 := Lib.hid h20
        have hans := none_ans (al := alOf (ds.map ptrD)) (G := GG (ds.map ptrD)) (N := (ds.map ptrD).length) (fun n hn => ptr_G ds n (by simpa using hn))
        rw [hml] at hans
        have Hans := Lib.hid hans
        have Hml := Lib.hid hml
        clear hk9 hdm hml h20 hans
        have Hbw := Lib.hid hbw; clear hbw
        go_wp2_with fail
        refine H20.out.mono ?_
        rintro e w3 ⟨va, vb, vc, rfl, q1, q2, q3, hb3⟩
        rw [Hml.out, Hans.out.1] at q1
        rw [Hml.out, Hans.out.2.1] at q2
        rw [Hml.out, Hans.out.2.2] at q3
        have Ha := Lib.hid q1
        have Hm := Lib.hid q2
        have Hc := Lib.hid q3
        have Hb3 := Lib.hid hb3
        clear q1 q2 q3 hb3
        obtain ⟨vs, hvs, _⟩ := Hc.out
        obtain ⟨ca, cc, rfl, _, _, _⟩ := own_slice hvs
        clear hvs
        go_wp2_with fail
        refine (works_any _).mono ?_
        rintro e w4 ⟨rfl, hb4⟩
        have Ha4 := Lib.hid (own_slice (own_ext Ha.out hb4))
        have Hm4 := Lib.hid (own_slice (own_ext Hm.out hb4))
        have Hb4 := Lib.hid hb4; clear hb4
        go_wp2_with fail
        refine (all_yes _ (List.replicate ds.length true) _ true _ (by simpa using Ha4.out) (allB_rep _ _)).mono ?_
        rintro e w5 ⟨rfl, rfl⟩
        go_wp2_with fail
        refine (all_yes _ (List.replicate ds.length false) _ false _ (by simpa using Hm4.out) (allB_rep _ _)).mono ?_
        rintro e w5 ⟨rfl, rfl⟩
        go_wp2_with fail
        go_ret
        refine ⟨rfl, ?_⟩
        have hs1 := Hb1.out.size
        have hs2 := Hbw.out.size
        have hs3 := Hb3.out.size
        exact Hb1.out.trans ((Hbw.out.trans ((Hb3.out.trans (Hb4.out.mono hs3)).mono hs2)).mono hs1)

end Go.Proofs.Ytnaedpfaeioolaa
