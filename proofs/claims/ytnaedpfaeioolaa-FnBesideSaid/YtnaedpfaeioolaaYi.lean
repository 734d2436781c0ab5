/- The contract of spec.IsCycle, at what is a cycle. -/
import Derived.Test.YtnaedpfaeioolaaYl
import Derived.Deep.QuietTactic
import Derived.BigQuiet
namespace Go.Proofs.Ytnaedpfaeioolaa
open Go.RowKit
set_option linter.unusedVariables false

theorem has_row {w : World} {a : Option Addr} {cap : Nat} {R : List Nat} (hc : R.length ≤ cap) (hm : cap ≤ 9223372036854775807) (h : Row w a ((ints R).map (Value.int .i64))) (n : Nat) (b : Bool) (hb : decide (n ∈ R) = b) :
    Calls Try.prog 38 #[.slice a R.length cap, .int .i64 (n : Int)] w fun e w' => e = .returned (.bool b) ∧ w' = w := by
  have hl : R.length = (ints R).length := by simp [ints]
  rw [hl] at hc ⊢
  refine (has_any a cap (ints R) n w hc hm h).mono fun e w' ⟨e1, e2⟩ => ⟨?_, e2.symm⟩
  rw [e1, ← hb]
  simp only [mem_ints]

theorem cyc_next {F : Nat → List Nat} {c : List Nat} (h : IsCyc F noMk c) {k : Nat} (hk : k < c.length) : c[(k + 1) % c.length]'(Nat.mod_lt _ (by omega)) ∈ F c[k] := by
  by_cases h1 : k + 1 < c.length
  · have e : c[(k + 1) % c.length]'(Nat.mod_lt _ (by omega)) = c[k + 1] := by congr 1; exact Nat.mod_eq_of_lt h1
    rw [e]
    exact h.edge k h1
  · have hkk : k + 1 = c.length := by omega
    have e : c[(k + 1) % c.length]'(Nat.mod_lt _ (by omega)) = c.head h.ne := by
      rw [List.head_eq_getElem]
      congr 1
      rw [hkk, Nat.mod_self]
    have e2 : c[k] = c.getLast h.ne := by
      rw [List.getLast_eq_getElem]
      congr 1
      omega
    rw [e, e2]
    exact h.close

set_option maxHeartbeats 2000000 in
set_option maxRecDepth 100000 in
theorem isCycle_any (ds : List D) (hN : ds.length ≤ 100) (gs : List (List Nat)) (hgl : gs.length = ds.length) (hho : HoldsOk ds gs) (c : List Nat) (hc : IsCyc (GG ds) noMk c) (hcl : ∀ x ∈ c, x < ds.length ∧ alOf ds x = false) (w : World)
    (a : Option Addr) (cap : Nat) (hc1 : ds.length ≤ cap) (hc2 : cap ≤ 9223372036854775807) (hdv : DV w (.slice a ds.length cap) ds) (ga : Option Addr) (gc : Nat) (hg1 : gs.length ≤ gc) (hg2 : gc ≤ 9223372036854775807) (hll : LL w (.slice ga gs.length gc) (gs.map ints))
    (ca : Option Addr) (cc : Nat) (hq1 : c.length ≤ cc) (hq2 : cc ≤ 9223372036854775807) (hcr : Row w ca ((ints c).map (Value.int .i64))) :
    Calls Try.prog 26 #[.slice a ds.length cap, .slice ga gs.length gc, .slice ca c.length cc] w fun e w' => e = .returned (.bool true) ∧ Below w.heap.size w w' := by
  have hpos : 0 < c.length := List.length_pos_iff.2 hc.ne
  have hL : c.length ≤ ds.length := nodup_le ds.length c hc.nodup fun x hx => (hcl x hx).1
  have Hc := Lib.hid hc
  have Hcl := Lib.hid hcl
  have Hdv := Lib.hid hdv
  have Hll := Lib.hid hll
  have Hcr := Lib.hid hcr
  have Hho := Lib.hid hho
  have Hgl := Lib.hid hgl
  have hgN : gs.length ≤ 100 := by omega
  clear hc hcl hdv hll hcr hho hgl
  go_enter Try.func26, Try.ntmps26
  go_wp2_with fail
  go_loopw [11] (fun i wr => ∃ k : Nat, k ≤ c.length ∧ i = .int .i64 k ∧ Below w.heap.size w wr) (fun i _ => c.length - (intOf i).toNat)
  case atStart => exact ⟨0, Nat.zero_le _, rfl, Below.refl _ _⟩
  case round =>
    obtain ⟨k, hk, rfl, hbw⟩ := hrel
    have Hbw := Lib.hid hbw
    by_cases hlt : k < c.length
    · have hmod : (k + 1) % c.length < c.length := Nat.mod_lt _ hpos
      obtain ⟨cb, co, rfl, z0⟩ := Hcr.out k (.int .i64 ((c[k] : Nat) : Int)) (by rw [List.getElem?_map]; simp [ints, hlt])
      obtain ⟨_, _, e1, z1⟩ := Hcr.out ((k + 1) % c.length) (.int .i64 ((c[(k + 1) % c.length]'hmod : Nat) : Int)) (by rw [List.getElem?_map]; simp [ints, hmod])
      simp at e1
      obtain ⟨rfl, rfl⟩ := e1
      obtain ⟨hn, hal⟩ := Hcl.out _ (List.getElem_mem hlt)
      have hedge := cyc_next Hc.out hlt
      have hnot : decide (c[k] ∈ c.take k) = false := by
        rw [decide_eq_false_iff_not]
        intro hm
        obtain ⟨j, hj⟩ := List.mem_iff_getElem?.1 hm
        have hjk : j < k := by have := (List.getElem?_eq_some_iff.1 hj).1; simp at this; omega
        rw [List.getElem?_take, if_pos hjk, List.getElem?_eq_getElem (by omega)] at hj
        simp at hj
        have hnd := Hc.out.nodup
        rw [List.Nodup, List.pairwise_iff_getElem] at hnd
        exact hnd j k (by omega) hlt hjk hj
      generalize c[k] = n at z0 hn hal hedge hnot
      generalize c[(k + 1) % c.length]'hmod = m at z1 hedge
      obtain ⟨b, o, kd, md, x, y, rfl, x0, _, _, _, _⟩ := Hdv.out.at hn
      rw [hal] at x0
      obtain ⟨gb, go, xa, xc, rfl, y0, hy1, hy2, hy3⟩ := Hll.out.at (i := n) (by rw [Hgl.out]; exact hn)
      have hy2' : xc ≤ 9223372036854775807 := by simpa [maxLen] using hy2
      have hin : decide (m ∈ gF gs n) = true := by
        rw [decide_eq_true_iff]
        exact (holds_mem Hho.out Hgl.out n m).2 hedge
      have htl : (c.take k).length = k := by rw [List.length_take]; omega
      have hrt : Row w (some ⟨cb, co, none⟩) ((ints (c.take k)).map (Value.int .i64)) := by
        intro j u hj
        have hjk : j < k := by have := (List.getElem?_eq_some_iff.1 hj).1; simp [ints] at this; omega
        refine Hcr.out j u ?_
        rw [← hj]
        unfold ints
        rw [List.getElem?_map, List.getElem?_map, List.getElem?_map, List.getElem?_map, List.getElem?_take, if_pos hjk]
      have z0 := cell_later hbw z0
      have z1 := cell_later hbw z1
      have x0 := cell_later hbw x0
      have y0 := cell_later hbw y0
      have h38a : ∀ W : World, Below w.heap.size w W → Calls Try.prog 38 #[.slice (some ⟨cb, co, none⟩) k cc, .int .i64 (n : Int)] W fun e w' => e = .returned (.bool false) ∧ w' = W := by
        intro W hW
        have h := has_row (cap := cc) (by rw [htl]; omega) hq2 (hrt.ext hW) n false hnot
        rw [htl] at h
        exact h
      have h38b : ∀ W : World, Below w.heap.size w W → Calls Try.prog 38 #[.slice xa (gF gs n).length xc, .int .i64 (m : Int)] W fun e w' => e = .returned (.bool true) ∧ w' = W :=
        fun W hW => has_row hy1 hy2' (hy3.ext hW) m true hin
      have H38a := Lib.hid (fun j => h38a (wr.drewN j) (Hbw.out.trans (below_refl_drewN _ _ _)))
      have H38b := Lib.hid (fun j => h38b (wr.drewN j) (Hbw.out.trans (below_refl_drewN _ _ _)))
      clear h38a h38b
      have hf1 : decide ((n : Int) < 0) = false := by simp
      have hf2 : decide (ds.length ≤ n) = false := by simpa using hn
      have hf3 : (0 : Int) ≤ ((k : Int) + 1) % (c.length : Int) := Int.emod_nonneg _ (by omega)
      have hf4 : ((k : Int) + 1) % (c.length : Int) < (c.length : Int) := Int.emod_lt_of_pos _ (by omega)
      have hf5 : (0 : Int) ≤ (n : Int) := by omega
      have hf6 : (n : Int) < (ds.length : Int) := by omega
      have hf7 : (n : Int) < (gs.length : Int) := by have := Hgl.out; omega
      have hf8 : (0 : Int) ≤ (k : Int) := by omega
      have hf9 : (k : Int) ≤ (cc : Int) := by omega
      clear hbw hnot hin hedge hmod htl hrt hy3 hal
      go_wp2_with fail
      go_quiet ((first
        | (with_reducible exact Calls.quiet_of_same (H38a.out _))
        | (with_reducible exact Calls.quiet_of_same (H38b.out _))))
      clear hf3 hf4 z0 z1 x0 y0
      go_wp2_with fail
      go_roundw
      case rel => exact ⟨k + 1, by omega, by go_num, Hbw.out.trans (below_refl_drewN _ _ _)⟩
      case measure => simp [intOf]; omega
    · have hke : k = c.length := by omega
      subst hke
      have hpos' : (0 : Int) < (c.length : Int) := by omega
      clear hbw
      go_wp2_with fail
      go_ret
      exact ⟨rfl, Hbw.out⟩

end Go.Proofs.Ytnaedpfaeioolaa
