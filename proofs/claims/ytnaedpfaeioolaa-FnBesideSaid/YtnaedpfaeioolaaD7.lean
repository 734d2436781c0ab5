/- The contract of cycleError: one list more among the cycles that the checker holds. -/
import Derived.Test.YtnaedpfaeioolaaD6
namespace Go.Proofs.Ytnaedpfaeioolaa
open Go.RowKit
set_option linter.unusedVariables false

theorem rot_take (js : List Nat) (m k : Nat) : ((List.range (k + 1)).map (rotAt js m)).map (Value.int .i64) = ((List.range k).map (rotAt js m)).map (Value.int .i64) ++ [.int .i64 (rotAt js m k)] := by
  rw [List.range_succ, List.map_append, List.map_append]; rfl

/-- The checker: its block of four cells, the cycles that it holds. -/
structure Chk (w : World) (C base : Nat) (k0 k1 k2 : Value) (cyc : List (List Int)) : Prop where
  ex : ∃ cyv, w.heap[C]? = some (.cells #[k0, k1, k2, cyv] 76 (0, 0)) ∧ LLO w base cyv cyc

theorem LLO.tf {tys : List TypeId} {ms : List Nat} {w w' : World} {base : Nat} {v : Value} {xss : List (List Int)} (h : LLO w base v xss) (ht : TF tys ms w w') (h1 : 22 ∉ tys) (h2 : 3 ∉ tys) : LLO w' base v xss := by
  obtain ⟨vs, h3, h4⟩ := h
  exact ⟨vs, ht.own h3 h1, fun i u xs hu hx => ht.own (h4 i u xs hu hx) h2⟩

set_option maxHeartbeats 1000000 in
set_option maxRecDepth 100000 in
theorem cycleError_any (w : World) (C base b o cap : Nat) (js : List Nat) (T : Nat → Nat) (m : Nat) (k0 k1 k2 : Value) (cyc : List (List Int)) (hchk : Chk w C base k0 k1 k2 cyc)
    (hm : m < js.length) (hl : js.length ≤ 1000) (hcl : cyc.length ≤ 1000) (hbase : base ≤ w.heap.size) (hbC : base ≤ C)
    (hr : Row w (some ⟨b, o, none⟩) (js.map (objV T))) (hT : ∀ j ∈ js, ∃ t, w.heap[T j]? = some (.cells #[.int .i64 (j : Int), t] 82 (0, 0))) :
    Calls Try.prog 47 #[.pointer (some ⟨C, 0, none⟩), .slice (some ⟨b, o, none⟩) js.length cap, .int .i64 (m : Int)] w fun e w' =>
      e = .returned (.tuple #[]) ∧ Chk w' C base k0 k1 k2 (cyc ++ [rot js m]) ∧ TF [76, 22] [] w w' ∧ Below base w w' := by
  obtain ⟨cyv, hC, hcy⟩ := hchk
  have Hr := Lib.hid hr; clear hr
  have HT := Lib.hid hT; clear hT
  have HC := Lib.hid hC; clear hC
  have Hcy := Lib.hid hcy; clear hcy
  have mp := method_number
  simp [Try.t78] at mp
  go_enter Try.func47, Try.ntmps47
  go_wp2_with fail
  go_loopw [6, 10] (fun v i wr => ∃ k : Nat, k ≤ js.length ∧ i = .int .i64 k ∧ wr.ownsRow w.heap.size 3 1 v k (((List.range k).map (rotAt js m)).map (Value.int .i64)) ∧ Below w.heap.size w wr) (fun _ i _ => js.length - (intOf i).toNat)
  case atStart => exact ⟨0, Nat.zero_le _, rfl, World.ownsRow_nil _ _ _ _, Below.refl _ _⟩
  case round =>
    obtain ⟨k, hk, rfl, hown, hnx⟩ := hrel
    have Hown := Lib.hid hown
    by_cases hlt : k < js.length
    · have hmod : (m + k) % js.length < js.length := Nat.mod_lt _ (by omega)
      have g0 : js[(m + k) % js.length]? = some js[(m + k) % js.length] := List.getElem?_eq_getElem hmod
      obtain ⟨_, _, e0, hy⟩ := Hr.out _ (objV T js[(m + k) % js.length]) (by rw [List.getElem?_map, g0]; rfl)
      simp at e0
      obtain ⟨rfl, rfl⟩ := e0
      obtain ⟨tq, htq⟩ := HT.out js[(m + k) % js.length] (List.getElem_mem hmod)
      have hrq : rotAt js m k = (js[(m + k) % js.length] : Nat) := by unfold rotAt; rw [List.getD_eq_getElem?_getD, g0]; rfl
      have hy : wr.cell? ⟨b, o + (m + k) % js.length, none⟩ = some (.iface 78 (.pointer (some ⟨T js[(m + k) % js.length], 0, none⟩))) := cell_later hnx hy
      generalize js[(m + k) % js.length] = q at hy htq hrq
      have Hrq := Lib.hid hrq; clear hrq g0
      have hm1 : 0 ≤ ((m : Int) + (k : Int)) % (js.length : Int) := Int.emod_nonneg _ (by omega)
      have hm2 : ((m : Int) + (k : Int)) % (js.length : Int) < (js.length : Int) := Int.emod_lt_of_pos _ (by omega)
      have Htq := Lib.hid (show wr.heap[T q]? = _ from (hnx.block _ (Array.getElem?_eq_some_iff.1 htq).1).trans htq); clear htq
      go_wp2_with (first
        | (go_at_call 70; refine (number_any _ _ _ _ Htq.out).mono ?_; rintro e w' ⟨rfl, rfl⟩)
        | (at_builtin; refine wpList_app1 _ rfl (.tmp 13) (.tmp 24) 22 rfl w.heap.size 3 _ 8 Try.underlying22 Try.info3 rfl _ k _ _ rfl rfl Hown.out rfl ?_ ?_ ?_ ?_))
      · unfold maxLen; omega
      · omega
      · exact hnx.size
      intro v' w1 hown1 _ hg1 _
      have hnx1 := below_grown hnx Hown.out (Nat.le_refl _) hnx.size hg1
      have Hown1 := Lib.hid hown1; clear hown1
      go_wp2_with fail
      go_roundw
      case rel =>
        refine ⟨k + 1, by omega, by go_num, ?_, hnx1⟩
        rw [rot_take, Hrq.out, List.map_map]
        exact Hown1.out
      case measure => simp [intOf]; omega
    · have hke : k = js.length := by omega
      subst hke
      obtain ⟨vs, hvs, hin⟩ := Hcy.out.ext hnx
      have Hvs := Lib.hid hvs
      have Hin := Lib.hid hin; clear hin
      obtain ⟨a6, cap6, hv6, _, _, _⟩ := own_slice Hown.out
      subst hv6
      obtain ⟨a5, cap5, hv5, _, _, _⟩ := own_slice hvs
      subst hv5
      clear hvs hown
      have hC1 : wr.heap[C]? = some (.cells #[k0, k1, k2, .slice a5 cyc.length cap5] 76 (0, 0)) := (hnx.block _ (Array.getElem?_eq_some_iff.1 HC.out).1).trans HC.out
      have HC1 := Lib.hid hC1; clear hC1
      have hc3 : wr.cell? ⟨C, 3, none⟩ = some (.slice a5 cyc.length cap5) := cell_of HC1.out 3
      go_wp2_with (at_builtin; refine wpList_app1 _ rfl (.tmp 31) (.tmp 33) 24 rfl base 22 _ 24 Try.underlying24 Try.info22 rfl _ cyc.length _ _ rfl rfl Hvs.out rfl ?_ ?_ ?_ ?_)
      · unfold maxLen; omega
      · omega
      · have := hnx.size; omega
      intro v' w1 hown1 hold1 hg1 _
      have hT1 : TF [76, 22] [] wr w1 := TF.grown Hvs.out hold1 hg1 (by decide)
      have hC2 : w1.heap[C]? = some (.cells #[k0, k1, k2, .slice a5 cyc.length cap5] 76 (0, 0)) := by
        rw [hg1.block C (Array.getElem?_eq_some_iff.1 HC1.out).1 ?_, HC1.out]
        intro e1
        rcases Hvs.out.2 with ⟨hv, _⟩ | ⟨g, _, cur, hv, _, hh, _⟩
        · simp at hv; rw [hv.1] at e1; simp [Value.ownBlock] at e1
        · simp at hv; rw [hv.1] at e1; simp [Value.ownBlock] at e1; subst e1; rw [HC1.out] at hh; simp at hh
      have HC2 := Lib.hid hC2; clear hC2
      have hc4 : w1.cell? ⟨C, 3, none⟩ = some (.slice a5 cyc.length cap5) := cell_of HC2.out 3
      have hf4 : w1.frozen? ⟨C, 3, none⟩ = false := free_of HC2.out 3
      obtain ⟨a7, cap7, hv7, _, _, _⟩ := own_slice hown1
      subst hv7
      have hb1 := below_grown (hnx.mono hbase) Hvs.out (Nat.le_refl _) (by have := hnx.size; omega) hg1
      have hb2 : Below base w (w1.setCell ⟨C, 3, none⟩ (.slice a7 (cyc.length + 1) cap7)) := hb1.setCell hbC _
      have hT2 : TF [76, 22] [] w (w1.setCell ⟨C, 3, none⟩ (.slice a7 (cyc.length + 1) cap7)) := ((TF.below hnx).trans hT1).trans (TF.setCell HC2.out (by decide) _)
      have hfin : Chk (w1.setCell ⟨C, 3, none⟩ (.slice a7 (cyc.length + 1) cap7)) C base k0 k1 k2 (cyc ++ [rot js m]) := by
        refine ⟨.slice a7 (cyc.length + 1) cap7, by simpa using setCell_heap (i := 3) HC2.out (.slice a7 (cyc.length + 1) cap7), ?_⟩
        have hl : LLO w1 base (.slice a7 (cyc.length + 1) cap7) (cyc ++ [rot js m]) :=
          LLO.snoc Hvs.out Hin.out (by unfold IntsO; rw [show (rot js m).length = js.length from by simp [rot]]; exact own_base Hown.out (Nat.zero_le _)) hown1 hg1
        exact LLO.tf hl (TF.setCell (tys := [76]) (ms := []) HC2.out (by decide) _) (by decide) (by decide)
      have Hfin := Lib.hid hfin
      have HT2 := Lib.hid hT2
      have HB2 := Lib.hid hb2
      clear hfin hT2 hb2 hb1 hT1 hold1 hg1 hown1
      go_wp2_with fail
      go_end0
      exact ⟨rfl, Hfin.out, HT2.out, HB2.out⟩

end Go.Proofs.Ytnaedpfaeioolaa
