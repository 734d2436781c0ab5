/- The contracts of firstInSrc and cycleError. -/
import Derived.Test.YtnaedpfaeioolaaD5
import Derived.Test.YtnaedpfaeioolaaDQ
namespace Go.Proofs.Ytnaedpfaeioolaa
open Go.RowKit
set_option linter.unusedVariables false

/-- An object: the name's pointer as an interface value. -/
def objV (T : Nat → Nat) (j : Nat) : Value := .iface 78 (.pointer (some ⟨T j, 0, none⟩))

theorem method_pos (a : Addr) (w : World) : (method 266 78 (.pointer (some a)) "Pos").run Try.prog w = .ok (69, .pointer (some a)) w := by kernel_rfl
theorem method_number (a : Addr) (w : World) : (method 266 78 (.pointer (some a)) (Try.t78.methods.getD 1 default).name).run Try.prog w = .ok (70, .pointer (some a)) w := by kernel_rfl

set_option maxHeartbeats 400000 in
set_option maxRecDepth 100000 in
theorem first_any (w : World) (b o cap : Nat) (js : List Nat) (T : Nat → Nat) (hne : 0 < js.length) (hcap : js.length ≤ cap) (hm : cap ≤ 9223372036854775807)
    (hr : Row w (some ⟨b, o, none⟩) (js.map (objV T))) (hT : ∀ j ∈ js, j ≤ 1000 ∧ ∃ t, w.heap[T j]? = some (.cells #[.int .i64 (j : Int), t] 82 (0, 0))) :
    Calls Try.prog 51 #[.slice (some ⟨b, o, none⟩) js.length cap] w fun e w' => ∃ m : Nat, e = .returned (.int .i64 (m : Int)) ∧ MinAt js m ∧ w = w' := by
  have Hr := Lib.hid hr; clear hr
  have HT := Lib.hid hT; clear hT
  have h0 : js[0]? = some js[0] := List.getElem?_eq_getElem hne
  obtain ⟨_, _, e0, hx⟩ := Hr.out 0 (objV T js[0]) (by rw [List.getElem?_map, h0]; rfl)
  simp at e0
  obtain ⟨rfl, rfl⟩ := e0
  obtain ⟨hj0, t0, ht0⟩ := HT.out js[0] (List.getElem_mem hne)
  have hx : w.cell? ⟨b, o, none⟩ = some (.iface 78 (.pointer (some ⟨T js[0], 0, none⟩))) := hx
  generalize js[0] = k0 at h0 hx hj0 ht0
  have H0 := Lib.hid h0; clear h0
  have Ht0 := Lib.hid ht0; clear ht0
  have mp := method_pos
  by_cases hc1 : 1 < cap
  · go_enter Try.func51, Try.ntmps51
    go_wp2_with (go_at_call 69; refine (pos_any _ _ (k0 : Int) _ (by omega) (by omega) Ht0.out).mono ?_; rintro e w' ⟨rfl, rfl⟩)
    go_loop [3, 4, 14] (fun f p i => ∃ (k m pm : Nat), k ≤ js.length - 1 ∧ i = .int .i64 k ∧ f = .int .i64 m ∧ p = .int .i64 ((pm : Int) + 1) ∧ pm ≤ 1000 ∧ m ≤ k ∧ Hid (js[m]? = some pm ∧ ∀ j, j ≤ k → pm ≤ js.getD j 0)) (fun _ _ i => js.length - (intOf i).toNat)
    case atStart => exact ⟨0, 0, k0, Nat.zero_le _, rfl, rfl, rfl, hj0, Nat.le_refl _, H0.out, fun j hj => by
      have h : j = 0 := Nat.le_zero.1 hj
      subst h
      rw [List.getD_eq_getElem?_getD, H0.out]
      exact Nat.le_refl _⟩
    case round =>
      obtain ⟨k, m, pm, hk, rfl, rfl, rfl, hpm, hmk, Hmin⟩ := hrel
      by_cases hlt : k < js.length - 1
      · have hk1 : k + 1 < js.length := by omega
        have g0 : js[k + 1]? = some js[k + 1] := List.getElem?_eq_getElem hk1
        obtain ⟨_, _, e0, hy⟩ := Hr.out (k + 1) (objV T js[k + 1]) (by rw [List.getElem?_map, g0]; rfl)
        simp at e0
        obtain ⟨rfl, rfl⟩ := e0
        obtain ⟨hq0, tq, htq⟩ := HT.out js[k + 1] (List.getElem_mem hk1)
        have hy : w.cell? ⟨b, o + 1 + k, none⟩ = some (.iface 78 (.pointer (some ⟨T js[k + 1], 0, none⟩))) := by rw [show o + 1 + k = o + (k + 1) from by omega]; exact hy
        generalize js[k + 1] = q at g0 hy hq0 htq
        have G0 := Lib.hid g0; clear g0
        have Htq := Lib.hid htq; clear htq
        by_cases hc : q < pm
        · go_wp2_with (first | (go_at_call 69; refine (pos_any _ _ (q : Int) _ (by omega) (by omega) Htq.out).mono ?_; rintro e w' ⟨rfl, rfl⟩) | (go_at_call 53; refine (cmpPos_any _ ((q : Int) + 1) ((pm : Int) + 1) (by omega) (by omega) (by omega) (by omega)).mono ?_; rintro e w' ⟨rfl, rfl⟩))
          go_round
          case rel =>
            refine ⟨k + 1, k + 1, q, by omega, by go_num, by go_num, rfl, hq0, Nat.le_refl _, G0.out, ?_⟩
            intro j hj
            by_cases hje : j = k + 1
            · subst hje; rw [List.getD_eq_getElem?_getD, G0.out]; exact Nat.le_refl _
            · have := Hmin.out.2 j (by omega); omega
          case measure => simp [intOf]; omega
        · go_wp2_with (first | (go_at_call 69; refine (pos_any _ _ (q : Int) _ (by omega) (by omega) Htq.out).mono ?_; rintro e w' ⟨rfl, rfl⟩) | (go_at_call 53; refine (cmpPos_any _ ((q : Int) + 1) ((pm : Int) + 1) (by omega) (by omega) (by omega) (by omega)).mono ?_; rintro e w' ⟨rfl, rfl⟩))
          go_round
          case rel =>
            refine ⟨k + 1, m, pm, by omega, by go_num, rfl, rfl, hpm, by omega, Hmin.out.1, ?_⟩
            intro j hj
            by_cases hje : j = k + 1
            · subst hje; rw [List.getD_eq_getElem?_getD, G0.out]; show pm ≤ q; omega
            · exact Hmin.out.2 j (by omega)
          case measure => simp [intOf]; omega
      · go_wp2_with fail
        go_ret
        refine ⟨m, rfl, ⟨by omega, fun j hj => ?_⟩, rfl⟩
        rw [List.getD_eq_getElem?_getD, Hmin.out.1]
        exact Hmin.out.2 j (by omega)
  · have hl1 : js.length ≤ 1 := by omega
    go_enter Try.func51, Try.ntmps51
    go_wp2_with (go_at_call 69; refine (pos_any _ _ (k0 : Int) _ (by omega) (by omega) Ht0.out).mono ?_; rintro e w' ⟨rfl, rfl⟩)
    refine wp_loop_once ?_
    go_wp2_with fail
    go_ret
    refine ⟨0, rfl, ⟨hne, fun j hj => ?_⟩, rfl⟩
    obtain rfl : j = 0 := by omega
    exact Nat.le_refl _

end Go.Proofs.Ytnaedpfaeioolaa
