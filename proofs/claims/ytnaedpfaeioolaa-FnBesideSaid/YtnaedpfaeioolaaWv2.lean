/- The walks of validType0 over the elements of structs, interfaces and unions. Printed by gen_Wv2.py. -/
import Derived.Test.YtnaedpfaeioolaaWv
namespace Go.Proofs.Ytnaedpfaeioolaa
open Go.RowKit
set_option linter.unusedVariables false

/-- The element's type is laid in a cell of its own. -/
def ElemAt (box : Bool) (W : World) (u x : Value) : Prop := if box = true then ∃ bi, u = .pointer (some ⟨bi, 0, none⟩) ∧ W.cell? ⟨bi, 0, none⟩ = some x else u = x

def NextR (R : Nat → World → Prop) (Q : Bool → World → Prop) (i : Nat) (r : Bool) (W : World) : Prop := if r = true then R (i + 1) W else Q false W

set_option maxHeartbeats 1000000 in
set_option maxRecDepth 100000 in
theorem v0_struct (C : Nat) (w : World) (k : Nat) (v nestv pathv : Value) (b n cap : Nat) (a : Option Addr) (hch : Ch w k v (.iface 120 (.pointer (some ⟨b, 0, none⟩)))) (hb : w.heap[b]? = some (.cells #[.slice a n cap] 123 (0, 0)))
    (hn : n ≤ cap) (hc : cap ≤ 9223372036854775807) (Q : Bool → World → Prop) (R : Nat → World → Prop) (hR : R 0 w)
    (hstep : ∀ i W, i < n → R i W → ∃ g o u x, a = some ⟨g, o, none⟩ ∧ W.cell? ⟨g, o + i, none⟩ = some u ∧ ElemAt true W u x ∧ VC C W x nestv pathv (NextR R Q i))
    (hend : ∀ W, R n W → Q true W) : VC C w v nestv pathv Q := by
  unfold VC
  have Hch := Lib.hid hch; clear hch
  have Hstep := Lib.hid hstep; clear hstep
  have Hend := Lib.hid hend; clear hend
  have HR := Lib.hid hR; clear hR
  have c0 := cell_of_one hb
  clear hb
  have t117 := ta_120_117
  have t120 := ta_120_120
  go_enter Try.func42, Try.ntmps42
  go_wp2_with (go_at_call 45; refine (unalias_ch _ k v _ Hch.out).mono ?_; rintro e w' ⟨rfl, rfl⟩)
  go_loopw [49] (fun i wr => ∃ k : Nat, k ≤ n ∧ i = .int .i64 k ∧ Hid (R k wr)) (fun i _ => n - (intOf i).toNat)
  case atStart => exact ⟨0, Nat.zero_le _, rfl, HR⟩
  case round =>
    obtain ⟨k, hk, rfl, hr⟩ := hrel
    clear c0
    by_cases hlt : k < n
    · obtain ⟨g, o, u, x, rfl, x0, hel, hcall⟩ := Hstep.out k wr hlt hr.out
      unfold ElemAt at hel
      obtain ⟨bi, rfl, x1⟩ := by simpa using hel
      clear hel
      have Hcall := Lib.hid hcall; clear hcall
      go_wp2_with fail
      go_at_call 42
      refine Hcall.out.mono ?_
      rintro e w' ⟨r, rfl, hq⟩
      cases r
      · have Hq := Lib.hid (show Q false w' from by simpa [NextR] using hq); clear hq
        go_wp2_with fail
        go_ret
        exact ⟨false, rfl, Hq.out⟩
      · have Hq := Lib.hid (show R (k + 1) w' from by simpa [NextR] using hq); clear hq
        go_wp2_with fail
        go_roundw
        case rel => exact ⟨k + 1, by omega, by go_num, Hq⟩
        case measure => simp [intOf]; omega
    · have hke : k = n := by omega
      subst hke
      have Hq := Lib.hid (Hend.out wr hr.out)
      go_wp2_with fail
      go_ret
      exact ⟨true, rfl, Hq.out⟩

set_option maxHeartbeats 1000000 in
set_option maxRecDepth 100000 in
theorem v0_union (C : Nat) (w : World) (k : Nat) (v nestv pathv : Value) (b n cap : Nat) (a : Option Addr) (hch : Ch w k v (.iface 130 (.pointer (some ⟨b, 0, none⟩)))) (hb : w.heap[b]? = some (.cells #[.slice a n cap] 133 (0, 0)))
    (hn : n ≤ cap) (hc : cap ≤ 9223372036854775807) (Q : Bool → World → Prop) (R : Nat → World → Prop) (hR : R 0 w)
    (hstep : ∀ i W, i < n → R i W → ∃ g o u x, a = some ⟨g, o, none⟩ ∧ W.cell? ⟨g, o + i, none⟩ = some u ∧ ElemAt true W u x ∧ VC C W x nestv pathv (NextR R Q i))
    (hend : ∀ W, R n W → Q true W) : VC C w v nestv pathv Q := by
  unfold VC
  have Hch := Lib.hid hch; clear hch
  have Hstep := Lib.hid hstep; clear hstep
  have Hend := Lib.hid hend; clear hend
  have HR := Lib.hid hR; clear hR
  have c0 := cell_of_one hb
  clear hb
  have t117 := ta_130_117
  have t120 := ta_130_120
  have t130 := ta_130_130
  go_enter Try.func42, Try.ntmps42
  go_wp2_with (go_at_call 45; refine (unalias_ch _ k v _ Hch.out).mono ?_; rintro e w' ⟨rfl, rfl⟩)
  go_loopw [72] (fun i wr => ∃ k : Nat, k ≤ n ∧ i = .int .i64 k ∧ Hid (R k wr)) (fun i _ => n - (intOf i).toNat)
  case atStart => exact ⟨0, Nat.zero_le _, rfl, HR⟩
  case round =>
    obtain ⟨k, hk, rfl, hr⟩ := hrel
    clear c0
    by_cases hlt : k < n
    · obtain ⟨g, o, u, x, rfl, x0, hel, hcall⟩ := Hstep.out k wr hlt hr.out
      unfold ElemAt at hel
      obtain ⟨bi, rfl, x1⟩ := by simpa using hel
      clear hel
      have Hcall := Lib.hid hcall; clear hcall
      go_wp2_with fail
      go_at_call 42
      refine Hcall.out.mono ?_
      rintro e w' ⟨r, rfl, hq⟩
      cases r
      · have Hq := Lib.hid (show Q false w' from by simpa [NextR] using hq); clear hq
        go_wp2_with fail
        go_ret
        exact ⟨false, rfl, Hq.out⟩
      · have Hq := Lib.hid (show R (k + 1) w' from by simpa [NextR] using hq); clear hq
        go_wp2_with fail
        go_roundw
        case rel => exact ⟨k + 1, by omega, by go_num, Hq⟩
        case measure => simp [intOf]; omega
    · have hke : k = n := by omega
      subst hke
      have Hq := Lib.hid (Hend.out wr hr.out)
      go_wp2_with fail
      go_ret
      exact ⟨true, rfl, Hq.out⟩

set_option maxHeartbeats 1000000 in
set_option maxRecDepth 100000 in
theorem v0_iface (C : Nat) (w : World) (k : Nat) (v nestv pathv : Value) (b n cap : Nat) (a : Option Addr) (hch : Ch w k v (.iface 127 (.pointer (some ⟨b, 0, none⟩)))) (hb : w.heap[b]? = some (.cells #[.slice a n cap] 129 (0, 0)))
    (hn : n ≤ cap) (hc : cap ≤ 9223372036854775807) (Q : Bool → World → Prop) (R : Nat → World → Prop) (hR : R 0 w)
    (hstep : ∀ i W, i < n → R i W → ∃ g o u x, a = some ⟨g, o, none⟩ ∧ W.cell? ⟨g, o + i, none⟩ = some u ∧ ElemAt false W u x ∧ VC C W x nestv pathv (NextR R Q i))
    (hend : ∀ W, R n W → Q true W) : VC C w v nestv pathv Q := by
  unfold VC
  have Hch := Lib.hid hch; clear hch
  have Hstep := Lib.hid hstep; clear hstep
  have Hend := Lib.hid hend; clear hend
  have HR := Lib.hid hR; clear hR
  have c0 := cell_of_one hb
  clear hb
  have t117 := ta_127_117
  have t120 := ta_127_120
  have t130 := ta_127_130
  have t127 := ta_127_127
  go_enter Try.func42, Try.ntmps42
  go_wp2_with (go_at_call 45; refine (unalias_ch _ k v _ Hch.out).mono ?_; rintro e w' ⟨rfl, rfl⟩)
  go_loopw [95] (fun i wr => ∃ k : Nat, k ≤ n ∧ i = .int .i64 k ∧ Hid (R k wr)) (fun i _ => n - (intOf i).toNat)
  case atStart => exact ⟨0, Nat.zero_le _, rfl, HR⟩
  case round =>
    obtain ⟨k, hk, rfl, hr⟩ := hrel
    clear c0
    by_cases hlt : k < n
    · obtain ⟨g, o, u, x, rfl, x0, hel, hcall⟩ := Hstep.out k wr hlt hr.out
      unfold ElemAt at hel
      obtain rfl : u = x := by simpa using hel
      clear hel
      have Hcall := Lib.hid hcall; clear hcall
      go_wp2_with fail
      go_at_call 42
      refine Hcall.out.mono ?_
      rintro e w' ⟨r, rfl, hq⟩
      cases r
      · have Hq := Lib.hid (show Q false w' from by simpa [NextR] using hq); clear hq
        go_wp2_with fail
        go_ret
        exact ⟨false, rfl, Hq.out⟩
      · have Hq := Lib.hid (show R (k + 1) w' from by simpa [NextR] using hq); clear hq
        go_wp2_with fail
        go_roundw
        case rel => exact ⟨k + 1, by omega, by go_num, Hq⟩
        case measure => simp [intOf]; omega
    · have hke : k = n := by omega
      subst hke
      have Hq := Lib.hid (Hend.out wr hr.out)
      go_wp2_with fail
      go_ret
      exact ⟨true, rfl, Hq.out⟩

end Go.Proofs.Ytnaedpfaeioolaa
