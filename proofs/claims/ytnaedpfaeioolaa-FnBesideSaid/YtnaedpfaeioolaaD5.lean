/- The contracts of the small functions of the check of cycles of names: invalid, setType, Pos, number, cmpPos, Lookup, rhs. -/
import Derived.Test.YtnaedpfaeioolaaTF
import Derived.Test.YtnaedpfaeioolaaD4
import Derived.Deep.QuietTactic
import Derived.BigQuiet
namespace Go.Proofs.Ytnaedpfaeioolaa
open Go.RowKit
set_option linter.unusedVariables false

theorem invalid_any (w : World) : Calls Try.prog 46 #[] w fun e w' => e = .returned (.iface 106 (.pointer (some ⟨w.heap.size, 0, none⟩))) ∧ w.alloc (.cells #[.bool true] 109) = w' := by
  go_enter Try.func46, Try.ntmps46
  go_wp2_with fail
  go_ret
  exact ⟨rfl, rfl⟩

theorem setType_any (w : World) (b : Nat) (p t0 t : Value) (tt : TypeId) (x : Value) (h : w.heap[b]? = some (.cells #[p, t0] 82 (0, 0))) (ht : t = .iface tt x) :
    Calls Try.prog 50 #[.pointer (some ⟨b, 0, none⟩), t] w fun e w' => e = .returned (.tuple #[]) ∧ w.setCell ⟨b, 1, none⟩ t = w' := by
  subst ht
  have h1 := cell_of h 1
  have h2 := free_of h 1
  clear h
  go_enter Try.func50, Try.ntmps50
  go_wp2_with fail
  go_end0
  exact ⟨rfl, rfl⟩

theorem pos_any (w : World) (b : Nat) (k : Int) (t0 : Value) (h0 : 0 ≤ k) (h1 : k ≤ 1000000) (h : w.heap[b]? = some (.cells #[.int .i64 k, t0] 82 (0, 0))) :
    Calls Try.prog 69 #[.pointer (some ⟨b, 0, none⟩)] w fun e w' => e = .returned (.int .i64 (k + 1)) ∧ w = w' := by
  have h1 := cell_of h 0
  clear h
  simp at h1
  go_enter Try.func69, Try.ntmps69
  go_wp2_with fail
  go_ret
  exact ⟨rfl, rfl⟩

theorem number_any (w : World) (b : Nat) (k : Value) (t0 : Value) (h : w.heap[b]? = some (.cells #[k, t0] 82 (0, 0))) :
    Calls Try.prog 70 #[.pointer (some ⟨b, 0, none⟩)] w fun e w' => e = .returned k ∧ w = w' := by
  have h1 := cell_of h 0
  clear h
  simp at h1
  go_enter Try.func70, Try.ntmps70
  go_wp2_with fail
  go_ret
  exact ⟨rfl, rfl⟩

theorem cmpPos_any (w : World) (p q : Int) (h0 : 0 ≤ p) (h1 : p ≤ 1000000) (h2 : 0 ≤ q) (h3 : q ≤ 1000000) :
    Calls Try.prog 53 #[.int .i64 p, .int .i64 q] w fun e w' => e = .returned (.int .i64 (p - q)) ∧ w = w' := by
  go_enter Try.func53, Try.ntmps53
  go_wp2_with fail
  go_ret
  exact ⟨rfl, rfl⟩

theorem lookup_any (w : World) (b M k : Nat) (T : Nat → Nat) (i : Nat) (h : w.heap[b]? = some (.cells #[.map (some M)] 70 (0, 0))) (hs : Scope1 w M k T) (hi : i < k) :
    Calls Try.prog 52 #[.pointer (some ⟨b, 0, none⟩), .int .i64 (i : Int)] w fun e w' => e = .returned (.iface 78 (.pointer (some ⟨T i, 0, none⟩))) ∧ w = w' := by
  have h1 := cell_of h 0
  have hl := hs.look hi
  clear h hs
  simp at h1
  go_enter Try.func52, Try.ntmps52
  go_wp2_with fail
  go_ret
  exact ⟨rfl, rfl⟩

theorem rhs_any (w : World) (b : Nat) (p t0 : Value) (h : w.heap[b]? = some (.cells #[p, t0] 101 (0, 0))) :
    Calls Try.prog 49 #[.pointer (some ⟨b, 0, none⟩)] w fun e w' => e = .returned t0 ∧ w = w' := by
  have h1 := cell_of h 1
  clear h
  simp at h1
  go_enter Try.func49, Try.ntmps49
  go_wp2_with fail
  go_ret
  exact ⟨rfl, rfl⟩

end Go.Proofs.Ytnaedpfaeioolaa
