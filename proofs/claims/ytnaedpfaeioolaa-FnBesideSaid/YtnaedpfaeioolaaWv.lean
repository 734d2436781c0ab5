/- The walks of validType0, kind by kind: what it does with a type's elements, said of any invariant. -/
import Derived.Test.YtnaedpfaeioolaaVi
namespace Go.Proofs.Ytnaedpfaeioolaa
open Go.RowKit
set_option linter.unusedVariables false

abbrev NoTa (v : Value) (Y : TypeId) : Prop := ∀ W, (Instr.typeAssert v 80 Y true).run Try.prog W = .ok (.tuple #[.pointer none, .bool false]) W

/-- A call of validType0 that returns a truth value of which, with the world, Q holds. -/
def VQ (Q : Bool → World → Prop) (e : Ending) (w' : World) : Prop := ∃ r : Bool, e = .returned (.bool r) ∧ Q r w'
def VC (C : Nat) (w : World) (v nestv pathv : Value) (Q : Bool → World → Prop) : Prop := Calls Try.prog 42 #[.pointer (some ⟨C, 0, none⟩), .int .i64 0, v, nestv, pathv] w (VQ Q)

set_option maxHeartbeats 1000000 in
set_option maxRecDepth 100000 in
theorem v0_leaf (C : Nat) (w : World) (k : Nat) (v v' nestv pathv : Value) (hch : Ch w k v v') (h117 : NoTa v' 117) (h120 : NoTa v' 120) (h130 : NoTa v' 130) (h127 : NoTa v' 127) (h100 : NoTa v' 100) (Q : Bool → World → Prop) (hQ : Q true w) :
    VC C w v nestv pathv Q := by
  unfold VC
  have Hch := Lib.hid hch; clear hch
  have HQ := Lib.hid hQ; clear hQ
  go_enter Try.func42, Try.ntmps42
  go_wp2_with (go_at_call 45; refine (unalias_ch _ k v v' Hch.out).mono ?_; rintro e w' ⟨rfl, rfl⟩)
  go_ret
  exact ⟨true, rfl, HQ.out⟩

set_option maxHeartbeats 1000000 in
set_option maxRecDepth 100000 in
theorem v0_arr (C : Nat) (w : World) (k : Nat) (v nestv pathv : Value) (b : Nat) (x : Value) (hch : Ch w k v (.iface 117 (.pointer (some ⟨b, 0, none⟩)))) (hb : w.heap[b]? = some (.cells #[x] 119 (0, 0))) (Q : Bool → World → Prop)
    (hrec : VC C w x nestv pathv Q) : VC C w v nestv pathv Q := by
  unfold VC at *
  have Hch := Lib.hid hch; clear hch
  have Hrec := Lib.hid hrec; clear hrec
  have c0 := cell_of_one hb
  clear hb
  have t1 := ta_117_117
  go_enter Try.func42, Try.ntmps42
  go_wp2_with (first
    | (go_at_call 45; refine (unalias_ch _ k v _ Hch.out).mono ?_; rintro e w' ⟨rfl, rfl⟩)
    | (go_at_call 42; refine Hrec.out.mono ?_; rintro e w' ⟨r, rfl, hq⟩))
  go_ret
  exact ⟨r, rfl, hq⟩

end Go.Proofs.Ytnaedpfaeioolaa
