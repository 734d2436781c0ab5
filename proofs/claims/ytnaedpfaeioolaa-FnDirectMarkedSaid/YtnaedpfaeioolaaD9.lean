/- The contract of directCycles: every name's walk, one behind the other. -/
import Derived.Test.YtnaedpfaeioolaaD8
namespace Go.Proofs.Ytnaedpfaeioolaa
open Go.RowKit
set_option linter.unusedVariables false

theorem dcStep_len (r : List Int) (s : (Nat → Bool) × (Nat → Bool) × List (List Int)) (i : Nat) : (dcStep r s i).2.2.length ≤ s.2.2.length + 1 := by
  unfold dcStep
  cases (dcWalk r s.1 (r.length + 1) i []).2 <;> simp

theorem dcAll_len (r : List Int) (k : Nat) : (dcAll r k).2.2.length ≤ k := by
  induction k with
  | zero => simp [dcAll]
  | succ k ih => rw [dcAll_succ]; have := dcStep_len r (dcAll r k) k; omega

theorem TF.drop {tys : List TypeId} {M : Nat} {w w' : World} (h : TF tys [M] w w') (hM : w.heap.size ≤ M) : TF tys [] w w' :=
  ⟨h.os, h.tape, h.output, h.size, h.cells, h.typ, fun k es clk hk _ => h.maps k es clk hk (by
    have := (Array.getElem?_eq_some_iff.1 hk).1
    simp; omega)⟩

def DcsPost (r : List Int) (B : Nat) (T : Nat → Nat) (k1 : Value) (w w' : World) : Prop :=
  Nm w' B r.length T (dcAll r r.length).2.1 ∧ Chk w' (B + 4) B (.pointer (some ⟨B + 2, 0, none⟩)) k1 (.map (some (B + 3))) (dcAll r r.length).2.2 ∧ TF [76, 22, 82] [] w w' ∧ Below B w w'

set_option maxHeartbeats 1000000 in
set_option maxRecDepth 100000 in
theorem directCycles_any (r : List Int) (B base : Nat) (T D : Nat → Nat) (k1 : Value) (w : World) (h30 : r.length ≤ 30)
    (hst : Stat w B r r.length T D) (hnm : Nm w B r.length T (fun _ => false)) (hck : Chk w (B + 4) B (.pointer (some ⟨B + 2, 0, none⟩)) k1 (.map (some (B + 3))) [])
    (hob : w.ownsRow base 84 1 k1 r.length ((List.range r.length).map (objV T))) (hsz : B + 5 ≤ w.heap.size) (hf : Fine r) :
    Calls Try.prog 40 #[.pointer (some ⟨B + 4, 0, none⟩)] w fun e w' => e = .returned (.tuple #[]) ∧ DcsPost r B T k1 w w' := by
  have Hst := Lib.hid hst; clear hst
  have Hnm := Lib.hid hnm; clear hnm
  have Hck := Lib.hid hck
  have Hob := Lib.hid hob
  have Hf := Lib.hid hf; clear hf
  obtain ⟨a1, cap1, hk1, _, _, hrow⟩ := own_slice hob
  subst hk1
  have Hrow := Lib.hid hrow; clear hrow hob
  obtain ⟨cyv, hc, _⟩ := hck
  have c1 : (w.alloc (.map #[] 0)).cell? ⟨B + 4, 1, none⟩ = some (.slice a1 r.length cap1) := cell_later ((Below.refl _ _).alloc (Nat.le_refl _) _) (cell_of hc 1)
  clear hc
  have hmm := @run_makeMap Try.prog
  have t78 := ta_78
  go_enter Try.func40, Try.ntmps40
  go_wp2_with fail
  go_loopw [13] (fun i wr => ∃ k : Nat, k ≤ r.length ∧ i = .int .i64 k ∧ PIdx wr w.heap.size r.length T (fun j => if (dcAll r k).1 j then some (-1) else none) ∧ Nm wr B r.length T (dcAll r k).2.1 ∧
    Chk wr (B + 4) B (.pointer (some ⟨B + 2, 0, none⟩)) (.slice a1 r.length cap1) (.map (some (B + 3))) (dcAll r k).2.2 ∧ TF [76, 22, 82] [w.heap.size] w wr ∧ Below B w wr) (fun i _ => r.length - (intOf i).toNat)
  case atStart =>
    refine ⟨0, Nat.zero_le _, rfl, ⟨#[], 0, [], ?_, by simp, by simp, by simp, by simp [dcAll]⟩, Hnm.out.tf (TF.alloc (tys := []) (ms := []) _ _) (by simp), Hck.out.tf (TF.alloc (tys := []) (ms := []) _ _) (by simp) (by simp) (by simp), TF.alloc _ _, (Below.refl _ _).alloc (by omega) _⟩
    exact heap_alloc_new w _
  case round =>
    obtain ⟨k, hk, rfl, hp, hnm, hck, htf, hb⟩ := hrel
    have Hp := Lib.hid hp; clear hp
    have Hnm1 := Lib.hid hnm; clear hnm
    have Hck1 := Lib.hid hck; clear hck
    have Htf := Lib.hid htf; clear htf
    by_cases hlt : k < r.length
    · obtain ⟨b1, o1, rfl, _⟩ := Hrow.out k (objV T k) (by simp [hlt])
      have hx : wr.cell? ⟨b1, o1 + k, none⟩ = some (.iface 78 (.pointer (some ⟨T k, 0, none⟩))) := by
        have h := own_row (Htf.out.own Hob.out (by decide))
        obtain ⟨_, _, e, h⟩ := h k (objV T k) (by simp [hlt])
        simp at e
        obtain ⟨rfl, rfl⟩ := e
        exact h
      have Hst1 := Lib.hid (Hst.out.tf Htf.out (by simp; omega) (by simp; omega) (by decide))
      have hcl : (dcAll r k).2.2.length ≤ 900 := by have := dcAll_len r k; omega
      have hszr : B + 5 ≤ wr.heap.size := by have := hb.size; omega
      go_wp2_with (go_at_call 44; refine (directCycle_any r B w.heap.size T D _ _ _ _ k _ hlt h30 hcl Hst1.out Hnm1.out Hck1.out Hp.out hsz hszr Hf.out).mono ?_; rintro e w1 ⟨rfl, hpost⟩)
      have Hpost := Lib.hid hpost; clear hpost
      go_wp2_with fail
      go_roundw
      case rel =>
        obtain ⟨p1, p2, p3, p4, p5⟩ := Hpost.out
        refine ⟨k + 1, by omega, by go_num, ?_, ?_, ?_, Htf.out.trans p4, hb.trans p5⟩
        · rw [dcAll_succ]; exact p1
        · rw [dcAll_succ]; exact p2
        · rw [dcAll_succ]; exact p3
      case measure => simp [intOf]; omega
    · have hke : k = r.length := by omega
      have hfin : DcsPost r B T (.slice a1 r.length cap1) w wr := by
        have h1 := Hnm1.out
        have h2 := Hck1.out
        rw [hke] at h1 h2
        exact ⟨h1, h2, Htf.out.drop (Nat.le_refl _), hb⟩
      have Hfin := Lib.hid hfin; clear hfin
      go_wp2_with fail
      go_end0
      exact ⟨rfl, Hfin.out⟩

end Go.Proofs.Ytnaedpfaeioolaa
