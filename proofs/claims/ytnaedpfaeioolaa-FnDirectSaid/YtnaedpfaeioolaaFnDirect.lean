/-
  The cycles of names are reported, each one once, from its earliest declaration on: the statement FnDirect, for every input; no condition. (The frame began as the kit's shell for this statement.)
-/
import Derived.Test.YtnaedpfaeioolaaRows
import Derived.WalkKit
import Derived.ProofKit
import Derived.OpenShut
import Derived.ShutString
import Derived.ChangeOld
import Derived.Below
import Derived.Test.YtnaedpfaeioolaaDL
namespace Go.Proofs.Ytnaedpfaeioolaa.fnDirect
open Go.ChangeShapes Go.WideShapes Go.ChangeAt Go.RowKit
open Go.ChangeMaps (open_string shut_string)
set_option linter.unusedVariables false

theorem own : ownKnob Try.prog.godebug = none := by kernel_rfl
theorem laidOut : laidOutB Try.prog = true := by kernel_rfl

set_option maxHeartbeats 1000000 in
theorem walk (a0 : Option Addr) (len0 cap0 : Nat) (z0 : List Int) (w : World) (w0 : IsRow .i64 w a0 len0 cap0 z0) :
    Calls Try.prog 3 #[.slice a0 len0 cap0] w fun e w' => e = .returned (.bool true) ∧ Below w.heap.size w w' := by
  obtain ⟨hl, hlc, hcm, hrow⟩ := row_in w0
  clear w0
  generalize z0.take len0 = xs at hl hrow
  subst hl
  have Hrow := Lib.hid hrow; clear hrow
  by_cases hbig : 2147483647 < xs.length
  · go_enter Try.func3, Try.ntmps3
    go_wp2_with fail
    go_ret
    exact ⟨rfl, Below.refl _ _⟩
  · have hbig' : xs.length ≤ 2147483647 := by omega
    clear hbig
    have hr30 := right_len xs
    have Hfine := Lib.hid (fine_right xs)
    have h1f := Lib.hid one_fine
    go_enter Try.func3, Try.ntmps3
    go_wp2_with fail
    refine (right_any a0 cap0 xs _ hlc hcm Hrow.out).mono ?_
    rintro e w1 ⟨rv, rfl, hro, hb1⟩
    obtain ⟨a1, cap1, hrv, _, _, hr1⟩ := own_slice hro
    subst hrv
    have Hro := Lib.hid hro
    have Hr1 := Lib.hid hr1
    clear hro hr1
    go_wp2_with fail
    refine (direct_any (rightL xs) a1 cap1 _ hr30 Hfine.out Hr1.out).mono ?_
    rintro e w2 ⟨v1, v2, rfl, hc1, hm1, hb2⟩
    rw [dc_cycles Hfine.out] at hc1
    have Hc1 := Lib.hid hc1
    clear hc1 hm1
    have hb12 := hb1.trans (hb2.mono hb1.size)
    go_wp2_with fail
    refine (direct_any [0] _ 1 _ (by decide) h1f.out (lit_row _)).mono ?_
    rintro e w3 ⟨v3, v4, rfl, hc2, hm2, hb3⟩
    rw [one_cycles] at hc2
    have hb3' : Below w2.heap.size w2 w3 := ((Below.refl _ _).alloc (Nat.le_refl _) _).trans (hb3.mono (by simp))
    have Hc2 := Lib.hid hc2
    have Hc3 := Lib.hid (hc2.ll.ext (show Below w3.heap.size w3 ((w3.alloc (.cells #[.int .i64 0] 3)).alloc (.cells #[.slice (some ⟨w3.heap.size, 0, none⟩) 1 1] 22)) from ((Below.refl _ _).alloc (Nat.le_refl _) _).alloc (by simp) _))
    clear hc2 hm2
    have hb13 := hb12.trans (hb3'.mono hb12.size)
    go_wp2_with fail
    refine (lists_same _ _ [[0]] _ Hc3.out (lit_ll w3)).mono ?_
    rintro e w4 ⟨rfl, n4, rfl⟩
    go_wp2_with fail
    have hb4 : Below w2.heap.size w2 (((w3.alloc (.cells #[.int .i64 0] 3)).alloc (.cells #[.slice (some ⟨w3.heap.size, 0, none⟩) 1 1] 22)).drewN n4) :=
      ((((hb3'.alloc (by have := hb3'.size; omega) _).alloc (by have := hb3'.size; simp; omega) _))).trans (below_refl_drewN _ _ _)
    refine (specDC_any a1 cap1 (rightL xs) _ Hfine.out hr30 ((Hr1.out.ext (hb2.mono (Nat.le_refl _))).ext hb4)).mono ?_
    rintro e w5 ⟨v5, rfl, hc5, hb5⟩
    have Hc5 := Lib.hid hc5.ll; clear hc5
    have hb45 : Below w2.heap.size w2 w5 := hb4.trans (hb5.mono hb4.size)
    go_wp2_with fail
    refine (lists_same _ _ (specDC (rightL xs)) _ (Hc1.out.ll.ext hb45) Hc5.out).mono ?_
    rintro e w6 ⟨rfl, n6, rfl⟩
    have hfin : Below w.heap.size w (w5.drewN n6) := hb12.trans ((hb45.trans (below_refl_drewN _ _ _)).mono hb12.size)
    go_wp2_with fail
    go_ret
    exact ⟨rfl, hfin⟩

/-! ### THE ROW's STEP: WRITTEN OUT: LEAVE IT -/
set_option maxRecDepth 100000 in
theorem lifted (os : Os) (started : os.Started) (H : Type) (enc : TypeId × Value → H) :
    ReturnsInHanded {} Try.checked os 3 .any (Rows.fnDirectSpec.pre6 enc Try.prog Try.f3 Rows.fnDirectRow.domain false) (Rows.fnDirectSpec.post enc Try.prog Try.f3 false true false false) := by
  refine returnsInHanded_of_change (C := Try.checked) own started (by kernel_rfl) Try.func3
    (ChangeSpec.witness6 (enc := enc) (C := Try.checked) false ⟨#[], #[.slice none 0 0], []⟩ 8 (by kernel_rfl) (by kernel_rfl) (by kernel_rfl) (by kernel_rfl)) ?_
  intro W base args ds gs before hval0 hW hcnd _
  have hval : ∀ (j : Nat) t v, Try.f3.params[j]? = some t → args[j]? = some v → Value.okWide Try.prog W .any base t v := hval0
  have hW' := hW
  obtain ⟨p, q, hA0, hV, rfl, hfz, hnd⟩ := hW
  have hA : DataW.TrodAll enc Try.prog W 0 (fun _ => true) true Try.f3.params.toList args.toList ds p := hA0
  rw [Try.params3] at hA hval
  obtain ⟨v0, vs0, d0, ds0, p0, q0, hargs, rfl, rfl, h0, r0⟩ := trodAll_cons hA
  obtain ⟨rfl, rfl, rfl⟩ := trodAll_nil r0
  obtain rfl : args = #[v0] := by cases args; simp_all
  obtain ⟨rfl, rfl⟩ := trodVars_none hV
  obtain ⟨a0, len0, cap0, rfl⟩ := okWide_slice Try.underlying22 (hval 0 22 v0 rfl rfl)
  have k0 := h0
  have lt0 : ∀ x ∈ p0, x.block < W.heap.size := by obtain ⟨m, hm⟩ := k0; exact DataW.trod_lt m _ _ _ hm
  obtain ⟨z0, w0⟩ : ∃ zs, IsRow .i64 W a0 len0 cap0 zs := by
    obtain ⟨fuel, hf⟩ := h0
    rcases open_ints Try.underlying22 Try.underlying3 (by kernel_rfl) hf with ⟨hcs, _⟩ | ⟨x, l, c, zs, hcs, _, hl, hm, hz, _, hcell, hwz⟩
    · simp [Value.cells] at hcs
      obtain ⟨rfl, rfl, rfl⟩ := hcs
      exact ⟨[], .inl ⟨rfl, rfl, rfl, rfl⟩⟩
    · simp [Value.cells] at hcs
      obtain ⟨rfl, rfl, rfl⟩ := hcs
      exact ⟨zs, .inr ⟨_, rfl, hl, hm, by simpa using hz, hcell, hwz⟩⟩
  clear hA0 hval0
  refine (walk a0 len0 cap0 z0 W w0).mono fun e W' ⟨he, bel⟩ => ?_
  subst he
  exact ⟨_, rfl, _, _, _, [], _, [], hW', trodAll_mk1 (shut_bool Try.underlying4 _), (trodAll_cons_mk (Below.trod laidOut (by kernel_rfl) (of_decide_eq_true (by kernel_rfl)) k0 bel lt0) trodAll_mk0), rfl, bel.frame _, fun h => by cases h⟩

theorem over : Rows.fnDirectRow.holds Try.pinned (OpenSpec.ofChange Rows.fnDirectSpec) :=
  OpenClaim.holds_of_wide 3 Try.f3 rfl rfl rfl rfl rfl rfl rfl ⟨rfl, rfl, rfl, rfl, rfl⟩ rfl rfl rfl rfl rfl (by kernel_rfl) Try.func3 (by kernel_rfl)
    (of_decide_eq_true (by kernel_rfl)) (by unfold Func.isWrapper; first | (rw [if_pos (by decide +kernel)]; kernel_rfl) | (rw [if_neg (by decide +kernel)]; exact ⟨rfl, rfl⟩))
    (fun os started H enc _ => lifted os started H enc)

/-- ████ THE STATEMENT ████ -/
theorem proved : Rows.FnDirectSaid := over
#print axioms proved
end Go.Proofs.Ytnaedpfaeioolaa.fnDirect
