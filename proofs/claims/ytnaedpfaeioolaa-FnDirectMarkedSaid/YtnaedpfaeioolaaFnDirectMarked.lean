/-
  One declaration of each cycle of names is marked, and no others: the statement FnDirectMarked, for every input; no condition. (The frame began as the kit's shell for this statement.)
-/
import Derived.Test.YtnaedpfaeioolaaRows
import Derived.WalkKit
import Derived.ProofKit
import Derived.OpenShut
import Derived.ShutString
import Derived.ChangeOld
import Derived.Below
import Derived.Test.YtnaedpfaeioolaaDL
namespace Go.Proofs.Ytnaedpfaeioolaa.fnDirectMarked
open Go.ChangeShapes Go.WideShapes Go.ChangeAt Go.RowKit
open Go.ChangeMaps (open_string shut_string)
set_option linter.unusedVariables false

theorem own : ownKnob Try.prog.godebug = none := by kernel_rfl
theorem laidOut : laidOutB Try.prog = true := by kernel_rfl

theorem filter_snoc {c : List Int} {t : Nat} (h : t < c.length) (f : Int → Bool) : ((c.take (t + 1)).filter f).length = ((c.take t).filter f).length + (if f c[t] then 1 else 0) := by
  rw [List.take_succ_eq_append_getElem h, List.filter_append, List.length_append]
  by_cases hf : f c[t] <;> simp [hf]

set_option maxHeartbeats 2000000 in
set_option maxRecDepth 100000 in
theorem walk (a0 : Option Addr) (len0 cap0 : Nat) (z0 : List Int) (w : World) (w0 : IsRow .i64 w a0 len0 cap0 z0) :
    Calls Try.prog 4 #[.slice a0 len0 cap0] w fun e w' => e = .returned (.bool true) ∧ Below w.heap.size w w' := by
  obtain ⟨hl, hlc, hcm, hrow⟩ := row_in w0
  clear w0
  generalize z0.take len0 = xs at hl hrow
  subst hl
  have Hrow := Lib.hid hrow; clear hrow
  by_cases hbig : 2147483647 < xs.length
  · go_enter Try.func4, Try.ntmps4
    go_wp2_with fail
    go_ret
    exact ⟨rfl, Below.refl _ _⟩
  · have hbig' : xs.length ≤ 2147483647 := by omega
    clear hbig
    have hr30 := right_len xs
    have Hfine := Lib.hid (fine_right xs)
    have h1f := Lib.hid one_fine
    go_enter Try.func4, Try.ntmps4
    go_wp2_with fail
    refine (right_any a0 cap0 xs _ hlc hcm Hrow.out).mono ?_
    rintro e w1 ⟨rv, rfl, hro, hb1⟩
    obtain ⟨a1, cap1, hrv, _, _, hr1⟩ := own_slice hro
    subst hrv
    have Hro := Lib.hid hro
    have Hr1 := Lib.hid hr1
    clear hro hr1
    generalize rightL xs = r at hr30 Hfine Hro Hr1 ⊢
    go_wp2_with fail
    refine (direct_any r a1 cap1 _ hr30 Hfine.out Hr1.out).mono ?_
    rintro e w2 ⟨v1, v2, rfl, hc1, hm1, hb2⟩
    have hinv := dInv_all Hfine.out r.length (Nat.le_refl _)
    have Hinv := Lib.hid hinv; clear hinv
    obtain ⟨mk, hmk⟩ : ∃ mk, mk = (dcAll r r.length).2.1 := ⟨_, rfl⟩
    rw [← hmk] at hm1
    have Hmk := Lib.hid hmk; clear hmk
    obtain ⟨a2, cap2, hv2, hcap2, hcm2, hr2⟩ := own_slice hm1
    subst hv2
    have hcm2' : cap2 ≤ 9223372036854775807 := by simpa [maxLen] using hcm2
    have Hr2 := Lib.hid hr2; clear hr2 hcm2 hm1 hc1
    have hb12 := hb1.trans (hb2.mono hb1.size)
    go_wp2_with fail
    refine (direct_any [0] _ 1 _ (by decide) h1f.out (lit_row _)).mono ?_
    rintro e w3 ⟨v3, v4, rfl, hc2, hm2, hb3⟩
    have hone : SliceV w3 v4 ([true] : List Bool).length (([true] : List Bool).map Value.bool) := own_slice hm2
    have Hone := Lib.hid hone; clear hone hc2 hm2
    have hb3' : Below w2.heap.size w2 w3 := ((Below.refl _ _).alloc (Nat.le_refl _) _).trans (hb3.mono (by simp))
    have hb13 := hb12.trans (hb3'.mono hb12.size)
    have Hr3 := Lib.hid (Hr2.out.ext hb3')
    go_wp2_with fail
    go_loop [8, 33] (fun l i => ∃ k : Nat, k ≤ r.length ∧ i = .int .i64 k ∧ l = .int .i64 (cnt k mk) ∧ cnt k mk ≤ k) (fun _ i => r.length - (intOf i).toNat)
    case atStart => exact ⟨0, Nat.zero_le _, rfl, rfl, Nat.le_refl _⟩
    case round =>
      obtain ⟨k, hk, rfl, rfl, hck⟩ := hrel
      have hsucc := cnt_succ k mk
      by_cases hlt : k < r.length
      · obtain ⟨b2, o2, rfl, hx⟩ := Hr3.out k (.bool (mk k)) (by simp [hlt])
        generalize cnt k mk = q at hck hsucc ⊢
        generalize hq1 : cnt (k + 1) mk = q1 at hsucc
        have Hq1 := Lib.hid hq1; clear hq1
        cases hm : mk k with
        | true =>
          rw [hm] at hx
          simp [hm] at hsucc
          have Hs := Lib.hid hsucc; clear hsucc hm
          go_wp2_with fail
          go_round
          case rel => exact ⟨k + 1, by omega, by go_num, by rw [Hq1.out, Hs.out]; go_num, by rw [Hq1.out, Hs.out]; omega⟩
          case measure => simp [intOf]; omega
        | false =>
          rw [hm] at hx
          simp [hm] at hsucc
          have Hs := Lib.hid hsucc; clear hsucc hm
          go_wp2_with fail
          go_round
          case rel => exact ⟨k + 1, by omega, by go_num, by rw [Hq1.out, Hs.out], by rw [Hq1.out, Hs.out]; omega⟩
          case measure => simp [intOf]; omega
      · obtain rfl : k = r.length := by omega
        clear hsucc
        have hct := Hinv.out.ct
        have hel := Hinv.out.el
        have hon := Hinv.out.one
        rw [Hinv.out.cy, ← Hmk.out] at hct
        rw [Hinv.out.cy] at hel
        rw [Hinv.out.cy, ← Hmk.out] at hon
        have hel2 : ∀ c ∈ specTo r r.length, ∀ x ∈ c, 0 ≤ x ∧ x < r.length := fun c hc x hx => by
          have h := hel c hc x hx
          have := ((Hinv.out.bl _).1 h.2).1
          omega
        have Hel := Lib.hid hel2
        have Hon := Lib.hid hon
        clear hel hon hel2
        have hcl : (specTo r r.length).length ≤ 30 := by have := spec_length r r.length; unfold specTo; omega
        have hspec := specDC_any a1 cap1 r w3 Hfine.out hr30 ((Hr1.out.ext (hb2.mono (Nat.le_refl _))).ext hb3')
        rw [show specDC r = specTo r r.length from rfl] at hspec
        have Hspec := Lib.hid hspec; clear hspec
        generalize hcs : specTo r r.length = cs at hct Hel Hon hcl Hspec
        clear hcs
        generalize cnt r.length mk = q at hct hck ⊢
        subst hct
        go_wp2_with fail
        refine Hspec.out.mono ?_
        rintro e w5 ⟨v5, rfl, hc5, hb5⟩
        obtain ⟨vs, hvs, hin⟩ := hc5
        obtain ⟨a5, cap5, hv5, hcap5, hcm5, hr5⟩ := own_slice hvs
        subst hv5
        have Hlen := Lib.hid (LLO.len hvs)
        have Hin := Lib.hid hin
        have Hr5 := Lib.hid hr5
        have Hr6 := Lib.hid (Hr3.out.ext hb5)
        have hb15 : Below w.heap.size w w5 := hb13.trans (hb5.mono hb13.size)
        clear hin hr5 hvs hcm5
        go_wp2_with fail
        go_loop [7, 44] (fun nn i => ∃ k : Nat, k ≤ cs.length ∧ i = .int .i64 k ∧ nn = .int .i64 k) (fun _ i => cs.length - (intOf i).toNat)
        case atStart => exact ⟨0, Nat.zero_le _, rfl, rfl⟩
        case round =>
          obtain ⟨k, hk, rfl, rfl⟩ := hrel
          by_cases hlt : k < cs.length
          · have e1 : cs[k]? = some cs[k] := List.getElem?_eq_getElem hlt
            have hk3 : k < vs.length := by have := Hlen.out; omega
            have e3 : vs[k]? = some vs[k] := List.getElem?_eq_getElem hk3
            obtain ⟨b5, o5, rfl, hx⟩ := Hr5.out k _ e3
            obtain ⟨a6, cap6, h1, h2, h3, h4⟩ := own_slice (Hin.out k _ _ e3 e1)
            rw [h1] at hx
            have hce := Lib.hid (Hel.out cs[k] (List.getElem_mem hlt))
            have hco := Hon.out cs[k] (List.getElem_mem hlt)
            clear e1 e3 h1
            generalize cs[k] = c at hx h2 h4 hce hco
            have Hco := Lib.hid hco; clear hco
            have H4 := Lib.hid h4; clear h4
            have hcm : c.length ≤ 9223372036854775807 := by simp only [maxLen] at h3; omega
            clear h2 h3
            go_wp2_with fail
            go_loop [13, 50] (fun kk i => ∃ (t q : Nat), t ≤ c.length ∧ i = .int .i64 t ∧ kk = .int .i64 q ∧ q ≤ t ∧ Hid (q = ((c.take t).filter fun x => mk x.toNat).length)) (fun _ i => c.length - (intOf i).toNat)
            case atStart => exact ⟨0, 0, Nat.zero_le _, rfl, rfl, Nat.le_refl _, rfl⟩
            case round =>
              obtain ⟨t, q, ht, rfl, rfl, hqt, Hq⟩ := hrel
              by_cases hlt2 : t < c.length
              · obtain ⟨b6, o6, rfl, hy⟩ := Row.int H4.out t hlt2
                obtain ⟨hx0, hxn⟩ := hce.out c[t] (List.getElem_mem hlt2)
                have hsn := filter_snoc hlt2 (fun x => mk x.toNat)
                generalize c[t] = x at hy hx0 hxn hsn
                obtain ⟨m, rfl⟩ := Int.eq_ofNat_of_zero_le hx0
                have hmn : m < r.length := by omega
                obtain ⟨b2, o2, rfl, hz⟩ := Hr6.out m (.bool (mk m)) (by simp [hmn])
                rw [← Hq.out] at hsn
                simp only [Int.toNat_natCast] at hsn
                have hlm : ((m : Int) < (r.length : Int)) := by omega
                cases hm : mk m with
                | true =>
                  rw [hm] at hz
                  rw [if_pos hm] at hsn
                  have Hsn := Lib.hid hsn; clear hsn hm
                  go_wp2_with fail
                  go_round
                  case rel => exact ⟨t + 1, q + 1, by omega, by go_num, by go_num, by omega, Hsn.out.symm⟩
                  case measure => simp [intOf]; omega
                | false =>
                  rw [hm] at hz
                  rw [if_neg (by rw [hm]; decide)] at hsn
                  have Hsn := Lib.hid hsn; clear hsn hm
                  go_wp2_with fail
                  go_round
                  case rel => exact ⟨t + 1, q, by omega, by go_num, rfl, by omega, Hsn.out.symm⟩
                  case measure => simp [intOf]; omega
              · have hq1 : q = 1 := by
                  have := Hq.out
                  rw [List.take_of_length_le (by omega)] at this
                  rw [this, Hco.out]
                subst hq1
                go_wp2_with fail
                go_round
                case rel => exact ⟨k + 1, by omega, by go_num, by go_num⟩
                case measure => simp [intOf]; omega
          · obtain rfl : k = cs.length := by omega
            go_wp2_with fail
            refine (all_true v4 [true] 1 true _ (Hone.out.ext hb5) rfl).mono ?_
            rintro e w6 ⟨rfl, rfl⟩
            go_wp2_with fail
            go_ret
            exact ⟨by simp, hb15⟩

/-! ### THE ROW's STEP: WRITTEN OUT: LEAVE IT -/
set_option maxRecDepth 100000 in
theorem lifted (os : Os) (started : os.Started) (H : Type) (enc : TypeId × Value → H) :
    ReturnsInHanded {} Try.checked os 4 .any (Rows.fnDirectMarkedSpec.pre6 enc Try.prog Try.f4 Rows.fnDirectMarkedRow.domain false) (Rows.fnDirectMarkedSpec.post enc Try.prog Try.f4 false true false false) := by
  refine returnsInHanded_of_change (C := Try.checked) own started (by kernel_rfl) Try.func4
    (ChangeSpec.witness6 (enc := enc) (C := Try.checked) false ⟨#[], #[.slice none 0 0], []⟩ 8 (by kernel_rfl) (by kernel_rfl) (by kernel_rfl) (by kernel_rfl)) ?_
  intro W base args ds gs before hval0 hW hcnd _
  have hval : ∀ (j : Nat) t v, Try.f4.params[j]? = some t → args[j]? = some v → Value.okWide Try.prog W .any base t v := hval0
  have hW' := hW
  obtain ⟨p, q, hA0, hV, rfl, hfz, hnd⟩ := hW
  have hA : DataW.TrodAll enc Try.prog W 0 (fun _ => true) true Try.f4.params.toList args.toList ds p := hA0
  rw [Try.params4] at hA hval
  obtain ⟨v0, vs0, d0, ds0, p0, q0, hargs, rfl, rfl, h0, r0⟩ := trodAll_cons hA
  obtain ⟨rfl, rfl, rfl⟩ := trodAll_nil r0
  obtain rfl : args = #[v0] := by cases args; simp_all
  obtain ⟨rfl, rfl⟩ := trodVars_none hV
  obtain ⟨a0, len0, cap0, rfl⟩ := okWide_slice Try.underlying22 (hval 0 22 v0 rfl rfl)
  have k0 := h0
  have lt0 : ∀ x ∈ p0, x.block < W.heap.size := by obtain ⟨m, hm⟩ := k0; exact DataW.trod_lt m _ _ _ hm
  obtain ⟨z0, w0⟩ : ∃ zs, IsRow .i64 W a0 len0 cap0 zs := by
    obtain ⟨fuel, hf⟩ := h0
    rcases open_ints Try.underlying22 Try.underlying3 (by kernel_rfl) hf with ⟨hcs, _⟩ | ⟨x, l, c, zs, hcs, _, hl, hm, hz, _, hcell, hwz⟩
    · simp [Value.cells] at hcs
      obtain ⟨rfl, rfl, rfl⟩ := hcs
      exact ⟨[], .inl ⟨rfl, rfl, rfl, rfl⟩⟩
    · simp [Value.cells] at hcs
      obtain ⟨rfl, rfl, rfl⟩ := hcs
      exact ⟨zs, .inr ⟨_, rfl, hl, hm, by simpa using hz, hcell, hwz⟩⟩
  clear hA0 hval0
  refine (walk a0 len0 cap0 z0 W w0).mono fun e W' ⟨he, bel⟩ => ?_
  subst he
  exact ⟨_, rfl, _, _, _, [], _, [], hW', trodAll_mk1 (shut_bool Try.underlying4 _), (trodAll_cons_mk (Below.trod laidOut (by kernel_rfl) (of_decide_eq_true (by kernel_rfl)) k0 bel lt0) trodAll_mk0), rfl, bel.frame _, fun h => by cases h⟩

theorem over : Rows.fnDirectMarkedRow.holds Try.pinned (OpenSpec.ofChange Rows.fnDirectMarkedSpec) :=
  OpenClaim.holds_of_wide 4 Try.f4 rfl rfl rfl rfl rfl rfl rfl ⟨rfl, rfl, rfl, rfl, rfl⟩ rfl rfl rfl rfl rfl (by kernel_rfl) Try.func4 (by kernel_rfl)
    (of_decide_eq_true (by kernel_rfl)) (by unfold Func.isWrapper; first | (rw [if_pos (by decide +kernel)]; kernel_rfl) | (rw [if_neg (by decide +kernel)]; exact ⟨rfl, rfl⟩))
    (fun os started H enc _ => lifted os started H enc)

/-- ████ THE STATEMENT ████ -/
theorem proved : Rows.FnDirectMarkedSaid := over
#print axioms proved
end Go.Proofs.Ytnaedpfaeioolaa.fnDirectMarked
