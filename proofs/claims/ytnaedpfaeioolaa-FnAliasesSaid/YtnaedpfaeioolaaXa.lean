/- The contract of spec.NoAliases. -/
import Derived.Test.YtnaedpfaeioolaaXc
import Derived.Test.YtnaedpfaeioolaaVe
namespace Go.Proofs.Ytnaedpfaeioolaa
open Go.RowKit
set_option linter.unusedVariables false

def noF (ds : List D) (i : Nat) (d : D) : D := ⟨d.alias, replF ds ds.length d.of⟩
/-- What they stand for is in the place of aliases. -/
def noAlD (ds : List D) : List D := ds.map fun d => ⟨d.alias, replF ds ds.length d.of⟩
theorem noAlD_pm (ds : List D) : pm (noF ds) ds ds.length = noAlD ds := by
  rw [pm_all]
  unfold noAlD noF
  apply List.ext_getElem (by simp)
  intro i h1 h2
  simp

set_option maxHeartbeats 1000000 in
set_option maxRecDepth 100000 in
theorem noAl_any (ds : List D) (hds : DOk ds) (hN : ds.length ≤ 100) (w : World) (a : Option Addr) (cap : Nat) (hc2 : cap ≤ 9223372036854775807) (hdv : DV w (.slice a ds.length cap) ds) :
    Calls Try.prog 21 #[.slice a ds.length cap] w fun e w' => ∃ v', e = .returned v' ∧ DV w' v' (noAlD ds) ∧ Below w.heap.size w w' := by
  have Hdv := Lib.hid hdv; clear hdv
  have Hds := Lib.hid hds; clear hds
  go_enter Try.func21, Try.ntmps21
  go_wp2_with (at_builtin; refine wpList_copy w _ rfl (.tmp 5) (.tmp 6) 32 rfl Try.underlying32 Try.info47 w.heap.size _ rfl rfl (Nat.le_refl _) ((Below.refl _ _).alloc (Nat.le_refl _) _) (World.ownsRow_lit w #[] 0 (Nat.le_refl _) (Nat.zero_le _) rfl) ds Hdv.out (by omega) ?_)
  intro v w1 qs hk1 hb1
  obtain ⟨asv, csv, hsv, _, _, _⟩ := own_slice hk1.own
  subst hsv
  have H1 := Lib.hid hk1; clear hk1
  have Hb1 := Lib.hid hb1; clear hb1
  go_wp2_with fail
  go_loopw [10] (PLoop (noF ds) ds w (.slice asv ds.length csv)) (fun i _ => ds.length - (intOf i).toNat)
  case atStart => unfold PLoop; exact ⟨0, qs, Nat.zero_le _, rfl, by rw [pm_zero]; exact H1.out, Hb1.out⟩
  case round =>
    obtain ⟨k, qs2, hk, rfl, hkids2, hbw2⟩ := hrel
    clear H1 Hb1
    have Hkids2 := Lib.hid hkids2; clear hkids2
    have hl2 := pm_len (noF ds) ds k
    by_cases hlt : k < ds.length
    · obtain ⟨g, cg, hv⟩ := Hkids2.out.len (by rw [hl2]; omega)
      rw [hl2] at hv
      simp at hv
      obtain ⟨rfl, rfl⟩ := hv
      obtain ⟨hg1, hg2⟩ := Hkids2.out.own.lt g rfl
      have hkl : k < (pm (noF ds) ds k).length := by rw [hl2]; exact hlt
      have Hl2 := Lib.hid hl2; clear hl2
      obtain ⟨kd, md, x, y, x0, x1, x2, x3, ht, _⟩ := Hkids2.out.cells hkl Hl2.out
      obtain ⟨xl, xc⟩ := y
      simp only at x3
      rw [(pm_at (noF ds) ds hlt).2] at ht
      have Ht := Lib.hid ht; clear ht
      have Hfs := Lib.hid (pm_succ (noF ds) ds hlt)
      have Hal := Lib.hid (pm_at (noF ds) ds hlt).1
      have Hbw2 := Lib.hid hbw2; clear hbw2
      have Hrep := Lib.hid (repl_any ds Hds.out hN ds.length 0 (by omega) (ofOf ds k) (Hds.out.of hlt) (AT.zero ds _) wr _ (.agg #[.int .i64 kd, .int .i64 md, .slice x xl xc]) (Hdv.out.ext Hbw2.out) Ht.out.any)
      clear x0
      go_wp2_with (go_at_call 35; refine Hrep.out.mono ?_; rintro e w2 ⟨v', rfl, htv2, hb2⟩; obtain ⟨k2, n2, a2, cap2, ts2, ps2, rfl, _⟩ := htv2.form; have Hk3 := Lib.hid (Hkids2.out.ext hb2); obtain ⟨_, _, _, _, _, d1, d2, d3, _, hfz⟩ := Hk3.out.cells hkl Hl2.out)
      have hkn := Kids4.store (x := (.int .i64 k2, .int .i64 n2, .slice a2 ts2.length cap2)) Hk3.out hkl Hl2.out (htv2.mono fun b hb _ => by omega)
      rw [Hal.out, show (⟨alOf ds k, replF ds ds.length (ofOf ds k)⟩ : D) = noF ds k ⟨alOf ds k, ofOf ds k⟩ from rfl, ← Hfs.out] at hkn
      have Hkn := Lib.hid hkn; clear hkn
      have hb4 : Below w.heap.size w (((w2.setCell ⟨g, k * 4 + 1, none⟩ (.int .i64 k2)).setCell ⟨g, k * 4 + 2, none⟩ (.int .i64 n2)).setCell ⟨g, k * 4 + 3, none⟩ (.slice a2 ts2.length cap2)) :=
        (((Hbw2.out.trans (hb2.mono Hbw2.out.size)).setCell hg1 _).setCell hg1 _).setCell hg1 _
      have Hb4 := Lib.hid hb4; clear hb4
      clear d1 d2 d3 hfz x1 x2 x3
      go_wp2_with fail
      go_roundw
      case rel =>
        unfold PLoop
        obtain ⟨qs3, hk3⟩ := Hkn.out
        exact ⟨k + 1, qs3, by omega, by go_num, hk3, Hb4.out⟩
      case measure => simp [intOf]; omega
    · have hke : k = ds.length := by omega
      subst hke
      go_wp2_with fail
      go_ret
      exact ⟨_, rfl, by rw [← noAlD_pm]; exact Hkids2.out.dv, hbw2⟩

end Go.Proofs.Ytnaedpfaeioolaa
