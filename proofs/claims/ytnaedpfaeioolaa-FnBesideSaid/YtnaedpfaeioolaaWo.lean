/- The contract of impl.Valid: it answers as the plain check does. -/
import Derived.Test.YtnaedpfaeioolaaWn
import Derived.Deep.DrawnRows
namespace Go.Proofs.Ytnaedpfaeioolaa
open Go.RowKit
set_option linter.unusedVariables false
attribute [local go_sem ↓] Go.wp_at_zero Go.wp_at_succ

theorem LLO.base {w : World} {base base' : Nat} {v : Value} {xss : List (List Int)} (h : LLO w base v xss) (hb : base' ≤ base) : LLO w base' v xss := by
  obtain ⟨vs, h1, h2⟩ := h
  exact ⟨vs, own_base h1 hb, h2⟩

theorem VTPost.back {ds : List D} {w w1 w' : World} {e : Ending} (h : VTPost ds w1 e w') (hb : Below w.heap.size w w1) : VTPost ds w e w' := by
  obtain ⟨a, b, c, h1, h2, h3, h4, h5⟩ := h
  exact ⟨a, b, c, h1, own_base h2 hb.size, own_base h3 hb.size, h4.base hb.size, hb.trans (h5.mono hb.size)⟩

theorem VTPostD.back {ds : List D} {w w1 w' : World} {e : Ending} (h : VTPostD ds w1 e w') (hb : Below w.heap.size w w1) : VTPostD ds w e w' := by
  obtain ⟨a, b, c, h1, h2, h3, h4, h5, h6⟩ := h
  exact ⟨a, b, c, h1, own_base h2 hb.size, own_base h3 hb.size, h4.base hb.size, hb.trans (h5.mono hb.size), h6⟩

def RV (ds : List D) (w : World) (v i : Value) (wr : World) : Prop := ∃ (k : Nat) (qs : List V4), k ≤ ds.length ∧ i = .int .i64 k ∧ Kids4 wr w.heap.size 58 v qs (ds.take k) ∧ Below w.heap.size w wr

set_option maxHeartbeats 4000000 in
set_option maxRecDepth 100000 in
theorem ValidD_any (ds : List D) (hds : DOk ds) (hN : ds.length ≤ 100) (w : World) (a : Option Addr) (cap : Nat) (hdv : DV w (.slice a ds.length cap) ds) : Calls Try.prog 20 #[.slice a ds.length cap] w (VTPostD ds w) := by
  have hcap : ds.length ≤ cap ∧ cap ≤ 9223372036854775807 := by
    obtain ⟨_, _, _, e1, h1, h2, _⟩ := hdv
    simp at e1
    obtain ⟨_, rfl⟩ := e1
    exact ⟨h1, by simpa [maxLen] using h2⟩
  obtain ⟨hcap1, hcap2⟩ := hcap
  have Hdv := Lib.hid hdv; clear hdv
  have Hds := Lib.hid hds; clear hds
  go_enter Try.func20, Try.ntmps20
  go_wp2_with fail
  go_loopw [5, 10] (RV ds w) (fun _ i _ => ds.length - (intOf i).toNat)
  case atStart => unfold RV; exact ⟨0, [], Nat.zero_le _, rfl, Kids4.nil _ _ _, Below.refl _ _⟩
  case round =>
    obtain ⟨k, qs, hk, rfl, hkids, hbw⟩ := hrel
    have hlen : (ds.take k).length = k := by rw [List.length_take]; omega
    have hown := hkids.own
    rw [hlen] at hown
    have Hkids := Lib.hid hkids; clear hkids
    have Hlen := Lib.hid hlen; clear hlen
    have Hown := Lib.hid hown
    obtain ⟨asv, csv, hsv, _, _, _⟩ := own_slice hown
    subst hsv
    clear hown
    by_cases hlt : k < ds.length
    · obtain ⟨b, o, kd, md, x, y, rfl, x0, x1, x2, x3, ht⟩ := Hdv.out.at hlt
      obtain ⟨xl, xc⟩ := y
      have y0 := cell_later hbw x0
      have y1 := cell_later hbw x1
      have y2 := cell_later hbw x2
      have y3 := cell_later hbw x3
      simp only at y3
      clear x0 x1 x2 x3
      have htake : ds.take (k + 1) = ds.take k ++ [ds[k]] := List.take_succ_eq_append_getElem hlt
      have hdk : ds[k] = ⟨alOf ds k, ofOf ds k⟩ := by unfold alOf ofOf; rw [getD_of hlt]
      rw [hdk] at htake
      have Htake := Lib.hid htake; clear htake hdk
      have Hok := Lib.hid (Hds.out.of hlt).ok7
      have Ht := Lib.hid (ht.ext hbw); clear ht
      generalize alOf ds k = al at y0 Htake
      generalize ofOf ds k = te at Htake Hok Ht
      go_wp2_with fail
      obtain ⟨E, hE⟩ : ∃ E, E = wr.heap.size := ⟨_, rfl⟩
      obtain ⟨wA, hwA⟩ : ∃ wA, wA = wr.alloc (.cells #[.bool al, .int .i64 kd, .int .i64 md, .slice x xl xc] 47) := ⟨_, rfl⟩
      have hEb : wA.heap[E]? = some (.cells #[.bool al, .int .i64 kd, .int .i64 md, .slice x xl xc] 47 (0, 0)) := by rw [hwA, hE]; exact alloc_at rfl
      have hbA : Below wr.heap.size wr wA := by rw [hwA]; exact (Below.refl _ _).alloc (Nat.le_refl _) _
      rw [← hwA, ← hE]
      have z0 : wA.cell? ⟨E, 0, none⟩ = some (.bool al) := cell_of hEb 0
      have z1 : wA.cell? ⟨E, 1, none⟩ = some (.int .i64 kd) := cell_of hEb 1
      have z2 : wA.cell? ⟨E, 2, none⟩ = some (.int .i64 md) := cell_of hEb 2
      have z3 : wA.cell? ⟨E, 3, none⟩ = some (.slice x xl xc) := cell_of hEb 3
      have HteA := Lib.hid ((Ht.out.ext hbA).ext (show Below wA.heap.size wA wA.drew from (Below.refl _ _).drew))
      have HkA := Lib.hid (Hkids.out.ext (hbA.drew))
      have HownA := Lib.hid ((own_ext Hown.out hbA).drew)
      have HEb := Lib.hid hEb
      have HbA := Lib.hid hbA
      have Hbw := Lib.hid hbw
      have hk30 : k ≤ 100 := by omega
      have hszA : w.heap.size ≤ wA.heap.size := by have := hbA.size; have := hbw.size; omega
      clear hEb hwA hE y0 y1 y2 y3 hbA hbw
      go_region_law (first
        | (go_simp; refine (tree_any te Hok.out wA.drew (.agg #[.int .i64 kd, .int .i64 md, .slice x xl xc]) HteA.out).mono ?_; rintro e w2 ⟨v', rfl, htv2, hb2⟩; obtain ⟨k2, n2, a2, cap2, ts2, ps2, rfl, _⟩ := htv2.form; have own2 := own_ext HownA.out hb2; have hs2 : wA.heap.size ≤ w2.heap.size := hb2.size; have hEb2 := cell_of (below_ext hb2 (show wA.drew.heap[E]? = _ from HEb.out)))
        | (refine step_app w2 rfl (.tmp 14) (.tmp 21) 52 rfl w.heap.size 58 (.agg #[.bool false, .int .i64 0, .int .i64 0, .slice none 0 0]) 4 48 Try.underlying52 Try.info58 rfl (by decide) (.slice asv k csv) k (flat4 qs) [.bool al, .int .i64 k2, .int .i64 n2, .slice a2 ts2.length cap2] w2.heap.size rfl rfl rfl own2 rfl (by simp [Value.oneCell']) (by simp only [maxLen]; omega) (by omega) (by omega) ?_; intro sv' wB g1 g2 g3 g4; obtain ⟨asv', csv', rfl, _, _, _⟩ := own_slice g1))
      all_goals
        have hk2 := HkA.out.ext hb2
        have hnew := Kids4.snoc (q := (.bool al, .int .i64 k2, .int .i64 n2, .slice a2 ts2.length cap2)) (d := ⟨al, te⟩) hk2 rfl (TV.fresh htv2 HownA.out) (by rw [Hlen.out]; exact g1) g3 g4
        rw [← Htake.out] at hnew
        have Hnew := Lib.hid hnew; clear hnew hk2
        have Hb5 := Lib.hid (below_grown (((Hbw.out.trans (HbA.out.mono Hbw.out.size)).drew).trans (hb2.mono (by show w.heap.size ≤ wA.heap.size; exact hszA))) own2 (Nat.le_refl _) (by omega) g3)
        clear g1 g2 g3 g4 hb2 htv2 hEb2
        go_wp2_with fail
        go_roundw
        case rel => unfold RV; exact ⟨k + 1, _, by omega, by go_num, Hnew.out, Hb5.out⟩
        case measure => simp [intOf]; omega
    · have hke : k = ds.length := by omega
      subst hke
      have hk9 := Hkids.out
      rw [List.take_of_length_le (Nat.le_refl _)] at hk9
      have H34 := Lib.hid (validTypesD_any ds Hds.out hN wr asv csv hk9.dv)
      clear hk9
      have Hbw := Lib.hid hbw; clear hbw
      go_wp2_with (go_at_call 34; refine H34.out.mono ?_; rintro e w2 hp; obtain ⟨va, vb, vc, rfl, hp2⟩ := id hp; have Hp := Lib.hid (hp.back Hbw.out); clear hp hp2)
      go_ret3
      exact Hp.out

theorem Valid_any (ds : List D) (hds : DOk ds) (hN : ds.length ≤ 100) (w : World) (a : Option Addr) (cap : Nat) (hdv : DV w (.slice a ds.length cap) ds) : Calls Try.prog 20 #[.slice a ds.length cap] w (VTPost ds w) :=
  (ValidD_any ds hds hN w a cap hdv).mono fun _ _ h => h.post

end Go.Proofs.Ytnaedpfaeioolaa
