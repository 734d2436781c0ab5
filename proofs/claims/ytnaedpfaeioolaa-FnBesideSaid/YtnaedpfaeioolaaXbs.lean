/- The contract of spec.Beside. -/
import Derived.Test.YtnaedpfaeioolaaXt
import Derived.Test.YtnaedpfaeioolaaXc
import Derived.Deep.RegionLaw
import Derived.Deep.DrawnRows
namespace Go.Proofs.Ytnaedpfaeioolaa
open Go.RowKit
set_option linter.unusedVariables false
attribute [local go_sem ↓] Go.wp_at_zero Go.wp_at_succ

def RB (l m : List D) (w : World) (v i : Value) (wr : World) : Prop := ∃ (k : Nat) (qs : List V4), k ≤ m.length ∧ i = .int .i64 k ∧ Kids4 wr w.heap.size 47 v qs (l ++ (m.map (mvD l.length)).take k) ∧ Below w.heap.size w wr

set_option maxHeartbeats 4000000 in
set_option maxRecDepth 100000 in
theorem beside_any (l m : List D) (hm : DOk m) (h1 : l.length ≤ 8) (h2 : m.length ≤ 8) (w : World) (a a' : Option Addr) (cap cap' : Nat) (hc : l.length ≤ cap) (hc2 : cap ≤ 9223372036854775807) (hc' : m.length ≤ cap') (hc2' : cap' ≤ 9223372036854775807)
    (hdv : DV w (.slice a l.length cap) l) (hdv' : DV w (.slice a' m.length cap') m) :
    Calls Try.prog 24 #[.slice a l.length cap, .slice a' m.length cap'] w fun e w' => ∃ v', e = .returned v' ∧ DV w' v' (bsD l m) ∧ Below w.heap.size w w' := by
  have Hdv := Lib.hid hdv; clear hdv
  have Hdv' := Lib.hid hdv'; clear hdv'
  have Hm := Lib.hid hm; clear hm
  go_enter Try.func24, Try.ntmps24
  go_wp2_with (at_builtin; refine wpList_copy w _ rfl (.tmp 8) (.tmp 9) 32 rfl Try.underlying32 Try.info47 w.heap.size _ rfl rfl (Nat.le_refl _) ((Below.refl _ _).alloc (Nat.le_refl _) _) (World.ownsRow_lit w #[] 0 (Nat.le_refl _) (Nat.zero_le _) rfl) l Hdv.out (by omega) ?_)
  intro v w1 qs hk1 hb1
  obtain ⟨asv, csv, hsv, _, _, _⟩ := own_slice hk1.own
  subst hsv
  have H1 := Lib.hid hk1; clear hk1
  have Hb1 := Lib.hid hb1; clear hb1
  go_wp2_with fail
  go_loopw [5, 13] (RB l m w) (fun _ i _ => m.length - (intOf i).toNat)
  case atStart => unfold RB; exact ⟨0, qs, Nat.zero_le _, rfl, by simpa using H1.out, Hb1.out⟩
  case round =>
    obtain ⟨k, qs, hk, rfl, hkids, hbw⟩ := hrel
    clear H1 Hb1
    obtain ⟨n, hn⟩ : ∃ n, n = l.length + k := ⟨_, rfl⟩
    have hlen : (l ++ (m.map (mvD l.length)).take k).length = n := by rw [List.length_append, List.length_take, List.length_map, hn]; omega
    have hown := hkids.own
    rw [hlen] at hown
    have Hkids := Lib.hid hkids; clear hkids
    have Hlen := Lib.hid hlen; clear hlen
    have Hown := Lib.hid hown
    obtain ⟨asv, csv, hsv, _, _, _⟩ := own_slice hown
    subst hsv
    have hn16 : n ≤ 16 := by omega
    have Hn := Lib.hid hn
    clear hown hn
    by_cases hlt : k < m.length
    · obtain ⟨b, o, kd, md, x, y, rfl, x0, x1, x2, x3, ht⟩ := Hdv'.out.at hlt
      obtain ⟨xl, xc⟩ := y
      have y0 := cell_later hbw x0
      have y1 := cell_later hbw x1
      have y2 := cell_later hbw x2
      have y3 := cell_later hbw x3
      simp only at y3
      clear x0 x1 x2 x3
      have htake : l ++ (m.map (mvD l.length)).take (k + 1) = (l ++ (m.map (mvD l.length)).take k) ++ [⟨alOf m k, movedT l.length (ofOf m k)⟩] := by
        rw [List.take_succ_eq_append_getElem (by simpa using hlt), List.getElem_map, List.append_assoc]
        unfold alOf ofOf mvD
        rw [getD_of hlt]
      have Htake := Lib.hid htake; clear htake
      have Hok := Lib.hid (Hm.out.of hlt)
      have Ht := Lib.hid (ht.ext hbw); clear ht
      generalize alOf m k = al at y0 Htake
      generalize ofOf m k = te at Htake Hok Ht
      go_wp2_with fail
      obtain ⟨E, hE⟩ : ∃ E, E = wr.heap.size := ⟨_, rfl⟩
      obtain ⟨wA, hwA⟩ : ∃ wA, wA = wr.alloc (.cells #[.bool al, .int .i64 kd, .int .i64 md, .slice x xl xc] 47) := ⟨_, rfl⟩
      have hEb : wA.heap[E]? = some (.cells #[.bool al, .int .i64 kd, .int .i64 md, .slice x xl xc] 47 (0, 0)) := by rw [hwA, hE]; exact alloc_at rfl
      have hbA : Below wr.heap.size wr wA := by rw [hwA]; exact (Below.refl _ _).alloc (Nat.le_refl _) _
      rw [← hwA, ← hE]
      have z0 : wA.cell? ⟨E, 0, none⟩ = some (.bool al) := cell_of hEb 0
      have z1 : wA.cell? ⟨E, 1, none⟩ = some (.int .i64 kd) := cell_of hEb 1
      have z2 : wA.cell? ⟨E, 2, none⟩ = some (.int .i64 md) := cell_of hEb 2
      have z3 : wA.cell? ⟨E, 3, none⟩ = some (.slice x xl xc) := cell_of hEb 3
      have HteA := Lib.hid ((Ht.out.ext hbA).ext (show Below wA.heap.size wA wA.drew from (Below.refl _ _).drew))
      have HkA := Lib.hid (Hkids.out.ext (hbA.drew))
      have HownA := Lib.hid ((own_ext Hown.out hbA).drew)
      have HEb := Lib.hid hEb
      have HbA := Lib.hid hbA
      have Hbw := Lib.hid hbw
      have hszA : w.heap.size ≤ wA.heap.size := by have := hbA.size; have := hbw.size; omega
      clear hEb hwA hE y0 y1 y2 y3 hbA hbw
      go_region_law (first
        | (go_simp; refine (moved_any m.length l.length (by omega) (by omega) te Hok.out wA.drew (.agg #[.int .i64 kd, .int .i64 md, .slice x xl xc]) HteA.out).mono ?_; rintro e w2 ⟨v', rfl, htv2, hb2⟩; obtain ⟨k2, n2, a2, cap2, ts2, ps2, rfl, _⟩ := htv2.form; have own2 := own_ext HownA.out hb2; have hs2 : wA.heap.size ≤ w2.heap.size := hb2.size; have hEb2 := cell_of (below_ext hb2 (show wA.drew.heap[E]? = _ from HEb.out)))
        | (refine step_app w2 rfl (.tmp 17) (.tmp 26) 32 rfl w.heap.size 47 (.agg #[.bool false, .int .i64 0, .int .i64 0, .slice none 0 0]) 4 48 Try.underlying32 Try.info47 rfl (by decide) (.slice asv n csv) n (flat4 qs) [.bool al, .int .i64 k2, .int .i64 n2, .slice a2 ts2.length cap2] w2.heap.size rfl rfl rfl own2 rfl (by simp [Value.oneCell']) (by simp only [maxLen]; omega) (by omega) (by omega) ?_; intro sv' wB g1 g2 g3 g4; obtain ⟨asv', csv', rfl, _, _, _⟩ := own_slice g1))
      all_goals
        have hk2 := HkA.out.ext hb2
        have hnew := Kids4.snoc (q := (.bool al, .int .i64 k2, .int .i64 n2, .slice a2 ts2.length cap2)) (d := ⟨al, movedT l.length te⟩) hk2 rfl (TV.fresh htv2 HownA.out) (by rw [Hlen.out]; exact g1) g3 g4
        rw [← Htake.out] at hnew
        have Hnew := Lib.hid hnew; clear hnew hk2
        have Hb5 := Lib.hid (below_grown (((Hbw.out.trans (HbA.out.mono Hbw.out.size)).drew).trans (hb2.mono (by show w.heap.size ≤ wA.heap.size; exact hszA))) own2 (Nat.le_refl _) (by omega) g3)
        clear g1 g2 g3 g4 hb2 htv2 hEb2
        go_wp2_with fail
        go_roundw
        case rel => unfold RB; exact ⟨k + 1, _, by omega, by go_num, Hnew.out, Hb5.out⟩
        case measure => simp [intOf]; omega
    · have hke : k = m.length := by omega
      subst hke
      have hk9 := Hkids.out
      rw [List.take_of_length_le (by simp)] at hk9
      have Hfin := Lib.hid (show DV wr (.slice asv n csv) (bsD l m) from hk9.dv)
      clear hk9
      go_wp2_with fail
      go_ret
      exact ⟨_, rfl, Hfin.out, hbw⟩

end Go.Proofs.Ytnaedpfaeioolaa
