/- The contracts of the functions of the statements on cycles of names that only compute: Right, lists, all, bools. No condition but that what is read lies in memory. -/
import Derived.Test.YtnaedpfaeioolaaMem
import Derived.Deep.QuietTactic
import Derived.BigQuiet
namespace Go.Proofs.Ytnaedpfaeioolaa
open Go.RowKit

/-- What spec.Right makes of one number, n being the length. -/
def rightOf (n : Nat) (x : Int) : Int := (x.tmod (n + 1) + n + 1).tmod (n + 1) - 1
def rightL (xs : List Int) : List Int := (xs.take (min xs.length 30)).map (rightOf (min xs.length 30))

theorem take_map (xs : List Int) (m k : Nat) (h : k < xs.length) : ((xs.take (k + 1)).map (rightOf m)).map (Value.int .i64) = ((xs.take k).map (rightOf m)).map (Value.int .i64) ++ [Value.int .i64 (rightOf m xs[k])] := by
  rw [List.take_succ_eq_append_getElem h, List.map_append, List.map_append]
  rfl

theorem rightOf_nonneg (n : Nat) (x : Int) (h : -(n : Int) ≤ x.tmod (n + 1)) : rightOf n x = (x.tmod (n + 1) + n + 1) % (n + 1) - 1 := by
  unfold rightOf
  rw [Int.tmod_eq_emod_of_nonneg (by omega)]

theorem emod_bd (x : Int) (n : Nat) : 0 ≤ x % ((n : Int) + 1) ∧ x % ((n : Int) + 1) ≤ n := by
  have h1 := Int.emod_nonneg x (show ((n : Int) + 1) ≠ 0 by omega)
  have h2 := Int.emod_lt_of_pos x (show (0 : Int) < (n : Int) + 1 by omega)
  omega

theorem tmod_bd (x : Int) (n : Nat) : -(n : Int) ≤ x.tmod (n + 1) ∧ x.tmod (n + 1) ≤ n := by
  have h1 := Int.tmod_lt_of_pos x (show (0 : Int) < n + 1 by omega)
  have h2 := Int.lt_tmod_of_pos x (show (0 : Int) < n + 1 by omega)
  omega

set_option maxHeartbeats 400000 in
set_option maxRecDepth 100000 in
theorem right_big (a : Option Addr) (cap : Nat) (xs : List Int) (w : World) (h30 : 30 < xs.length) (hcap : xs.length ≤ cap) (hm : cap ≤ 9223372036854775807) (hc : Row w a (xs.map (Value.int .i64))) :
    Calls Try.prog 14 #[.slice a xs.length cap] w fun e w' => ∃ v, e = .returned v ∧ w'.ownsRow w.heap.size 3 1 v (rightL xs).length ((rightL xs).map (Value.int .i64)) ∧ Below w.heap.size w w' := by
  go_enter Try.func14, Try.ntmps14
  go_wp2_with fail
  go_loopw [3, 14] (fun v i wr => ∃ k : Nat, k ≤ 30 ∧ i = .int .i64 k ∧ wr.ownsRow w.heap.size 3 1 v k (((xs.take k).map (rightOf (30))).map (Value.int .i64)) ∧ Below w.heap.size w wr) (fun _ i _ => 30 - (intOf i).toNat)
  case atStart => exact ⟨0, Nat.zero_le _, rfl, World.ownsRow_nil _ _ _ _, Below.refl _ _⟩
  case round =>
    obtain ⟨k, hk, rfl, hown, hnx⟩ := hrel
    have Hc := Lib.hid hc; clear hc
    by_cases hlt : k < 30
    · obtain ⟨b, o, rfl, hcx⟩ := (Hc.out.ext hnx).int k (by omega)
      have hk1 : k < xs.length := by omega
      have hb : -30 ≤ xs[k].tmod 31 ∧ xs[k].tmod 31 ≤ 30 := tmod_bd xs[k] 30
      obtain ⟨hb1, hb2⟩ := hb
      have hfin := take_map xs 30 k hk1
      have Hfin := Lib.hid hfin; clear hfin
      go_wp2_with (at_builtin; refine wpList_app1 _ rfl (.tmp 18) (.tmp 30) 22 rfl w.heap.size 3 _ 8 Try.underlying22 Try.info3 rfl _ k _ _ rfl rfl hown rfl ?_ ?_ ?_ ?_)
      · unfold maxLen; omega
      · omega
      · exact hnx.size
      intro v' w1 hown1 _ hg1 _
      have hnx1 := below_grown hnx hown (Nat.le_refl _) hnx.size hg1
      go_wp2_with fail
      go_roundw
      case rel =>
        refine ⟨k + 1, by omega, by go_num, ?_, hnx1⟩
        rw [Hfin.out, rightOf_nonneg _ _ (tmod_bd _ _).1]
        simpa using hown1
      case measure => simp [intOf]; omega
    · go_wp2_with fail
      go_ret
      have he : k = 30 := by omega
      subst he
      refine ⟨_, rfl, ?_, hnx⟩
      have e2 : rightL xs = (xs.take (30)).map (rightOf (30)) := by unfold rightL; rw [show min xs.length 30 = 30 from by omega]
      have e3 : (rightL xs).length = 30 := by rw [e2]; simp; omega
      rw [e3, e2]
      exact hown

set_option maxHeartbeats 400000 in
set_option maxRecDepth 100000 in
theorem right_small (a : Option Addr) (cap : Nat) (xs : List Int) (w : World) (h30 : xs.length ≤ 30) (hcap : xs.length ≤ cap) (hm : cap ≤ 9223372036854775807) (hc : Row w a (xs.map (Value.int .i64))) :
    Calls Try.prog 14 #[.slice a xs.length cap] w fun e w' => ∃ v, e = .returned v ∧ w'.ownsRow w.heap.size 3 1 v (rightL xs).length ((rightL xs).map (Value.int .i64)) ∧ Below w.heap.size w w' := by
  go_enter Try.func14, Try.ntmps14
  go_wp2_with fail
  go_loopw [3, 14] (fun v i wr => ∃ k : Nat, k ≤ xs.length ∧ i = .int .i64 k ∧ wr.ownsRow w.heap.size 3 1 v k (((xs.take k).map (rightOf (xs.length))).map (Value.int .i64)) ∧ Below w.heap.size w wr) (fun _ i _ => xs.length - (intOf i).toNat)
  case atStart => exact ⟨0, Nat.zero_le _, rfl, World.ownsRow_nil _ _ _ _, Below.refl _ _⟩
  case round =>
    obtain ⟨k, hk, rfl, hown, hnx⟩ := hrel
    have Hc := Lib.hid hc; clear hc
    by_cases hlt : k < xs.length
    · obtain ⟨b, o, rfl, hcx⟩ := (Hc.out.ext hnx).int k (by omega)
      have hk1 : k < xs.length := by omega
      obtain ⟨hq1, hq2⟩ := emod_bd (xs[k].tmod (xs.length + 1) + xs.length + 1) xs.length
      have hb := tmod_bd xs[k] xs.length
      obtain ⟨hb1, hb2⟩ := hb
      have hfin := take_map xs xs.length k hk1
      have Hfin := Lib.hid hfin; clear hfin
      go_wp2_with (at_builtin; refine wpList_app1 _ rfl (.tmp 18) (.tmp 30) 22 rfl w.heap.size 3 _ 8 Try.underlying22 Try.info3 rfl _ k _ _ rfl rfl hown rfl ?_ ?_ ?_ ?_)
      · unfold maxLen; omega
      · omega
      · exact hnx.size
      intro v' w1 hown1 _ hg1 _
      have hnx1 := below_grown hnx hown (Nat.le_refl _) hnx.size hg1
      go_wp2_with fail
      go_roundw
      case rel =>
        refine ⟨k + 1, by omega, by go_num, ?_, hnx1⟩
        rw [Hfin.out, rightOf_nonneg _ _ (tmod_bd _ _).1]
        simpa using hown1
      case measure => simp [intOf]; omega
    · go_wp2_with fail
      go_ret
      have he : k = xs.length := by omega
      subst he
      refine ⟨_, rfl, ?_, hnx⟩
      have e2 : rightL xs = (xs.take (xs.length)).map (rightOf (xs.length)) := by unfold rightL; rw [show min xs.length 30 = xs.length from by omega]
      have e3 : (rightL xs).length = xs.length := by rw [e2]; simp
      rw [e3, e2]
      exact hown

theorem right_any (a : Option Addr) (cap : Nat) (xs : List Int) (w : World) (hcap : xs.length ≤ cap) (hm : cap ≤ 9223372036854775807) (hc : Row w a (xs.map (Value.int .i64))) :
    Calls Try.prog 14 #[.slice a xs.length cap] w fun e w' => ∃ v, e = .returned v ∧ w'.ownsRow w.heap.size 3 1 v (rightL xs).length ((rightL xs).map (Value.int .i64)) ∧ Below w.heap.size w w' := by
  by_cases h : 30 < xs.length
  · exact right_big a cap xs w h hcap hm hc
  · exact right_small a cap xs w (by omega) hcap hm hc

end Go.Proofs.Ytnaedpfaeioolaa
